section
-- ===== PART A: goes FIRST, ahead of the names: the tables' words, and 'selects' of the private methods out of them =====
/-- a private method of a class that the tables say can be made, by its rows of tables_1 -/
def lw_okq (q : MethodName × Nat) : Prop := (q.1.cls ≠ "java/lang/invoke/MethodHandle" ∧ q.1.cls ≠ "java/lang/invoke/VarHandle") ∧ Cond.instantiable q.1.cls q.2 ∈ tables_1 ∧ Cond.privateMethod q.1 ∈ tables_1 ∧ Cond.instanceMethod q.1 ∈ tables_1
set_option maxRecDepth 100000
theorem lw_t1 {w : Cond} (h : w ∈ tables_1_1) : w ∈ tables_1 := List.mem_append_left _ h
theorem lw_t2 {w : Cond} (h : w ∈ tables_1_2) : w ∈ tables_1 := List.mem_append_right _ h
theorem lw_p0 : lw_okq (⟨"RcFourDesk", "from", "(I)I"⟩, 8) := ⟨⟨by decide +kernel, by decide +kernel⟩, lw_t1 (List.mem_of_getElem? (i := 19) rfl), lw_t1 (List.mem_of_getElem? (i := 17) rfl), lw_t1 (List.mem_of_getElem? (i := 18) rfl)⟩
theorem lw_p1 : lw_okq (⟨"RcFourDesk", "count", "(II)I"⟩, 8) := ⟨⟨by decide +kernel, by decide +kernel⟩, lw_t1 (List.mem_of_getElem? (i := 19) rfl), lw_t1 (List.mem_of_getElem? (i := 23) rfl), lw_t1 (List.mem_of_getElem? (i := 24) rfl)⟩
theorem lw_p2 : lw_okq (⟨"java/lang/Throwable", "fillInStackTrace", "(I)Ljava/lang/Throwable;"⟩, 6) := ⟨⟨by decide +kernel, by decide +kernel⟩, lw_t1 (List.mem_of_getElem? (i := 72) rfl), lw_t1 (List.mem_of_getElem? (i := 70) rfl), lw_t1 (List.mem_of_getElem? (i := 71) rfl)⟩
theorem lw_p3 : lw_okq (⟨"RC4Engine", "setKey", "([B)V"⟩, 5) := ⟨⟨by decide +kernel, by decide +kernel⟩, lw_t1 (List.mem_of_getElem? (i := 140) rfl), lw_t1 (List.mem_of_getElem? (i := 138) rfl), lw_t1 (List.mem_of_getElem? (i := 139) rfl)⟩
def lw_privs_1 : List (MethodName × Nat) := [(⟨"RcFourDesk", "from", "(I)I"⟩, 8), (⟨"RcFourDesk", "count", "(II)I"⟩, 8), (⟨"java/lang/Throwable", "fillInStackTrace", "(I)Ljava/lang/Throwable;"⟩, 6), (⟨"RC4Engine", "setKey", "([B)V"⟩, 5)]
theorem lw_r1 : ∀ q ∈ lw_privs_1, lw_okq q := List.forall_mem_cons.mpr ⟨lw_p0, List.forall_mem_cons.mpr ⟨lw_p1, List.forall_mem_cons.mpr ⟨lw_p2, List.forall_mem_cons.mpr ⟨lw_p3, fun _ h => absurd h List.not_mem_nil⟩⟩⟩⟩
def lw_privs : List (MethodName × Nat) := lw_privs_1
def lw_tbl : List Cond := k2_sels lw_privs ++ tables_1
theorem lw_privs_ok : ∀ q ∈ lw_privs, lw_okq q := lw_r1
-- ===== ONE list of words for every method: the tables' words that hold all through a run =====
def lw_all : List Cond := lw_tbl.filter goodWord
/-- a word of the tables by its place: claim/WORDS.tsv -/
theorem lw_w {w : Cond} (i : Nat) (h : lw_tbl[i]? = some w) (g : goodWord w = true) : w ∈ lw_all := List.mem_filter.mpr ⟨List.mem_of_getElem? h, g⟩
theorem lw_all_tbl {w : Cond} (h : w ∈ lw_all) : w ∈ lw_tbl := (List.mem_filter.mp h).1
theorem lw_self : GoodIn lw_all lw_all := fun w h => ⟨h, good_of_word (List.mem_filter.mp h).2⟩
/-- a class's field words, by their places -/
theorem lw_in (ws : List Cond) (ps : List Nat) (hp : ws = ps.filterMap (fun i => lw_tbl[i]?)) (hg : ws.all goodWord = true) : ∀ w ∈ ws, w ∈ lw_all := by
  intro w h
  have h1 := List.all_eq_true.mp hg w h
  rw [hp] at h
  obtain ⟨i, -, hi⟩ := List.mem_filterMap.mp h
  exact lw_w i hi h1
/-- the words of a contract for the method y with code b, L locals, answer r -/
abbrev ws_ (y : MethodName) (b : ByteArray) (L : Nat) (r : Option FieldType) : List Cond := Cond.code y b L r :: lw_all
theorem lw_meth {y : MethodName} {b : ByteArray} {L : Nat} {r : Option FieldType} (h : Cond.code y b L r ∈ lw_all) : GoodIn lw_all (ws_ y b L r) := by
  intro w hw
  rcases List.mem_cons.mp hw with e | e
  · rw [e]
    exact lw_self _ h
  · exact lw_self _ e
theorem lw_app {a c : List Cond} (ha : ∀ w ∈ a, w ∈ lw_all) (hc : GoodIn lw_all c) : GoodIn lw_all (a ++ c) := by
  intro w hw
  rcases List.mem_append.mp hw with e | e
  · exact lw_self w (ha w e)
  · exact hc w e
/-- what a call through an object asks: cwV n hts (lw_V ..) -/
theorem lw_V {own : String} {idx : Nat} {C : String} {y : MethodName} {b : ByteArray} {L : Nat} {r : Option FieldType} (h1 : Cond.methodLink own idx y ∈ lw_all) (h2 : Cond.instanceMethod y ∈ lw_all) (h3 : Cond.selects C y y ∈ lw_all) (h4 : Cond.initialized C ∈ lw_all) (h5 : Cond.code y b L r ∈ lw_all) : GoodIn lw_all (wsV own idx C y (ws_ y b L r)) := by
  refine lw_app ?_ (lw_meth h5)
  intro w hw
  simp only [List.mem_cons, List.not_mem_nil, or_false] at hw
  rcases hw with e | e | e | e
  · rw [e]; exact h1
  · rw [e]; exact h2
  · rw [e]; exact h3
  · rw [e]; exact h4
/-- what a static call asks: va_cwS n hts (lw_S ..) -/
theorem lw_S {own : String} {idx : Nat} {y : MethodName} {b : ByteArray} {L : Nat} {r : Option FieldType} (h1 : Cond.methodLink own idx y ∈ lw_all) (h2 : Cond.static y ∈ lw_all) (h3 : Cond.initialized y.cls ∈ lw_all) (h4 : Cond.code y b L r ∈ lw_all) : GoodIn lw_all (va_wsS own idx y (ws_ y b L r)) := by
  refine lw_app ?_ (lw_meth h4)
  intro w hw
  simp only [List.mem_cons, List.not_mem_nil, or_false] at hw
  rcases hw with e | e | e
  · rw [e]; exact h1
  · rw [e]; exact h2
  · rw [e]; exact h3
/-- the words of a contract for a method WITH HANDLERS (hh: its table) -/
abbrev wsW_ (y : MethodName) (b : ByteArray) (L : Nat) (r : Option FieldType) (hh : List (Nat × Nat × Nat × Nat)) : List Cond := Cond.codeWith y b L r hh :: lw_all
theorem lw_methW {y : MethodName} {b : ByteArray} {L : Nat} {r : Option FieldType} {hh : List (Nat × Nat × Nat × Nat)} (h : Cond.codeWith y b L r hh ∈ lw_all) : GoodIn lw_all (wsW_ y b L r hh) := by
  intro w hw
  rcases List.mem_cons.mp hw with e | e
  · rw [e]
    exact lw_self _ h
  · exact lw_self _ e
/-- any list of words by their places (lw_in), good -/
theorem lw_good {ws : List Cond} (h : ∀ w ∈ ws, w ∈ lw_all) : GoodIn lw_all ws := fun w hw => lw_self w (h w hw)
/-- what a call of a method with handlers asks: vx_cwVW n hts (lw_VW ..), vx_cwSW n hts (lw_SW ..) -/
theorem lw_VW {own : String} {idx : Nat} {C : String} {y : MethodName} {b : ByteArray} {L : Nat} {r : Option FieldType} {hh : List (Nat × Nat × Nat × Nat)} (h1 : Cond.methodLink own idx y ∈ lw_all) (h2 : Cond.instanceMethod y ∈ lw_all) (h3 : Cond.selects C y y ∈ lw_all) (h4 : Cond.initialized C ∈ lw_all) (h5 : Cond.codeWith y b L r hh ∈ lw_all) : GoodIn lw_all (wsV own idx C y (wsW_ y b L r hh)) := by
  refine lw_app ?_ (lw_methW h5)
  intro w hw
  simp only [List.mem_cons, List.not_mem_nil, or_false] at hw
  rcases hw with e | e | e | e
  · rw [e]; exact h1
  · rw [e]; exact h2
  · rw [e]; exact h3
  · rw [e]; exact h4
theorem lw_SW {own : String} {idx : Nat} {y : MethodName} {b : ByteArray} {L : Nat} {r : Option FieldType} {hh : List (Nat × Nat × Nat × Nat)} (h1 : Cond.methodLink own idx y ∈ lw_all) (h2 : Cond.static y ∈ lw_all) (h3 : Cond.initialized y.cls ∈ lw_all) (h4 : Cond.codeWith y b L r hh ∈ lw_all) : GoodIn lw_all (va_wsS own idx y (wsW_ y b L r hh)) := by
  refine lw_app ?_ (lw_methW h4)
  intro w hw
  simp only [List.mem_cons, List.not_mem_nil, or_false] at hw
  rcases hw with e | e | e
  · rw [e]; exact h1
  · rw [e]; exact h2
  · rw [e]; exact h3
/-- a word by its place in its run of the tables -/
theorem lw_at {r : List Cond} (hr : ∀ w ∈ r, w ∈ lw_tbl) {w : Cond} (i : Nat) (h : r[i]? = some w) : w ∈ lw_tbl := hr w (List.mem_of_getElem? h)
theorem lw_g {w : Cond} (h : w ∈ lw_tbl) (g : goodWord w = true) : w ∈ lw_all := List.mem_filter.mpr ⟨h, g⟩
theorem lw_ms : ∀ w ∈ k2_sels lw_privs, w ∈ lw_tbl := fun w h => show w ∈ k2_sels lw_privs ++ tables_1 from List.mem_append_left _ h
theorem lw_m1 : ∀ w ∈ tables_1_1, w ∈ lw_tbl := fun w h => show w ∈ k2_sels lw_privs ++ tables_1 from List.mem_append_right (k2_sels lw_privs) (show w ∈ tables_1 from List.mem_append_left _ h)
theorem lw_m2 : ∀ w ∈ tables_1_2, w ∈ lw_tbl := fun w h => show w ∈ k2_sels lw_privs ++ tables_1 from List.mem_append_right (k2_sels lw_privs) (show w ∈ tables_1 from List.mem_append_right _ h)
theorem qs0 : (Cond.selects "RcFourDesk" ⟨"RcFourDesk", "from", "(I)I"⟩ ⟨"RcFourDesk", "from", "(I)I"⟩) ∈ lw_all := lw_g (lw_at lw_ms 0 rfl) rfl
theorem qs1 : (Cond.selects "RcFourDesk" ⟨"RcFourDesk", "count", "(II)I"⟩ ⟨"RcFourDesk", "count", "(II)I"⟩) ∈ lw_all := lw_g (lw_at lw_ms 1 rfl) rfl
theorem qs2 : (Cond.selects "java/lang/Throwable" ⟨"java/lang/Throwable", "fillInStackTrace", "(I)Ljava/lang/Throwable;"⟩ ⟨"java/lang/Throwable", "fillInStackTrace", "(I)Ljava/lang/Throwable;"⟩) ∈ lw_all := lw_g (lw_at lw_ms 2 rfl) rfl
theorem qs3 : (Cond.selects "RC4Engine" ⟨"RC4Engine", "setKey", "([B)V"⟩ ⟨"RC4Engine", "setKey", "([B)V"⟩) ∈ lw_all := lw_g (lw_at lw_ms 3 rfl) rfl
-- ===== end of PART A; then your names; then what follows =====
end
section
/-! DECODE ROWS BY BYTES: one lemma an opcode; a method's code is cut into short pieces once, and a row reads its own piece alone. -/
set_option maxRecDepth 100000
/-- the code has just these bytes from pc on -/
def DkAt (code : ByteArray) (pc : Nat) (bs : List UInt8) : Prop := ∀ (j : Nat) (b : UInt8), bs[j]? = some b → code.data.toList[pc + j]? = some b
/-- the piece W has the bytes bs from its place j on -/
def dkIn (W : List UInt8) (j : Nat) (bs : List UInt8) : Bool := decide ((W.drop j).take bs.length = bs)
theorem dk_seg {l W T : List UInt8} {o o2 : Nat} (h : l.drop o = W ++ T) (n : Nat) (hn : W.length = n) (ho : o + n = o2) : l.drop o2 = T := by
  subst ho
  rw [← List.drop_drop, h, List.drop_left' hn]
theorem dk_at {code : ByteArray} {W T bs : List UInt8} {o pc : Nat} (h : code.data.toList.drop o = W ++ T) (j : Nat) (hp : o + j = pc) (hw : dkIn W j bs = true) : DkAt code pc bs := by
  subst hp
  intro i b e
  have h1 := of_decide_eq_true hw
  have h2 : i < bs.length := (List.getElem?_eq_some_iff.mp e).1
  have h3 : W[j + i]? = some b := by
    rw [← h1, List.getElem?_take, if_pos h2, List.getElem?_drop] at e
    exact e
  have h4 : j + i < W.length := (List.getElem?_eq_some_iff.mp h3).1
  have h5 : (code.data.toList.drop o)[j + i]? = some b := by
    rw [h, List.getElem?_append_left h4]
    exact h3
  rw [List.getElem?_drop, ← Nat.add_assoc] at h5
  exact h5
theorem dk_u1 {A : ByteArray} {p : Nat} {b : UInt8} (h : A.data.toList[p]? = some b) : (Reader.u1 : Reader DecodeError Nat) A p = .ok (b.toNat, p + 1) := by
  obtain ⟨h1, h2⟩ := List.getElem?_eq_some_iff.mp h
  have h3 : p < A.size := by simpa using h1
  have h4 : A[p]'h3 = b := h2
  have e : (Reader.u1 : Reader DecodeError Nat) A p = (if h : p < A.size then .ok (A[p].toNat, p + 1) else .error (HasTruncated.truncated p)) := by
    show (do if h : p < A.size then do set (p + 1); Pure.pure A[p].toNat else MonadExcept.throw (HasTruncated.truncated p) : Reader DecodeError Nat) A p = _
    by_cases hi : p < A.size
    · rw [dif_pos hi, dif_pos hi]; rfl
    · rw [dif_neg hi, dif_neg hi]; rfl
  rw [e, dif_pos h3, h4]
theorem dk_bind {α β : Type} {r : Reader DecodeError α} {f : α → Reader DecodeError β} {A : ByteArray} {p s : Nat} {a : α} (h : r A p = .ok (a, s)) : (r >>= f) A p = f a A s := by
  show (do let (a, s) ← r A p; f a A s : Except DecodeError (β × Nat)) = _
  rw [h]
  rfl
theorem dk_map {α β : Type} {r : Reader DecodeError α} {g : α → β} {A : ByteArray} {p s : Nat} {a : α} (h : r A p = .ok (a, s)) : (g <$> r) A p = .ok (g a, s) := by
  show (do let (a, s) ← r A p; .ok (g a, s) : Except DecodeError (β × Nat)) = _
  rw [h]
  rfl
theorem dk_u2 {A : ByteArray} {p : Nat} {a b : UInt8} (h : A.data.toList[p]? = some a) (h2 : A.data.toList[p + 1]? = some b) : (Reader.u2 : Reader DecodeError Nat) A p = .ok (a.toNat * 256 + b.toNat, p + 2) := by
  show (Reader.u1 >>= fun hi => Reader.u1 >>= fun lo => Pure.pure (hi * 256 + lo) : Reader DecodeError Nat) A p = _
  rw [dk_bind (dk_u1 h), dk_bind (dk_u1 h2)]
  rfl
theorem dk_of {code : ByteArray} {pc n : Nat} {i : Instr} (h : Decoder.instr pc code pc = .ok (i, pc + n)) : decode code pc = .ok (i, n) := by
  have e : decode code pc = (match Decoder.instr pc code pc with | .error x => .error x | .ok (j, s) => .ok (j, s - pc)) := by
    show (do let (j, s) ← Decoder.instr pc code pc; Pure.pure (j, s - pc) : Except DecodeError (Instr × Nat)) = _
    cases Decoder.instr pc code pc <;> rfl
  rw [e, h]
  show Except.ok (i, pc + n - pc) = _
  rw [Nat.add_sub_cancel_left]
theorem dk_1 {code : ByteArray} {pc : Nat} (h : DkAt code pc [1]) : decode code pc = .ok (.aconst_null, 1) := dk_of ((dk_bind (dk_u1 (h 0 _ rfl))).trans rfl)
theorem dk_2 {code : ByteArray} {pc : Nat} (h : DkAt code pc [2]) : decode code pc = .ok (.iconst (-1), 1) := dk_of ((dk_bind (dk_u1 (h 0 _ rfl))).trans rfl)
theorem dk_3 {code : ByteArray} {pc : Nat} (h : DkAt code pc [3]) : decode code pc = .ok (.iconst 0, 1) := dk_of ((dk_bind (dk_u1 (h 0 _ rfl))).trans rfl)
theorem dk_4 {code : ByteArray} {pc : Nat} (h : DkAt code pc [4]) : decode code pc = .ok (.iconst 1, 1) := dk_of ((dk_bind (dk_u1 (h 0 _ rfl))).trans rfl)
theorem dk_5 {code : ByteArray} {pc : Nat} (h : DkAt code pc [5]) : decode code pc = .ok (.iconst 2, 1) := dk_of ((dk_bind (dk_u1 (h 0 _ rfl))).trans rfl)
theorem dk_6 {code : ByteArray} {pc : Nat} (h : DkAt code pc [6]) : decode code pc = .ok (.iconst 3, 1) := dk_of ((dk_bind (dk_u1 (h 0 _ rfl))).trans rfl)
theorem dk_7 {code : ByteArray} {pc : Nat} (h : DkAt code pc [7]) : decode code pc = .ok (.iconst 4, 1) := dk_of ((dk_bind (dk_u1 (h 0 _ rfl))).trans rfl)
theorem dk_8 {code : ByteArray} {pc : Nat} (h : DkAt code pc [8]) : decode code pc = .ok (.iconst 5, 1) := dk_of ((dk_bind (dk_u1 (h 0 _ rfl))).trans rfl)
theorem dk_16 {code : ByteArray} {pc : Nat} (a : UInt8) (h : DkAt code pc [16, a]) : decode code pc = .ok (.bipush (Reader.signed 8 a.toNat), 2) := dk_of ((dk_bind (dk_u1 (h 0 _ rfl))).trans ((dk_bind (dk_map (dk_u1 (h 1 _ rfl)))).trans rfl))
theorem dk_17 {code : ByteArray} {pc : Nat} (a b : UInt8) (h : DkAt code pc [17, a, b]) : decode code pc = .ok (.sipush (Reader.signed 16 (a.toNat * 256 + b.toNat)), 3) := dk_of ((dk_bind (dk_u1 (h 0 _ rfl))).trans ((dk_bind (dk_map (dk_u2 (h 1 _ rfl) (h 2 _ rfl)))).trans rfl))
theorem dk_18 {code : ByteArray} {pc : Nat} (a : UInt8) (h : DkAt code pc [18, a]) : decode code pc = .ok (.ldc a.toNat, 2) := dk_of ((dk_bind (dk_u1 (h 0 _ rfl))).trans ((dk_bind (dk_u1 (h 1 _ rfl))).trans rfl))
theorem dk_21 {code : ByteArray} {pc : Nat} (a : UInt8) (h : DkAt code pc [21, a]) : decode code pc = .ok (.iload a.toNat, 2) := dk_of ((dk_bind (dk_u1 (h 0 _ rfl))).trans ((dk_bind (dk_u1 (h 1 _ rfl))).trans rfl))
theorem dk_25 {code : ByteArray} {pc : Nat} (a : UInt8) (h : DkAt code pc [25, a]) : decode code pc = .ok (.aload a.toNat, 2) := dk_of ((dk_bind (dk_u1 (h 0 _ rfl))).trans ((dk_bind (dk_u1 (h 1 _ rfl))).trans rfl))
theorem dk_27 {code : ByteArray} {pc : Nat} (h : DkAt code pc [27]) : decode code pc = .ok (.iload_n 1, 1) := dk_of ((dk_bind (dk_u1 (h 0 _ rfl))).trans rfl)
theorem dk_28 {code : ByteArray} {pc : Nat} (h : DkAt code pc [28]) : decode code pc = .ok (.iload_n 2, 1) := dk_of ((dk_bind (dk_u1 (h 0 _ rfl))).trans rfl)
theorem dk_29 {code : ByteArray} {pc : Nat} (h : DkAt code pc [29]) : decode code pc = .ok (.iload_n 3, 1) := dk_of ((dk_bind (dk_u1 (h 0 _ rfl))).trans rfl)
theorem dk_42 {code : ByteArray} {pc : Nat} (h : DkAt code pc [42]) : decode code pc = .ok (.aload_n 0, 1) := dk_of ((dk_bind (dk_u1 (h 0 _ rfl))).trans rfl)
theorem dk_43 {code : ByteArray} {pc : Nat} (h : DkAt code pc [43]) : decode code pc = .ok (.aload_n 1, 1) := dk_of ((dk_bind (dk_u1 (h 0 _ rfl))).trans rfl)
theorem dk_44 {code : ByteArray} {pc : Nat} (h : DkAt code pc [44]) : decode code pc = .ok (.aload_n 2, 1) := dk_of ((dk_bind (dk_u1 (h 0 _ rfl))).trans rfl)
theorem dk_45 {code : ByteArray} {pc : Nat} (h : DkAt code pc [45]) : decode code pc = .ok (.aload_n 3, 1) := dk_of ((dk_bind (dk_u1 (h 0 _ rfl))).trans rfl)
theorem dk_46 {code : ByteArray} {pc : Nat} (h : DkAt code pc [46]) : decode code pc = .ok (.iaload, 1) := dk_of ((dk_bind (dk_u1 (h 0 _ rfl))).trans rfl)
theorem dk_51 {code : ByteArray} {pc : Nat} (h : DkAt code pc [51]) : decode code pc = .ok (.baload, 1) := dk_of ((dk_bind (dk_u1 (h 0 _ rfl))).trans rfl)
theorem dk_54 {code : ByteArray} {pc : Nat} (a : UInt8) (h : DkAt code pc [54, a]) : decode code pc = .ok (.istore a.toNat, 2) := dk_of ((dk_bind (dk_u1 (h 0 _ rfl))).trans ((dk_bind (dk_u1 (h 1 _ rfl))).trans rfl))
theorem dk_58 {code : ByteArray} {pc : Nat} (a : UInt8) (h : DkAt code pc [58, a]) : decode code pc = .ok (.astore a.toNat, 2) := dk_of ((dk_bind (dk_u1 (h 0 _ rfl))).trans ((dk_bind (dk_u1 (h 1 _ rfl))).trans rfl))
theorem dk_61 {code : ByteArray} {pc : Nat} (h : DkAt code pc [61]) : decode code pc = .ok (.istore_n 2, 1) := dk_of ((dk_bind (dk_u1 (h 0 _ rfl))).trans rfl)
theorem dk_62 {code : ByteArray} {pc : Nat} (h : DkAt code pc [62]) : decode code pc = .ok (.istore_n 3, 1) := dk_of ((dk_bind (dk_u1 (h 0 _ rfl))).trans rfl)
theorem dk_75 {code : ByteArray} {pc : Nat} (h : DkAt code pc [75]) : decode code pc = .ok (.astore_n 0, 1) := dk_of ((dk_bind (dk_u1 (h 0 _ rfl))).trans rfl)
theorem dk_76 {code : ByteArray} {pc : Nat} (h : DkAt code pc [76]) : decode code pc = .ok (.astore_n 1, 1) := dk_of ((dk_bind (dk_u1 (h 0 _ rfl))).trans rfl)
theorem dk_77 {code : ByteArray} {pc : Nat} (h : DkAt code pc [77]) : decode code pc = .ok (.astore_n 2, 1) := dk_of ((dk_bind (dk_u1 (h 0 _ rfl))).trans rfl)
theorem dk_78 {code : ByteArray} {pc : Nat} (h : DkAt code pc [78]) : decode code pc = .ok (.astore_n 3, 1) := dk_of ((dk_bind (dk_u1 (h 0 _ rfl))).trans rfl)
theorem dk_79 {code : ByteArray} {pc : Nat} (h : DkAt code pc [79]) : decode code pc = .ok (.iastore, 1) := dk_of ((dk_bind (dk_u1 (h 0 _ rfl))).trans rfl)
theorem dk_84 {code : ByteArray} {pc : Nat} (h : DkAt code pc [84]) : decode code pc = .ok (.bastore, 1) := dk_of ((dk_bind (dk_u1 (h 0 _ rfl))).trans rfl)
theorem dk_87 {code : ByteArray} {pc : Nat} (h : DkAt code pc [87]) : decode code pc = .ok (.pop, 1) := dk_of ((dk_bind (dk_u1 (h 0 _ rfl))).trans rfl)
theorem dk_89 {code : ByteArray} {pc : Nat} (h : DkAt code pc [89]) : decode code pc = .ok (.dup, 1) := dk_of ((dk_bind (dk_u1 (h 0 _ rfl))).trans rfl)
theorem dk_96 {code : ByteArray} {pc : Nat} (h : DkAt code pc [96]) : decode code pc = .ok (.iadd, 1) := dk_of ((dk_bind (dk_u1 (h 0 _ rfl))).trans rfl)
theorem dk_100 {code : ByteArray} {pc : Nat} (h : DkAt code pc [100]) : decode code pc = .ok (.isub, 1) := dk_of ((dk_bind (dk_u1 (h 0 _ rfl))).trans rfl)
theorem dk_104 {code : ByteArray} {pc : Nat} (h : DkAt code pc [104]) : decode code pc = .ok (.imul, 1) := dk_of ((dk_bind (dk_u1 (h 0 _ rfl))).trans rfl)
theorem dk_108 {code : ByteArray} {pc : Nat} (h : DkAt code pc [108]) : decode code pc = .ok (.idiv, 1) := dk_of ((dk_bind (dk_u1 (h 0 _ rfl))).trans rfl)
theorem dk_112 {code : ByteArray} {pc : Nat} (h : DkAt code pc [112]) : decode code pc = .ok (.irem, 1) := dk_of ((dk_bind (dk_u1 (h 0 _ rfl))).trans rfl)
theorem dk_120 {code : ByteArray} {pc : Nat} (h : DkAt code pc [120]) : decode code pc = .ok (.ishl, 1) := dk_of ((dk_bind (dk_u1 (h 0 _ rfl))).trans rfl)
theorem dk_122 {code : ByteArray} {pc : Nat} (h : DkAt code pc [122]) : decode code pc = .ok (.ishr, 1) := dk_of ((dk_bind (dk_u1 (h 0 _ rfl))).trans rfl)
theorem dk_124 {code : ByteArray} {pc : Nat} (h : DkAt code pc [124]) : decode code pc = .ok (.iushr, 1) := dk_of ((dk_bind (dk_u1 (h 0 _ rfl))).trans rfl)
theorem dk_126 {code : ByteArray} {pc : Nat} (h : DkAt code pc [126]) : decode code pc = .ok (.iand, 1) := dk_of ((dk_bind (dk_u1 (h 0 _ rfl))).trans rfl)
theorem dk_130 {code : ByteArray} {pc : Nat} (h : DkAt code pc [130]) : decode code pc = .ok (.ixor, 1) := dk_of ((dk_bind (dk_u1 (h 0 _ rfl))).trans rfl)
theorem dk_132 {code : ByteArray} {pc : Nat} (a b : UInt8) (h : DkAt code pc [132, a, b]) : decode code pc = .ok (.iinc a.toNat (Reader.signed 8 b.toNat), 3) := dk_of ((dk_bind (dk_u1 (h 0 _ rfl))).trans ((dk_bind (dk_u1 (h 1 _ rfl))).trans ((dk_bind (dk_map (dk_u1 (h 2 _ rfl)))).trans rfl)))
theorem dk_145 {code : ByteArray} {pc : Nat} (h : DkAt code pc [145]) : decode code pc = .ok (.i2b, 1) := dk_of ((dk_bind (dk_u1 (h 0 _ rfl))).trans rfl)
theorem dk_153 {code : ByteArray} {pc : Nat} (a b : UInt8) (h : DkAt code pc [153, a, b]) : decode code pc = .ok (.ifCond .eq (Reader.signed 16 (a.toNat * 256 + b.toNat)), 3) := dk_of ((dk_bind (dk_u1 (h 0 _ rfl))).trans ((dk_bind (dk_map (dk_u2 (h 1 _ rfl) (h 2 _ rfl)))).trans rfl))
theorem dk_154 {code : ByteArray} {pc : Nat} (a b : UInt8) (h : DkAt code pc [154, a, b]) : decode code pc = .ok (.ifCond .ne (Reader.signed 16 (a.toNat * 256 + b.toNat)), 3) := dk_of ((dk_bind (dk_u1 (h 0 _ rfl))).trans ((dk_bind (dk_map (dk_u2 (h 1 _ rfl) (h 2 _ rfl)))).trans rfl))
theorem dk_159 {code : ByteArray} {pc : Nat} (a b : UInt8) (h : DkAt code pc [159, a, b]) : decode code pc = .ok (.if_icmp .eq (Reader.signed 16 (a.toNat * 256 + b.toNat)), 3) := dk_of ((dk_bind (dk_u1 (h 0 _ rfl))).trans ((dk_bind (dk_map (dk_u2 (h 1 _ rfl) (h 2 _ rfl)))).trans rfl))
theorem dk_160 {code : ByteArray} {pc : Nat} (a b : UInt8) (h : DkAt code pc [160, a, b]) : decode code pc = .ok (.if_icmp .ne (Reader.signed 16 (a.toNat * 256 + b.toNat)), 3) := dk_of ((dk_bind (dk_u1 (h 0 _ rfl))).trans ((dk_bind (dk_map (dk_u2 (h 1 _ rfl) (h 2 _ rfl)))).trans rfl))
theorem dk_161 {code : ByteArray} {pc : Nat} (a b : UInt8) (h : DkAt code pc [161, a, b]) : decode code pc = .ok (.if_icmp .lt (Reader.signed 16 (a.toNat * 256 + b.toNat)), 3) := dk_of ((dk_bind (dk_u1 (h 0 _ rfl))).trans ((dk_bind (dk_map (dk_u2 (h 1 _ rfl) (h 2 _ rfl)))).trans rfl))
theorem dk_162 {code : ByteArray} {pc : Nat} (a b : UInt8) (h : DkAt code pc [162, a, b]) : decode code pc = .ok (.if_icmp .ge (Reader.signed 16 (a.toNat * 256 + b.toNat)), 3) := dk_of ((dk_bind (dk_u1 (h 0 _ rfl))).trans ((dk_bind (dk_map (dk_u2 (h 1 _ rfl) (h 2 _ rfl)))).trans rfl))
theorem dk_164 {code : ByteArray} {pc : Nat} (a b : UInt8) (h : DkAt code pc [164, a, b]) : decode code pc = .ok (.if_icmp .le (Reader.signed 16 (a.toNat * 256 + b.toNat)), 3) := dk_of ((dk_bind (dk_u1 (h 0 _ rfl))).trans ((dk_bind (dk_map (dk_u2 (h 1 _ rfl) (h 2 _ rfl)))).trans rfl))
theorem dk_167 {code : ByteArray} {pc : Nat} (a b : UInt8) (h : DkAt code pc [167, a, b]) : decode code pc = .ok (.goto (Reader.signed 16 (a.toNat * 256 + b.toNat)), 3) := dk_of ((dk_bind (dk_u1 (h 0 _ rfl))).trans ((dk_bind (dk_map (dk_u2 (h 1 _ rfl) (h 2 _ rfl)))).trans rfl))
theorem dk_172 {code : ByteArray} {pc : Nat} (h : DkAt code pc [172]) : decode code pc = .ok (.ireturn, 1) := dk_of ((dk_bind (dk_u1 (h 0 _ rfl))).trans rfl)
theorem dk_176 {code : ByteArray} {pc : Nat} (h : DkAt code pc [176]) : decode code pc = .ok (.areturn, 1) := dk_of ((dk_bind (dk_u1 (h 0 _ rfl))).trans rfl)
theorem dk_177 {code : ByteArray} {pc : Nat} (h : DkAt code pc [177]) : decode code pc = .ok (.return_, 1) := dk_of ((dk_bind (dk_u1 (h 0 _ rfl))).trans rfl)
theorem dk_178 {code : ByteArray} {pc : Nat} (a b : UInt8) (h : DkAt code pc [178, a, b]) : decode code pc = .ok (.getstatic (a.toNat * 256 + b.toNat), 3) := dk_of ((dk_bind (dk_u1 (h 0 _ rfl))).trans ((dk_bind (dk_u2 (h 1 _ rfl) (h 2 _ rfl))).trans rfl))
theorem dk_180 {code : ByteArray} {pc : Nat} (a b : UInt8) (h : DkAt code pc [180, a, b]) : decode code pc = .ok (.getfield (a.toNat * 256 + b.toNat), 3) := dk_of ((dk_bind (dk_u1 (h 0 _ rfl))).trans ((dk_bind (dk_u2 (h 1 _ rfl) (h 2 _ rfl))).trans rfl))
theorem dk_181 {code : ByteArray} {pc : Nat} (a b : UInt8) (h : DkAt code pc [181, a, b]) : decode code pc = .ok (.putfield (a.toNat * 256 + b.toNat), 3) := dk_of ((dk_bind (dk_u1 (h 0 _ rfl))).trans ((dk_bind (dk_u2 (h 1 _ rfl) (h 2 _ rfl))).trans rfl))
theorem dk_182 {code : ByteArray} {pc : Nat} (a b : UInt8) (h : DkAt code pc [182, a, b]) : decode code pc = .ok (.invokevirtual (a.toNat * 256 + b.toNat), 3) := dk_of ((dk_bind (dk_u1 (h 0 _ rfl))).trans ((dk_bind (dk_u2 (h 1 _ rfl) (h 2 _ rfl))).trans rfl))
theorem dk_183 {code : ByteArray} {pc : Nat} (a b : UInt8) (h : DkAt code pc [183, a, b]) : decode code pc = .ok (.invokespecial (a.toNat * 256 + b.toNat), 3) := dk_of ((dk_bind (dk_u1 (h 0 _ rfl))).trans ((dk_bind (dk_u2 (h 1 _ rfl) (h 2 _ rfl))).trans rfl))
theorem dk_184 {code : ByteArray} {pc : Nat} (a b : UInt8) (h : DkAt code pc [184, a, b]) : decode code pc = .ok (.invokestatic (a.toNat * 256 + b.toNat), 3) := dk_of ((dk_bind (dk_u1 (h 0 _ rfl))).trans ((dk_bind (dk_u2 (h 1 _ rfl) (h 2 _ rfl))).trans rfl))
theorem dk_187 {code : ByteArray} {pc : Nat} (a b : UInt8) (h : DkAt code pc [187, a, b]) : decode code pc = .ok (.new (a.toNat * 256 + b.toNat), 3) := dk_of ((dk_bind (dk_u1 (h 0 _ rfl))).trans ((dk_bind (dk_u2 (h 1 _ rfl) (h 2 _ rfl))).trans rfl))
theorem dk_188_8 {code : ByteArray} {pc : Nat} (h : DkAt code pc [188, 8]) : decode code pc = .ok (.newarray .byte, 2) := dk_of ((dk_bind (dk_u1 (h 0 _ rfl))).trans ((dk_bind (dk_u1 (h 1 _ rfl))).trans rfl))
theorem dk_188_10 {code : ByteArray} {pc : Nat} (h : DkAt code pc [188, 10]) : decode code pc = .ok (.newarray .int, 2) := dk_of ((dk_bind (dk_u1 (h 0 _ rfl))).trans ((dk_bind (dk_u1 (h 1 _ rfl))).trans rfl))
theorem dk_190 {code : ByteArray} {pc : Nat} (h : DkAt code pc [190]) : decode code pc = .ok (.arraylength, 1) := dk_of ((dk_bind (dk_u1 (h 0 _ rfl))).trans rfl)
theorem dk_191 {code : ByteArray} {pc : Nat} (h : DkAt code pc [191]) : decode code pc = .ok (.athrow, 1) := dk_of ((dk_bind (dk_u1 (h 0 _ rfl))).trans rfl)
theorem dk_192 {code : ByteArray} {pc : Nat} (a b : UInt8) (h : DkAt code pc [192, a, b]) : decode code pc = .ok (.checkcast (a.toNat * 256 + b.toNat), 3) := dk_of ((dk_bind (dk_u1 (h 0 _ rfl))).trans ((dk_bind (dk_u2 (h 1 _ rfl) (h 2 _ rfl))).trans rfl))
theorem dk_193 {code : ByteArray} {pc : Nat} (a b : UInt8) (h : DkAt code pc [193, a, b]) : decode code pc = .ok (.instanceof (a.toNat * 256 + b.toNat), 3) := dk_of ((dk_bind (dk_u1 (h 0 _ rfl))).trans ((dk_bind (dk_u2 (h 1 _ rfl) (h 2 _ rfl))).trans rfl))
theorem dk_199 {code : ByteArray} {pc : Nat} (a b : UInt8) (h : DkAt code pc [199, a, b]) : decode code pc = .ok (.ifnonnull (Reader.signed 16 (a.toNat * 256 + b.toNat)), 3) := dk_of ((dk_bind (dk_u1 (h 0 _ rfl))).trans ((dk_bind (dk_map (dk_u2 (h 1 _ rfl) (h 2 _ rfl)))).trans rfl))
end
section
/-! RcFourDesk -/
set_option maxRecDepth 100000
def RX1 : String := "RcFourDesk"
def TX1 : u_T := fun k => match k with
  | 0 => ("RcFourDesk", "run", "LRC4Engine;", false)
  | 1 => ("RcFourDesk", "set", "Z", false)
  | 2 => ("RcFourDesk", "given", "I", false)
  | 3 => ("RcFourDesk", "key", "[B", true)
  | 4 => ("RcFourDesk", "nonce", "[B", true)
  | 5 => ("RcFourDesk", "text", "[B", true)
  | 6 => ("RcFourDesk", "size", "I", false)
  | _ => ("RcFourDesk", "out", "[B", false)
def tyX1 : Nat → FieldType := fun k => match k with
  | 0 => .object "RC4Engine"
  | 1 => .boolean
  | 2 => .int
  | 3 => .array .byte
  | 4 => .array .byte
  | 5 => .array .byte
  | 6 => .int
  | _ => .array .byte
abbrev wsX10 : List Cond := u_ws RX1 TX1 8
theorem nmX1 : ∀ a, a < 8 → ∀ b, b < 8 → a ≠ b → (TX1 a).2.1 ≠ (TX1 b).2.1 := by decide +kernel
theorem tyX1_ok : ∀ k, k < 8 → parseFieldDescriptor (TX1 k).2.2.1 = some (tyX1 k) := by decide +kernel
abbrev cX1_run : ByteArray := prog_6_method_10_code
def yX1_run : MethodName := ⟨RX1, "run", "(II)I"⟩
def dkwX1_run_3 : List UInt8 := [182, 0, 62, 87, 42, 25, 5, 181, 0, 26, 21, 4, 172]
abbrev dktX1_run_3 : List UInt8 := dkwX1_run_3 ++ []
def dkwX1_run_2 : List UInt8 := [181, 0, 55, 21, 4, 188, 8, 58, 5, 42, 180, 0, 10, 42, 180, 0, 23, 29, 21, 4, 25, 5, 3]
abbrev dktX1_run_2 : List UInt8 := dkwX1_run_2 ++ dktX1_run_3
def dkwX1_run_1 : List UInt8 := [180, 0, 55, 21, 4, 96, 17, 4, 0, 164, 0, 6, 16, 254, 172, 42, 89, 180, 0, 55, 21, 4, 96]
abbrev dktX1_run_1 : List UInt8 := dkwX1_run_1 ++ dktX1_run_2
def dkwX1_run_0 : List UInt8 := [42, 180, 0, 51, 154, 0, 5, 2, 172, 42, 27, 182, 0, 37, 62, 42, 29, 28, 182, 0, 58, 54, 4, 42]
abbrev dktX1_run_0 : List UInt8 := dkwX1_run_0 ++ dktX1_run_1
theorem dksX1_run_0 : cX1_run.data.toList.drop 0 = dktX1_run_0 := by decide +kernel
theorem dksX1_run_1 : cX1_run.data.toList.drop 24 = dktX1_run_1 := dk_seg dksX1_run_0 24 rfl rfl
theorem dksX1_run_2 : cX1_run.data.toList.drop 47 = dktX1_run_2 := dk_seg dksX1_run_1 23 rfl rfl
theorem dksX1_run_3 : cX1_run.data.toList.drop 70 = dktX1_run_3 := dk_seg dksX1_run_2 23 rfl rfl
theorem dX1_run_0 : decode cX1_run 0 = .ok (.aload_n 0, 1) := dk_42 (dk_at dksX1_run_0 0 rfl rfl)
theorem dX1_run_1 : decode cX1_run 1 = .ok (.getfield 51, 3) := dk_180 0 51 (dk_at dksX1_run_0 1 rfl rfl)
theorem dX1_run_4 : decode cX1_run 4 = .ok (.ifCond .ne 5, 3) := dk_154 0 5 (dk_at dksX1_run_0 4 rfl rfl)
theorem dX1_run_7 : decode cX1_run 7 = .ok (.iconst (-1), 1) := dk_2 (dk_at dksX1_run_0 7 rfl rfl)
theorem dX1_run_8 : decode cX1_run 8 = .ok (.ireturn, 1) := dk_172 (dk_at dksX1_run_0 8 rfl rfl)
theorem dX1_run_9 : decode cX1_run 9 = .ok (.aload_n 0, 1) := dk_42 (dk_at dksX1_run_0 9 rfl rfl)
theorem dX1_run_10 : decode cX1_run 10 = .ok (.iload_n 1, 1) := dk_27 (dk_at dksX1_run_0 10 rfl rfl)
theorem dX1_run_11 : decode cX1_run 11 = .ok (.invokevirtual 37, 3) := dk_182 0 37 (dk_at dksX1_run_0 11 rfl rfl)
theorem dX1_run_14 : decode cX1_run 14 = .ok (.istore_n 3, 1) := dk_62 (dk_at dksX1_run_0 14 rfl rfl)
theorem dX1_run_15 : decode cX1_run 15 = .ok (.aload_n 0, 1) := dk_42 (dk_at dksX1_run_0 15 rfl rfl)
theorem dX1_run_16 : decode cX1_run 16 = .ok (.iload_n 3, 1) := dk_29 (dk_at dksX1_run_0 16 rfl rfl)
theorem dX1_run_17 : decode cX1_run 17 = .ok (.iload_n 2, 1) := dk_28 (dk_at dksX1_run_0 17 rfl rfl)
theorem dX1_run_18 : decode cX1_run 18 = .ok (.invokevirtual 58, 3) := dk_182 0 58 (dk_at dksX1_run_0 18 rfl rfl)
theorem dX1_run_21 : decode cX1_run 21 = .ok (.istore 4, 2) := dk_54 4 (dk_at dksX1_run_0 21 rfl rfl)
theorem dX1_run_23 : decode cX1_run 23 = .ok (.aload_n 0, 1) := dk_42 (dk_at dksX1_run_0 23 rfl rfl)
theorem dX1_run_24 : decode cX1_run 24 = .ok (.getfield 55, 3) := dk_180 0 55 (dk_at dksX1_run_1 0 rfl rfl)
theorem dX1_run_27 : decode cX1_run 27 = .ok (.iload 4, 2) := dk_21 4 (dk_at dksX1_run_1 3 rfl rfl)
theorem dX1_run_29 : decode cX1_run 29 = .ok (.iadd, 1) := dk_96 (dk_at dksX1_run_1 5 rfl rfl)
theorem dX1_run_30 : decode cX1_run 30 = .ok (.sipush 1024, 3) := dk_17 4 0 (dk_at dksX1_run_1 6 rfl rfl)
theorem dX1_run_33 : decode cX1_run 33 = .ok (.if_icmp .le 6, 3) := dk_164 0 6 (dk_at dksX1_run_1 9 rfl rfl)
theorem dX1_run_36 : decode cX1_run 36 = .ok (.bipush (-2), 2) := dk_16 254 (dk_at dksX1_run_1 12 rfl rfl)
theorem dX1_run_38 : decode cX1_run 38 = .ok (.ireturn, 1) := dk_172 (dk_at dksX1_run_1 14 rfl rfl)
theorem dX1_run_39 : decode cX1_run 39 = .ok (.aload_n 0, 1) := dk_42 (dk_at dksX1_run_1 15 rfl rfl)
theorem dX1_run_40 : decode cX1_run 40 = .ok (.dup, 1) := dk_89 (dk_at dksX1_run_1 16 rfl rfl)
theorem dX1_run_41 : decode cX1_run 41 = .ok (.getfield 55, 3) := dk_180 0 55 (dk_at dksX1_run_1 17 rfl rfl)
theorem dX1_run_44 : decode cX1_run 44 = .ok (.iload 4, 2) := dk_21 4 (dk_at dksX1_run_1 20 rfl rfl)
theorem dX1_run_46 : decode cX1_run 46 = .ok (.iadd, 1) := dk_96 (dk_at dksX1_run_1 22 rfl rfl)
theorem dX1_run_47 : decode cX1_run 47 = .ok (.putfield 55, 3) := dk_181 0 55 (dk_at dksX1_run_2 0 rfl rfl)
theorem dX1_run_50 : decode cX1_run 50 = .ok (.iload 4, 2) := dk_21 4 (dk_at dksX1_run_2 3 rfl rfl)
theorem dX1_run_52 : decode cX1_run 52 = .ok (.newarray .byte, 2) := dk_188_8 (dk_at dksX1_run_2 5 rfl rfl)
theorem dX1_run_54 : decode cX1_run 54 = .ok (.astore 5, 2) := dk_58 5 (dk_at dksX1_run_2 7 rfl rfl)
theorem dX1_run_56 : decode cX1_run 56 = .ok (.aload_n 0, 1) := dk_42 (dk_at dksX1_run_2 9 rfl rfl)
theorem dX1_run_57 : decode cX1_run 57 = .ok (.getfield 10, 3) := dk_180 0 10 (dk_at dksX1_run_2 10 rfl rfl)
theorem dX1_run_60 : decode cX1_run 60 = .ok (.aload_n 0, 1) := dk_42 (dk_at dksX1_run_2 13 rfl rfl)
theorem dX1_run_61 : decode cX1_run 61 = .ok (.getfield 23, 3) := dk_180 0 23 (dk_at dksX1_run_2 14 rfl rfl)
theorem dX1_run_64 : decode cX1_run 64 = .ok (.iload_n 3, 1) := dk_29 (dk_at dksX1_run_2 17 rfl rfl)
theorem dX1_run_65 : decode cX1_run 65 = .ok (.iload 4, 2) := dk_21 4 (dk_at dksX1_run_2 18 rfl rfl)
theorem dX1_run_67 : decode cX1_run 67 = .ok (.aload 5, 2) := dk_25 5 (dk_at dksX1_run_2 20 rfl rfl)
theorem dX1_run_69 : decode cX1_run 69 = .ok (.iconst 0, 1) := dk_3 (dk_at dksX1_run_2 22 rfl rfl)
theorem dX1_run_70 : decode cX1_run 70 = .ok (.invokevirtual 62, 3) := dk_182 0 62 (dk_at dksX1_run_3 0 rfl rfl)
theorem dX1_run_73 : decode cX1_run 73 = .ok (.pop, 1) := dk_87 (dk_at dksX1_run_3 3 rfl rfl)
theorem dX1_run_74 : decode cX1_run 74 = .ok (.aload_n 0, 1) := dk_42 (dk_at dksX1_run_3 4 rfl rfl)
theorem dX1_run_75 : decode cX1_run 75 = .ok (.aload 5, 2) := dk_25 5 (dk_at dksX1_run_3 5 rfl rfl)
theorem dX1_run_77 : decode cX1_run 77 = .ok (.putfield 26, 3) := dk_181 0 26 (dk_at dksX1_run_3 7 rfl rfl)
theorem dX1_run_80 : decode cX1_run 80 = .ok (.iload 4, 2) := dk_21 4 (dk_at dksX1_run_3 10 rfl rfl)
theorem dX1_run_82 : decode cX1_run 82 = .ok (.ireturn, 1) := dk_172 (dk_at dksX1_run_3 12 rfl rfl)
abbrev cX1_from : ByteArray := prog_6_method_5_code
def yX1_from : MethodName := ⟨RX1, "from", "(I)I"⟩
def dkwX1_from_0 : List UInt8 := [27, 18, 41, 126, 42, 180, 0, 29, 4, 96, 112, 172]
abbrev dktX1_from_0 : List UInt8 := dkwX1_from_0 ++ []
theorem dksX1_from_0 : cX1_from.data.toList.drop 0 = dktX1_from_0 := by decide +kernel
theorem dX1_from_0 : decode cX1_from 0 = .ok (.iload_n 1, 1) := dk_27 (dk_at dksX1_from_0 0 rfl rfl)
theorem dX1_from_1 : decode cX1_from 1 = .ok (.ldc 41, 2) := dk_18 41 (dk_at dksX1_from_0 1 rfl rfl)
theorem dX1_from_3 : decode cX1_from 3 = .ok (.iand, 1) := dk_126 (dk_at dksX1_from_0 3 rfl rfl)
theorem dX1_from_4 : decode cX1_from 4 = .ok (.aload_n 0, 1) := dk_42 (dk_at dksX1_from_0 4 rfl rfl)
theorem dX1_from_5 : decode cX1_from 5 = .ok (.getfield 29, 3) := dk_180 0 29 (dk_at dksX1_from_0 5 rfl rfl)
theorem dX1_from_8 : decode cX1_from 8 = .ok (.iconst 1, 1) := dk_4 (dk_at dksX1_from_0 8 rfl rfl)
theorem dX1_from_9 : decode cX1_from 9 = .ok (.iadd, 1) := dk_96 (dk_at dksX1_from_0 9 rfl rfl)
theorem dX1_from_10 : decode cX1_from 10 = .ok (.irem, 1) := dk_112 (dk_at dksX1_from_0 10 rfl rfl)
theorem dX1_from_11 : decode cX1_from 11 = .ok (.ireturn, 1) := dk_172 (dk_at dksX1_from_0 11 rfl rfl)
abbrev cX1_count : ByteArray := prog_6_method_6_code
def yX1_count : MethodName := ⟨RX1, "count", "(II)I"⟩
def dkwX1_count_0 : List UInt8 := [28, 18, 41, 126, 42, 180, 0, 29, 27, 100, 4, 96, 112, 172]
abbrev dktX1_count_0 : List UInt8 := dkwX1_count_0 ++ []
theorem dksX1_count_0 : cX1_count.data.toList.drop 0 = dktX1_count_0 := by decide +kernel
theorem dX1_count_0 : decode cX1_count 0 = .ok (.iload_n 2, 1) := dk_28 (dk_at dksX1_count_0 0 rfl rfl)
theorem dX1_count_1 : decode cX1_count 1 = .ok (.ldc 41, 2) := dk_18 41 (dk_at dksX1_count_0 1 rfl rfl)
theorem dX1_count_3 : decode cX1_count 3 = .ok (.iand, 1) := dk_126 (dk_at dksX1_count_0 3 rfl rfl)
theorem dX1_count_4 : decode cX1_count 4 = .ok (.aload_n 0, 1) := dk_42 (dk_at dksX1_count_0 4 rfl rfl)
theorem dX1_count_5 : decode cX1_count 5 = .ok (.getfield 29, 3) := dk_180 0 29 (dk_at dksX1_count_0 5 rfl rfl)
theorem dX1_count_8 : decode cX1_count 8 = .ok (.iload_n 1, 1) := dk_27 (dk_at dksX1_count_0 8 rfl rfl)
theorem dX1_count_9 : decode cX1_count 9 = .ok (.isub, 1) := dk_100 (dk_at dksX1_count_0 9 rfl rfl)
theorem dX1_count_10 : decode cX1_count 10 = .ok (.iconst 1, 1) := dk_4 (dk_at dksX1_count_0 10 rfl rfl)
theorem dX1_count_11 : decode cX1_count 11 = .ok (.iadd, 1) := dk_96 (dk_at dksX1_count_0 11 rfl rfl)
theorem dX1_count_12 : decode cX1_count 12 = .ok (.irem, 1) := dk_112 (dk_at dksX1_count_0 12 rfl rfl)
theorem dX1_count_13 : decode cX1_count 13 = .ok (.ireturn, 1) := dk_172 (dk_at dksX1_count_0 13 rfl rfl)
abbrev cX1_one : ByteArray := prog_6_method_11_code
def yX1_one : MethodName := ⟨RX1, "one", "(I)I"⟩
def dkwX1_one_1 : List UInt8 := [180, 0, 55, 4, 96, 181, 0, 55, 42, 180, 0, 10, 27, 145, 182, 0, 66, 17, 0, 255, 126, 172]
abbrev dktX1_one_1 : List UInt8 := dkwX1_one_1 ++ []
def dkwX1_one_0 : List UInt8 := [42, 180, 0, 51, 154, 0, 5, 2, 172, 42, 180, 0, 55, 17, 4, 0, 161, 0, 6, 16, 254, 172, 42, 89]
abbrev dktX1_one_0 : List UInt8 := dkwX1_one_0 ++ dktX1_one_1
theorem dksX1_one_0 : cX1_one.data.toList.drop 0 = dktX1_one_0 := by decide +kernel
theorem dksX1_one_1 : cX1_one.data.toList.drop 24 = dktX1_one_1 := dk_seg dksX1_one_0 24 rfl rfl
theorem dX1_one_0 : decode cX1_one 0 = .ok (.aload_n 0, 1) := dk_42 (dk_at dksX1_one_0 0 rfl rfl)
theorem dX1_one_1 : decode cX1_one 1 = .ok (.getfield 51, 3) := dk_180 0 51 (dk_at dksX1_one_0 1 rfl rfl)
theorem dX1_one_4 : decode cX1_one 4 = .ok (.ifCond .ne 5, 3) := dk_154 0 5 (dk_at dksX1_one_0 4 rfl rfl)
theorem dX1_one_7 : decode cX1_one 7 = .ok (.iconst (-1), 1) := dk_2 (dk_at dksX1_one_0 7 rfl rfl)
theorem dX1_one_8 : decode cX1_one 8 = .ok (.ireturn, 1) := dk_172 (dk_at dksX1_one_0 8 rfl rfl)
theorem dX1_one_9 : decode cX1_one 9 = .ok (.aload_n 0, 1) := dk_42 (dk_at dksX1_one_0 9 rfl rfl)
theorem dX1_one_10 : decode cX1_one 10 = .ok (.getfield 55, 3) := dk_180 0 55 (dk_at dksX1_one_0 10 rfl rfl)
theorem dX1_one_13 : decode cX1_one 13 = .ok (.sipush 1024, 3) := dk_17 4 0 (dk_at dksX1_one_0 13 rfl rfl)
theorem dX1_one_16 : decode cX1_one 16 = .ok (.if_icmp .lt 6, 3) := dk_161 0 6 (dk_at dksX1_one_0 16 rfl rfl)
theorem dX1_one_19 : decode cX1_one 19 = .ok (.bipush (-2), 2) := dk_16 254 (dk_at dksX1_one_0 19 rfl rfl)
theorem dX1_one_21 : decode cX1_one 21 = .ok (.ireturn, 1) := dk_172 (dk_at dksX1_one_0 21 rfl rfl)
theorem dX1_one_22 : decode cX1_one 22 = .ok (.aload_n 0, 1) := dk_42 (dk_at dksX1_one_0 22 rfl rfl)
theorem dX1_one_23 : decode cX1_one 23 = .ok (.dup, 1) := dk_89 (dk_at dksX1_one_0 23 rfl rfl)
theorem dX1_one_24 : decode cX1_one 24 = .ok (.getfield 55, 3) := dk_180 0 55 (dk_at dksX1_one_1 0 rfl rfl)
theorem dX1_one_27 : decode cX1_one 27 = .ok (.iconst 1, 1) := dk_4 (dk_at dksX1_one_1 3 rfl rfl)
theorem dX1_one_28 : decode cX1_one 28 = .ok (.iadd, 1) := dk_96 (dk_at dksX1_one_1 4 rfl rfl)
theorem dX1_one_29 : decode cX1_one 29 = .ok (.putfield 55, 3) := dk_181 0 55 (dk_at dksX1_one_1 5 rfl rfl)
theorem dX1_one_32 : decode cX1_one 32 = .ok (.aload_n 0, 1) := dk_42 (dk_at dksX1_one_1 8 rfl rfl)
theorem dX1_one_33 : decode cX1_one 33 = .ok (.getfield 10, 3) := dk_180 0 10 (dk_at dksX1_one_1 9 rfl rfl)
theorem dX1_one_36 : decode cX1_one 36 = .ok (.iload_n 1, 1) := dk_27 (dk_at dksX1_one_1 12 rfl rfl)
theorem dX1_one_37 : decode cX1_one 37 = .ok (.i2b, 1) := dk_145 (dk_at dksX1_one_1 13 rfl rfl)
theorem dX1_one_38 : decode cX1_one 38 = .ok (.invokevirtual 66, 3) := dk_182 0 66 (dk_at dksX1_one_1 14 rfl rfl)
theorem dX1_one_41 : decode cX1_one 41 = .ok (.sipush 255, 3) := dk_17 0 255 (dk_at dksX1_one_1 17 rfl rfl)
theorem dX1_one_44 : decode cX1_one 44 = .ok (.iand, 1) := dk_126 (dk_at dksX1_one_1 20 rfl rfl)
theorem dX1_one_45 : decode cX1_one 45 = .ok (.ireturn, 1) := dk_172 (dk_at dksX1_one_1 21 rfl rfl)
abbrev cX1_again : ByteArray := prog_6_method_12_code
def yX1_again : MethodName := ⟨RX1, "again", "()V"⟩
def dkwX1_again_0 : List UInt8 := [42, 180, 0, 51, 153, 0, 15, 42, 180, 0, 10, 182, 0, 70, 42, 3, 181, 0, 55, 177]
abbrev dktX1_again_0 : List UInt8 := dkwX1_again_0 ++ []
theorem dksX1_again_0 : cX1_again.data.toList.drop 0 = dktX1_again_0 := by decide +kernel
theorem dX1_again_0 : decode cX1_again 0 = .ok (.aload_n 0, 1) := dk_42 (dk_at dksX1_again_0 0 rfl rfl)
theorem dX1_again_1 : decode cX1_again 1 = .ok (.getfield 51, 3) := dk_180 0 51 (dk_at dksX1_again_0 1 rfl rfl)
theorem dX1_again_4 : decode cX1_again 4 = .ok (.ifCond .eq 15, 3) := dk_153 0 15 (dk_at dksX1_again_0 4 rfl rfl)
theorem dX1_again_7 : decode cX1_again 7 = .ok (.aload_n 0, 1) := dk_42 (dk_at dksX1_again_0 7 rfl rfl)
theorem dX1_again_8 : decode cX1_again 8 = .ok (.getfield 10, 3) := dk_180 0 10 (dk_at dksX1_again_0 8 rfl rfl)
theorem dX1_again_11 : decode cX1_again 11 = .ok (.invokevirtual 70, 3) := dk_182 0 70 (dk_at dksX1_again_0 11 rfl rfl)
theorem dX1_again_14 : decode cX1_again 14 = .ok (.aload_n 0, 1) := dk_42 (dk_at dksX1_again_0 14 rfl rfl)
theorem dX1_again_15 : decode cX1_again 15 = .ok (.iconst 0, 1) := dk_3 (dk_at dksX1_again_0 15 rfl rfl)
theorem dX1_again_16 : decode cX1_again 16 = .ok (.putfield 55, 3) := dk_181 0 55 (dk_at dksX1_again_0 16 rfl rfl)
theorem dX1_again_19 : decode cX1_again 19 = .ok (.return_, 1) := dk_177 (dk_at dksX1_again_0 19 rfl rfl)
abbrev cX1_out : ByteArray := prog_6_method_13_code
def yX1_out : MethodName := ⟨RX1, "out", "(I)I"⟩
def dkwX1_out_1 : List UInt8 := [190, 112, 51, 17, 0, 255, 126, 172]
abbrev dktX1_out_1 : List UInt8 := dkwX1_out_1 ++ []
def dkwX1_out_0 : List UInt8 := [42, 180, 0, 26, 190, 154, 0, 7, 2, 167, 0, 22, 42, 180, 0, 26, 27, 18, 41, 126, 42, 180, 0, 26]
abbrev dktX1_out_0 : List UInt8 := dkwX1_out_0 ++ dktX1_out_1
theorem dksX1_out_0 : cX1_out.data.toList.drop 0 = dktX1_out_0 := by decide +kernel
theorem dksX1_out_1 : cX1_out.data.toList.drop 24 = dktX1_out_1 := dk_seg dksX1_out_0 24 rfl rfl
theorem dX1_out_0 : decode cX1_out 0 = .ok (.aload_n 0, 1) := dk_42 (dk_at dksX1_out_0 0 rfl rfl)
theorem dX1_out_1 : decode cX1_out 1 = .ok (.getfield 26, 3) := dk_180 0 26 (dk_at dksX1_out_0 1 rfl rfl)
theorem dX1_out_4 : decode cX1_out 4 = .ok (.arraylength, 1) := dk_190 (dk_at dksX1_out_0 4 rfl rfl)
theorem dX1_out_5 : decode cX1_out 5 = .ok (.ifCond .ne 7, 3) := dk_154 0 7 (dk_at dksX1_out_0 5 rfl rfl)
theorem dX1_out_8 : decode cX1_out 8 = .ok (.iconst (-1), 1) := dk_2 (dk_at dksX1_out_0 8 rfl rfl)
theorem dX1_out_9 : decode cX1_out 9 = .ok (.goto 22, 3) := dk_167 0 22 (dk_at dksX1_out_0 9 rfl rfl)
theorem dX1_out_12 : decode cX1_out 12 = .ok (.aload_n 0, 1) := dk_42 (dk_at dksX1_out_0 12 rfl rfl)
theorem dX1_out_13 : decode cX1_out 13 = .ok (.getfield 26, 3) := dk_180 0 26 (dk_at dksX1_out_0 13 rfl rfl)
theorem dX1_out_16 : decode cX1_out 16 = .ok (.iload_n 1, 1) := dk_27 (dk_at dksX1_out_0 16 rfl rfl)
theorem dX1_out_17 : decode cX1_out 17 = .ok (.ldc 41, 2) := dk_18 41 (dk_at dksX1_out_0 17 rfl rfl)
theorem dX1_out_19 : decode cX1_out 19 = .ok (.iand, 1) := dk_126 (dk_at dksX1_out_0 19 rfl rfl)
theorem dX1_out_20 : decode cX1_out 20 = .ok (.aload_n 0, 1) := dk_42 (dk_at dksX1_out_0 20 rfl rfl)
theorem dX1_out_21 : decode cX1_out 21 = .ok (.getfield 26, 3) := dk_180 0 26 (dk_at dksX1_out_0 21 rfl rfl)
theorem dX1_out_24 : decode cX1_out 24 = .ok (.arraylength, 1) := dk_190 (dk_at dksX1_out_1 0 rfl rfl)
theorem dX1_out_25 : decode cX1_out 25 = .ok (.irem, 1) := dk_112 (dk_at dksX1_out_1 1 rfl rfl)
theorem dX1_out_26 : decode cX1_out 26 = .ok (.baload, 1) := dk_51 (dk_at dksX1_out_1 2 rfl rfl)
theorem dX1_out_27 : decode cX1_out 27 = .ok (.sipush 255, 3) := dk_17 0 255 (dk_at dksX1_out_1 3 rfl rfl)
theorem dX1_out_30 : decode cX1_out 30 = .ok (.iand, 1) := dk_126 (dk_at dksX1_out_1 6 rfl rfl)
theorem dX1_out_31 : decode cX1_out 31 = .ok (.ireturn, 1) := dk_172 (dk_at dksX1_out_1 7 rfl rfl)
abbrev cX1_init : ByteArray := prog_6_method_1_code
def yX1_init : MethodName := ⟨RX1, "<init>", "()V"⟩
def dkwX1_init_1 : List UInt8 := [16, 16, 188, 8, 181, 0, 20, 42, 17, 1, 0, 188, 8, 181, 0, 23, 42, 3, 188, 8, 181, 0, 26, 177]
abbrev dktX1_init_1 : List UInt8 := dkwX1_init_1 ++ []
def dkwX1_init_0 : List UInt8 := [42, 183, 0, 1, 42, 187, 0, 7, 89, 183, 0, 9, 181, 0, 10, 42, 16, 32, 188, 8, 181, 0, 16, 42]
abbrev dktX1_init_0 : List UInt8 := dkwX1_init_0 ++ dktX1_init_1
theorem dksX1_init_0 : cX1_init.data.toList.drop 0 = dktX1_init_0 := by decide +kernel
theorem dksX1_init_1 : cX1_init.data.toList.drop 24 = dktX1_init_1 := dk_seg dksX1_init_0 24 rfl rfl
theorem dX1_init_0 : decode cX1_init 0 = .ok (.aload_n 0, 1) := dk_42 (dk_at dksX1_init_0 0 rfl rfl)
theorem dX1_init_1 : decode cX1_init 1 = .ok (.invokespecial 1, 3) := dk_183 0 1 (dk_at dksX1_init_0 1 rfl rfl)
theorem dX1_init_4 : decode cX1_init 4 = .ok (.aload_n 0, 1) := dk_42 (dk_at dksX1_init_0 4 rfl rfl)
theorem dX1_init_5 : decode cX1_init 5 = .ok (.new 7, 3) := dk_187 0 7 (dk_at dksX1_init_0 5 rfl rfl)
theorem dX1_init_8 : decode cX1_init 8 = .ok (.dup, 1) := dk_89 (dk_at dksX1_init_0 8 rfl rfl)
theorem dX1_init_9 : decode cX1_init 9 = .ok (.invokespecial 9, 3) := dk_183 0 9 (dk_at dksX1_init_0 9 rfl rfl)
theorem dX1_init_12 : decode cX1_init 12 = .ok (.putfield 10, 3) := dk_181 0 10 (dk_at dksX1_init_0 12 rfl rfl)
theorem dX1_init_15 : decode cX1_init 15 = .ok (.aload_n 0, 1) := dk_42 (dk_at dksX1_init_0 15 rfl rfl)
theorem dX1_init_16 : decode cX1_init 16 = .ok (.bipush 32, 2) := dk_16 32 (dk_at dksX1_init_0 16 rfl rfl)
theorem dX1_init_18 : decode cX1_init 18 = .ok (.newarray .byte, 2) := dk_188_8 (dk_at dksX1_init_0 18 rfl rfl)
theorem dX1_init_20 : decode cX1_init 20 = .ok (.putfield 16, 3) := dk_181 0 16 (dk_at dksX1_init_0 20 rfl rfl)
theorem dX1_init_23 : decode cX1_init 23 = .ok (.aload_n 0, 1) := dk_42 (dk_at dksX1_init_0 23 rfl rfl)
theorem dX1_init_24 : decode cX1_init 24 = .ok (.bipush 16, 2) := dk_16 16 (dk_at dksX1_init_1 0 rfl rfl)
theorem dX1_init_26 : decode cX1_init 26 = .ok (.newarray .byte, 2) := dk_188_8 (dk_at dksX1_init_1 2 rfl rfl)
theorem dX1_init_28 : decode cX1_init 28 = .ok (.putfield 20, 3) := dk_181 0 20 (dk_at dksX1_init_1 4 rfl rfl)
theorem dX1_init_31 : decode cX1_init 31 = .ok (.aload_n 0, 1) := dk_42 (dk_at dksX1_init_1 7 rfl rfl)
theorem dX1_init_32 : decode cX1_init 32 = .ok (.sipush 256, 3) := dk_17 1 0 (dk_at dksX1_init_1 8 rfl rfl)
theorem dX1_init_35 : decode cX1_init 35 = .ok (.newarray .byte, 2) := dk_188_8 (dk_at dksX1_init_1 11 rfl rfl)
theorem dX1_init_37 : decode cX1_init 37 = .ok (.putfield 23, 3) := dk_181 0 23 (dk_at dksX1_init_1 13 rfl rfl)
theorem dX1_init_40 : decode cX1_init 40 = .ok (.aload_n 0, 1) := dk_42 (dk_at dksX1_init_1 16 rfl rfl)
theorem dX1_init_41 : decode cX1_init 41 = .ok (.iconst 0, 1) := dk_3 (dk_at dksX1_init_1 17 rfl rfl)
theorem dX1_init_42 : decode cX1_init 42 = .ok (.newarray .byte, 2) := dk_188_8 (dk_at dksX1_init_1 18 rfl rfl)
theorem dX1_init_44 : decode cX1_init 44 = .ok (.putfield 26, 3) := dk_181 0 26 (dk_at dksX1_init_1 20 rfl rfl)
theorem dX1_init_47 : decode cX1_init 47 = .ok (.return_, 1) := dk_177 (dk_at dksX1_init_1 23 rfl rfl)
abbrev cX1_put : ByteArray := prog_6_method_2_code
def yX1_put : MethodName := ⟨RX1, "put", "(IIII)Z"⟩
def dkwX1_put_3 : List UInt8 := [96, 21, 4, 184, 0, 33, 42, 89, 180, 0, 29, 16, 16, 96, 181, 0, 29, 4, 172]
abbrev dktX1_put_3 : List UInt8 := dkwX1_put_3 ++ []
def dkwX1_put_2 : List UInt8 := [180, 0, 23, 42, 180, 0, 29, 16, 8, 96, 29, 184, 0, 33, 42, 180, 0, 23, 42, 180, 0, 29, 16, 12]
abbrev dktX1_put_2 : List UInt8 := dkwX1_put_2 ++ dktX1_put_3
def dkwX1_put_1 : List UInt8 := [180, 0, 29, 27, 184, 0, 33, 42, 180, 0, 23, 42, 180, 0, 29, 7, 96, 28, 184, 0, 33, 42]
abbrev dktX1_put_1 : List UInt8 := dkwX1_put_1 ++ dktX1_put_2
def dkwX1_put_0 : List UInt8 := [42, 180, 0, 29, 42, 180, 0, 23, 190, 16, 16, 100, 164, 0, 5, 3, 172, 42, 180, 0, 23, 42]
abbrev dktX1_put_0 : List UInt8 := dkwX1_put_0 ++ dktX1_put_1
theorem dksX1_put_0 : cX1_put.data.toList.drop 0 = dktX1_put_0 := by decide +kernel
theorem dksX1_put_1 : cX1_put.data.toList.drop 22 = dktX1_put_1 := dk_seg dksX1_put_0 22 rfl rfl
theorem dksX1_put_2 : cX1_put.data.toList.drop 44 = dktX1_put_2 := dk_seg dksX1_put_1 22 rfl rfl
theorem dksX1_put_3 : cX1_put.data.toList.drop 68 = dktX1_put_3 := dk_seg dksX1_put_2 24 rfl rfl
theorem dX1_put_0 : decode cX1_put 0 = .ok (.aload_n 0, 1) := dk_42 (dk_at dksX1_put_0 0 rfl rfl)
theorem dX1_put_1 : decode cX1_put 1 = .ok (.getfield 29, 3) := dk_180 0 29 (dk_at dksX1_put_0 1 rfl rfl)
theorem dX1_put_4 : decode cX1_put 4 = .ok (.aload_n 0, 1) := dk_42 (dk_at dksX1_put_0 4 rfl rfl)
theorem dX1_put_5 : decode cX1_put 5 = .ok (.getfield 23, 3) := dk_180 0 23 (dk_at dksX1_put_0 5 rfl rfl)
theorem dX1_put_8 : decode cX1_put 8 = .ok (.arraylength, 1) := dk_190 (dk_at dksX1_put_0 8 rfl rfl)
theorem dX1_put_9 : decode cX1_put 9 = .ok (.bipush 16, 2) := dk_16 16 (dk_at dksX1_put_0 9 rfl rfl)
theorem dX1_put_11 : decode cX1_put 11 = .ok (.isub, 1) := dk_100 (dk_at dksX1_put_0 11 rfl rfl)
theorem dX1_put_12 : decode cX1_put 12 = .ok (.if_icmp .le 5, 3) := dk_164 0 5 (dk_at dksX1_put_0 12 rfl rfl)
theorem dX1_put_15 : decode cX1_put 15 = .ok (.iconst 0, 1) := dk_3 (dk_at dksX1_put_0 15 rfl rfl)
theorem dX1_put_16 : decode cX1_put 16 = .ok (.ireturn, 1) := dk_172 (dk_at dksX1_put_0 16 rfl rfl)
theorem dX1_put_17 : decode cX1_put 17 = .ok (.aload_n 0, 1) := dk_42 (dk_at dksX1_put_0 17 rfl rfl)
theorem dX1_put_18 : decode cX1_put 18 = .ok (.getfield 23, 3) := dk_180 0 23 (dk_at dksX1_put_0 18 rfl rfl)
theorem dX1_put_21 : decode cX1_put 21 = .ok (.aload_n 0, 1) := dk_42 (dk_at dksX1_put_0 21 rfl rfl)
theorem dX1_put_22 : decode cX1_put 22 = .ok (.getfield 29, 3) := dk_180 0 29 (dk_at dksX1_put_1 0 rfl rfl)
theorem dX1_put_25 : decode cX1_put 25 = .ok (.iload_n 1, 1) := dk_27 (dk_at dksX1_put_1 3 rfl rfl)
theorem dX1_put_26 : decode cX1_put 26 = .ok (.invokestatic 33, 3) := dk_184 0 33 (dk_at dksX1_put_1 4 rfl rfl)
theorem dX1_put_29 : decode cX1_put 29 = .ok (.aload_n 0, 1) := dk_42 (dk_at dksX1_put_1 7 rfl rfl)
theorem dX1_put_30 : decode cX1_put 30 = .ok (.getfield 23, 3) := dk_180 0 23 (dk_at dksX1_put_1 8 rfl rfl)
theorem dX1_put_33 : decode cX1_put 33 = .ok (.aload_n 0, 1) := dk_42 (dk_at dksX1_put_1 11 rfl rfl)
theorem dX1_put_34 : decode cX1_put 34 = .ok (.getfield 29, 3) := dk_180 0 29 (dk_at dksX1_put_1 12 rfl rfl)
theorem dX1_put_37 : decode cX1_put 37 = .ok (.iconst 4, 1) := dk_7 (dk_at dksX1_put_1 15 rfl rfl)
theorem dX1_put_38 : decode cX1_put 38 = .ok (.iadd, 1) := dk_96 (dk_at dksX1_put_1 16 rfl rfl)
theorem dX1_put_39 : decode cX1_put 39 = .ok (.iload_n 2, 1) := dk_28 (dk_at dksX1_put_1 17 rfl rfl)
theorem dX1_put_40 : decode cX1_put 40 = .ok (.invokestatic 33, 3) := dk_184 0 33 (dk_at dksX1_put_1 18 rfl rfl)
theorem dX1_put_43 : decode cX1_put 43 = .ok (.aload_n 0, 1) := dk_42 (dk_at dksX1_put_1 21 rfl rfl)
theorem dX1_put_44 : decode cX1_put 44 = .ok (.getfield 23, 3) := dk_180 0 23 (dk_at dksX1_put_2 0 rfl rfl)
theorem dX1_put_47 : decode cX1_put 47 = .ok (.aload_n 0, 1) := dk_42 (dk_at dksX1_put_2 3 rfl rfl)
theorem dX1_put_48 : decode cX1_put 48 = .ok (.getfield 29, 3) := dk_180 0 29 (dk_at dksX1_put_2 4 rfl rfl)
theorem dX1_put_51 : decode cX1_put 51 = .ok (.bipush 8, 2) := dk_16 8 (dk_at dksX1_put_2 7 rfl rfl)
theorem dX1_put_53 : decode cX1_put 53 = .ok (.iadd, 1) := dk_96 (dk_at dksX1_put_2 9 rfl rfl)
theorem dX1_put_54 : decode cX1_put 54 = .ok (.iload_n 3, 1) := dk_29 (dk_at dksX1_put_2 10 rfl rfl)
theorem dX1_put_55 : decode cX1_put 55 = .ok (.invokestatic 33, 3) := dk_184 0 33 (dk_at dksX1_put_2 11 rfl rfl)
theorem dX1_put_58 : decode cX1_put 58 = .ok (.aload_n 0, 1) := dk_42 (dk_at dksX1_put_2 14 rfl rfl)
theorem dX1_put_59 : decode cX1_put 59 = .ok (.getfield 23, 3) := dk_180 0 23 (dk_at dksX1_put_2 15 rfl rfl)
theorem dX1_put_62 : decode cX1_put 62 = .ok (.aload_n 0, 1) := dk_42 (dk_at dksX1_put_2 18 rfl rfl)
theorem dX1_put_63 : decode cX1_put 63 = .ok (.getfield 29, 3) := dk_180 0 29 (dk_at dksX1_put_2 19 rfl rfl)
theorem dX1_put_66 : decode cX1_put 66 = .ok (.bipush 12, 2) := dk_16 12 (dk_at dksX1_put_2 22 rfl rfl)
theorem dX1_put_68 : decode cX1_put 68 = .ok (.iadd, 1) := dk_96 (dk_at dksX1_put_3 0 rfl rfl)
theorem dX1_put_69 : decode cX1_put 69 = .ok (.iload 4, 2) := dk_21 4 (dk_at dksX1_put_3 1 rfl rfl)
theorem dX1_put_71 : decode cX1_put 71 = .ok (.invokestatic 33, 3) := dk_184 0 33 (dk_at dksX1_put_3 3 rfl rfl)
theorem dX1_put_74 : decode cX1_put 74 = .ok (.aload_n 0, 1) := dk_42 (dk_at dksX1_put_3 6 rfl rfl)
theorem dX1_put_75 : decode cX1_put 75 = .ok (.dup, 1) := dk_89 (dk_at dksX1_put_3 7 rfl rfl)
theorem dX1_put_76 : decode cX1_put 76 = .ok (.getfield 29, 3) := dk_180 0 29 (dk_at dksX1_put_3 8 rfl rfl)
theorem dX1_put_79 : decode cX1_put 79 = .ok (.bipush 16, 2) := dk_16 16 (dk_at dksX1_put_3 11 rfl rfl)
theorem dX1_put_81 : decode cX1_put 81 = .ok (.iadd, 1) := dk_96 (dk_at dksX1_put_3 13 rfl rfl)
theorem dX1_put_82 : decode cX1_put 82 = .ok (.putfield 29, 3) := dk_181 0 29 (dk_at dksX1_put_3 14 rfl rfl)
theorem dX1_put_85 : decode cX1_put 85 = .ok (.iconst 1, 1) := dk_4 (dk_at dksX1_put_3 17 rfl rfl)
theorem dX1_put_86 : decode cX1_put 86 = .ok (.ireturn, 1) := dk_172 (dk_at dksX1_put_3 18 rfl rfl)
abbrev cX1_word : ByteArray := prog_6_method_3_code
def yX1_word : MethodName := ⟨RX1, "word", "([BII)V"⟩
def dkwX1_word_1 : List UInt8 := [16, 8, 122, 145, 84, 42, 27, 6, 96, 28, 145, 84, 177]
abbrev dktX1_word_1 : List UInt8 := dkwX1_word_1 ++ []
def dkwX1_word_0 : List UInt8 := [42, 27, 28, 16, 24, 122, 145, 84, 42, 27, 4, 96, 28, 16, 16, 122, 145, 84, 42, 27, 5, 96, 28]
abbrev dktX1_word_0 : List UInt8 := dkwX1_word_0 ++ dktX1_word_1
theorem dksX1_word_0 : cX1_word.data.toList.drop 0 = dktX1_word_0 := by decide +kernel
theorem dksX1_word_1 : cX1_word.data.toList.drop 23 = dktX1_word_1 := dk_seg dksX1_word_0 23 rfl rfl
theorem dX1_word_0 : decode cX1_word 0 = .ok (.aload_n 0, 1) := dk_42 (dk_at dksX1_word_0 0 rfl rfl)
theorem dX1_word_1 : decode cX1_word 1 = .ok (.iload_n 1, 1) := dk_27 (dk_at dksX1_word_0 1 rfl rfl)
theorem dX1_word_2 : decode cX1_word 2 = .ok (.iload_n 2, 1) := dk_28 (dk_at dksX1_word_0 2 rfl rfl)
theorem dX1_word_3 : decode cX1_word 3 = .ok (.bipush 24, 2) := dk_16 24 (dk_at dksX1_word_0 3 rfl rfl)
theorem dX1_word_5 : decode cX1_word 5 = .ok (.ishr, 1) := dk_122 (dk_at dksX1_word_0 5 rfl rfl)
theorem dX1_word_6 : decode cX1_word 6 = .ok (.i2b, 1) := dk_145 (dk_at dksX1_word_0 6 rfl rfl)
theorem dX1_word_7 : decode cX1_word 7 = .ok (.bastore, 1) := dk_84 (dk_at dksX1_word_0 7 rfl rfl)
theorem dX1_word_8 : decode cX1_word 8 = .ok (.aload_n 0, 1) := dk_42 (dk_at dksX1_word_0 8 rfl rfl)
theorem dX1_word_9 : decode cX1_word 9 = .ok (.iload_n 1, 1) := dk_27 (dk_at dksX1_word_0 9 rfl rfl)
theorem dX1_word_10 : decode cX1_word 10 = .ok (.iconst 1, 1) := dk_4 (dk_at dksX1_word_0 10 rfl rfl)
theorem dX1_word_11 : decode cX1_word 11 = .ok (.iadd, 1) := dk_96 (dk_at dksX1_word_0 11 rfl rfl)
theorem dX1_word_12 : decode cX1_word 12 = .ok (.iload_n 2, 1) := dk_28 (dk_at dksX1_word_0 12 rfl rfl)
theorem dX1_word_13 : decode cX1_word 13 = .ok (.bipush 16, 2) := dk_16 16 (dk_at dksX1_word_0 13 rfl rfl)
theorem dX1_word_15 : decode cX1_word 15 = .ok (.ishr, 1) := dk_122 (dk_at dksX1_word_0 15 rfl rfl)
theorem dX1_word_16 : decode cX1_word 16 = .ok (.i2b, 1) := dk_145 (dk_at dksX1_word_0 16 rfl rfl)
theorem dX1_word_17 : decode cX1_word 17 = .ok (.bastore, 1) := dk_84 (dk_at dksX1_word_0 17 rfl rfl)
theorem dX1_word_18 : decode cX1_word 18 = .ok (.aload_n 0, 1) := dk_42 (dk_at dksX1_word_0 18 rfl rfl)
theorem dX1_word_19 : decode cX1_word 19 = .ok (.iload_n 1, 1) := dk_27 (dk_at dksX1_word_0 19 rfl rfl)
theorem dX1_word_20 : decode cX1_word 20 = .ok (.iconst 2, 1) := dk_5 (dk_at dksX1_word_0 20 rfl rfl)
theorem dX1_word_21 : decode cX1_word 21 = .ok (.iadd, 1) := dk_96 (dk_at dksX1_word_0 21 rfl rfl)
theorem dX1_word_22 : decode cX1_word 22 = .ok (.iload_n 2, 1) := dk_28 (dk_at dksX1_word_0 22 rfl rfl)
theorem dX1_word_23 : decode cX1_word 23 = .ok (.bipush 8, 2) := dk_16 8 (dk_at dksX1_word_1 0 rfl rfl)
theorem dX1_word_25 : decode cX1_word 25 = .ok (.ishr, 1) := dk_122 (dk_at dksX1_word_1 2 rfl rfl)
theorem dX1_word_26 : decode cX1_word 26 = .ok (.i2b, 1) := dk_145 (dk_at dksX1_word_1 3 rfl rfl)
theorem dX1_word_27 : decode cX1_word 27 = .ok (.bastore, 1) := dk_84 (dk_at dksX1_word_1 4 rfl rfl)
theorem dX1_word_28 : decode cX1_word 28 = .ok (.aload_n 0, 1) := dk_42 (dk_at dksX1_word_1 5 rfl rfl)
theorem dX1_word_29 : decode cX1_word 29 = .ok (.iload_n 1, 1) := dk_27 (dk_at dksX1_word_1 6 rfl rfl)
theorem dX1_word_30 : decode cX1_word 30 = .ok (.iconst 3, 1) := dk_6 (dk_at dksX1_word_1 7 rfl rfl)
theorem dX1_word_31 : decode cX1_word 31 = .ok (.iadd, 1) := dk_96 (dk_at dksX1_word_1 8 rfl rfl)
theorem dX1_word_32 : decode cX1_word 32 = .ok (.iload_n 2, 1) := dk_28 (dk_at dksX1_word_1 9 rfl rfl)
theorem dX1_word_33 : decode cX1_word 33 = .ok (.i2b, 1) := dk_145 (dk_at dksX1_word_1 10 rfl rfl)
theorem dX1_word_34 : decode cX1_word 34 = .ok (.bastore, 1) := dk_84 (dk_at dksX1_word_1 11 rfl rfl)
theorem dX1_word_35 : decode cX1_word 35 = .ok (.return_, 1) := dk_177 (dk_at dksX1_word_1 12 rfl rfl)
abbrev cX1_trim : ByteArray := prog_6_method_4_code
def yX1_trim : MethodName := ⟨RX1, "trim", "(I)V"⟩
def dkwX1_trim_0 : List UInt8 := [42, 42, 27, 182, 0, 37, 181, 0, 29, 177]
abbrev dktX1_trim_0 : List UInt8 := dkwX1_trim_0 ++ []
theorem dksX1_trim_0 : cX1_trim.data.toList.drop 0 = dktX1_trim_0 := by decide +kernel
theorem dX1_trim_0 : decode cX1_trim 0 = .ok (.aload_n 0, 1) := dk_42 (dk_at dksX1_trim_0 0 rfl rfl)
theorem dX1_trim_1 : decode cX1_trim 1 = .ok (.aload_n 0, 1) := dk_42 (dk_at dksX1_trim_0 1 rfl rfl)
theorem dX1_trim_2 : decode cX1_trim 2 = .ok (.iload_n 1, 1) := dk_27 (dk_at dksX1_trim_0 2 rfl rfl)
theorem dX1_trim_3 : decode cX1_trim 3 = .ok (.invokevirtual 37, 3) := dk_182 0 37 (dk_at dksX1_trim_0 3 rfl rfl)
theorem dX1_trim_6 : decode cX1_trim 6 = .ok (.putfield 29, 3) := dk_181 0 29 (dk_at dksX1_trim_0 6 rfl rfl)
theorem dX1_trim_9 : decode cX1_trim 9 = .ok (.return_, 1) := dk_177 (dk_at dksX1_trim_0 9 rfl rfl)
abbrev cX1_key : ByteArray := prog_6_method_7_code
def yX1_key : MethodName := ⟨RX1, "key", "(IIIII)V"⟩
def dkwX1_key_2 : List UInt8 := [21, 6, 16, 12, 96, 21, 5, 184, 0, 33, 177]
abbrev dktX1_key_2 : List UInt8 := dkwX1_key_2 ++ []
def dkwX1_key_1 : List UInt8 := [96, 29, 184, 0, 33, 42, 180, 0, 16, 21, 6, 16, 8, 96, 21, 4, 184, 0, 33, 42, 180, 0, 16]
abbrev dktX1_key_1 : List UInt8 := dkwX1_key_1 ++ dktX1_key_2
def dkwX1_key_0 : List UInt8 := [27, 4, 126, 7, 120, 54, 6, 42, 180, 0, 16, 21, 6, 28, 184, 0, 33, 42, 180, 0, 16, 21, 6, 7]
abbrev dktX1_key_0 : List UInt8 := dkwX1_key_0 ++ dktX1_key_1
theorem dksX1_key_0 : cX1_key.data.toList.drop 0 = dktX1_key_0 := by decide +kernel
theorem dksX1_key_1 : cX1_key.data.toList.drop 24 = dktX1_key_1 := dk_seg dksX1_key_0 24 rfl rfl
theorem dksX1_key_2 : cX1_key.data.toList.drop 47 = dktX1_key_2 := dk_seg dksX1_key_1 23 rfl rfl
theorem dX1_key_0 : decode cX1_key 0 = .ok (.iload_n 1, 1) := dk_27 (dk_at dksX1_key_0 0 rfl rfl)
theorem dX1_key_1 : decode cX1_key 1 = .ok (.iconst 1, 1) := dk_4 (dk_at dksX1_key_0 1 rfl rfl)
theorem dX1_key_2 : decode cX1_key 2 = .ok (.iand, 1) := dk_126 (dk_at dksX1_key_0 2 rfl rfl)
theorem dX1_key_3 : decode cX1_key 3 = .ok (.iconst 4, 1) := dk_7 (dk_at dksX1_key_0 3 rfl rfl)
theorem dX1_key_4 : decode cX1_key 4 = .ok (.ishl, 1) := dk_120 (dk_at dksX1_key_0 4 rfl rfl)
theorem dX1_key_5 : decode cX1_key 5 = .ok (.istore 6, 2) := dk_54 6 (dk_at dksX1_key_0 5 rfl rfl)
theorem dX1_key_7 : decode cX1_key 7 = .ok (.aload_n 0, 1) := dk_42 (dk_at dksX1_key_0 7 rfl rfl)
theorem dX1_key_8 : decode cX1_key 8 = .ok (.getfield 16, 3) := dk_180 0 16 (dk_at dksX1_key_0 8 rfl rfl)
theorem dX1_key_11 : decode cX1_key 11 = .ok (.iload 6, 2) := dk_21 6 (dk_at dksX1_key_0 11 rfl rfl)
theorem dX1_key_13 : decode cX1_key 13 = .ok (.iload_n 2, 1) := dk_28 (dk_at dksX1_key_0 13 rfl rfl)
theorem dX1_key_14 : decode cX1_key 14 = .ok (.invokestatic 33, 3) := dk_184 0 33 (dk_at dksX1_key_0 14 rfl rfl)
theorem dX1_key_17 : decode cX1_key 17 = .ok (.aload_n 0, 1) := dk_42 (dk_at dksX1_key_0 17 rfl rfl)
theorem dX1_key_18 : decode cX1_key 18 = .ok (.getfield 16, 3) := dk_180 0 16 (dk_at dksX1_key_0 18 rfl rfl)
theorem dX1_key_21 : decode cX1_key 21 = .ok (.iload 6, 2) := dk_21 6 (dk_at dksX1_key_0 21 rfl rfl)
theorem dX1_key_23 : decode cX1_key 23 = .ok (.iconst 4, 1) := dk_7 (dk_at dksX1_key_0 23 rfl rfl)
theorem dX1_key_24 : decode cX1_key 24 = .ok (.iadd, 1) := dk_96 (dk_at dksX1_key_1 0 rfl rfl)
theorem dX1_key_25 : decode cX1_key 25 = .ok (.iload_n 3, 1) := dk_29 (dk_at dksX1_key_1 1 rfl rfl)
theorem dX1_key_26 : decode cX1_key 26 = .ok (.invokestatic 33, 3) := dk_184 0 33 (dk_at dksX1_key_1 2 rfl rfl)
theorem dX1_key_29 : decode cX1_key 29 = .ok (.aload_n 0, 1) := dk_42 (dk_at dksX1_key_1 5 rfl rfl)
theorem dX1_key_30 : decode cX1_key 30 = .ok (.getfield 16, 3) := dk_180 0 16 (dk_at dksX1_key_1 6 rfl rfl)
theorem dX1_key_33 : decode cX1_key 33 = .ok (.iload 6, 2) := dk_21 6 (dk_at dksX1_key_1 9 rfl rfl)
theorem dX1_key_35 : decode cX1_key 35 = .ok (.bipush 8, 2) := dk_16 8 (dk_at dksX1_key_1 11 rfl rfl)
theorem dX1_key_37 : decode cX1_key 37 = .ok (.iadd, 1) := dk_96 (dk_at dksX1_key_1 13 rfl rfl)
theorem dX1_key_38 : decode cX1_key 38 = .ok (.iload 4, 2) := dk_21 4 (dk_at dksX1_key_1 14 rfl rfl)
theorem dX1_key_40 : decode cX1_key 40 = .ok (.invokestatic 33, 3) := dk_184 0 33 (dk_at dksX1_key_1 16 rfl rfl)
theorem dX1_key_43 : decode cX1_key 43 = .ok (.aload_n 0, 1) := dk_42 (dk_at dksX1_key_1 19 rfl rfl)
theorem dX1_key_44 : decode cX1_key 44 = .ok (.getfield 16, 3) := dk_180 0 16 (dk_at dksX1_key_1 20 rfl rfl)
theorem dX1_key_47 : decode cX1_key 47 = .ok (.iload 6, 2) := dk_21 6 (dk_at dksX1_key_2 0 rfl rfl)
theorem dX1_key_49 : decode cX1_key 49 = .ok (.bipush 12, 2) := dk_16 12 (dk_at dksX1_key_2 2 rfl rfl)
theorem dX1_key_51 : decode cX1_key 51 = .ok (.iadd, 1) := dk_96 (dk_at dksX1_key_2 4 rfl rfl)
theorem dX1_key_52 : decode cX1_key 52 = .ok (.iload 5, 2) := dk_21 5 (dk_at dksX1_key_2 5 rfl rfl)
theorem dX1_key_54 : decode cX1_key 54 = .ok (.invokestatic 33, 3) := dk_184 0 33 (dk_at dksX1_key_2 7 rfl rfl)
theorem dX1_key_57 : decode cX1_key 57 = .ok (.return_, 1) := dk_177 (dk_at dksX1_key_2 10 rfl rfl)
abbrev cX1_nonce : ByteArray := prog_6_method_8_code
def yX1_nonce : MethodName := ⟨RX1, "nonce", "(IIII)V"⟩
def dkwX1_nonce_1 : List UInt8 := [29, 184, 0, 33, 42, 180, 0, 20, 16, 12, 21, 4, 184, 0, 33, 177]
abbrev dktX1_nonce_1 : List UInt8 := dkwX1_nonce_1 ++ []
def dkwX1_nonce_0 : List UInt8 := [42, 180, 0, 20, 3, 27, 184, 0, 33, 42, 180, 0, 20, 7, 28, 184, 0, 33, 42, 180, 0, 20, 16, 8]
abbrev dktX1_nonce_0 : List UInt8 := dkwX1_nonce_0 ++ dktX1_nonce_1
theorem dksX1_nonce_0 : cX1_nonce.data.toList.drop 0 = dktX1_nonce_0 := by decide +kernel
theorem dksX1_nonce_1 : cX1_nonce.data.toList.drop 24 = dktX1_nonce_1 := dk_seg dksX1_nonce_0 24 rfl rfl
theorem dX1_nonce_0 : decode cX1_nonce 0 = .ok (.aload_n 0, 1) := dk_42 (dk_at dksX1_nonce_0 0 rfl rfl)
theorem dX1_nonce_1 : decode cX1_nonce 1 = .ok (.getfield 20, 3) := dk_180 0 20 (dk_at dksX1_nonce_0 1 rfl rfl)
theorem dX1_nonce_4 : decode cX1_nonce 4 = .ok (.iconst 0, 1) := dk_3 (dk_at dksX1_nonce_0 4 rfl rfl)
theorem dX1_nonce_5 : decode cX1_nonce 5 = .ok (.iload_n 1, 1) := dk_27 (dk_at dksX1_nonce_0 5 rfl rfl)
theorem dX1_nonce_6 : decode cX1_nonce 6 = .ok (.invokestatic 33, 3) := dk_184 0 33 (dk_at dksX1_nonce_0 6 rfl rfl)
theorem dX1_nonce_9 : decode cX1_nonce 9 = .ok (.aload_n 0, 1) := dk_42 (dk_at dksX1_nonce_0 9 rfl rfl)
theorem dX1_nonce_10 : decode cX1_nonce 10 = .ok (.getfield 20, 3) := dk_180 0 20 (dk_at dksX1_nonce_0 10 rfl rfl)
theorem dX1_nonce_13 : decode cX1_nonce 13 = .ok (.iconst 4, 1) := dk_7 (dk_at dksX1_nonce_0 13 rfl rfl)
theorem dX1_nonce_14 : decode cX1_nonce 14 = .ok (.iload_n 2, 1) := dk_28 (dk_at dksX1_nonce_0 14 rfl rfl)
theorem dX1_nonce_15 : decode cX1_nonce 15 = .ok (.invokestatic 33, 3) := dk_184 0 33 (dk_at dksX1_nonce_0 15 rfl rfl)
theorem dX1_nonce_18 : decode cX1_nonce 18 = .ok (.aload_n 0, 1) := dk_42 (dk_at dksX1_nonce_0 18 rfl rfl)
theorem dX1_nonce_19 : decode cX1_nonce 19 = .ok (.getfield 20, 3) := dk_180 0 20 (dk_at dksX1_nonce_0 19 rfl rfl)
theorem dX1_nonce_22 : decode cX1_nonce 22 = .ok (.bipush 8, 2) := dk_16 8 (dk_at dksX1_nonce_0 22 rfl rfl)
theorem dX1_nonce_24 : decode cX1_nonce 24 = .ok (.iload_n 3, 1) := dk_29 (dk_at dksX1_nonce_1 0 rfl rfl)
theorem dX1_nonce_25 : decode cX1_nonce 25 = .ok (.invokestatic 33, 3) := dk_184 0 33 (dk_at dksX1_nonce_1 1 rfl rfl)
theorem dX1_nonce_28 : decode cX1_nonce 28 = .ok (.aload_n 0, 1) := dk_42 (dk_at dksX1_nonce_1 4 rfl rfl)
theorem dX1_nonce_29 : decode cX1_nonce 29 = .ok (.getfield 20, 3) := dk_180 0 20 (dk_at dksX1_nonce_1 5 rfl rfl)
theorem dX1_nonce_32 : decode cX1_nonce 32 = .ok (.bipush 12, 2) := dk_16 12 (dk_at dksX1_nonce_1 8 rfl rfl)
theorem dX1_nonce_34 : decode cX1_nonce 34 = .ok (.iload 4, 2) := dk_21 4 (dk_at dksX1_nonce_1 10 rfl rfl)
theorem dX1_nonce_36 : decode cX1_nonce 36 = .ok (.invokestatic 33, 3) := dk_184 0 33 (dk_at dksX1_nonce_1 12 rfl rfl)
theorem dX1_nonce_39 : decode cX1_nonce 39 = .ok (.return_, 1) := dk_177 (dk_at dksX1_nonce_1 15 rfl rfl)
abbrev cX1_begin : ByteArray := prog_6_method_9_code
def yX1_begin : MethodName := ⟨RX1, "begin", "(I)V"⟩
def dkwX1_begin_3 : List UInt8 := [181, 0, 55, 177]
abbrev dktX1_begin_3 : List UInt8 := dkwX1_begin_3 ++ []
def dkwX1_begin_2 : List UInt8 := [183, 0, 9, 181, 0, 10, 42, 180, 0, 10, 4, 45, 182, 0, 47, 42, 4, 181, 0, 51, 42, 3]
abbrev dktX1_begin_2 : List UInt8 := dkwX1_begin_2 ++ dktX1_begin_3
def dkwX1_begin_1 : List UInt8 := [51, 84, 132, 3, 1, 167, 255, 238, 187, 0, 42, 89, 44, 183, 0, 44, 78, 42, 187, 0, 7, 89]
abbrev dktX1_begin_1 : List UInt8 := dkwX1_begin_1 ++ dktX1_begin_2
def dkwX1_begin_0 : List UInt8 := [4, 27, 16, 31, 126, 96, 188, 8, 77, 3, 62, 29, 44, 190, 162, 0, 18, 44, 29, 42, 180, 0, 16, 29]
abbrev dktX1_begin_0 : List UInt8 := dkwX1_begin_0 ++ dktX1_begin_1
theorem dksX1_begin_0 : cX1_begin.data.toList.drop 0 = dktX1_begin_0 := by decide +kernel
theorem dksX1_begin_1 : cX1_begin.data.toList.drop 24 = dktX1_begin_1 := dk_seg dksX1_begin_0 24 rfl rfl
theorem dksX1_begin_2 : cX1_begin.data.toList.drop 46 = dktX1_begin_2 := dk_seg dksX1_begin_1 22 rfl rfl
theorem dksX1_begin_3 : cX1_begin.data.toList.drop 68 = dktX1_begin_3 := dk_seg dksX1_begin_2 22 rfl rfl
theorem dX1_begin_0 : decode cX1_begin 0 = .ok (.iconst 1, 1) := dk_4 (dk_at dksX1_begin_0 0 rfl rfl)
theorem dX1_begin_1 : decode cX1_begin 1 = .ok (.iload_n 1, 1) := dk_27 (dk_at dksX1_begin_0 1 rfl rfl)
theorem dX1_begin_2 : decode cX1_begin 2 = .ok (.bipush 31, 2) := dk_16 31 (dk_at dksX1_begin_0 2 rfl rfl)
theorem dX1_begin_4 : decode cX1_begin 4 = .ok (.iand, 1) := dk_126 (dk_at dksX1_begin_0 4 rfl rfl)
theorem dX1_begin_5 : decode cX1_begin 5 = .ok (.iadd, 1) := dk_96 (dk_at dksX1_begin_0 5 rfl rfl)
theorem dX1_begin_6 : decode cX1_begin 6 = .ok (.newarray .byte, 2) := dk_188_8 (dk_at dksX1_begin_0 6 rfl rfl)
theorem dX1_begin_8 : decode cX1_begin 8 = .ok (.astore_n 2, 1) := dk_77 (dk_at dksX1_begin_0 8 rfl rfl)
theorem dX1_begin_9 : decode cX1_begin 9 = .ok (.iconst 0, 1) := dk_3 (dk_at dksX1_begin_0 9 rfl rfl)
theorem dX1_begin_10 : decode cX1_begin 10 = .ok (.istore_n 3, 1) := dk_62 (dk_at dksX1_begin_0 10 rfl rfl)
theorem dX1_begin_11 : decode cX1_begin 11 = .ok (.iload_n 3, 1) := dk_29 (dk_at dksX1_begin_0 11 rfl rfl)
theorem dX1_begin_12 : decode cX1_begin 12 = .ok (.aload_n 2, 1) := dk_44 (dk_at dksX1_begin_0 12 rfl rfl)
theorem dX1_begin_13 : decode cX1_begin 13 = .ok (.arraylength, 1) := dk_190 (dk_at dksX1_begin_0 13 rfl rfl)
theorem dX1_begin_14 : decode cX1_begin 14 = .ok (.if_icmp .ge 18, 3) := dk_162 0 18 (dk_at dksX1_begin_0 14 rfl rfl)
theorem dX1_begin_17 : decode cX1_begin 17 = .ok (.aload_n 2, 1) := dk_44 (dk_at dksX1_begin_0 17 rfl rfl)
theorem dX1_begin_18 : decode cX1_begin 18 = .ok (.iload_n 3, 1) := dk_29 (dk_at dksX1_begin_0 18 rfl rfl)
theorem dX1_begin_19 : decode cX1_begin 19 = .ok (.aload_n 0, 1) := dk_42 (dk_at dksX1_begin_0 19 rfl rfl)
theorem dX1_begin_20 : decode cX1_begin 20 = .ok (.getfield 16, 3) := dk_180 0 16 (dk_at dksX1_begin_0 20 rfl rfl)
theorem dX1_begin_23 : decode cX1_begin 23 = .ok (.iload_n 3, 1) := dk_29 (dk_at dksX1_begin_0 23 rfl rfl)
theorem dX1_begin_24 : decode cX1_begin 24 = .ok (.baload, 1) := dk_51 (dk_at dksX1_begin_1 0 rfl rfl)
theorem dX1_begin_25 : decode cX1_begin 25 = .ok (.bastore, 1) := dk_84 (dk_at dksX1_begin_1 1 rfl rfl)
theorem dX1_begin_26 : decode cX1_begin 26 = .ok (.iinc 3 1, 3) := dk_132 3 1 (dk_at dksX1_begin_1 2 rfl rfl)
theorem dX1_begin_29 : decode cX1_begin 29 = .ok (.goto (-18), 3) := dk_167 255 238 (dk_at dksX1_begin_1 5 rfl rfl)
theorem dX1_begin_32 : decode cX1_begin 32 = .ok (.new 42, 3) := dk_187 0 42 (dk_at dksX1_begin_1 8 rfl rfl)
theorem dX1_begin_35 : decode cX1_begin 35 = .ok (.dup, 1) := dk_89 (dk_at dksX1_begin_1 11 rfl rfl)
theorem dX1_begin_36 : decode cX1_begin 36 = .ok (.aload_n 2, 1) := dk_44 (dk_at dksX1_begin_1 12 rfl rfl)
theorem dX1_begin_37 : decode cX1_begin 37 = .ok (.invokespecial 44, 3) := dk_183 0 44 (dk_at dksX1_begin_1 13 rfl rfl)
theorem dX1_begin_40 : decode cX1_begin 40 = .ok (.astore_n 3, 1) := dk_78 (dk_at dksX1_begin_1 16 rfl rfl)
theorem dX1_begin_41 : decode cX1_begin 41 = .ok (.aload_n 0, 1) := dk_42 (dk_at dksX1_begin_1 17 rfl rfl)
theorem dX1_begin_42 : decode cX1_begin 42 = .ok (.new 7, 3) := dk_187 0 7 (dk_at dksX1_begin_1 18 rfl rfl)
theorem dX1_begin_45 : decode cX1_begin 45 = .ok (.dup, 1) := dk_89 (dk_at dksX1_begin_1 21 rfl rfl)
theorem dX1_begin_46 : decode cX1_begin 46 = .ok (.invokespecial 9, 3) := dk_183 0 9 (dk_at dksX1_begin_2 0 rfl rfl)
theorem dX1_begin_49 : decode cX1_begin 49 = .ok (.putfield 10, 3) := dk_181 0 10 (dk_at dksX1_begin_2 3 rfl rfl)
theorem dX1_begin_52 : decode cX1_begin 52 = .ok (.aload_n 0, 1) := dk_42 (dk_at dksX1_begin_2 6 rfl rfl)
theorem dX1_begin_53 : decode cX1_begin 53 = .ok (.getfield 10, 3) := dk_180 0 10 (dk_at dksX1_begin_2 7 rfl rfl)
theorem dX1_begin_56 : decode cX1_begin 56 = .ok (.iconst 1, 1) := dk_4 (dk_at dksX1_begin_2 10 rfl rfl)
theorem dX1_begin_57 : decode cX1_begin 57 = .ok (.aload_n 3, 1) := dk_45 (dk_at dksX1_begin_2 11 rfl rfl)
theorem dX1_begin_58 : decode cX1_begin 58 = .ok (.invokevirtual 47, 3) := dk_182 0 47 (dk_at dksX1_begin_2 12 rfl rfl)
theorem dX1_begin_61 : decode cX1_begin 61 = .ok (.aload_n 0, 1) := dk_42 (dk_at dksX1_begin_2 15 rfl rfl)
theorem dX1_begin_62 : decode cX1_begin 62 = .ok (.iconst 1, 1) := dk_4 (dk_at dksX1_begin_2 16 rfl rfl)
theorem dX1_begin_63 : decode cX1_begin 63 = .ok (.putfield 51, 3) := dk_181 0 51 (dk_at dksX1_begin_2 17 rfl rfl)
theorem dX1_begin_66 : decode cX1_begin 66 = .ok (.aload_n 0, 1) := dk_42 (dk_at dksX1_begin_2 20 rfl rfl)
theorem dX1_begin_67 : decode cX1_begin 67 = .ok (.iconst 0, 1) := dk_3 (dk_at dksX1_begin_2 21 rfl rfl)
theorem dX1_begin_68 : decode cX1_begin 68 = .ok (.putfield 55, 3) := dk_181 0 55 (dk_at dksX1_begin_3 0 rfl rfl)
theorem dX1_begin_71 : decode cX1_begin 71 = .ok (.return_, 1) := dk_177 (dk_at dksX1_begin_3 3 rfl rfl)
theorem q5 : (Jvm.Cond.initialized "RcFourDesk") ∈ lw_all := lw_g (lw_at lw_m1 1 rfl) rfl
theorem q17 : (Jvm.Cond.instanceMethod ({ cls := "RcFourDesk", name := "run", desc := "(II)I" } : Jvm.MethodName)) ∈ lw_all := lw_g (lw_at lw_m1 13 rfl) rfl
theorem q18 : (Jvm.Cond.selects "RcFourDesk" ({ cls := "RcFourDesk", name := "run", desc := "(II)I" } : Jvm.MethodName) ({ cls := "RcFourDesk", name := "run", desc := "(II)I" } : Jvm.MethodName)) ∈ lw_all := lw_g (lw_at lw_m1 14 rfl) rfl
theorem q19 : (Jvm.Cond.code ({ cls := "RcFourDesk", name := "run", desc := "(II)I" } : Jvm.MethodName) prog_6_method_10_code (6 : Nat) (Option.some Jvm.ClassFile.FieldType.int)) ∈ lw_all := lw_g (lw_at lw_m1 15 rfl) rfl
theorem q20 : (Jvm.Cond.methodLink "RcFourDesk" (37 : Nat) ({ cls := "RcFourDesk", name := "from", desc := "(I)I" } : Jvm.MethodName)) ∈ lw_all := lw_g (lw_at lw_m1 16 rfl) rfl
theorem q21 : (Jvm.Cond.privateMethod ({ cls := "RcFourDesk", name := "from", desc := "(I)I" } : Jvm.MethodName)) ∈ lw_tbl := lw_at lw_m1 17 rfl
theorem q22 : (Jvm.Cond.instanceMethod ({ cls := "RcFourDesk", name := "from", desc := "(I)I" } : Jvm.MethodName)) ∈ lw_all := lw_g (lw_at lw_m1 18 rfl) rfl
theorem q23 : (Jvm.Cond.instantiable "RcFourDesk" (8 : Nat)) ∈ lw_all := lw_g (lw_at lw_m1 19 rfl) rfl
theorem q24 : (Jvm.Cond.code ({ cls := "RcFourDesk", name := "from", desc := "(I)I" } : Jvm.MethodName) prog_6_method_5_code (2 : Nat) (Option.some Jvm.ClassFile.FieldType.int)) ∈ lw_all := lw_g (lw_at lw_m1 20 rfl) rfl
theorem q25 : (Jvm.Cond.constant "RcFourDesk" (41 : Nat) (2147483647 : Int32)) ∈ lw_all := lw_g (lw_at lw_m1 21 rfl) rfl
theorem q26 : (Jvm.Cond.methodLink "RcFourDesk" (58 : Nat) ({ cls := "RcFourDesk", name := "count", desc := "(II)I" } : Jvm.MethodName)) ∈ lw_all := lw_g (lw_at lw_m1 22 rfl) rfl
theorem q27 : (Jvm.Cond.privateMethod ({ cls := "RcFourDesk", name := "count", desc := "(II)I" } : Jvm.MethodName)) ∈ lw_tbl := lw_at lw_m1 23 rfl
theorem q28 : (Jvm.Cond.instanceMethod ({ cls := "RcFourDesk", name := "count", desc := "(II)I" } : Jvm.MethodName)) ∈ lw_all := lw_g (lw_at lw_m1 24 rfl) rfl
theorem q29 : (Jvm.Cond.code ({ cls := "RcFourDesk", name := "count", desc := "(II)I" } : Jvm.MethodName) prog_6_method_6_code (3 : Nat) (Option.some Jvm.ClassFile.FieldType.int)) ∈ lw_all := lw_g (lw_at lw_m1 25 rfl) rfl
theorem q30 : (Jvm.Cond.methodLink "RcFourDesk" (62 : Nat) ({ cls := "RC4Engine", name := "processBytes", desc := "([BII[BI)I" } : Jvm.MethodName)) ∈ lw_all := lw_g (lw_at lw_m1 26 rfl) rfl
theorem q126 : (Jvm.Cond.instanceMethod ({ cls := "RcFourDesk", name := "one", desc := "(I)I" } : Jvm.MethodName)) ∈ lw_all := lw_g (lw_at lw_m1 122 rfl) rfl
theorem q127 : (Jvm.Cond.selects "RcFourDesk" ({ cls := "RcFourDesk", name := "one", desc := "(I)I" } : Jvm.MethodName) ({ cls := "RcFourDesk", name := "one", desc := "(I)I" } : Jvm.MethodName)) ∈ lw_all := lw_g (lw_at lw_m1 123 rfl) rfl
theorem q128 : (Jvm.Cond.code ({ cls := "RcFourDesk", name := "one", desc := "(I)I" } : Jvm.MethodName) prog_6_method_11_code (2 : Nat) (Option.some Jvm.ClassFile.FieldType.int)) ∈ lw_all := lw_g (lw_at lw_m1 124 rfl) rfl
theorem q129 : (Jvm.Cond.methodLink "RcFourDesk" (66 : Nat) ({ cls := "RC4Engine", name := "returnByte", desc := "(B)B" } : Jvm.MethodName)) ∈ lw_all := lw_g (lw_at lw_m1 125 rfl) rfl
theorem q134 : (Jvm.Cond.instanceMethod ({ cls := "RcFourDesk", name := "again", desc := "()V" } : Jvm.MethodName)) ∈ lw_all := lw_g (lw_at lw_m1 130 rfl) rfl
theorem q135 : (Jvm.Cond.selects "RcFourDesk" ({ cls := "RcFourDesk", name := "again", desc := "()V" } : Jvm.MethodName) ({ cls := "RcFourDesk", name := "again", desc := "()V" } : Jvm.MethodName)) ∈ lw_all := lw_g (lw_at lw_m1 131 rfl) rfl
theorem q136 : (Jvm.Cond.code ({ cls := "RcFourDesk", name := "again", desc := "()V" } : Jvm.MethodName) prog_6_method_12_code (1 : Nat) (Option.none : Option Jvm.ClassFile.FieldType)) ∈ lw_all := lw_g (lw_at lw_m1 132 rfl) rfl
theorem q137 : (Jvm.Cond.methodLink "RcFourDesk" (70 : Nat) ({ cls := "RC4Engine", name := "reset", desc := "()V" } : Jvm.MethodName)) ∈ lw_all := lw_g (lw_at lw_m1 133 rfl) rfl
theorem q147 : (Jvm.Cond.instanceMethod ({ cls := "RcFourDesk", name := "out", desc := "(I)I" } : Jvm.MethodName)) ∈ lw_all := lw_g (lw_at lw_m1 143 rfl) rfl
theorem q148 : (Jvm.Cond.selects "RcFourDesk" ({ cls := "RcFourDesk", name := "out", desc := "(I)I" } : Jvm.MethodName) ({ cls := "RcFourDesk", name := "out", desc := "(I)I" } : Jvm.MethodName)) ∈ lw_all := lw_g (lw_at lw_m1 144 rfl) rfl
theorem q149 : (Jvm.Cond.code ({ cls := "RcFourDesk", name := "out", desc := "(I)I" } : Jvm.MethodName) prog_6_method_13_code (2 : Nat) (Option.some Jvm.ClassFile.FieldType.int)) ∈ lw_all := lw_g (lw_at lw_m1 145 rfl) rfl
theorem q158 : (Jvm.Cond.instanceMethod ({ cls := "RcFourDesk", name := "<init>", desc := "()V" } : Jvm.MethodName)) ∈ lw_all := lw_g (lw_at lw_m1 154 rfl) rfl
theorem q159 : (Jvm.Cond.code ({ cls := "RcFourDesk", name := "<init>", desc := "()V" } : Jvm.MethodName) prog_6_method_1_code (1 : Nat) (Option.none : Option Jvm.ClassFile.FieldType)) ∈ lw_all := lw_g (lw_at lw_m1 155 rfl) rfl
theorem q160 : (Jvm.Cond.methodLink "RcFourDesk" (1 : Nat) ({ cls := "java/lang/Object", name := "<init>", desc := "()V" } : Jvm.MethodName)) ∈ lw_all := lw_g (lw_at lw_m1 156 rfl) rfl
theorem q161 : (Jvm.Cond.classLink "RcFourDesk" (7 : Nat) "RC4Engine") ∈ lw_all := lw_g (lw_at lw_m1 157 rfl) rfl
theorem q162 : (Jvm.Cond.methodLink "RcFourDesk" (9 : Nat) ({ cls := "RC4Engine", name := "<init>", desc := "()V" } : Jvm.MethodName)) ∈ lw_all := lw_g (lw_at lw_m1 158 rfl) rfl
theorem q182 : (Jvm.Cond.fieldLink "RcFourDesk" (10 : Nat) "RcFourDesk" "run" "LRC4Engine;") ∈ lw_all := lw_g (lw_at lw_m1 178 rfl) rfl
theorem q183 : (Jvm.Cond.fieldLink "RcFourDesk" (51 : Nat) "RcFourDesk" "set" "Z") ∈ lw_all := lw_g (lw_at lw_m1 179 rfl) rfl
theorem q184 : (Jvm.Cond.fieldLink "RcFourDesk" (55 : Nat) "RcFourDesk" "given" "I") ∈ lw_all := lw_g (lw_at lw_m1 180 rfl) rfl
theorem q185 : (Jvm.Cond.fieldLink "RcFourDesk" (16 : Nat) "RcFourDesk" "key" "[B") ∈ lw_all := lw_g (lw_at lw_m1 181 rfl) rfl
theorem q186 : (Jvm.Cond.fieldLink "RcFourDesk" (20 : Nat) "RcFourDesk" "nonce" "[B") ∈ lw_all := lw_g (lw_at lw_m1 182 rfl) rfl
theorem q187 : (Jvm.Cond.fieldLink "RcFourDesk" (23 : Nat) "RcFourDesk" "text" "[B") ∈ lw_all := lw_g (lw_at lw_m1 183 rfl) rfl
theorem q188 : (Jvm.Cond.fieldLink "RcFourDesk" (29 : Nat) "RcFourDesk" "size" "I") ∈ lw_all := lw_g (lw_at lw_m1 184 rfl) rfl
theorem q189 : (Jvm.Cond.fieldLink "RcFourDesk" (26 : Nat) "RcFourDesk" "out" "[B") ∈ lw_all := lw_g (lw_at lw_m1 185 rfl) rfl
theorem q190 : (Jvm.Cond.lays "RcFourDesk" "RcFourDesk" "run" "LRC4Engine;") ∈ lw_all := lw_g (lw_at lw_m1 186 rfl) rfl
theorem q191 : (Jvm.Cond.soleField "RcFourDesk" "run") ∈ lw_all := lw_g (lw_at lw_m1 187 rfl) rfl
theorem q192 : (Jvm.Cond.lays "RcFourDesk" "RcFourDesk" "set" "Z") ∈ lw_all := lw_g (lw_at lw_m1 188 rfl) rfl
theorem q193 : (Jvm.Cond.soleField "RcFourDesk" "set") ∈ lw_all := lw_g (lw_at lw_m1 189 rfl) rfl
theorem q194 : (Jvm.Cond.lays "RcFourDesk" "RcFourDesk" "given" "I") ∈ lw_all := lw_g (lw_at lw_m1 190 rfl) rfl
theorem q195 : (Jvm.Cond.soleField "RcFourDesk" "given") ∈ lw_all := lw_g (lw_at lw_m1 191 rfl) rfl
theorem q196 : (Jvm.Cond.laysFinal "RcFourDesk" "RcFourDesk" "key" "[B") ∈ lw_all := lw_g (lw_at lw_m1 192 rfl) rfl
theorem q197 : (Jvm.Cond.soleField "RcFourDesk" "key") ∈ lw_all := lw_g (lw_at lw_m1 193 rfl) rfl
theorem q198 : (Jvm.Cond.laysFinal "RcFourDesk" "RcFourDesk" "nonce" "[B") ∈ lw_all := lw_g (lw_at lw_m1 194 rfl) rfl
theorem q199 : (Jvm.Cond.soleField "RcFourDesk" "nonce") ∈ lw_all := lw_g (lw_at lw_m1 195 rfl) rfl
theorem q200 : (Jvm.Cond.laysFinal "RcFourDesk" "RcFourDesk" "text" "[B") ∈ lw_all := lw_g (lw_at lw_m1 196 rfl) rfl
theorem q201 : (Jvm.Cond.soleField "RcFourDesk" "text") ∈ lw_all := lw_g (lw_at lw_m1 197 rfl) rfl
theorem q202 : (Jvm.Cond.lays "RcFourDesk" "RcFourDesk" "size" "I") ∈ lw_all := lw_g (lw_at lw_m1 198 rfl) rfl
theorem q203 : (Jvm.Cond.soleField "RcFourDesk" "size") ∈ lw_all := lw_g (lw_at lw_m1 199 rfl) rfl
theorem q204 : (Jvm.Cond.lays "RcFourDesk" "RcFourDesk" "out" "[B") ∈ lw_all := lw_g (lw_at lw_m1 200 rfl) rfl
theorem q205 : (Jvm.Cond.soleField "RcFourDesk" "out") ∈ lw_all := lw_g (lw_at lw_m1 201 rfl) rfl
theorem q206 : (Jvm.Cond.superclass "RcFourDesk" "java/lang/Object") ∈ lw_all := lw_g (lw_at lw_m1 202 rfl) rfl
theorem q208 : (Jvm.Cond.instanceMethod ({ cls := "RcFourDesk", name := "put", desc := "(IIII)Z" } : Jvm.MethodName)) ∈ lw_all := lw_g (lw_at lw_m1 204 rfl) rfl
theorem q209 : (Jvm.Cond.selects "RcFourDesk" ({ cls := "RcFourDesk", name := "put", desc := "(IIII)Z" } : Jvm.MethodName) ({ cls := "RcFourDesk", name := "put", desc := "(IIII)Z" } : Jvm.MethodName)) ∈ lw_all := lw_g (lw_at lw_m1 205 rfl) rfl
theorem q210 : (Jvm.Cond.code ({ cls := "RcFourDesk", name := "put", desc := "(IIII)Z" } : Jvm.MethodName) prog_6_method_2_code (5 : Nat) (Option.some Jvm.ClassFile.FieldType.boolean)) ∈ lw_all := lw_g (lw_at lw_m1 206 rfl) rfl
theorem q211 : (Jvm.Cond.methodLink "RcFourDesk" (33 : Nat) ({ cls := "RcFourDesk", name := "word", desc := "([BII)V" } : Jvm.MethodName)) ∈ lw_all := lw_g (lw_at lw_m1 207 rfl) rfl
theorem q212 : (Jvm.Cond.static ({ cls := "RcFourDesk", name := "word", desc := "([BII)V" } : Jvm.MethodName)) ∈ lw_all := lw_g (lw_at lw_m1 208 rfl) rfl
theorem q213 : (Jvm.Cond.code ({ cls := "RcFourDesk", name := "word", desc := "([BII)V" } : Jvm.MethodName) prog_6_method_3_code (3 : Nat) (Option.none : Option Jvm.ClassFile.FieldType)) ∈ lw_all := lw_g (lw_at lw_m1 209 rfl) rfl
theorem q215 : (Jvm.Cond.instanceMethod ({ cls := "RcFourDesk", name := "trim", desc := "(I)V" } : Jvm.MethodName)) ∈ lw_all := lw_g (lw_at lw_m1 211 rfl) rfl
theorem q216 : (Jvm.Cond.selects "RcFourDesk" ({ cls := "RcFourDesk", name := "trim", desc := "(I)V" } : Jvm.MethodName) ({ cls := "RcFourDesk", name := "trim", desc := "(I)V" } : Jvm.MethodName)) ∈ lw_all := lw_g (lw_at lw_m1 212 rfl) rfl
theorem q217 : (Jvm.Cond.code ({ cls := "RcFourDesk", name := "trim", desc := "(I)V" } : Jvm.MethodName) prog_6_method_4_code (2 : Nat) (Option.none : Option Jvm.ClassFile.FieldType)) ∈ lw_all := lw_g (lw_at lw_m1 213 rfl) rfl
theorem q219 : (Jvm.Cond.instanceMethod ({ cls := "RcFourDesk", name := "key", desc := "(IIIII)V" } : Jvm.MethodName)) ∈ lw_all := lw_g (lw_at lw_m1 215 rfl) rfl
theorem q220 : (Jvm.Cond.selects "RcFourDesk" ({ cls := "RcFourDesk", name := "key", desc := "(IIIII)V" } : Jvm.MethodName) ({ cls := "RcFourDesk", name := "key", desc := "(IIIII)V" } : Jvm.MethodName)) ∈ lw_all := lw_g (lw_at lw_m1 216 rfl) rfl
theorem q221 : (Jvm.Cond.code ({ cls := "RcFourDesk", name := "key", desc := "(IIIII)V" } : Jvm.MethodName) prog_6_method_7_code (7 : Nat) (Option.none : Option Jvm.ClassFile.FieldType)) ∈ lw_all := lw_g (lw_at lw_m1 217 rfl) rfl
theorem q223 : (Jvm.Cond.instanceMethod ({ cls := "RcFourDesk", name := "nonce", desc := "(IIII)V" } : Jvm.MethodName)) ∈ lw_all := lw_g (lw_at lw_m1 219 rfl) rfl
theorem q224 : (Jvm.Cond.selects "RcFourDesk" ({ cls := "RcFourDesk", name := "nonce", desc := "(IIII)V" } : Jvm.MethodName) ({ cls := "RcFourDesk", name := "nonce", desc := "(IIII)V" } : Jvm.MethodName)) ∈ lw_all := lw_g (lw_at lw_m1 220 rfl) rfl
theorem q225 : (Jvm.Cond.code ({ cls := "RcFourDesk", name := "nonce", desc := "(IIII)V" } : Jvm.MethodName) prog_6_method_8_code (5 : Nat) (Option.none : Option Jvm.ClassFile.FieldType)) ∈ lw_all := lw_g (lw_at lw_m1 221 rfl) rfl
theorem q227 : (Jvm.Cond.instanceMethod ({ cls := "RcFourDesk", name := "begin", desc := "(I)V" } : Jvm.MethodName)) ∈ lw_all := lw_g (lw_at lw_m1 223 rfl) rfl
theorem q228 : (Jvm.Cond.selects "RcFourDesk" ({ cls := "RcFourDesk", name := "begin", desc := "(I)V" } : Jvm.MethodName) ({ cls := "RcFourDesk", name := "begin", desc := "(I)V" } : Jvm.MethodName)) ∈ lw_all := lw_g (lw_at lw_m1 224 rfl) rfl
theorem q229 : (Jvm.Cond.code ({ cls := "RcFourDesk", name := "begin", desc := "(I)V" } : Jvm.MethodName) prog_6_method_9_code (4 : Nat) (Option.none : Option Jvm.ClassFile.FieldType)) ∈ lw_all := lw_g (lw_at lw_m1 225 rfl) rfl
theorem q230 : (Jvm.Cond.classLink "RcFourDesk" (42 : Nat) "KeyParameter") ∈ lw_all := lw_g (lw_at lw_m1 226 rfl) rfl
theorem q232 : (Jvm.Cond.methodLink "RcFourDesk" (44 : Nat) ({ cls := "KeyParameter", name := "<init>", desc := "([B)V" } : Jvm.MethodName)) ∈ lw_all := lw_g (lw_at lw_m1 228 rfl) rfl
theorem q249 : (Jvm.Cond.methodLink "RcFourDesk" (47 : Nat) ({ cls := "RC4Engine", name := "init", desc := "(ZLCipherParameters;)V" } : Jvm.MethodName)) ∈ lw_all := lw_g (lw_at lw_m2 5 rfl) rfl
theorem in_X1 : ∀ w ∈ wsX10, w ∈ lw_all := lw_in wsX10 [190, 192, 194, 196, 198, 200, 202, 204] (by decide +kernel) (by decide +kernel)

/-! RC4Engine -/
set_option maxRecDepth 100000
def RX2 : String := "RC4Engine"
def TX2 : u_T := fun k => match k with
  | 0 => ("RC4Engine", "engineState", "[B", false)
  | 1 => ("RC4Engine", "x", "I", false)
  | 2 => ("RC4Engine", "y", "I", false)
  | 3 => ("RC4Engine", "workingKey", "[B", false)
  | _ => ("RC4Engine", "forEncryption", "Z", false)
def tyX2 : Nat → FieldType := fun k => match k with
  | 0 => .array .byte
  | 1 => .int
  | 2 => .int
  | 3 => .array .byte
  | _ => .boolean
abbrev wsX20 : List Cond := u_ws RX2 TX2 5
theorem nmX2 : ∀ a, a < 5 → ∀ b, b < 5 → a ≠ b → (TX2 a).2.1 ≠ (TX2 b).2.1 := by decide +kernel
theorem tyX2_ok : ∀ k, k < 5 → parseFieldDescriptor (TX2 k).2.2.1 = some (tyX2 k) := by decide +kernel
abbrev cX2_processBytes : ByteArray := prog_5_method_4_code
def yX2_processBytes : MethodName := ⟨RX2, "processBytes", "([BII[BI)I"⟩
def dkwX2_processBytes_7 : List UInt8 := [145, 84, 132, 6, 1, 167, 255, 127, 29, 172]
abbrev dktX2_processBytes_7 : List UInt8 := dkwX2_processBytes_7 ++ []
def dkwX2_processBytes_6 : List UInt8 := [180, 0, 7, 42, 180, 0, 13, 51, 42, 180, 0, 7, 42, 180, 0, 17, 51, 96, 17, 0, 255, 126, 51, 130]
abbrev dktX2_processBytes_6 : List UInt8 := dkwX2_processBytes_6 ++ dktX2_processBytes_7
def dkwX2_processBytes_5 : List UInt8 := [180, 0, 17, 21, 7, 84, 25, 4, 21, 6, 21, 5, 96, 43, 21, 6, 28, 96, 51, 42, 180, 0, 7, 42]
abbrev dktX2_processBytes_5 : List UInt8 := dkwX2_processBytes_5 ++ dktX2_processBytes_6
def dkwX2_processBytes_4 : List UInt8 := [180, 0, 7, 42, 180, 0, 13, 42, 180, 0, 7, 42, 180, 0, 17, 51, 84, 42, 180, 0, 7, 42]
abbrev dktX2_processBytes_4 : List UInt8 := dkwX2_processBytes_4 ++ dktX2_processBytes_5
def dkwX2_processBytes_3 : List UInt8 := [180, 0, 17, 96, 17, 0, 255, 126, 181, 0, 17, 42, 180, 0, 7, 42, 180, 0, 13, 51, 54, 7, 42]
abbrev dktX2_processBytes_3 : List UInt8 := dkwX2_processBytes_3 ++ dktX2_processBytes_4
def dkwX2_processBytes_2 : List UInt8 := [42, 180, 0, 13, 4, 96, 17, 0, 255, 126, 181, 0, 13, 42, 42, 180, 0, 7, 42, 180, 0, 13, 51, 42]
abbrev dktX2_processBytes_2 : List UInt8 := dkwX2_processBytes_2 ++ dktX2_processBytes_3
def dkwX2_processBytes_1 : List UInt8 := [190, 164, 0, 13, 187, 0, 49, 89, 18, 51, 183, 0, 53, 191, 3, 54, 6, 21, 6, 29, 162, 0, 129, 42]
abbrev dktX2_processBytes_1 : List UInt8 := dkwX2_processBytes_1 ++ dktX2_processBytes_2
def dkwX2_processBytes_0 : List UInt8 := [28, 29, 96, 43, 190, 164, 0, 13, 187, 0, 44, 89, 18, 46, 183, 0, 48, 191, 21, 5, 29, 96, 25, 4]
abbrev dktX2_processBytes_0 : List UInt8 := dkwX2_processBytes_0 ++ dktX2_processBytes_1
theorem dksX2_processBytes_0 : cX2_processBytes.data.toList.drop 0 = dktX2_processBytes_0 := by decide +kernel
theorem dksX2_processBytes_1 : cX2_processBytes.data.toList.drop 24 = dktX2_processBytes_1 := dk_seg dksX2_processBytes_0 24 rfl rfl
theorem dksX2_processBytes_2 : cX2_processBytes.data.toList.drop 48 = dktX2_processBytes_2 := dk_seg dksX2_processBytes_1 24 rfl rfl
theorem dksX2_processBytes_3 : cX2_processBytes.data.toList.drop 72 = dktX2_processBytes_3 := dk_seg dksX2_processBytes_2 24 rfl rfl
theorem dksX2_processBytes_4 : cX2_processBytes.data.toList.drop 95 = dktX2_processBytes_4 := dk_seg dksX2_processBytes_3 23 rfl rfl
theorem dksX2_processBytes_5 : cX2_processBytes.data.toList.drop 117 = dktX2_processBytes_5 := dk_seg dksX2_processBytes_4 22 rfl rfl
theorem dksX2_processBytes_6 : cX2_processBytes.data.toList.drop 141 = dktX2_processBytes_6 := dk_seg dksX2_processBytes_5 24 rfl rfl
theorem dksX2_processBytes_7 : cX2_processBytes.data.toList.drop 165 = dktX2_processBytes_7 := dk_seg dksX2_processBytes_6 24 rfl rfl
theorem dX2_processBytes_0 : decode cX2_processBytes 0 = .ok (.iload_n 2, 1) := dk_28 (dk_at dksX2_processBytes_0 0 rfl rfl)
theorem dX2_processBytes_1 : decode cX2_processBytes 1 = .ok (.iload_n 3, 1) := dk_29 (dk_at dksX2_processBytes_0 1 rfl rfl)
theorem dX2_processBytes_2 : decode cX2_processBytes 2 = .ok (.iadd, 1) := dk_96 (dk_at dksX2_processBytes_0 2 rfl rfl)
theorem dX2_processBytes_3 : decode cX2_processBytes 3 = .ok (.aload_n 1, 1) := dk_43 (dk_at dksX2_processBytes_0 3 rfl rfl)
theorem dX2_processBytes_4 : decode cX2_processBytes 4 = .ok (.arraylength, 1) := dk_190 (dk_at dksX2_processBytes_0 4 rfl rfl)
theorem dX2_processBytes_5 : decode cX2_processBytes 5 = .ok (.if_icmp .le 13, 3) := dk_164 0 13 (dk_at dksX2_processBytes_0 5 rfl rfl)
theorem dX2_processBytes_8 : decode cX2_processBytes 8 = .ok (.new 44, 3) := dk_187 0 44 (dk_at dksX2_processBytes_0 8 rfl rfl)
theorem dX2_processBytes_11 : decode cX2_processBytes 11 = .ok (.dup, 1) := dk_89 (dk_at dksX2_processBytes_0 11 rfl rfl)
theorem dX2_processBytes_12 : decode cX2_processBytes 12 = .ok (.ldc 46, 2) := dk_18 46 (dk_at dksX2_processBytes_0 12 rfl rfl)
theorem dX2_processBytes_14 : decode cX2_processBytes 14 = .ok (.invokespecial 48, 3) := dk_183 0 48 (dk_at dksX2_processBytes_0 14 rfl rfl)
theorem dX2_processBytes_17 : decode cX2_processBytes 17 = .ok (.athrow, 1) := dk_191 (dk_at dksX2_processBytes_0 17 rfl rfl)
theorem dX2_processBytes_18 : decode cX2_processBytes 18 = .ok (.iload 5, 2) := dk_21 5 (dk_at dksX2_processBytes_0 18 rfl rfl)
theorem dX2_processBytes_20 : decode cX2_processBytes 20 = .ok (.iload_n 3, 1) := dk_29 (dk_at dksX2_processBytes_0 20 rfl rfl)
theorem dX2_processBytes_21 : decode cX2_processBytes 21 = .ok (.iadd, 1) := dk_96 (dk_at dksX2_processBytes_0 21 rfl rfl)
theorem dX2_processBytes_22 : decode cX2_processBytes 22 = .ok (.aload 4, 2) := dk_25 4 (dk_at dksX2_processBytes_0 22 rfl rfl)
theorem dX2_processBytes_24 : decode cX2_processBytes 24 = .ok (.arraylength, 1) := dk_190 (dk_at dksX2_processBytes_1 0 rfl rfl)
theorem dX2_processBytes_25 : decode cX2_processBytes 25 = .ok (.if_icmp .le 13, 3) := dk_164 0 13 (dk_at dksX2_processBytes_1 1 rfl rfl)
theorem dX2_processBytes_28 : decode cX2_processBytes 28 = .ok (.new 49, 3) := dk_187 0 49 (dk_at dksX2_processBytes_1 4 rfl rfl)
theorem dX2_processBytes_31 : decode cX2_processBytes 31 = .ok (.dup, 1) := dk_89 (dk_at dksX2_processBytes_1 7 rfl rfl)
theorem dX2_processBytes_32 : decode cX2_processBytes 32 = .ok (.ldc 51, 2) := dk_18 51 (dk_at dksX2_processBytes_1 8 rfl rfl)
theorem dX2_processBytes_34 : decode cX2_processBytes 34 = .ok (.invokespecial 53, 3) := dk_183 0 53 (dk_at dksX2_processBytes_1 10 rfl rfl)
theorem dX2_processBytes_37 : decode cX2_processBytes 37 = .ok (.athrow, 1) := dk_191 (dk_at dksX2_processBytes_1 13 rfl rfl)
theorem dX2_processBytes_38 : decode cX2_processBytes 38 = .ok (.iconst 0, 1) := dk_3 (dk_at dksX2_processBytes_1 14 rfl rfl)
theorem dX2_processBytes_39 : decode cX2_processBytes 39 = .ok (.istore 6, 2) := dk_54 6 (dk_at dksX2_processBytes_1 15 rfl rfl)
theorem dX2_processBytes_41 : decode cX2_processBytes 41 = .ok (.iload 6, 2) := dk_21 6 (dk_at dksX2_processBytes_1 17 rfl rfl)
theorem dX2_processBytes_43 : decode cX2_processBytes 43 = .ok (.iload_n 3, 1) := dk_29 (dk_at dksX2_processBytes_1 19 rfl rfl)
theorem dX2_processBytes_44 : decode cX2_processBytes 44 = .ok (.if_icmp .ge 129, 3) := dk_162 0 129 (dk_at dksX2_processBytes_1 20 rfl rfl)
theorem dX2_processBytes_47 : decode cX2_processBytes 47 = .ok (.aload_n 0, 1) := dk_42 (dk_at dksX2_processBytes_1 23 rfl rfl)
theorem dX2_processBytes_48 : decode cX2_processBytes 48 = .ok (.aload_n 0, 1) := dk_42 (dk_at dksX2_processBytes_2 0 rfl rfl)
theorem dX2_processBytes_49 : decode cX2_processBytes 49 = .ok (.getfield 13, 3) := dk_180 0 13 (dk_at dksX2_processBytes_2 1 rfl rfl)
theorem dX2_processBytes_52 : decode cX2_processBytes 52 = .ok (.iconst 1, 1) := dk_4 (dk_at dksX2_processBytes_2 4 rfl rfl)
theorem dX2_processBytes_53 : decode cX2_processBytes 53 = .ok (.iadd, 1) := dk_96 (dk_at dksX2_processBytes_2 5 rfl rfl)
theorem dX2_processBytes_54 : decode cX2_processBytes 54 = .ok (.sipush 255, 3) := dk_17 0 255 (dk_at dksX2_processBytes_2 6 rfl rfl)
theorem dX2_processBytes_57 : decode cX2_processBytes 57 = .ok (.iand, 1) := dk_126 (dk_at dksX2_processBytes_2 9 rfl rfl)
theorem dX2_processBytes_58 : decode cX2_processBytes 58 = .ok (.putfield 13, 3) := dk_181 0 13 (dk_at dksX2_processBytes_2 10 rfl rfl)
theorem dX2_processBytes_61 : decode cX2_processBytes 61 = .ok (.aload_n 0, 1) := dk_42 (dk_at dksX2_processBytes_2 13 rfl rfl)
theorem dX2_processBytes_62 : decode cX2_processBytes 62 = .ok (.aload_n 0, 1) := dk_42 (dk_at dksX2_processBytes_2 14 rfl rfl)
theorem dX2_processBytes_63 : decode cX2_processBytes 63 = .ok (.getfield 7, 3) := dk_180 0 7 (dk_at dksX2_processBytes_2 15 rfl rfl)
theorem dX2_processBytes_66 : decode cX2_processBytes 66 = .ok (.aload_n 0, 1) := dk_42 (dk_at dksX2_processBytes_2 18 rfl rfl)
theorem dX2_processBytes_67 : decode cX2_processBytes 67 = .ok (.getfield 13, 3) := dk_180 0 13 (dk_at dksX2_processBytes_2 19 rfl rfl)
theorem dX2_processBytes_70 : decode cX2_processBytes 70 = .ok (.baload, 1) := dk_51 (dk_at dksX2_processBytes_2 22 rfl rfl)
theorem dX2_processBytes_71 : decode cX2_processBytes 71 = .ok (.aload_n 0, 1) := dk_42 (dk_at dksX2_processBytes_2 23 rfl rfl)
theorem dX2_processBytes_72 : decode cX2_processBytes 72 = .ok (.getfield 17, 3) := dk_180 0 17 (dk_at dksX2_processBytes_3 0 rfl rfl)
theorem dX2_processBytes_75 : decode cX2_processBytes 75 = .ok (.iadd, 1) := dk_96 (dk_at dksX2_processBytes_3 3 rfl rfl)
theorem dX2_processBytes_76 : decode cX2_processBytes 76 = .ok (.sipush 255, 3) := dk_17 0 255 (dk_at dksX2_processBytes_3 4 rfl rfl)
theorem dX2_processBytes_79 : decode cX2_processBytes 79 = .ok (.iand, 1) := dk_126 (dk_at dksX2_processBytes_3 7 rfl rfl)
theorem dX2_processBytes_80 : decode cX2_processBytes 80 = .ok (.putfield 17, 3) := dk_181 0 17 (dk_at dksX2_processBytes_3 8 rfl rfl)
theorem dX2_processBytes_83 : decode cX2_processBytes 83 = .ok (.aload_n 0, 1) := dk_42 (dk_at dksX2_processBytes_3 11 rfl rfl)
theorem dX2_processBytes_84 : decode cX2_processBytes 84 = .ok (.getfield 7, 3) := dk_180 0 7 (dk_at dksX2_processBytes_3 12 rfl rfl)
theorem dX2_processBytes_87 : decode cX2_processBytes 87 = .ok (.aload_n 0, 1) := dk_42 (dk_at dksX2_processBytes_3 15 rfl rfl)
theorem dX2_processBytes_88 : decode cX2_processBytes 88 = .ok (.getfield 13, 3) := dk_180 0 13 (dk_at dksX2_processBytes_3 16 rfl rfl)
theorem dX2_processBytes_91 : decode cX2_processBytes 91 = .ok (.baload, 1) := dk_51 (dk_at dksX2_processBytes_3 19 rfl rfl)
theorem dX2_processBytes_92 : decode cX2_processBytes 92 = .ok (.istore 7, 2) := dk_54 7 (dk_at dksX2_processBytes_3 20 rfl rfl)
theorem dX2_processBytes_94 : decode cX2_processBytes 94 = .ok (.aload_n 0, 1) := dk_42 (dk_at dksX2_processBytes_3 22 rfl rfl)
theorem dX2_processBytes_95 : decode cX2_processBytes 95 = .ok (.getfield 7, 3) := dk_180 0 7 (dk_at dksX2_processBytes_4 0 rfl rfl)
theorem dX2_processBytes_98 : decode cX2_processBytes 98 = .ok (.aload_n 0, 1) := dk_42 (dk_at dksX2_processBytes_4 3 rfl rfl)
theorem dX2_processBytes_99 : decode cX2_processBytes 99 = .ok (.getfield 13, 3) := dk_180 0 13 (dk_at dksX2_processBytes_4 4 rfl rfl)
theorem dX2_processBytes_102 : decode cX2_processBytes 102 = .ok (.aload_n 0, 1) := dk_42 (dk_at dksX2_processBytes_4 7 rfl rfl)
theorem dX2_processBytes_103 : decode cX2_processBytes 103 = .ok (.getfield 7, 3) := dk_180 0 7 (dk_at dksX2_processBytes_4 8 rfl rfl)
theorem dX2_processBytes_106 : decode cX2_processBytes 106 = .ok (.aload_n 0, 1) := dk_42 (dk_at dksX2_processBytes_4 11 rfl rfl)
theorem dX2_processBytes_107 : decode cX2_processBytes 107 = .ok (.getfield 17, 3) := dk_180 0 17 (dk_at dksX2_processBytes_4 12 rfl rfl)
theorem dX2_processBytes_110 : decode cX2_processBytes 110 = .ok (.baload, 1) := dk_51 (dk_at dksX2_processBytes_4 15 rfl rfl)
theorem dX2_processBytes_111 : decode cX2_processBytes 111 = .ok (.bastore, 1) := dk_84 (dk_at dksX2_processBytes_4 16 rfl rfl)
theorem dX2_processBytes_112 : decode cX2_processBytes 112 = .ok (.aload_n 0, 1) := dk_42 (dk_at dksX2_processBytes_4 17 rfl rfl)
theorem dX2_processBytes_113 : decode cX2_processBytes 113 = .ok (.getfield 7, 3) := dk_180 0 7 (dk_at dksX2_processBytes_4 18 rfl rfl)
theorem dX2_processBytes_116 : decode cX2_processBytes 116 = .ok (.aload_n 0, 1) := dk_42 (dk_at dksX2_processBytes_4 21 rfl rfl)
theorem dX2_processBytes_117 : decode cX2_processBytes 117 = .ok (.getfield 17, 3) := dk_180 0 17 (dk_at dksX2_processBytes_5 0 rfl rfl)
theorem dX2_processBytes_120 : decode cX2_processBytes 120 = .ok (.iload 7, 2) := dk_21 7 (dk_at dksX2_processBytes_5 3 rfl rfl)
theorem dX2_processBytes_122 : decode cX2_processBytes 122 = .ok (.bastore, 1) := dk_84 (dk_at dksX2_processBytes_5 5 rfl rfl)
theorem dX2_processBytes_123 : decode cX2_processBytes 123 = .ok (.aload 4, 2) := dk_25 4 (dk_at dksX2_processBytes_5 6 rfl rfl)
theorem dX2_processBytes_125 : decode cX2_processBytes 125 = .ok (.iload 6, 2) := dk_21 6 (dk_at dksX2_processBytes_5 8 rfl rfl)
theorem dX2_processBytes_127 : decode cX2_processBytes 127 = .ok (.iload 5, 2) := dk_21 5 (dk_at dksX2_processBytes_5 10 rfl rfl)
theorem dX2_processBytes_129 : decode cX2_processBytes 129 = .ok (.iadd, 1) := dk_96 (dk_at dksX2_processBytes_5 12 rfl rfl)
theorem dX2_processBytes_130 : decode cX2_processBytes 130 = .ok (.aload_n 1, 1) := dk_43 (dk_at dksX2_processBytes_5 13 rfl rfl)
theorem dX2_processBytes_131 : decode cX2_processBytes 131 = .ok (.iload 6, 2) := dk_21 6 (dk_at dksX2_processBytes_5 14 rfl rfl)
theorem dX2_processBytes_133 : decode cX2_processBytes 133 = .ok (.iload_n 2, 1) := dk_28 (dk_at dksX2_processBytes_5 16 rfl rfl)
theorem dX2_processBytes_134 : decode cX2_processBytes 134 = .ok (.iadd, 1) := dk_96 (dk_at dksX2_processBytes_5 17 rfl rfl)
theorem dX2_processBytes_135 : decode cX2_processBytes 135 = .ok (.baload, 1) := dk_51 (dk_at dksX2_processBytes_5 18 rfl rfl)
theorem dX2_processBytes_136 : decode cX2_processBytes 136 = .ok (.aload_n 0, 1) := dk_42 (dk_at dksX2_processBytes_5 19 rfl rfl)
theorem dX2_processBytes_137 : decode cX2_processBytes 137 = .ok (.getfield 7, 3) := dk_180 0 7 (dk_at dksX2_processBytes_5 20 rfl rfl)
theorem dX2_processBytes_140 : decode cX2_processBytes 140 = .ok (.aload_n 0, 1) := dk_42 (dk_at dksX2_processBytes_5 23 rfl rfl)
theorem dX2_processBytes_141 : decode cX2_processBytes 141 = .ok (.getfield 7, 3) := dk_180 0 7 (dk_at dksX2_processBytes_6 0 rfl rfl)
theorem dX2_processBytes_144 : decode cX2_processBytes 144 = .ok (.aload_n 0, 1) := dk_42 (dk_at dksX2_processBytes_6 3 rfl rfl)
theorem dX2_processBytes_145 : decode cX2_processBytes 145 = .ok (.getfield 13, 3) := dk_180 0 13 (dk_at dksX2_processBytes_6 4 rfl rfl)
theorem dX2_processBytes_148 : decode cX2_processBytes 148 = .ok (.baload, 1) := dk_51 (dk_at dksX2_processBytes_6 7 rfl rfl)
theorem dX2_processBytes_149 : decode cX2_processBytes 149 = .ok (.aload_n 0, 1) := dk_42 (dk_at dksX2_processBytes_6 8 rfl rfl)
theorem dX2_processBytes_150 : decode cX2_processBytes 150 = .ok (.getfield 7, 3) := dk_180 0 7 (dk_at dksX2_processBytes_6 9 rfl rfl)
theorem dX2_processBytes_153 : decode cX2_processBytes 153 = .ok (.aload_n 0, 1) := dk_42 (dk_at dksX2_processBytes_6 12 rfl rfl)
theorem dX2_processBytes_154 : decode cX2_processBytes 154 = .ok (.getfield 17, 3) := dk_180 0 17 (dk_at dksX2_processBytes_6 13 rfl rfl)
theorem dX2_processBytes_157 : decode cX2_processBytes 157 = .ok (.baload, 1) := dk_51 (dk_at dksX2_processBytes_6 16 rfl rfl)
theorem dX2_processBytes_158 : decode cX2_processBytes 158 = .ok (.iadd, 1) := dk_96 (dk_at dksX2_processBytes_6 17 rfl rfl)
theorem dX2_processBytes_159 : decode cX2_processBytes 159 = .ok (.sipush 255, 3) := dk_17 0 255 (dk_at dksX2_processBytes_6 18 rfl rfl)
theorem dX2_processBytes_162 : decode cX2_processBytes 162 = .ok (.iand, 1) := dk_126 (dk_at dksX2_processBytes_6 21 rfl rfl)
theorem dX2_processBytes_163 : decode cX2_processBytes 163 = .ok (.baload, 1) := dk_51 (dk_at dksX2_processBytes_6 22 rfl rfl)
theorem dX2_processBytes_164 : decode cX2_processBytes 164 = .ok (.ixor, 1) := dk_130 (dk_at dksX2_processBytes_6 23 rfl rfl)
theorem dX2_processBytes_165 : decode cX2_processBytes 165 = .ok (.i2b, 1) := dk_145 (dk_at dksX2_processBytes_7 0 rfl rfl)
theorem dX2_processBytes_166 : decode cX2_processBytes 166 = .ok (.bastore, 1) := dk_84 (dk_at dksX2_processBytes_7 1 rfl rfl)
theorem dX2_processBytes_167 : decode cX2_processBytes 167 = .ok (.iinc 6 1, 3) := dk_132 6 1 (dk_at dksX2_processBytes_7 2 rfl rfl)
theorem dX2_processBytes_170 : decode cX2_processBytes 170 = .ok (.goto (-129), 3) := dk_167 255 127 (dk_at dksX2_processBytes_7 5 rfl rfl)
theorem dX2_processBytes_173 : decode cX2_processBytes 173 = .ok (.iload_n 3, 1) := dk_29 (dk_at dksX2_processBytes_7 8 rfl rfl)
theorem dX2_processBytes_174 : decode cX2_processBytes 174 = .ok (.ireturn, 1) := dk_172 (dk_at dksX2_processBytes_7 9 rfl rfl)
abbrev cX2_returnByte : ByteArray := prog_5_method_3_code
def yX2_returnByte : MethodName := ⟨RX2, "returnByte", "(B)B"⟩
def dkwX2_returnByte_4 : List UInt8 := [180, 0, 17, 51, 96, 17, 0, 255, 126, 51, 130, 145, 172]
abbrev dktX2_returnByte_4 : List UInt8 := dkwX2_returnByte_4 ++ []
def dkwX2_returnByte_3 : List UInt8 := [180, 0, 17, 28, 84, 27, 42, 180, 0, 7, 42, 180, 0, 7, 42, 180, 0, 13, 51, 42, 180, 0, 7, 42]
abbrev dktX2_returnByte_3 : List UInt8 := dkwX2_returnByte_3 ++ dktX2_returnByte_4
def dkwX2_returnByte_2 : List UInt8 := [180, 0, 7, 42, 180, 0, 13, 42, 180, 0, 7, 42, 180, 0, 17, 51, 84, 42, 180, 0, 7, 42]
abbrev dktX2_returnByte_2 : List UInt8 := dkwX2_returnByte_2 ++ dktX2_returnByte_3
def dkwX2_returnByte_1 : List UInt8 := [42, 180, 0, 17, 96, 17, 0, 255, 126, 181, 0, 17, 42, 180, 0, 7, 42, 180, 0, 13, 51, 61, 42]
abbrev dktX2_returnByte_1 : List UInt8 := dkwX2_returnByte_1 ++ dktX2_returnByte_2
def dkwX2_returnByte_0 : List UInt8 := [42, 42, 180, 0, 13, 4, 96, 17, 0, 255, 126, 181, 0, 13, 42, 42, 180, 0, 7, 42, 180, 0, 13, 51]
abbrev dktX2_returnByte_0 : List UInt8 := dkwX2_returnByte_0 ++ dktX2_returnByte_1
theorem dksX2_returnByte_0 : cX2_returnByte.data.toList.drop 0 = dktX2_returnByte_0 := by decide +kernel
theorem dksX2_returnByte_1 : cX2_returnByte.data.toList.drop 24 = dktX2_returnByte_1 := dk_seg dksX2_returnByte_0 24 rfl rfl
theorem dksX2_returnByte_2 : cX2_returnByte.data.toList.drop 47 = dktX2_returnByte_2 := dk_seg dksX2_returnByte_1 23 rfl rfl
theorem dksX2_returnByte_3 : cX2_returnByte.data.toList.drop 69 = dktX2_returnByte_3 := dk_seg dksX2_returnByte_2 22 rfl rfl
theorem dksX2_returnByte_4 : cX2_returnByte.data.toList.drop 93 = dktX2_returnByte_4 := dk_seg dksX2_returnByte_3 24 rfl rfl
theorem dX2_returnByte_0 : decode cX2_returnByte 0 = .ok (.aload_n 0, 1) := dk_42 (dk_at dksX2_returnByte_0 0 rfl rfl)
theorem dX2_returnByte_1 : decode cX2_returnByte 1 = .ok (.aload_n 0, 1) := dk_42 (dk_at dksX2_returnByte_0 1 rfl rfl)
theorem dX2_returnByte_2 : decode cX2_returnByte 2 = .ok (.getfield 13, 3) := dk_180 0 13 (dk_at dksX2_returnByte_0 2 rfl rfl)
theorem dX2_returnByte_5 : decode cX2_returnByte 5 = .ok (.iconst 1, 1) := dk_4 (dk_at dksX2_returnByte_0 5 rfl rfl)
theorem dX2_returnByte_6 : decode cX2_returnByte 6 = .ok (.iadd, 1) := dk_96 (dk_at dksX2_returnByte_0 6 rfl rfl)
theorem dX2_returnByte_7 : decode cX2_returnByte 7 = .ok (.sipush 255, 3) := dk_17 0 255 (dk_at dksX2_returnByte_0 7 rfl rfl)
theorem dX2_returnByte_10 : decode cX2_returnByte 10 = .ok (.iand, 1) := dk_126 (dk_at dksX2_returnByte_0 10 rfl rfl)
theorem dX2_returnByte_11 : decode cX2_returnByte 11 = .ok (.putfield 13, 3) := dk_181 0 13 (dk_at dksX2_returnByte_0 11 rfl rfl)
theorem dX2_returnByte_14 : decode cX2_returnByte 14 = .ok (.aload_n 0, 1) := dk_42 (dk_at dksX2_returnByte_0 14 rfl rfl)
theorem dX2_returnByte_15 : decode cX2_returnByte 15 = .ok (.aload_n 0, 1) := dk_42 (dk_at dksX2_returnByte_0 15 rfl rfl)
theorem dX2_returnByte_16 : decode cX2_returnByte 16 = .ok (.getfield 7, 3) := dk_180 0 7 (dk_at dksX2_returnByte_0 16 rfl rfl)
theorem dX2_returnByte_19 : decode cX2_returnByte 19 = .ok (.aload_n 0, 1) := dk_42 (dk_at dksX2_returnByte_0 19 rfl rfl)
theorem dX2_returnByte_20 : decode cX2_returnByte 20 = .ok (.getfield 13, 3) := dk_180 0 13 (dk_at dksX2_returnByte_0 20 rfl rfl)
theorem dX2_returnByte_23 : decode cX2_returnByte 23 = .ok (.baload, 1) := dk_51 (dk_at dksX2_returnByte_0 23 rfl rfl)
theorem dX2_returnByte_24 : decode cX2_returnByte 24 = .ok (.aload_n 0, 1) := dk_42 (dk_at dksX2_returnByte_1 0 rfl rfl)
theorem dX2_returnByte_25 : decode cX2_returnByte 25 = .ok (.getfield 17, 3) := dk_180 0 17 (dk_at dksX2_returnByte_1 1 rfl rfl)
theorem dX2_returnByte_28 : decode cX2_returnByte 28 = .ok (.iadd, 1) := dk_96 (dk_at dksX2_returnByte_1 4 rfl rfl)
theorem dX2_returnByte_29 : decode cX2_returnByte 29 = .ok (.sipush 255, 3) := dk_17 0 255 (dk_at dksX2_returnByte_1 5 rfl rfl)
theorem dX2_returnByte_32 : decode cX2_returnByte 32 = .ok (.iand, 1) := dk_126 (dk_at dksX2_returnByte_1 8 rfl rfl)
theorem dX2_returnByte_33 : decode cX2_returnByte 33 = .ok (.putfield 17, 3) := dk_181 0 17 (dk_at dksX2_returnByte_1 9 rfl rfl)
theorem dX2_returnByte_36 : decode cX2_returnByte 36 = .ok (.aload_n 0, 1) := dk_42 (dk_at dksX2_returnByte_1 12 rfl rfl)
theorem dX2_returnByte_37 : decode cX2_returnByte 37 = .ok (.getfield 7, 3) := dk_180 0 7 (dk_at dksX2_returnByte_1 13 rfl rfl)
theorem dX2_returnByte_40 : decode cX2_returnByte 40 = .ok (.aload_n 0, 1) := dk_42 (dk_at dksX2_returnByte_1 16 rfl rfl)
theorem dX2_returnByte_41 : decode cX2_returnByte 41 = .ok (.getfield 13, 3) := dk_180 0 13 (dk_at dksX2_returnByte_1 17 rfl rfl)
theorem dX2_returnByte_44 : decode cX2_returnByte 44 = .ok (.baload, 1) := dk_51 (dk_at dksX2_returnByte_1 20 rfl rfl)
theorem dX2_returnByte_45 : decode cX2_returnByte 45 = .ok (.istore_n 2, 1) := dk_61 (dk_at dksX2_returnByte_1 21 rfl rfl)
theorem dX2_returnByte_46 : decode cX2_returnByte 46 = .ok (.aload_n 0, 1) := dk_42 (dk_at dksX2_returnByte_1 22 rfl rfl)
theorem dX2_returnByte_47 : decode cX2_returnByte 47 = .ok (.getfield 7, 3) := dk_180 0 7 (dk_at dksX2_returnByte_2 0 rfl rfl)
theorem dX2_returnByte_50 : decode cX2_returnByte 50 = .ok (.aload_n 0, 1) := dk_42 (dk_at dksX2_returnByte_2 3 rfl rfl)
theorem dX2_returnByte_51 : decode cX2_returnByte 51 = .ok (.getfield 13, 3) := dk_180 0 13 (dk_at dksX2_returnByte_2 4 rfl rfl)
theorem dX2_returnByte_54 : decode cX2_returnByte 54 = .ok (.aload_n 0, 1) := dk_42 (dk_at dksX2_returnByte_2 7 rfl rfl)
theorem dX2_returnByte_55 : decode cX2_returnByte 55 = .ok (.getfield 7, 3) := dk_180 0 7 (dk_at dksX2_returnByte_2 8 rfl rfl)
theorem dX2_returnByte_58 : decode cX2_returnByte 58 = .ok (.aload_n 0, 1) := dk_42 (dk_at dksX2_returnByte_2 11 rfl rfl)
theorem dX2_returnByte_59 : decode cX2_returnByte 59 = .ok (.getfield 17, 3) := dk_180 0 17 (dk_at dksX2_returnByte_2 12 rfl rfl)
theorem dX2_returnByte_62 : decode cX2_returnByte 62 = .ok (.baload, 1) := dk_51 (dk_at dksX2_returnByte_2 15 rfl rfl)
theorem dX2_returnByte_63 : decode cX2_returnByte 63 = .ok (.bastore, 1) := dk_84 (dk_at dksX2_returnByte_2 16 rfl rfl)
theorem dX2_returnByte_64 : decode cX2_returnByte 64 = .ok (.aload_n 0, 1) := dk_42 (dk_at dksX2_returnByte_2 17 rfl rfl)
theorem dX2_returnByte_65 : decode cX2_returnByte 65 = .ok (.getfield 7, 3) := dk_180 0 7 (dk_at dksX2_returnByte_2 18 rfl rfl)
theorem dX2_returnByte_68 : decode cX2_returnByte 68 = .ok (.aload_n 0, 1) := dk_42 (dk_at dksX2_returnByte_2 21 rfl rfl)
theorem dX2_returnByte_69 : decode cX2_returnByte 69 = .ok (.getfield 17, 3) := dk_180 0 17 (dk_at dksX2_returnByte_3 0 rfl rfl)
theorem dX2_returnByte_72 : decode cX2_returnByte 72 = .ok (.iload_n 2, 1) := dk_28 (dk_at dksX2_returnByte_3 3 rfl rfl)
theorem dX2_returnByte_73 : decode cX2_returnByte 73 = .ok (.bastore, 1) := dk_84 (dk_at dksX2_returnByte_3 4 rfl rfl)
theorem dX2_returnByte_74 : decode cX2_returnByte 74 = .ok (.iload_n 1, 1) := dk_27 (dk_at dksX2_returnByte_3 5 rfl rfl)
theorem dX2_returnByte_75 : decode cX2_returnByte 75 = .ok (.aload_n 0, 1) := dk_42 (dk_at dksX2_returnByte_3 6 rfl rfl)
theorem dX2_returnByte_76 : decode cX2_returnByte 76 = .ok (.getfield 7, 3) := dk_180 0 7 (dk_at dksX2_returnByte_3 7 rfl rfl)
theorem dX2_returnByte_79 : decode cX2_returnByte 79 = .ok (.aload_n 0, 1) := dk_42 (dk_at dksX2_returnByte_3 10 rfl rfl)
theorem dX2_returnByte_80 : decode cX2_returnByte 80 = .ok (.getfield 7, 3) := dk_180 0 7 (dk_at dksX2_returnByte_3 11 rfl rfl)
theorem dX2_returnByte_83 : decode cX2_returnByte 83 = .ok (.aload_n 0, 1) := dk_42 (dk_at dksX2_returnByte_3 14 rfl rfl)
theorem dX2_returnByte_84 : decode cX2_returnByte 84 = .ok (.getfield 13, 3) := dk_180 0 13 (dk_at dksX2_returnByte_3 15 rfl rfl)
theorem dX2_returnByte_87 : decode cX2_returnByte 87 = .ok (.baload, 1) := dk_51 (dk_at dksX2_returnByte_3 18 rfl rfl)
theorem dX2_returnByte_88 : decode cX2_returnByte 88 = .ok (.aload_n 0, 1) := dk_42 (dk_at dksX2_returnByte_3 19 rfl rfl)
theorem dX2_returnByte_89 : decode cX2_returnByte 89 = .ok (.getfield 7, 3) := dk_180 0 7 (dk_at dksX2_returnByte_3 20 rfl rfl)
theorem dX2_returnByte_92 : decode cX2_returnByte 92 = .ok (.aload_n 0, 1) := dk_42 (dk_at dksX2_returnByte_3 23 rfl rfl)
theorem dX2_returnByte_93 : decode cX2_returnByte 93 = .ok (.getfield 17, 3) := dk_180 0 17 (dk_at dksX2_returnByte_4 0 rfl rfl)
theorem dX2_returnByte_96 : decode cX2_returnByte 96 = .ok (.baload, 1) := dk_51 (dk_at dksX2_returnByte_4 3 rfl rfl)
theorem dX2_returnByte_97 : decode cX2_returnByte 97 = .ok (.iadd, 1) := dk_96 (dk_at dksX2_returnByte_4 4 rfl rfl)
theorem dX2_returnByte_98 : decode cX2_returnByte 98 = .ok (.sipush 255, 3) := dk_17 0 255 (dk_at dksX2_returnByte_4 5 rfl rfl)
theorem dX2_returnByte_101 : decode cX2_returnByte 101 = .ok (.iand, 1) := dk_126 (dk_at dksX2_returnByte_4 8 rfl rfl)
theorem dX2_returnByte_102 : decode cX2_returnByte 102 = .ok (.baload, 1) := dk_51 (dk_at dksX2_returnByte_4 9 rfl rfl)
theorem dX2_returnByte_103 : decode cX2_returnByte 103 = .ok (.ixor, 1) := dk_130 (dk_at dksX2_returnByte_4 10 rfl rfl)
theorem dX2_returnByte_104 : decode cX2_returnByte 104 = .ok (.i2b, 1) := dk_145 (dk_at dksX2_returnByte_4 11 rfl rfl)
theorem dX2_returnByte_105 : decode cX2_returnByte 105 = .ok (.ireturn, 1) := dk_172 (dk_at dksX2_returnByte_4 12 rfl rfl)
abbrev cX2_reset : ByteArray := prog_5_method_5_code
def yX2_reset : MethodName := ⟨RX2, "reset", "()V"⟩
def dkwX2_reset_0 : List UInt8 := [42, 42, 180, 0, 20, 182, 0, 33, 177]
abbrev dktX2_reset_0 : List UInt8 := dkwX2_reset_0 ++ []
theorem dksX2_reset_0 : cX2_reset.data.toList.drop 0 = dktX2_reset_0 := by decide +kernel
theorem dX2_reset_0 : decode cX2_reset 0 = .ok (.aload_n 0, 1) := dk_42 (dk_at dksX2_reset_0 0 rfl rfl)
theorem dX2_reset_1 : decode cX2_reset 1 = .ok (.aload_n 0, 1) := dk_42 (dk_at dksX2_reset_0 1 rfl rfl)
theorem dX2_reset_2 : decode cX2_reset 2 = .ok (.getfield 20, 3) := dk_180 0 20 (dk_at dksX2_reset_0 2 rfl rfl)
theorem dX2_reset_5 : decode cX2_reset 5 = .ok (.invokevirtual 33, 3) := dk_182 0 33 (dk_at dksX2_reset_0 5 rfl rfl)
theorem dX2_reset_8 : decode cX2_reset 8 = .ok (.return_, 1) := dk_177 (dk_at dksX2_reset_0 8 rfl rfl)
abbrev cX2_setKey : ByteArray := prog_5_method_6_code
def yX2_setKey : MethodName := ⟨RX2, "setKey", "([B)V"⟩
def dkwX2_setKey_5 : List UInt8 := [21, 5, 84, 28, 4, 96, 43, 190, 112, 61, 132, 4, 1, 167, 255, 186, 177]
abbrev dktX2_setKey_5 : List UInt8 := dkwX2_setKey_5 ++ []
def dkwX2_setKey_4 : List UInt8 := [21, 4, 51, 54, 5, 42, 180, 0, 7, 21, 4, 42, 180, 0, 7, 29, 51, 84, 42, 180, 0, 7, 29]
abbrev dktX2_setKey_4 : List UInt8 := dkwX2_setKey_4 ++ dktX2_setKey_5
def dkwX2_setKey_3 : List UInt8 := [51, 17, 0, 255, 126, 42, 180, 0, 7, 21, 4, 51, 96, 29, 96, 17, 0, 255, 126, 62, 42, 180, 0, 7]
abbrev dktX2_setKey_3 : List UInt8 := dkwX2_setKey_3 ++ dktX2_setKey_4
def dkwX2_setKey_2 : List UInt8 := [84, 132, 2, 1, 167, 255, 238, 3, 61, 3, 62, 3, 54, 4, 21, 4, 17, 1, 0, 162, 0, 68, 43, 28]
abbrev dktX2_setKey_2 : List UInt8 := dkwX2_setKey_2 ++ dktX2_setKey_3
def dkwX2_setKey_1 : List UInt8 := [17, 1, 0, 188, 8, 181, 0, 7, 3, 61, 28, 17, 1, 0, 162, 0, 17, 42, 180, 0, 7, 28, 28, 145]
abbrev dktX2_setKey_1 : List UInt8 := dkwX2_setKey_1 ++ dktX2_setKey_2
def dkwX2_setKey_0 : List UInt8 := [42, 43, 181, 0, 20, 42, 3, 181, 0, 13, 42, 3, 181, 0, 17, 42, 180, 0, 7, 199, 0, 12, 42]
abbrev dktX2_setKey_0 : List UInt8 := dkwX2_setKey_0 ++ dktX2_setKey_1
theorem dksX2_setKey_0 : cX2_setKey.data.toList.drop 0 = dktX2_setKey_0 := by decide +kernel
theorem dksX2_setKey_1 : cX2_setKey.data.toList.drop 23 = dktX2_setKey_1 := dk_seg dksX2_setKey_0 23 rfl rfl
theorem dksX2_setKey_2 : cX2_setKey.data.toList.drop 47 = dktX2_setKey_2 := dk_seg dksX2_setKey_1 24 rfl rfl
theorem dksX2_setKey_3 : cX2_setKey.data.toList.drop 71 = dktX2_setKey_3 := dk_seg dksX2_setKey_2 24 rfl rfl
theorem dksX2_setKey_4 : cX2_setKey.data.toList.drop 95 = dktX2_setKey_4 := dk_seg dksX2_setKey_3 24 rfl rfl
theorem dksX2_setKey_5 : cX2_setKey.data.toList.drop 118 = dktX2_setKey_5 := dk_seg dksX2_setKey_4 23 rfl rfl
theorem dX2_setKey_0 : decode cX2_setKey 0 = .ok (.aload_n 0, 1) := dk_42 (dk_at dksX2_setKey_0 0 rfl rfl)
theorem dX2_setKey_1 : decode cX2_setKey 1 = .ok (.aload_n 1, 1) := dk_43 (dk_at dksX2_setKey_0 1 rfl rfl)
theorem dX2_setKey_2 : decode cX2_setKey 2 = .ok (.putfield 20, 3) := dk_181 0 20 (dk_at dksX2_setKey_0 2 rfl rfl)
theorem dX2_setKey_5 : decode cX2_setKey 5 = .ok (.aload_n 0, 1) := dk_42 (dk_at dksX2_setKey_0 5 rfl rfl)
theorem dX2_setKey_6 : decode cX2_setKey 6 = .ok (.iconst 0, 1) := dk_3 (dk_at dksX2_setKey_0 6 rfl rfl)
theorem dX2_setKey_7 : decode cX2_setKey 7 = .ok (.putfield 13, 3) := dk_181 0 13 (dk_at dksX2_setKey_0 7 rfl rfl)
theorem dX2_setKey_10 : decode cX2_setKey 10 = .ok (.aload_n 0, 1) := dk_42 (dk_at dksX2_setKey_0 10 rfl rfl)
theorem dX2_setKey_11 : decode cX2_setKey 11 = .ok (.iconst 0, 1) := dk_3 (dk_at dksX2_setKey_0 11 rfl rfl)
theorem dX2_setKey_12 : decode cX2_setKey 12 = .ok (.putfield 17, 3) := dk_181 0 17 (dk_at dksX2_setKey_0 12 rfl rfl)
theorem dX2_setKey_15 : decode cX2_setKey 15 = .ok (.aload_n 0, 1) := dk_42 (dk_at dksX2_setKey_0 15 rfl rfl)
theorem dX2_setKey_16 : decode cX2_setKey 16 = .ok (.getfield 7, 3) := dk_180 0 7 (dk_at dksX2_setKey_0 16 rfl rfl)
theorem dX2_setKey_19 : decode cX2_setKey 19 = .ok (.ifnonnull 12, 3) := dk_199 0 12 (dk_at dksX2_setKey_0 19 rfl rfl)
theorem dX2_setKey_22 : decode cX2_setKey 22 = .ok (.aload_n 0, 1) := dk_42 (dk_at dksX2_setKey_0 22 rfl rfl)
theorem dX2_setKey_23 : decode cX2_setKey 23 = .ok (.sipush 256, 3) := dk_17 1 0 (dk_at dksX2_setKey_1 0 rfl rfl)
theorem dX2_setKey_26 : decode cX2_setKey 26 = .ok (.newarray .byte, 2) := dk_188_8 (dk_at dksX2_setKey_1 3 rfl rfl)
theorem dX2_setKey_28 : decode cX2_setKey 28 = .ok (.putfield 7, 3) := dk_181 0 7 (dk_at dksX2_setKey_1 5 rfl rfl)
theorem dX2_setKey_31 : decode cX2_setKey 31 = .ok (.iconst 0, 1) := dk_3 (dk_at dksX2_setKey_1 8 rfl rfl)
theorem dX2_setKey_32 : decode cX2_setKey 32 = .ok (.istore_n 2, 1) := dk_61 (dk_at dksX2_setKey_1 9 rfl rfl)
theorem dX2_setKey_33 : decode cX2_setKey 33 = .ok (.iload_n 2, 1) := dk_28 (dk_at dksX2_setKey_1 10 rfl rfl)
theorem dX2_setKey_34 : decode cX2_setKey 34 = .ok (.sipush 256, 3) := dk_17 1 0 (dk_at dksX2_setKey_1 11 rfl rfl)
theorem dX2_setKey_37 : decode cX2_setKey 37 = .ok (.if_icmp .ge 17, 3) := dk_162 0 17 (dk_at dksX2_setKey_1 14 rfl rfl)
theorem dX2_setKey_40 : decode cX2_setKey 40 = .ok (.aload_n 0, 1) := dk_42 (dk_at dksX2_setKey_1 17 rfl rfl)
theorem dX2_setKey_41 : decode cX2_setKey 41 = .ok (.getfield 7, 3) := dk_180 0 7 (dk_at dksX2_setKey_1 18 rfl rfl)
theorem dX2_setKey_44 : decode cX2_setKey 44 = .ok (.iload_n 2, 1) := dk_28 (dk_at dksX2_setKey_1 21 rfl rfl)
theorem dX2_setKey_45 : decode cX2_setKey 45 = .ok (.iload_n 2, 1) := dk_28 (dk_at dksX2_setKey_1 22 rfl rfl)
theorem dX2_setKey_46 : decode cX2_setKey 46 = .ok (.i2b, 1) := dk_145 (dk_at dksX2_setKey_1 23 rfl rfl)
theorem dX2_setKey_47 : decode cX2_setKey 47 = .ok (.bastore, 1) := dk_84 (dk_at dksX2_setKey_2 0 rfl rfl)
theorem dX2_setKey_48 : decode cX2_setKey 48 = .ok (.iinc 2 1, 3) := dk_132 2 1 (dk_at dksX2_setKey_2 1 rfl rfl)
theorem dX2_setKey_51 : decode cX2_setKey 51 = .ok (.goto (-18), 3) := dk_167 255 238 (dk_at dksX2_setKey_2 4 rfl rfl)
theorem dX2_setKey_54 : decode cX2_setKey 54 = .ok (.iconst 0, 1) := dk_3 (dk_at dksX2_setKey_2 7 rfl rfl)
theorem dX2_setKey_55 : decode cX2_setKey 55 = .ok (.istore_n 2, 1) := dk_61 (dk_at dksX2_setKey_2 8 rfl rfl)
theorem dX2_setKey_56 : decode cX2_setKey 56 = .ok (.iconst 0, 1) := dk_3 (dk_at dksX2_setKey_2 9 rfl rfl)
theorem dX2_setKey_57 : decode cX2_setKey 57 = .ok (.istore_n 3, 1) := dk_62 (dk_at dksX2_setKey_2 10 rfl rfl)
theorem dX2_setKey_58 : decode cX2_setKey 58 = .ok (.iconst 0, 1) := dk_3 (dk_at dksX2_setKey_2 11 rfl rfl)
theorem dX2_setKey_59 : decode cX2_setKey 59 = .ok (.istore 4, 2) := dk_54 4 (dk_at dksX2_setKey_2 12 rfl rfl)
theorem dX2_setKey_61 : decode cX2_setKey 61 = .ok (.iload 4, 2) := dk_21 4 (dk_at dksX2_setKey_2 14 rfl rfl)
theorem dX2_setKey_63 : decode cX2_setKey 63 = .ok (.sipush 256, 3) := dk_17 1 0 (dk_at dksX2_setKey_2 16 rfl rfl)
theorem dX2_setKey_66 : decode cX2_setKey 66 = .ok (.if_icmp .ge 68, 3) := dk_162 0 68 (dk_at dksX2_setKey_2 19 rfl rfl)
theorem dX2_setKey_69 : decode cX2_setKey 69 = .ok (.aload_n 1, 1) := dk_43 (dk_at dksX2_setKey_2 22 rfl rfl)
theorem dX2_setKey_70 : decode cX2_setKey 70 = .ok (.iload_n 2, 1) := dk_28 (dk_at dksX2_setKey_2 23 rfl rfl)
theorem dX2_setKey_71 : decode cX2_setKey 71 = .ok (.baload, 1) := dk_51 (dk_at dksX2_setKey_3 0 rfl rfl)
theorem dX2_setKey_72 : decode cX2_setKey 72 = .ok (.sipush 255, 3) := dk_17 0 255 (dk_at dksX2_setKey_3 1 rfl rfl)
theorem dX2_setKey_75 : decode cX2_setKey 75 = .ok (.iand, 1) := dk_126 (dk_at dksX2_setKey_3 4 rfl rfl)
theorem dX2_setKey_76 : decode cX2_setKey 76 = .ok (.aload_n 0, 1) := dk_42 (dk_at dksX2_setKey_3 5 rfl rfl)
theorem dX2_setKey_77 : decode cX2_setKey 77 = .ok (.getfield 7, 3) := dk_180 0 7 (dk_at dksX2_setKey_3 6 rfl rfl)
theorem dX2_setKey_80 : decode cX2_setKey 80 = .ok (.iload 4, 2) := dk_21 4 (dk_at dksX2_setKey_3 9 rfl rfl)
theorem dX2_setKey_82 : decode cX2_setKey 82 = .ok (.baload, 1) := dk_51 (dk_at dksX2_setKey_3 11 rfl rfl)
theorem dX2_setKey_83 : decode cX2_setKey 83 = .ok (.iadd, 1) := dk_96 (dk_at dksX2_setKey_3 12 rfl rfl)
theorem dX2_setKey_84 : decode cX2_setKey 84 = .ok (.iload_n 3, 1) := dk_29 (dk_at dksX2_setKey_3 13 rfl rfl)
theorem dX2_setKey_85 : decode cX2_setKey 85 = .ok (.iadd, 1) := dk_96 (dk_at dksX2_setKey_3 14 rfl rfl)
theorem dX2_setKey_86 : decode cX2_setKey 86 = .ok (.sipush 255, 3) := dk_17 0 255 (dk_at dksX2_setKey_3 15 rfl rfl)
theorem dX2_setKey_89 : decode cX2_setKey 89 = .ok (.iand, 1) := dk_126 (dk_at dksX2_setKey_3 18 rfl rfl)
theorem dX2_setKey_90 : decode cX2_setKey 90 = .ok (.istore_n 3, 1) := dk_62 (dk_at dksX2_setKey_3 19 rfl rfl)
theorem dX2_setKey_91 : decode cX2_setKey 91 = .ok (.aload_n 0, 1) := dk_42 (dk_at dksX2_setKey_3 20 rfl rfl)
theorem dX2_setKey_92 : decode cX2_setKey 92 = .ok (.getfield 7, 3) := dk_180 0 7 (dk_at dksX2_setKey_3 21 rfl rfl)
theorem dX2_setKey_95 : decode cX2_setKey 95 = .ok (.iload 4, 2) := dk_21 4 (dk_at dksX2_setKey_4 0 rfl rfl)
theorem dX2_setKey_97 : decode cX2_setKey 97 = .ok (.baload, 1) := dk_51 (dk_at dksX2_setKey_4 2 rfl rfl)
theorem dX2_setKey_98 : decode cX2_setKey 98 = .ok (.istore 5, 2) := dk_54 5 (dk_at dksX2_setKey_4 3 rfl rfl)
theorem dX2_setKey_100 : decode cX2_setKey 100 = .ok (.aload_n 0, 1) := dk_42 (dk_at dksX2_setKey_4 5 rfl rfl)
theorem dX2_setKey_101 : decode cX2_setKey 101 = .ok (.getfield 7, 3) := dk_180 0 7 (dk_at dksX2_setKey_4 6 rfl rfl)
theorem dX2_setKey_104 : decode cX2_setKey 104 = .ok (.iload 4, 2) := dk_21 4 (dk_at dksX2_setKey_4 9 rfl rfl)
theorem dX2_setKey_106 : decode cX2_setKey 106 = .ok (.aload_n 0, 1) := dk_42 (dk_at dksX2_setKey_4 11 rfl rfl)
theorem dX2_setKey_107 : decode cX2_setKey 107 = .ok (.getfield 7, 3) := dk_180 0 7 (dk_at dksX2_setKey_4 12 rfl rfl)
theorem dX2_setKey_110 : decode cX2_setKey 110 = .ok (.iload_n 3, 1) := dk_29 (dk_at dksX2_setKey_4 15 rfl rfl)
theorem dX2_setKey_111 : decode cX2_setKey 111 = .ok (.baload, 1) := dk_51 (dk_at dksX2_setKey_4 16 rfl rfl)
theorem dX2_setKey_112 : decode cX2_setKey 112 = .ok (.bastore, 1) := dk_84 (dk_at dksX2_setKey_4 17 rfl rfl)
theorem dX2_setKey_113 : decode cX2_setKey 113 = .ok (.aload_n 0, 1) := dk_42 (dk_at dksX2_setKey_4 18 rfl rfl)
theorem dX2_setKey_114 : decode cX2_setKey 114 = .ok (.getfield 7, 3) := dk_180 0 7 (dk_at dksX2_setKey_4 19 rfl rfl)
theorem dX2_setKey_117 : decode cX2_setKey 117 = .ok (.iload_n 3, 1) := dk_29 (dk_at dksX2_setKey_4 22 rfl rfl)
theorem dX2_setKey_118 : decode cX2_setKey 118 = .ok (.iload 5, 2) := dk_21 5 (dk_at dksX2_setKey_5 0 rfl rfl)
theorem dX2_setKey_120 : decode cX2_setKey 120 = .ok (.bastore, 1) := dk_84 (dk_at dksX2_setKey_5 2 rfl rfl)
theorem dX2_setKey_121 : decode cX2_setKey 121 = .ok (.iload_n 2, 1) := dk_28 (dk_at dksX2_setKey_5 3 rfl rfl)
theorem dX2_setKey_122 : decode cX2_setKey 122 = .ok (.iconst 1, 1) := dk_4 (dk_at dksX2_setKey_5 4 rfl rfl)
theorem dX2_setKey_123 : decode cX2_setKey 123 = .ok (.iadd, 1) := dk_96 (dk_at dksX2_setKey_5 5 rfl rfl)
theorem dX2_setKey_124 : decode cX2_setKey 124 = .ok (.aload_n 1, 1) := dk_43 (dk_at dksX2_setKey_5 6 rfl rfl)
theorem dX2_setKey_125 : decode cX2_setKey 125 = .ok (.arraylength, 1) := dk_190 (dk_at dksX2_setKey_5 7 rfl rfl)
theorem dX2_setKey_126 : decode cX2_setKey 126 = .ok (.irem, 1) := dk_112 (dk_at dksX2_setKey_5 8 rfl rfl)
theorem dX2_setKey_127 : decode cX2_setKey 127 = .ok (.istore_n 2, 1) := dk_61 (dk_at dksX2_setKey_5 9 rfl rfl)
theorem dX2_setKey_128 : decode cX2_setKey 128 = .ok (.iinc 4 1, 3) := dk_132 4 1 (dk_at dksX2_setKey_5 10 rfl rfl)
theorem dX2_setKey_131 : decode cX2_setKey 131 = .ok (.goto (-70), 3) := dk_167 255 186 (dk_at dksX2_setKey_5 13 rfl rfl)
theorem dX2_setKey_134 : decode cX2_setKey 134 = .ok (.return_, 1) := dk_177 (dk_at dksX2_setKey_5 16 rfl rfl)
abbrev cX2_init : ByteArray := prog_5_method_1_code
def yX2_init : MethodName := ⟨RX2, "<init>", "()V"⟩
def dkwX2_init_1 : List UInt8 := [177]
abbrev dktX2_init_1 : List UInt8 := dkwX2_init_1 ++ []
def dkwX2_init_0 : List UInt8 := [42, 183, 0, 1, 42, 1, 181, 0, 7, 42, 3, 181, 0, 13, 42, 3, 181, 0, 17, 42, 1, 181, 0, 20]
abbrev dktX2_init_0 : List UInt8 := dkwX2_init_0 ++ dktX2_init_1
theorem dksX2_init_0 : cX2_init.data.toList.drop 0 = dktX2_init_0 := by decide +kernel
theorem dksX2_init_1 : cX2_init.data.toList.drop 24 = dktX2_init_1 := dk_seg dksX2_init_0 24 rfl rfl
theorem dX2_init_0 : decode cX2_init 0 = .ok (.aload_n 0, 1) := dk_42 (dk_at dksX2_init_0 0 rfl rfl)
theorem dX2_init_1 : decode cX2_init 1 = .ok (.invokespecial 1, 3) := dk_183 0 1 (dk_at dksX2_init_0 1 rfl rfl)
theorem dX2_init_4 : decode cX2_init 4 = .ok (.aload_n 0, 1) := dk_42 (dk_at dksX2_init_0 4 rfl rfl)
theorem dX2_init_5 : decode cX2_init 5 = .ok (.aconst_null, 1) := dk_1 (dk_at dksX2_init_0 5 rfl rfl)
theorem dX2_init_6 : decode cX2_init 6 = .ok (.putfield 7, 3) := dk_181 0 7 (dk_at dksX2_init_0 6 rfl rfl)
theorem dX2_init_9 : decode cX2_init 9 = .ok (.aload_n 0, 1) := dk_42 (dk_at dksX2_init_0 9 rfl rfl)
theorem dX2_init_10 : decode cX2_init 10 = .ok (.iconst 0, 1) := dk_3 (dk_at dksX2_init_0 10 rfl rfl)
theorem dX2_init_11 : decode cX2_init 11 = .ok (.putfield 13, 3) := dk_181 0 13 (dk_at dksX2_init_0 11 rfl rfl)
theorem dX2_init_14 : decode cX2_init 14 = .ok (.aload_n 0, 1) := dk_42 (dk_at dksX2_init_0 14 rfl rfl)
theorem dX2_init_15 : decode cX2_init 15 = .ok (.iconst 0, 1) := dk_3 (dk_at dksX2_init_0 15 rfl rfl)
theorem dX2_init_16 : decode cX2_init 16 = .ok (.putfield 17, 3) := dk_181 0 17 (dk_at dksX2_init_0 16 rfl rfl)
theorem dX2_init_19 : decode cX2_init 19 = .ok (.aload_n 0, 1) := dk_42 (dk_at dksX2_init_0 19 rfl rfl)
theorem dX2_init_20 : decode cX2_init 20 = .ok (.aconst_null, 1) := dk_1 (dk_at dksX2_init_0 20 rfl rfl)
theorem dX2_init_21 : decode cX2_init 21 = .ok (.putfield 20, 3) := dk_181 0 20 (dk_at dksX2_init_0 21 rfl rfl)
theorem dX2_init_24 : decode cX2_init 24 = .ok (.return_, 1) := dk_177 (dk_at dksX2_init_1 0 rfl rfl)
abbrev cX2_init_2 : ByteArray := prog_5_method_2_code
def yX2_init_2 : MethodName := ⟨RX2, "init", "(ZLCipherParameters;)V"⟩
def dkwX2_init_2_1 : List UInt8 := [42, 180, 0, 20, 182, 0, 33, 177, 187, 0, 37, 89, 18, 39, 183, 0, 41, 191]
abbrev dktX2_init_2_1 : List UInt8 := dkwX2_init_2_1 ++ []
def dkwX2_init_2_0 : List UInt8 := [44, 193, 0, 23, 153, 0, 28, 42, 44, 192, 0, 23, 182, 0, 25, 181, 0, 20, 42, 27, 181, 0, 29, 42]
abbrev dktX2_init_2_0 : List UInt8 := dkwX2_init_2_0 ++ dktX2_init_2_1
theorem dksX2_init_2_0 : cX2_init_2.data.toList.drop 0 = dktX2_init_2_0 := by decide +kernel
theorem dksX2_init_2_1 : cX2_init_2.data.toList.drop 24 = dktX2_init_2_1 := dk_seg dksX2_init_2_0 24 rfl rfl
theorem dX2_init_2_0 : decode cX2_init_2 0 = .ok (.aload_n 2, 1) := dk_44 (dk_at dksX2_init_2_0 0 rfl rfl)
theorem dX2_init_2_1 : decode cX2_init_2 1 = .ok (.instanceof 23, 3) := dk_193 0 23 (dk_at dksX2_init_2_0 1 rfl rfl)
theorem dX2_init_2_4 : decode cX2_init_2 4 = .ok (.ifCond .eq 28, 3) := dk_153 0 28 (dk_at dksX2_init_2_0 4 rfl rfl)
theorem dX2_init_2_7 : decode cX2_init_2 7 = .ok (.aload_n 0, 1) := dk_42 (dk_at dksX2_init_2_0 7 rfl rfl)
theorem dX2_init_2_8 : decode cX2_init_2 8 = .ok (.aload_n 2, 1) := dk_44 (dk_at dksX2_init_2_0 8 rfl rfl)
theorem dX2_init_2_9 : decode cX2_init_2 9 = .ok (.checkcast 23, 3) := dk_192 0 23 (dk_at dksX2_init_2_0 9 rfl rfl)
theorem dX2_init_2_12 : decode cX2_init_2 12 = .ok (.invokevirtual 25, 3) := dk_182 0 25 (dk_at dksX2_init_2_0 12 rfl rfl)
theorem dX2_init_2_15 : decode cX2_init_2 15 = .ok (.putfield 20, 3) := dk_181 0 20 (dk_at dksX2_init_2_0 15 rfl rfl)
theorem dX2_init_2_18 : decode cX2_init_2 18 = .ok (.aload_n 0, 1) := dk_42 (dk_at dksX2_init_2_0 18 rfl rfl)
theorem dX2_init_2_19 : decode cX2_init_2 19 = .ok (.iload_n 1, 1) := dk_27 (dk_at dksX2_init_2_0 19 rfl rfl)
theorem dX2_init_2_20 : decode cX2_init_2 20 = .ok (.putfield 29, 3) := dk_181 0 29 (dk_at dksX2_init_2_0 20 rfl rfl)
theorem dX2_init_2_23 : decode cX2_init_2 23 = .ok (.aload_n 0, 1) := dk_42 (dk_at dksX2_init_2_0 23 rfl rfl)
theorem dX2_init_2_24 : decode cX2_init_2 24 = .ok (.aload_n 0, 1) := dk_42 (dk_at dksX2_init_2_1 0 rfl rfl)
theorem dX2_init_2_25 : decode cX2_init_2 25 = .ok (.getfield 20, 3) := dk_180 0 20 (dk_at dksX2_init_2_1 1 rfl rfl)
theorem dX2_init_2_28 : decode cX2_init_2 28 = .ok (.invokevirtual 33, 3) := dk_182 0 33 (dk_at dksX2_init_2_1 4 rfl rfl)
theorem dX2_init_2_31 : decode cX2_init_2 31 = .ok (.return_, 1) := dk_177 (dk_at dksX2_init_2_1 7 rfl rfl)
theorem dX2_init_2_32 : decode cX2_init_2 32 = .ok (.new 37, 3) := dk_187 0 37 (dk_at dksX2_init_2_1 8 rfl rfl)
theorem dX2_init_2_35 : decode cX2_init_2 35 = .ok (.dup, 1) := dk_89 (dk_at dksX2_init_2_1 11 rfl rfl)
theorem dX2_init_2_36 : decode cX2_init_2 36 = .ok (.ldc 39, 2) := dk_18 39 (dk_at dksX2_init_2_1 12 rfl rfl)
theorem dX2_init_2_38 : decode cX2_init_2 38 = .ok (.invokespecial 41, 3) := dk_183 0 41 (dk_at dksX2_init_2_1 14 rfl rfl)
theorem dX2_init_2_41 : decode cX2_init_2 41 = .ok (.athrow, 1) := dk_191 (dk_at dksX2_init_2_1 17 rfl rfl)
theorem q6 : (Jvm.Cond.initialized "RC4Engine") ∈ lw_all := lw_g (lw_at lw_m1 2 rfl) rfl
theorem q31 : (Jvm.Cond.instanceMethod ({ cls := "RC4Engine", name := "processBytes", desc := "([BII[BI)I" } : Jvm.MethodName)) ∈ lw_all := lw_g (lw_at lw_m1 27 rfl) rfl
theorem q32 : (Jvm.Cond.selects "RC4Engine" ({ cls := "RC4Engine", name := "processBytes", desc := "([BII[BI)I" } : Jvm.MethodName) ({ cls := "RC4Engine", name := "processBytes", desc := "([BII[BI)I" } : Jvm.MethodName)) ∈ lw_all := lw_g (lw_at lw_m1 28 rfl) rfl
theorem q33 : (Jvm.Cond.code ({ cls := "RC4Engine", name := "processBytes", desc := "([BII[BI)I" } : Jvm.MethodName) prog_5_method_4_code (8 : Nat) (Option.some Jvm.ClassFile.FieldType.int)) ∈ lw_all := lw_g (lw_at lw_m1 29 rfl) rfl
theorem q34 : (Jvm.Cond.classLink "RC4Engine" (44 : Nat) "DataLengthException") ∈ lw_all := lw_g (lw_at lw_m1 30 rfl) rfl
theorem q78 : (Jvm.Cond.stringRef "RC4Engine" (46 : Nat) "input buffer too short") ∈ lw_tbl := lw_at lw_m1 74 rfl
theorem q79 : (Jvm.Cond.methodLink "RC4Engine" (48 : Nat) ({ cls := "DataLengthException", name := "<init>", desc := "(Ljava/lang/String;)V" } : Jvm.MethodName)) ∈ lw_all := lw_g (lw_at lw_m1 75 rfl) rfl
theorem q108 : (Jvm.Cond.classLink "RC4Engine" (49 : Nat) "OutputLengthException") ∈ lw_all := lw_g (lw_at lw_m1 104 rfl) rfl
theorem q118 : (Jvm.Cond.stringRef "RC4Engine" (51 : Nat) "output buffer too short") ∈ lw_tbl := lw_at lw_m1 114 rfl
theorem q119 : (Jvm.Cond.methodLink "RC4Engine" (53 : Nat) ({ cls := "OutputLengthException", name := "<init>", desc := "(Ljava/lang/String;)V" } : Jvm.MethodName)) ∈ lw_all := lw_g (lw_at lw_m1 115 rfl) rfl
theorem q130 : (Jvm.Cond.instanceMethod ({ cls := "RC4Engine", name := "returnByte", desc := "(B)B" } : Jvm.MethodName)) ∈ lw_all := lw_g (lw_at lw_m1 126 rfl) rfl
theorem q131 : (Jvm.Cond.selects "RC4Engine" ({ cls := "RC4Engine", name := "returnByte", desc := "(B)B" } : Jvm.MethodName) ({ cls := "RC4Engine", name := "returnByte", desc := "(B)B" } : Jvm.MethodName)) ∈ lw_all := lw_g (lw_at lw_m1 127 rfl) rfl
theorem q132 : (Jvm.Cond.code ({ cls := "RC4Engine", name := "returnByte", desc := "(B)B" } : Jvm.MethodName) prog_5_method_3_code (3 : Nat) (Option.some Jvm.ClassFile.FieldType.byte)) ∈ lw_all := lw_g (lw_at lw_m1 128 rfl) rfl
theorem q138 : (Jvm.Cond.instanceMethod ({ cls := "RC4Engine", name := "reset", desc := "()V" } : Jvm.MethodName)) ∈ lw_all := lw_g (lw_at lw_m1 134 rfl) rfl
theorem q139 : (Jvm.Cond.selects "RC4Engine" ({ cls := "RC4Engine", name := "reset", desc := "()V" } : Jvm.MethodName) ({ cls := "RC4Engine", name := "reset", desc := "()V" } : Jvm.MethodName)) ∈ lw_all := lw_g (lw_at lw_m1 135 rfl) rfl
theorem q140 : (Jvm.Cond.code ({ cls := "RC4Engine", name := "reset", desc := "()V" } : Jvm.MethodName) prog_5_method_5_code (1 : Nat) (Option.none : Option Jvm.ClassFile.FieldType)) ∈ lw_all := lw_g (lw_at lw_m1 136 rfl) rfl
theorem q141 : (Jvm.Cond.methodLink "RC4Engine" (33 : Nat) ({ cls := "RC4Engine", name := "setKey", desc := "([B)V" } : Jvm.MethodName)) ∈ lw_all := lw_g (lw_at lw_m1 137 rfl) rfl
theorem q142 : (Jvm.Cond.privateMethod ({ cls := "RC4Engine", name := "setKey", desc := "([B)V" } : Jvm.MethodName)) ∈ lw_tbl := lw_at lw_m1 138 rfl
theorem q143 : (Jvm.Cond.instanceMethod ({ cls := "RC4Engine", name := "setKey", desc := "([B)V" } : Jvm.MethodName)) ∈ lw_all := lw_g (lw_at lw_m1 139 rfl) rfl
theorem q144 : (Jvm.Cond.instantiable "RC4Engine" (5 : Nat)) ∈ lw_all := lw_g (lw_at lw_m1 140 rfl) rfl
theorem q145 : (Jvm.Cond.code ({ cls := "RC4Engine", name := "setKey", desc := "([B)V" } : Jvm.MethodName) prog_5_method_6_code (6 : Nat) (Option.none : Option Jvm.ClassFile.FieldType)) ∈ lw_all := lw_g (lw_at lw_m1 141 rfl) rfl
theorem q163 : (Jvm.Cond.instanceMethod ({ cls := "RC4Engine", name := "<init>", desc := "()V" } : Jvm.MethodName)) ∈ lw_all := lw_g (lw_at lw_m1 159 rfl) rfl
theorem q164 : (Jvm.Cond.code ({ cls := "RC4Engine", name := "<init>", desc := "()V" } : Jvm.MethodName) prog_5_method_1_code (1 : Nat) (Option.none : Option Jvm.ClassFile.FieldType)) ∈ lw_all := lw_g (lw_at lw_m1 160 rfl) rfl
theorem q165 : (Jvm.Cond.methodLink "RC4Engine" (1 : Nat) ({ cls := "java/lang/Object", name := "<init>", desc := "()V" } : Jvm.MethodName)) ∈ lw_all := lw_g (lw_at lw_m1 161 rfl) rfl
theorem q166 : (Jvm.Cond.fieldLink "RC4Engine" (7 : Nat) "RC4Engine" "engineState" "[B") ∈ lw_all := lw_g (lw_at lw_m1 162 rfl) rfl
theorem q167 : (Jvm.Cond.fieldLink "RC4Engine" (13 : Nat) "RC4Engine" "x" "I") ∈ lw_all := lw_g (lw_at lw_m1 163 rfl) rfl
theorem q168 : (Jvm.Cond.fieldLink "RC4Engine" (17 : Nat) "RC4Engine" "y" "I") ∈ lw_all := lw_g (lw_at lw_m1 164 rfl) rfl
theorem q169 : (Jvm.Cond.fieldLink "RC4Engine" (20 : Nat) "RC4Engine" "workingKey" "[B") ∈ lw_all := lw_g (lw_at lw_m1 165 rfl) rfl
theorem q170 : (Jvm.Cond.fieldLink "RC4Engine" (29 : Nat) "RC4Engine" "forEncryption" "Z") ∈ lw_all := lw_g (lw_at lw_m1 166 rfl) rfl
theorem q171 : (Jvm.Cond.lays "RC4Engine" "RC4Engine" "engineState" "[B") ∈ lw_all := lw_g (lw_at lw_m1 167 rfl) rfl
theorem q172 : (Jvm.Cond.soleField "RC4Engine" "engineState") ∈ lw_all := lw_g (lw_at lw_m1 168 rfl) rfl
theorem q173 : (Jvm.Cond.lays "RC4Engine" "RC4Engine" "x" "I") ∈ lw_all := lw_g (lw_at lw_m1 169 rfl) rfl
theorem q174 : (Jvm.Cond.soleField "RC4Engine" "x") ∈ lw_all := lw_g (lw_at lw_m1 170 rfl) rfl
theorem q175 : (Jvm.Cond.lays "RC4Engine" "RC4Engine" "y" "I") ∈ lw_all := lw_g (lw_at lw_m1 171 rfl) rfl
theorem q176 : (Jvm.Cond.soleField "RC4Engine" "y") ∈ lw_all := lw_g (lw_at lw_m1 172 rfl) rfl
theorem q177 : (Jvm.Cond.lays "RC4Engine" "RC4Engine" "workingKey" "[B") ∈ lw_all := lw_g (lw_at lw_m1 173 rfl) rfl
theorem q178 : (Jvm.Cond.soleField "RC4Engine" "workingKey") ∈ lw_all := lw_g (lw_at lw_m1 174 rfl) rfl
theorem q179 : (Jvm.Cond.lays "RC4Engine" "RC4Engine" "forEncryption" "Z") ∈ lw_all := lw_g (lw_at lw_m1 175 rfl) rfl
theorem q180 : (Jvm.Cond.soleField "RC4Engine" "forEncryption") ∈ lw_all := lw_g (lw_at lw_m1 176 rfl) rfl
theorem q181 : (Jvm.Cond.superclass "RC4Engine" "java/lang/Object") ∈ lw_all := lw_g (lw_at lw_m1 177 rfl) rfl
theorem q250 : (Jvm.Cond.instanceMethod ({ cls := "RC4Engine", name := "init", desc := "(ZLCipherParameters;)V" } : Jvm.MethodName)) ∈ lw_all := lw_g (lw_at lw_m2 6 rfl) rfl
theorem q251 : (Jvm.Cond.selects "RC4Engine" ({ cls := "RC4Engine", name := "init", desc := "(ZLCipherParameters;)V" } : Jvm.MethodName) ({ cls := "RC4Engine", name := "init", desc := "(ZLCipherParameters;)V" } : Jvm.MethodName)) ∈ lw_all := lw_g (lw_at lw_m2 7 rfl) rfl
theorem q252 : (Jvm.Cond.code ({ cls := "RC4Engine", name := "init", desc := "(ZLCipherParameters;)V" } : Jvm.MethodName) prog_5_method_2_code (3 : Nat) (Option.none : Option Jvm.ClassFile.FieldType)) ∈ lw_all := lw_g (lw_at lw_m2 8 rfl) rfl
theorem q253 : (Jvm.Cond.classLink "RC4Engine" (23 : Nat) "KeyParameter") ∈ lw_all := lw_g (lw_at lw_m2 9 rfl) rfl
theorem q254 : (Jvm.Cond.methodLink "RC4Engine" (25 : Nat) ({ cls := "KeyParameter", name := "getKey", desc := "()[B" } : Jvm.MethodName)) ∈ lw_all := lw_g (lw_at lw_m2 10 rfl) rfl
theorem q258 : (Jvm.Cond.classLink "RC4Engine" (37 : Nat) "java/lang/IllegalArgumentException") ∈ lw_all := lw_g (lw_at lw_m2 14 rfl) rfl
theorem q267 : (Jvm.Cond.stringRef "RC4Engine" (39 : Nat) "left out") ∈ lw_tbl := lw_at lw_m2 23 rfl
theorem q268 : (Jvm.Cond.methodLink "RC4Engine" (41 : Nat) ({ cls := "java/lang/IllegalArgumentException", name := "<init>", desc := "(Ljava/lang/String;)V" } : Jvm.MethodName)) ∈ lw_all := lw_g (lw_at lw_m2 24 rfl) rfl
theorem in_X2 : ∀ w ∈ wsX20, w ∈ lw_all := lw_in wsX20 [171, 173, 175, 177, 179] (by decide +kernel) (by decide +kernel)

/-! KeyParameter -/
set_option maxRecDepth 100000
def RX3 : String := "KeyParameter"
def TX3 : u_T := fun k => match k with
  | _ => ("KeyParameter", "key", "[B", false)
def tyX3 : Nat → FieldType := fun k => match k with
  | _ => .array .byte
abbrev wsX30 : List Cond := u_ws RX3 TX3 1
theorem nmX3 : ∀ a, a < 1 → ∀ b, b < 1 → a ≠ b → (TX3 a).2.1 ≠ (TX3 b).2.1 := by decide +kernel
theorem tyX3_ok : ∀ k, k < 1 → parseFieldDescriptor (TX3 k).2.2.1 = some (tyX3 k) := by decide +kernel
abbrev cX3_init : ByteArray := prog_3_method_1_code
def yX3_init : MethodName := ⟨RX3, "<init>", "([B)V"⟩
def dkwX3_init_0 : List UInt8 := [42, 43, 3, 43, 190, 183, 0, 1, 177]
abbrev dktX3_init_0 : List UInt8 := dkwX3_init_0 ++ []
theorem dksX3_init_0 : cX3_init.data.toList.drop 0 = dktX3_init_0 := by decide +kernel
theorem dX3_init_0 : decode cX3_init 0 = .ok (.aload_n 0, 1) := dk_42 (dk_at dksX3_init_0 0 rfl rfl)
theorem dX3_init_1 : decode cX3_init 1 = .ok (.aload_n 1, 1) := dk_43 (dk_at dksX3_init_0 1 rfl rfl)
theorem dX3_init_2 : decode cX3_init 2 = .ok (.iconst 0, 1) := dk_3 (dk_at dksX3_init_0 2 rfl rfl)
theorem dX3_init_3 : decode cX3_init 3 = .ok (.aload_n 1, 1) := dk_43 (dk_at dksX3_init_0 3 rfl rfl)
theorem dX3_init_4 : decode cX3_init 4 = .ok (.arraylength, 1) := dk_190 (dk_at dksX3_init_0 4 rfl rfl)
theorem dX3_init_5 : decode cX3_init 5 = .ok (.invokespecial 1, 3) := dk_183 0 1 (dk_at dksX3_init_0 5 rfl rfl)
theorem dX3_init_8 : decode cX3_init 8 = .ok (.return_, 1) := dk_177 (dk_at dksX3_init_0 8 rfl rfl)
abbrev cX3_init_2 : ByteArray := prog_3_method_2_code
def yX3_init_2 : MethodName := ⟨RX3, "<init>", "([BII)V"⟩
def dkwX3_init_2_0 : List UInt8 := [42, 29, 183, 0, 7, 43, 28, 42, 180, 0, 10, 3, 29, 184, 0, 14, 177]
abbrev dktX3_init_2_0 : List UInt8 := dkwX3_init_2_0 ++ []
theorem dksX3_init_2_0 : cX3_init_2.data.toList.drop 0 = dktX3_init_2_0 := by decide +kernel
theorem dX3_init_2_0 : decode cX3_init_2 0 = .ok (.aload_n 0, 1) := dk_42 (dk_at dksX3_init_2_0 0 rfl rfl)
theorem dX3_init_2_1 : decode cX3_init_2 1 = .ok (.iload_n 3, 1) := dk_29 (dk_at dksX3_init_2_0 1 rfl rfl)
theorem dX3_init_2_2 : decode cX3_init_2 2 = .ok (.invokespecial 7, 3) := dk_183 0 7 (dk_at dksX3_init_2_0 2 rfl rfl)
theorem dX3_init_2_5 : decode cX3_init_2 5 = .ok (.aload_n 1, 1) := dk_43 (dk_at dksX3_init_2_0 5 rfl rfl)
theorem dX3_init_2_6 : decode cX3_init_2 6 = .ok (.iload_n 2, 1) := dk_28 (dk_at dksX3_init_2_0 6 rfl rfl)
theorem dX3_init_2_7 : decode cX3_init_2 7 = .ok (.aload_n 0, 1) := dk_42 (dk_at dksX3_init_2_0 7 rfl rfl)
theorem dX3_init_2_8 : decode cX3_init_2 8 = .ok (.getfield 10, 3) := dk_180 0 10 (dk_at dksX3_init_2_0 8 rfl rfl)
theorem dX3_init_2_11 : decode cX3_init_2 11 = .ok (.iconst 0, 1) := dk_3 (dk_at dksX3_init_2_0 11 rfl rfl)
theorem dX3_init_2_12 : decode cX3_init_2 12 = .ok (.iload_n 3, 1) := dk_29 (dk_at dksX3_init_2_0 12 rfl rfl)
theorem dX3_init_2_13 : decode cX3_init_2 13 = .ok (.invokestatic 14, 3) := dk_184 0 14 (dk_at dksX3_init_2_0 13 rfl rfl)
theorem dX3_init_2_16 : decode cX3_init_2 16 = .ok (.return_, 1) := dk_177 (dk_at dksX3_init_2_0 16 rfl rfl)
abbrev cX3_init_3 : ByteArray := prog_3_method_3_code
def yX3_init_3 : MethodName := ⟨RX3, "<init>", "(I)V"⟩
def dkwX3_init_3_0 : List UInt8 := [42, 183, 0, 20, 42, 27, 188, 8, 181, 0, 10, 177]
abbrev dktX3_init_3_0 : List UInt8 := dkwX3_init_3_0 ++ []
theorem dksX3_init_3_0 : cX3_init_3.data.toList.drop 0 = dktX3_init_3_0 := by decide +kernel
theorem dX3_init_3_0 : decode cX3_init_3 0 = .ok (.aload_n 0, 1) := dk_42 (dk_at dksX3_init_3_0 0 rfl rfl)
theorem dX3_init_3_1 : decode cX3_init_3 1 = .ok (.invokespecial 20, 3) := dk_183 0 20 (dk_at dksX3_init_3_0 1 rfl rfl)
theorem dX3_init_3_4 : decode cX3_init_3 4 = .ok (.aload_n 0, 1) := dk_42 (dk_at dksX3_init_3_0 4 rfl rfl)
theorem dX3_init_3_5 : decode cX3_init_3 5 = .ok (.iload_n 1, 1) := dk_27 (dk_at dksX3_init_3_0 5 rfl rfl)
theorem dX3_init_3_6 : decode cX3_init_3 6 = .ok (.newarray .byte, 2) := dk_188_8 (dk_at dksX3_init_3_0 6 rfl rfl)
theorem dX3_init_3_8 : decode cX3_init_3 8 = .ok (.putfield 10, 3) := dk_181 0 10 (dk_at dksX3_init_3_0 8 rfl rfl)
theorem dX3_init_3_11 : decode cX3_init_3 11 = .ok (.return_, 1) := dk_177 (dk_at dksX3_init_3_0 11 rfl rfl)
abbrev cX3_getKey : ByteArray := prog_3_method_4_code
def yX3_getKey : MethodName := ⟨RX3, "getKey", "()[B"⟩
theorem dX3_getKey_0 : decode cX3_getKey 0 = .ok (.aload_n 0, 1) := by decide +kernel
theorem dX3_getKey_1 : decode cX3_getKey 1 = .ok (.getfield 10, 3) := by decide +kernel
theorem dX3_getKey_4 : decode cX3_getKey 4 = .ok (.areturn, 1) := by decide +kernel
theorem q7 : (Jvm.Cond.initialized "KeyParameter") ∈ lw_all := lw_g (lw_at lw_m1 3 rfl) rfl
theorem q231 : (Jvm.Cond.instantiable "KeyParameter" (1 : Nat)) ∈ lw_all := lw_g (lw_at lw_m1 227 rfl) rfl
theorem q233 : (Jvm.Cond.instanceMethod ({ cls := "KeyParameter", name := "<init>", desc := "([B)V" } : Jvm.MethodName)) ∈ lw_all := lw_g (lw_at lw_m1 229 rfl) rfl
theorem q234 : (Jvm.Cond.code ({ cls := "KeyParameter", name := "<init>", desc := "([B)V" } : Jvm.MethodName) prog_3_method_1_code (2 : Nat) (Option.none : Option Jvm.ClassFile.FieldType)) ∈ lw_all := lw_g (lw_at lw_m1 230 rfl) rfl
theorem q235 : (Jvm.Cond.methodLink "KeyParameter" (1 : Nat) ({ cls := "KeyParameter", name := "<init>", desc := "([BII)V" } : Jvm.MethodName)) ∈ lw_all := lw_g (lw_at lw_m1 231 rfl) rfl
theorem q236 : (Jvm.Cond.instanceMethod ({ cls := "KeyParameter", name := "<init>", desc := "([BII)V" } : Jvm.MethodName)) ∈ lw_all := lw_g (lw_at lw_m1 232 rfl) rfl
theorem q237 : (Jvm.Cond.code ({ cls := "KeyParameter", name := "<init>", desc := "([BII)V" } : Jvm.MethodName) prog_3_method_2_code (4 : Nat) (Option.none : Option Jvm.ClassFile.FieldType)) ∈ lw_all := lw_g (lw_at lw_m1 233 rfl) rfl
theorem q238 : (Jvm.Cond.methodLink "KeyParameter" (7 : Nat) ({ cls := "KeyParameter", name := "<init>", desc := "(I)V" } : Jvm.MethodName)) ∈ lw_all := lw_g (lw_at lw_m1 234 rfl) rfl
theorem q239 : (Jvm.Cond.instanceMethod ({ cls := "KeyParameter", name := "<init>", desc := "(I)V" } : Jvm.MethodName)) ∈ lw_all := lw_g (lw_at lw_m1 235 rfl) rfl
theorem q240 : (Jvm.Cond.code ({ cls := "KeyParameter", name := "<init>", desc := "(I)V" } : Jvm.MethodName) prog_3_method_3_code (2 : Nat) (Option.none : Option Jvm.ClassFile.FieldType)) ∈ lw_all := lw_g (lw_at lw_m1 236 rfl) rfl
theorem q241 : (Jvm.Cond.methodLink "KeyParameter" (20 : Nat) ({ cls := "java/lang/Object", name := "<init>", desc := "()V" } : Jvm.MethodName)) ∈ lw_all := lw_g (lw_at lw_m1 237 rfl) rfl
theorem q242 : (Jvm.Cond.fieldLink "KeyParameter" (10 : Nat) "KeyParameter" "key" "[B") ∈ lw_all := lw_g (lw_at lw_m1 238 rfl) rfl
theorem q243 : (Jvm.Cond.lays "KeyParameter" "KeyParameter" "key" "[B") ∈ lw_all := lw_g (lw_at lw_m1 239 rfl) rfl
theorem q244 : (Jvm.Cond.soleField "KeyParameter" "key") ∈ lw_all := lw_g (lw_at lw_m2 0 rfl) rfl
theorem q245 : (Jvm.Cond.superclass "KeyParameter" "java/lang/Object") ∈ lw_all := lw_g (lw_at lw_m2 1 rfl) rfl
theorem q246 : (Jvm.Cond.methodLink "KeyParameter" (14 : Nat) ({ cls := "java/lang/System", name := "arraycopy", desc := "(Ljava/lang/Object;ILjava/lang/Object;II)V" } : Jvm.MethodName)) ∈ lw_all := lw_g (lw_at lw_m2 2 rfl) rfl
theorem q255 : (Jvm.Cond.instanceMethod ({ cls := "KeyParameter", name := "getKey", desc := "()[B" } : Jvm.MethodName)) ∈ lw_all := lw_g (lw_at lw_m2 11 rfl) rfl
theorem q256 : (Jvm.Cond.selects "KeyParameter" ({ cls := "KeyParameter", name := "getKey", desc := "()[B" } : Jvm.MethodName) ({ cls := "KeyParameter", name := "getKey", desc := "()[B" } : Jvm.MethodName)) ∈ lw_all := lw_g (lw_at lw_m2 12 rfl) rfl
theorem q257 : (Jvm.Cond.code ({ cls := "KeyParameter", name := "getKey", desc := "()[B" } : Jvm.MethodName) prog_3_method_4_code (1 : Nat) (Option.some (Jvm.ClassFile.FieldType.array Jvm.ClassFile.FieldType.byte))) ∈ lw_all := lw_g (lw_at lw_m2 13 rfl) rfl
theorem in_X3 : ∀ w ∈ wsX30, w ∈ lw_all := lw_in wsX30 [243] (by decide +kernel) (by decide +kernel)

/-! RcFourDeskLaw -/
set_option maxRecDepth 100000
def RX0 : String := "RcFourDeskLaw"
abbrev cX0_cell : ByteArray := method_2_code
def yX0_cell : MethodName := ⟨RX0, "cell", "([II)I"⟩
def dkwX0_cell_0 : List UInt8 := [27, 42, 190, 162, 0, 9, 42, 27, 46, 167, 0, 4, 3, 172]
abbrev dktX0_cell_0 : List UInt8 := dkwX0_cell_0 ++ []
theorem dksX0_cell_0 : cX0_cell.data.toList.drop 0 = dktX0_cell_0 := by decide +kernel
theorem dX0_cell_0 : decode cX0_cell 0 = .ok (.iload_n 1, 1) := dk_27 (dk_at dksX0_cell_0 0 rfl rfl)
theorem dX0_cell_1 : decode cX0_cell 1 = .ok (.aload_n 0, 1) := dk_42 (dk_at dksX0_cell_0 1 rfl rfl)
theorem dX0_cell_2 : decode cX0_cell 2 = .ok (.arraylength, 1) := dk_190 (dk_at dksX0_cell_0 2 rfl rfl)
theorem dX0_cell_3 : decode cX0_cell 3 = .ok (.if_icmp .ge 9, 3) := dk_162 0 9 (dk_at dksX0_cell_0 3 rfl rfl)
theorem dX0_cell_6 : decode cX0_cell 6 = .ok (.aload_n 0, 1) := dk_42 (dk_at dksX0_cell_0 6 rfl rfl)
theorem dX0_cell_7 : decode cX0_cell 7 = .ok (.iload_n 1, 1) := dk_27 (dk_at dksX0_cell_0 7 rfl rfl)
theorem dX0_cell_8 : decode cX0_cell 8 = .ok (.iaload, 1) := dk_46 (dk_at dksX0_cell_0 8 rfl rfl)
theorem dX0_cell_9 : decode cX0_cell 9 = .ok (.goto 4, 3) := dk_167 0 4 (dk_at dksX0_cell_0 9 rfl rfl)
theorem dX0_cell_12 : decode cX0_cell 12 = .ok (.iconst 0, 1) := dk_3 (dk_at dksX0_cell_0 12 rfl rfl)
theorem dX0_cell_13 : decode cX0_cell 13 = .ok (.ireturn, 1) := dk_172 (dk_at dksX0_cell_0 13 rfl rfl)
abbrev cX0_made : ByteArray := method_3_code
def yX0_made : MethodName := ⟨RX0, "made", "([I)LRcFourDesk;"⟩
def dkwX0_made_6 : List UInt8 := [43, 42, 16, 12, 184, 0, 10, 182, 0, 32, 43, 176]
abbrev dktX0_made_6 : List UInt8 := dkwX0_made_6 ++ []
def dkwX0_made_5 : List UInt8 := [184, 0, 10, 42, 16, 9, 184, 0, 10, 42, 16, 10, 184, 0, 10, 42, 16, 11, 184, 0, 10, 182, 0, 28]
abbrev dktX0_made_5 : List UInt8 := dkwX0_made_5 ++ dktX0_made_6
def dkwX0_made_4 : List UInt8 := [42, 8, 184, 0, 10, 42, 16, 6, 184, 0, 10, 42, 16, 7, 184, 0, 10, 182, 0, 24, 43, 42, 16, 8]
abbrev dktX0_made_4 : List UInt8 := dkwX0_made_4 ++ dktX0_made_5
def dkwX0_made_3 : List UInt8 := [4, 184, 0, 10, 42, 5, 184, 0, 10, 42, 6, 184, 0, 10, 182, 0, 24, 43, 4, 42, 7, 184, 0, 10]
abbrev dktX0_made_3 : List UInt8 := dkwX0_made_3 ++ dktX0_made_4
def dkwX0_made_2 : List UInt8 := [132, 2, 4, 167, 255, 216, 43, 42, 16, 13, 184, 0, 10, 182, 0, 20, 43, 3, 42, 3, 184, 0, 10, 42]
abbrev dktX0_made_2 : List UInt8 := dkwX0_made_2 ++ dktX0_made_3
def dkwX0_made_1 : List UInt8 := [28, 4, 96, 184, 0, 10, 42, 28, 5, 96, 184, 0, 10, 42, 28, 6, 96, 184, 0, 10, 182, 0, 16, 87]
abbrev dktX0_made_1 : List UInt8 := dkwX0_made_1 ++ dktX0_made_2
def dkwX0_made_0 : List UInt8 := [187, 0, 7, 89, 183, 0, 9, 76, 16, 20, 61, 28, 16, 52, 162, 0, 40, 43, 42, 28, 184, 0, 10, 42]
abbrev dktX0_made_0 : List UInt8 := dkwX0_made_0 ++ dktX0_made_1
theorem dksX0_made_0 : cX0_made.data.toList.drop 0 = dktX0_made_0 := by decide +kernel
theorem dksX0_made_1 : cX0_made.data.toList.drop 24 = dktX0_made_1 := dk_seg dksX0_made_0 24 rfl rfl
theorem dksX0_made_2 : cX0_made.data.toList.drop 48 = dktX0_made_2 := dk_seg dksX0_made_1 24 rfl rfl
theorem dksX0_made_3 : cX0_made.data.toList.drop 72 = dktX0_made_3 := dk_seg dksX0_made_2 24 rfl rfl
theorem dksX0_made_4 : cX0_made.data.toList.drop 96 = dktX0_made_4 := dk_seg dksX0_made_3 24 rfl rfl
theorem dksX0_made_5 : cX0_made.data.toList.drop 120 = dktX0_made_5 := dk_seg dksX0_made_4 24 rfl rfl
theorem dksX0_made_6 : cX0_made.data.toList.drop 144 = dktX0_made_6 := dk_seg dksX0_made_5 24 rfl rfl
theorem dX0_made_0 : decode cX0_made 0 = .ok (.new 7, 3) := dk_187 0 7 (dk_at dksX0_made_0 0 rfl rfl)
theorem dX0_made_3 : decode cX0_made 3 = .ok (.dup, 1) := dk_89 (dk_at dksX0_made_0 3 rfl rfl)
theorem dX0_made_4 : decode cX0_made 4 = .ok (.invokespecial 9, 3) := dk_183 0 9 (dk_at dksX0_made_0 4 rfl rfl)
theorem dX0_made_7 : decode cX0_made 7 = .ok (.astore_n 1, 1) := dk_76 (dk_at dksX0_made_0 7 rfl rfl)
theorem dX0_made_8 : decode cX0_made 8 = .ok (.bipush 20, 2) := dk_16 20 (dk_at dksX0_made_0 8 rfl rfl)
theorem dX0_made_10 : decode cX0_made 10 = .ok (.istore_n 2, 1) := dk_61 (dk_at dksX0_made_0 10 rfl rfl)
theorem dX0_made_11 : decode cX0_made 11 = .ok (.iload_n 2, 1) := dk_28 (dk_at dksX0_made_0 11 rfl rfl)
theorem dX0_made_12 : decode cX0_made 12 = .ok (.bipush 52, 2) := dk_16 52 (dk_at dksX0_made_0 12 rfl rfl)
theorem dX0_made_14 : decode cX0_made 14 = .ok (.if_icmp .ge 40, 3) := dk_162 0 40 (dk_at dksX0_made_0 14 rfl rfl)
theorem dX0_made_17 : decode cX0_made 17 = .ok (.aload_n 1, 1) := dk_43 (dk_at dksX0_made_0 17 rfl rfl)
theorem dX0_made_18 : decode cX0_made 18 = .ok (.aload_n 0, 1) := dk_42 (dk_at dksX0_made_0 18 rfl rfl)
theorem dX0_made_19 : decode cX0_made 19 = .ok (.iload_n 2, 1) := dk_28 (dk_at dksX0_made_0 19 rfl rfl)
theorem dX0_made_20 : decode cX0_made 20 = .ok (.invokestatic 10, 3) := dk_184 0 10 (dk_at dksX0_made_0 20 rfl rfl)
theorem dX0_made_23 : decode cX0_made 23 = .ok (.aload_n 0, 1) := dk_42 (dk_at dksX0_made_0 23 rfl rfl)
theorem dX0_made_24 : decode cX0_made 24 = .ok (.iload_n 2, 1) := dk_28 (dk_at dksX0_made_1 0 rfl rfl)
theorem dX0_made_25 : decode cX0_made 25 = .ok (.iconst 1, 1) := dk_4 (dk_at dksX0_made_1 1 rfl rfl)
theorem dX0_made_26 : decode cX0_made 26 = .ok (.iadd, 1) := dk_96 (dk_at dksX0_made_1 2 rfl rfl)
theorem dX0_made_27 : decode cX0_made 27 = .ok (.invokestatic 10, 3) := dk_184 0 10 (dk_at dksX0_made_1 3 rfl rfl)
theorem dX0_made_30 : decode cX0_made 30 = .ok (.aload_n 0, 1) := dk_42 (dk_at dksX0_made_1 6 rfl rfl)
theorem dX0_made_31 : decode cX0_made 31 = .ok (.iload_n 2, 1) := dk_28 (dk_at dksX0_made_1 7 rfl rfl)
theorem dX0_made_32 : decode cX0_made 32 = .ok (.iconst 2, 1) := dk_5 (dk_at dksX0_made_1 8 rfl rfl)
theorem dX0_made_33 : decode cX0_made 33 = .ok (.iadd, 1) := dk_96 (dk_at dksX0_made_1 9 rfl rfl)
theorem dX0_made_34 : decode cX0_made 34 = .ok (.invokestatic 10, 3) := dk_184 0 10 (dk_at dksX0_made_1 10 rfl rfl)
theorem dX0_made_37 : decode cX0_made 37 = .ok (.aload_n 0, 1) := dk_42 (dk_at dksX0_made_1 13 rfl rfl)
theorem dX0_made_38 : decode cX0_made 38 = .ok (.iload_n 2, 1) := dk_28 (dk_at dksX0_made_1 14 rfl rfl)
theorem dX0_made_39 : decode cX0_made 39 = .ok (.iconst 3, 1) := dk_6 (dk_at dksX0_made_1 15 rfl rfl)
theorem dX0_made_40 : decode cX0_made 40 = .ok (.iadd, 1) := dk_96 (dk_at dksX0_made_1 16 rfl rfl)
theorem dX0_made_41 : decode cX0_made 41 = .ok (.invokestatic 10, 3) := dk_184 0 10 (dk_at dksX0_made_1 17 rfl rfl)
theorem dX0_made_44 : decode cX0_made 44 = .ok (.invokevirtual 16, 3) := dk_182 0 16 (dk_at dksX0_made_1 20 rfl rfl)
theorem dX0_made_47 : decode cX0_made 47 = .ok (.pop, 1) := dk_87 (dk_at dksX0_made_1 23 rfl rfl)
theorem dX0_made_48 : decode cX0_made 48 = .ok (.iinc 2 4, 3) := dk_132 2 4 (dk_at dksX0_made_2 0 rfl rfl)
theorem dX0_made_51 : decode cX0_made 51 = .ok (.goto (-40), 3) := dk_167 255 216 (dk_at dksX0_made_2 3 rfl rfl)
theorem dX0_made_54 : decode cX0_made 54 = .ok (.aload_n 1, 1) := dk_43 (dk_at dksX0_made_2 6 rfl rfl)
theorem dX0_made_55 : decode cX0_made 55 = .ok (.aload_n 0, 1) := dk_42 (dk_at dksX0_made_2 7 rfl rfl)
theorem dX0_made_56 : decode cX0_made 56 = .ok (.bipush 13, 2) := dk_16 13 (dk_at dksX0_made_2 8 rfl rfl)
theorem dX0_made_58 : decode cX0_made 58 = .ok (.invokestatic 10, 3) := dk_184 0 10 (dk_at dksX0_made_2 10 rfl rfl)
theorem dX0_made_61 : decode cX0_made 61 = .ok (.invokevirtual 20, 3) := dk_182 0 20 (dk_at dksX0_made_2 13 rfl rfl)
theorem dX0_made_64 : decode cX0_made 64 = .ok (.aload_n 1, 1) := dk_43 (dk_at dksX0_made_2 16 rfl rfl)
theorem dX0_made_65 : decode cX0_made 65 = .ok (.iconst 0, 1) := dk_3 (dk_at dksX0_made_2 17 rfl rfl)
theorem dX0_made_66 : decode cX0_made 66 = .ok (.aload_n 0, 1) := dk_42 (dk_at dksX0_made_2 18 rfl rfl)
theorem dX0_made_67 : decode cX0_made 67 = .ok (.iconst 0, 1) := dk_3 (dk_at dksX0_made_2 19 rfl rfl)
theorem dX0_made_68 : decode cX0_made 68 = .ok (.invokestatic 10, 3) := dk_184 0 10 (dk_at dksX0_made_2 20 rfl rfl)
theorem dX0_made_71 : decode cX0_made 71 = .ok (.aload_n 0, 1) := dk_42 (dk_at dksX0_made_2 23 rfl rfl)
theorem dX0_made_72 : decode cX0_made 72 = .ok (.iconst 1, 1) := dk_4 (dk_at dksX0_made_3 0 rfl rfl)
theorem dX0_made_73 : decode cX0_made 73 = .ok (.invokestatic 10, 3) := dk_184 0 10 (dk_at dksX0_made_3 1 rfl rfl)
theorem dX0_made_76 : decode cX0_made 76 = .ok (.aload_n 0, 1) := dk_42 (dk_at dksX0_made_3 4 rfl rfl)
theorem dX0_made_77 : decode cX0_made 77 = .ok (.iconst 2, 1) := dk_5 (dk_at dksX0_made_3 5 rfl rfl)
theorem dX0_made_78 : decode cX0_made 78 = .ok (.invokestatic 10, 3) := dk_184 0 10 (dk_at dksX0_made_3 6 rfl rfl)
theorem dX0_made_81 : decode cX0_made 81 = .ok (.aload_n 0, 1) := dk_42 (dk_at dksX0_made_3 9 rfl rfl)
theorem dX0_made_82 : decode cX0_made 82 = .ok (.iconst 3, 1) := dk_6 (dk_at dksX0_made_3 10 rfl rfl)
theorem dX0_made_83 : decode cX0_made 83 = .ok (.invokestatic 10, 3) := dk_184 0 10 (dk_at dksX0_made_3 11 rfl rfl)
theorem dX0_made_86 : decode cX0_made 86 = .ok (.invokevirtual 24, 3) := dk_182 0 24 (dk_at dksX0_made_3 14 rfl rfl)
theorem dX0_made_89 : decode cX0_made 89 = .ok (.aload_n 1, 1) := dk_43 (dk_at dksX0_made_3 17 rfl rfl)
theorem dX0_made_90 : decode cX0_made 90 = .ok (.iconst 1, 1) := dk_4 (dk_at dksX0_made_3 18 rfl rfl)
theorem dX0_made_91 : decode cX0_made 91 = .ok (.aload_n 0, 1) := dk_42 (dk_at dksX0_made_3 19 rfl rfl)
theorem dX0_made_92 : decode cX0_made 92 = .ok (.iconst 4, 1) := dk_7 (dk_at dksX0_made_3 20 rfl rfl)
theorem dX0_made_93 : decode cX0_made 93 = .ok (.invokestatic 10, 3) := dk_184 0 10 (dk_at dksX0_made_3 21 rfl rfl)
theorem dX0_made_96 : decode cX0_made 96 = .ok (.aload_n 0, 1) := dk_42 (dk_at dksX0_made_4 0 rfl rfl)
theorem dX0_made_97 : decode cX0_made 97 = .ok (.iconst 5, 1) := dk_8 (dk_at dksX0_made_4 1 rfl rfl)
theorem dX0_made_98 : decode cX0_made 98 = .ok (.invokestatic 10, 3) := dk_184 0 10 (dk_at dksX0_made_4 2 rfl rfl)
theorem dX0_made_101 : decode cX0_made 101 = .ok (.aload_n 0, 1) := dk_42 (dk_at dksX0_made_4 5 rfl rfl)
theorem dX0_made_102 : decode cX0_made 102 = .ok (.bipush 6, 2) := dk_16 6 (dk_at dksX0_made_4 6 rfl rfl)
theorem dX0_made_104 : decode cX0_made 104 = .ok (.invokestatic 10, 3) := dk_184 0 10 (dk_at dksX0_made_4 8 rfl rfl)
theorem dX0_made_107 : decode cX0_made 107 = .ok (.aload_n 0, 1) := dk_42 (dk_at dksX0_made_4 11 rfl rfl)
theorem dX0_made_108 : decode cX0_made 108 = .ok (.bipush 7, 2) := dk_16 7 (dk_at dksX0_made_4 12 rfl rfl)
theorem dX0_made_110 : decode cX0_made 110 = .ok (.invokestatic 10, 3) := dk_184 0 10 (dk_at dksX0_made_4 14 rfl rfl)
theorem dX0_made_113 : decode cX0_made 113 = .ok (.invokevirtual 24, 3) := dk_182 0 24 (dk_at dksX0_made_4 17 rfl rfl)
theorem dX0_made_116 : decode cX0_made 116 = .ok (.aload_n 1, 1) := dk_43 (dk_at dksX0_made_4 20 rfl rfl)
theorem dX0_made_117 : decode cX0_made 117 = .ok (.aload_n 0, 1) := dk_42 (dk_at dksX0_made_4 21 rfl rfl)
theorem dX0_made_118 : decode cX0_made 118 = .ok (.bipush 8, 2) := dk_16 8 (dk_at dksX0_made_4 22 rfl rfl)
theorem dX0_made_120 : decode cX0_made 120 = .ok (.invokestatic 10, 3) := dk_184 0 10 (dk_at dksX0_made_5 0 rfl rfl)
theorem dX0_made_123 : decode cX0_made 123 = .ok (.aload_n 0, 1) := dk_42 (dk_at dksX0_made_5 3 rfl rfl)
theorem dX0_made_124 : decode cX0_made 124 = .ok (.bipush 9, 2) := dk_16 9 (dk_at dksX0_made_5 4 rfl rfl)
theorem dX0_made_126 : decode cX0_made 126 = .ok (.invokestatic 10, 3) := dk_184 0 10 (dk_at dksX0_made_5 6 rfl rfl)
theorem dX0_made_129 : decode cX0_made 129 = .ok (.aload_n 0, 1) := dk_42 (dk_at dksX0_made_5 9 rfl rfl)
theorem dX0_made_130 : decode cX0_made 130 = .ok (.bipush 10, 2) := dk_16 10 (dk_at dksX0_made_5 10 rfl rfl)
theorem dX0_made_132 : decode cX0_made 132 = .ok (.invokestatic 10, 3) := dk_184 0 10 (dk_at dksX0_made_5 12 rfl rfl)
theorem dX0_made_135 : decode cX0_made 135 = .ok (.aload_n 0, 1) := dk_42 (dk_at dksX0_made_5 15 rfl rfl)
theorem dX0_made_136 : decode cX0_made 136 = .ok (.bipush 11, 2) := dk_16 11 (dk_at dksX0_made_5 16 rfl rfl)
theorem dX0_made_138 : decode cX0_made 138 = .ok (.invokestatic 10, 3) := dk_184 0 10 (dk_at dksX0_made_5 18 rfl rfl)
theorem dX0_made_141 : decode cX0_made 141 = .ok (.invokevirtual 28, 3) := dk_182 0 28 (dk_at dksX0_made_5 21 rfl rfl)
theorem dX0_made_144 : decode cX0_made 144 = .ok (.aload_n 1, 1) := dk_43 (dk_at dksX0_made_6 0 rfl rfl)
theorem dX0_made_145 : decode cX0_made 145 = .ok (.aload_n 0, 1) := dk_42 (dk_at dksX0_made_6 1 rfl rfl)
theorem dX0_made_146 : decode cX0_made 146 = .ok (.bipush 12, 2) := dk_16 12 (dk_at dksX0_made_6 2 rfl rfl)
theorem dX0_made_148 : decode cX0_made 148 = .ok (.invokestatic 10, 3) := dk_184 0 10 (dk_at dksX0_made_6 4 rfl rfl)
theorem dX0_made_151 : decode cX0_made 151 = .ok (.invokevirtual 32, 3) := dk_182 0 32 (dk_at dksX0_made_6 7 rfl rfl)
theorem dX0_made_154 : decode cX0_made 154 = .ok (.aload_n 1, 1) := dk_43 (dk_at dksX0_made_6 10 rfl rfl)
theorem dX0_made_155 : decode cX0_made 155 = .ok (.areturn, 1) := dk_176 (dk_at dksX0_made_6 11 rfl rfl)
abbrev cX0_known : ByteArray := method_4_code
def yX0_known : MethodName := ⟨RX0, "known", "()Z"⟩
def dkwX0_known_5 : List UInt8 := [28, 182, 0, 43, 43, 28, 46, 159, 0, 5, 3, 172, 132, 2, 1, 167, 255, 234, 4, 172]
abbrev dktX0_known_5 : List UInt8 := dkwX0_known_5 ++ []
def dkwX0_known_4 : List UInt8 := [79, 89, 16, 7, 16, 10, 79, 89, 16, 8, 17, 0, 211, 79, 76, 3, 61, 28, 16, 9, 162, 0, 22, 42]
abbrev dktX0_known_4 : List UInt8 := dkwX0_known_4 ++ dktX0_known_5
def dkwX0_known_3 : List UInt8 := [79, 89, 6, 17, 0, 232, 79, 89, 7, 17, 0, 217, 79, 89, 8, 16, 64, 79, 89, 16, 6, 17, 0, 175]
abbrev dktX0_known_3 : List UInt8 := dkwX0_known_3 ++ dktX0_known_4
def dkwX0_known_2 : List UInt8 := [182, 0, 39, 87, 16, 9, 188, 10, 89, 3, 17, 0, 187, 79, 89, 4, 17, 0, 243, 79, 89, 5, 16, 22]
abbrev dktX0_known_2 : List UInt8 := dkwX0_known_2 ++ dktX0_known_3
def dkwX0_known_1 : List UInt8 := [182, 0, 20, 42, 3, 18, 38, 3, 3, 3, 182, 0, 24, 42, 5, 182, 0, 32, 42, 3, 16, 9]
abbrev dktX0_known_1 : List UInt8 := dkwX0_known_1 ++ dktX0_known_2
def dkwX0_known_0 : List UInt8 := [187, 0, 7, 89, 183, 0, 9, 75, 42, 18, 35, 18, 36, 18, 37, 3, 182, 0, 16, 87, 42, 16, 9]
abbrev dktX0_known_0 : List UInt8 := dkwX0_known_0 ++ dktX0_known_1
theorem dksX0_known_0 : cX0_known.data.toList.drop 0 = dktX0_known_0 := by decide +kernel
theorem dksX0_known_1 : cX0_known.data.toList.drop 23 = dktX0_known_1 := dk_seg dksX0_known_0 23 rfl rfl
theorem dksX0_known_2 : cX0_known.data.toList.drop 45 = dktX0_known_2 := dk_seg dksX0_known_1 22 rfl rfl
theorem dksX0_known_3 : cX0_known.data.toList.drop 69 = dktX0_known_3 := dk_seg dksX0_known_2 24 rfl rfl
theorem dksX0_known_4 : cX0_known.data.toList.drop 93 = dktX0_known_4 := dk_seg dksX0_known_3 24 rfl rfl
theorem dksX0_known_5 : cX0_known.data.toList.drop 117 = dktX0_known_5 := dk_seg dksX0_known_4 24 rfl rfl
theorem dX0_known_0 : decode cX0_known 0 = .ok (.new 7, 3) := dk_187 0 7 (dk_at dksX0_known_0 0 rfl rfl)
theorem dX0_known_3 : decode cX0_known 3 = .ok (.dup, 1) := dk_89 (dk_at dksX0_known_0 3 rfl rfl)
theorem dX0_known_4 : decode cX0_known 4 = .ok (.invokespecial 9, 3) := dk_183 0 9 (dk_at dksX0_known_0 4 rfl rfl)
theorem dX0_known_7 : decode cX0_known 7 = .ok (.astore_n 0, 1) := dk_75 (dk_at dksX0_known_0 7 rfl rfl)
theorem dX0_known_8 : decode cX0_known 8 = .ok (.aload_n 0, 1) := dk_42 (dk_at dksX0_known_0 8 rfl rfl)
theorem dX0_known_9 : decode cX0_known 9 = .ok (.ldc 35, 2) := dk_18 35 (dk_at dksX0_known_0 9 rfl rfl)
theorem dX0_known_11 : decode cX0_known 11 = .ok (.ldc 36, 2) := dk_18 36 (dk_at dksX0_known_0 11 rfl rfl)
theorem dX0_known_13 : decode cX0_known 13 = .ok (.ldc 37, 2) := dk_18 37 (dk_at dksX0_known_0 13 rfl rfl)
theorem dX0_known_15 : decode cX0_known 15 = .ok (.iconst 0, 1) := dk_3 (dk_at dksX0_known_0 15 rfl rfl)
theorem dX0_known_16 : decode cX0_known 16 = .ok (.invokevirtual 16, 3) := dk_182 0 16 (dk_at dksX0_known_0 16 rfl rfl)
theorem dX0_known_19 : decode cX0_known 19 = .ok (.pop, 1) := dk_87 (dk_at dksX0_known_0 19 rfl rfl)
theorem dX0_known_20 : decode cX0_known 20 = .ok (.aload_n 0, 1) := dk_42 (dk_at dksX0_known_0 20 rfl rfl)
theorem dX0_known_21 : decode cX0_known 21 = .ok (.bipush 9, 2) := dk_16 9 (dk_at dksX0_known_0 21 rfl rfl)
theorem dX0_known_23 : decode cX0_known 23 = .ok (.invokevirtual 20, 3) := dk_182 0 20 (dk_at dksX0_known_1 0 rfl rfl)
theorem dX0_known_26 : decode cX0_known 26 = .ok (.aload_n 0, 1) := dk_42 (dk_at dksX0_known_1 3 rfl rfl)
theorem dX0_known_27 : decode cX0_known 27 = .ok (.iconst 0, 1) := dk_3 (dk_at dksX0_known_1 4 rfl rfl)
theorem dX0_known_28 : decode cX0_known 28 = .ok (.ldc 38, 2) := dk_18 38 (dk_at dksX0_known_1 5 rfl rfl)
theorem dX0_known_30 : decode cX0_known 30 = .ok (.iconst 0, 1) := dk_3 (dk_at dksX0_known_1 7 rfl rfl)
theorem dX0_known_31 : decode cX0_known 31 = .ok (.iconst 0, 1) := dk_3 (dk_at dksX0_known_1 8 rfl rfl)
theorem dX0_known_32 : decode cX0_known 32 = .ok (.iconst 0, 1) := dk_3 (dk_at dksX0_known_1 9 rfl rfl)
theorem dX0_known_33 : decode cX0_known 33 = .ok (.invokevirtual 24, 3) := dk_182 0 24 (dk_at dksX0_known_1 10 rfl rfl)
theorem dX0_known_36 : decode cX0_known 36 = .ok (.aload_n 0, 1) := dk_42 (dk_at dksX0_known_1 13 rfl rfl)
theorem dX0_known_37 : decode cX0_known 37 = .ok (.iconst 2, 1) := dk_5 (dk_at dksX0_known_1 14 rfl rfl)
theorem dX0_known_38 : decode cX0_known 38 = .ok (.invokevirtual 32, 3) := dk_182 0 32 (dk_at dksX0_known_1 15 rfl rfl)
theorem dX0_known_41 : decode cX0_known 41 = .ok (.aload_n 0, 1) := dk_42 (dk_at dksX0_known_1 18 rfl rfl)
theorem dX0_known_42 : decode cX0_known 42 = .ok (.iconst 0, 1) := dk_3 (dk_at dksX0_known_1 19 rfl rfl)
theorem dX0_known_43 : decode cX0_known 43 = .ok (.bipush 9, 2) := dk_16 9 (dk_at dksX0_known_1 20 rfl rfl)
theorem dX0_known_45 : decode cX0_known 45 = .ok (.invokevirtual 39, 3) := dk_182 0 39 (dk_at dksX0_known_2 0 rfl rfl)
theorem dX0_known_48 : decode cX0_known 48 = .ok (.pop, 1) := dk_87 (dk_at dksX0_known_2 3 rfl rfl)
theorem dX0_known_49 : decode cX0_known 49 = .ok (.bipush 9, 2) := dk_16 9 (dk_at dksX0_known_2 4 rfl rfl)
theorem dX0_known_51 : decode cX0_known 51 = .ok (.newarray .int, 2) := dk_188_10 (dk_at dksX0_known_2 6 rfl rfl)
theorem dX0_known_53 : decode cX0_known 53 = .ok (.dup, 1) := dk_89 (dk_at dksX0_known_2 8 rfl rfl)
theorem dX0_known_54 : decode cX0_known 54 = .ok (.iconst 0, 1) := dk_3 (dk_at dksX0_known_2 9 rfl rfl)
theorem dX0_known_55 : decode cX0_known 55 = .ok (.sipush 187, 3) := dk_17 0 187 (dk_at dksX0_known_2 10 rfl rfl)
theorem dX0_known_58 : decode cX0_known 58 = .ok (.iastore, 1) := dk_79 (dk_at dksX0_known_2 13 rfl rfl)
theorem dX0_known_59 : decode cX0_known 59 = .ok (.dup, 1) := dk_89 (dk_at dksX0_known_2 14 rfl rfl)
theorem dX0_known_60 : decode cX0_known 60 = .ok (.iconst 1, 1) := dk_4 (dk_at dksX0_known_2 15 rfl rfl)
theorem dX0_known_61 : decode cX0_known 61 = .ok (.sipush 243, 3) := dk_17 0 243 (dk_at dksX0_known_2 16 rfl rfl)
theorem dX0_known_64 : decode cX0_known 64 = .ok (.iastore, 1) := dk_79 (dk_at dksX0_known_2 19 rfl rfl)
theorem dX0_known_65 : decode cX0_known 65 = .ok (.dup, 1) := dk_89 (dk_at dksX0_known_2 20 rfl rfl)
theorem dX0_known_66 : decode cX0_known 66 = .ok (.iconst 2, 1) := dk_5 (dk_at dksX0_known_2 21 rfl rfl)
theorem dX0_known_67 : decode cX0_known 67 = .ok (.bipush 22, 2) := dk_16 22 (dk_at dksX0_known_2 22 rfl rfl)
theorem dX0_known_69 : decode cX0_known 69 = .ok (.iastore, 1) := dk_79 (dk_at dksX0_known_3 0 rfl rfl)
theorem dX0_known_70 : decode cX0_known 70 = .ok (.dup, 1) := dk_89 (dk_at dksX0_known_3 1 rfl rfl)
theorem dX0_known_71 : decode cX0_known 71 = .ok (.iconst 3, 1) := dk_6 (dk_at dksX0_known_3 2 rfl rfl)
theorem dX0_known_72 : decode cX0_known 72 = .ok (.sipush 232, 3) := dk_17 0 232 (dk_at dksX0_known_3 3 rfl rfl)
theorem dX0_known_75 : decode cX0_known 75 = .ok (.iastore, 1) := dk_79 (dk_at dksX0_known_3 6 rfl rfl)
theorem dX0_known_76 : decode cX0_known 76 = .ok (.dup, 1) := dk_89 (dk_at dksX0_known_3 7 rfl rfl)
theorem dX0_known_77 : decode cX0_known 77 = .ok (.iconst 4, 1) := dk_7 (dk_at dksX0_known_3 8 rfl rfl)
theorem dX0_known_78 : decode cX0_known 78 = .ok (.sipush 217, 3) := dk_17 0 217 (dk_at dksX0_known_3 9 rfl rfl)
theorem dX0_known_81 : decode cX0_known 81 = .ok (.iastore, 1) := dk_79 (dk_at dksX0_known_3 12 rfl rfl)
theorem dX0_known_82 : decode cX0_known 82 = .ok (.dup, 1) := dk_89 (dk_at dksX0_known_3 13 rfl rfl)
theorem dX0_known_83 : decode cX0_known 83 = .ok (.iconst 5, 1) := dk_8 (dk_at dksX0_known_3 14 rfl rfl)
theorem dX0_known_84 : decode cX0_known 84 = .ok (.bipush 64, 2) := dk_16 64 (dk_at dksX0_known_3 15 rfl rfl)
theorem dX0_known_86 : decode cX0_known 86 = .ok (.iastore, 1) := dk_79 (dk_at dksX0_known_3 17 rfl rfl)
theorem dX0_known_87 : decode cX0_known 87 = .ok (.dup, 1) := dk_89 (dk_at dksX0_known_3 18 rfl rfl)
theorem dX0_known_88 : decode cX0_known 88 = .ok (.bipush 6, 2) := dk_16 6 (dk_at dksX0_known_3 19 rfl rfl)
theorem dX0_known_90 : decode cX0_known 90 = .ok (.sipush 175, 3) := dk_17 0 175 (dk_at dksX0_known_3 21 rfl rfl)
theorem dX0_known_93 : decode cX0_known 93 = .ok (.iastore, 1) := dk_79 (dk_at dksX0_known_4 0 rfl rfl)
theorem dX0_known_94 : decode cX0_known 94 = .ok (.dup, 1) := dk_89 (dk_at dksX0_known_4 1 rfl rfl)
theorem dX0_known_95 : decode cX0_known 95 = .ok (.bipush 7, 2) := dk_16 7 (dk_at dksX0_known_4 2 rfl rfl)
theorem dX0_known_97 : decode cX0_known 97 = .ok (.bipush 10, 2) := dk_16 10 (dk_at dksX0_known_4 4 rfl rfl)
theorem dX0_known_99 : decode cX0_known 99 = .ok (.iastore, 1) := dk_79 (dk_at dksX0_known_4 6 rfl rfl)
theorem dX0_known_100 : decode cX0_known 100 = .ok (.dup, 1) := dk_89 (dk_at dksX0_known_4 7 rfl rfl)
theorem dX0_known_101 : decode cX0_known 101 = .ok (.bipush 8, 2) := dk_16 8 (dk_at dksX0_known_4 8 rfl rfl)
theorem dX0_known_103 : decode cX0_known 103 = .ok (.sipush 211, 3) := dk_17 0 211 (dk_at dksX0_known_4 10 rfl rfl)
theorem dX0_known_106 : decode cX0_known 106 = .ok (.iastore, 1) := dk_79 (dk_at dksX0_known_4 13 rfl rfl)
theorem dX0_known_107 : decode cX0_known 107 = .ok (.astore_n 1, 1) := dk_76 (dk_at dksX0_known_4 14 rfl rfl)
theorem dX0_known_108 : decode cX0_known 108 = .ok (.iconst 0, 1) := dk_3 (dk_at dksX0_known_4 15 rfl rfl)
theorem dX0_known_109 : decode cX0_known 109 = .ok (.istore_n 2, 1) := dk_61 (dk_at dksX0_known_4 16 rfl rfl)
theorem dX0_known_110 : decode cX0_known 110 = .ok (.iload_n 2, 1) := dk_28 (dk_at dksX0_known_4 17 rfl rfl)
theorem dX0_known_111 : decode cX0_known 111 = .ok (.bipush 9, 2) := dk_16 9 (dk_at dksX0_known_4 18 rfl rfl)
theorem dX0_known_113 : decode cX0_known 113 = .ok (.if_icmp .ge 22, 3) := dk_162 0 22 (dk_at dksX0_known_4 20 rfl rfl)
theorem dX0_known_116 : decode cX0_known 116 = .ok (.aload_n 0, 1) := dk_42 (dk_at dksX0_known_4 23 rfl rfl)
theorem dX0_known_117 : decode cX0_known 117 = .ok (.iload_n 2, 1) := dk_28 (dk_at dksX0_known_5 0 rfl rfl)
theorem dX0_known_118 : decode cX0_known 118 = .ok (.invokevirtual 43, 3) := dk_182 0 43 (dk_at dksX0_known_5 1 rfl rfl)
theorem dX0_known_121 : decode cX0_known 121 = .ok (.aload_n 1, 1) := dk_43 (dk_at dksX0_known_5 4 rfl rfl)
theorem dX0_known_122 : decode cX0_known 122 = .ok (.iload_n 2, 1) := dk_28 (dk_at dksX0_known_5 5 rfl rfl)
theorem dX0_known_123 : decode cX0_known 123 = .ok (.iaload, 1) := dk_46 (dk_at dksX0_known_5 6 rfl rfl)
theorem dX0_known_124 : decode cX0_known 124 = .ok (.if_icmp .eq 5, 3) := dk_159 0 5 (dk_at dksX0_known_5 7 rfl rfl)
theorem dX0_known_127 : decode cX0_known 127 = .ok (.iconst 0, 1) := dk_3 (dk_at dksX0_known_5 10 rfl rfl)
theorem dX0_known_128 : decode cX0_known 128 = .ok (.ireturn, 1) := dk_172 (dk_at dksX0_known_5 11 rfl rfl)
theorem dX0_known_129 : decode cX0_known 129 = .ok (.iinc 2 1, 3) := dk_132 2 1 (dk_at dksX0_known_5 12 rfl rfl)
theorem dX0_known_132 : decode cX0_known 132 = .ok (.goto (-22), 3) := dk_167 255 234 (dk_at dksX0_known_5 15 rfl rfl)
theorem dX0_known_135 : decode cX0_known 135 = .ok (.iconst 1, 1) := dk_4 (dk_at dksX0_known_5 18 rfl rfl)
theorem dX0_known_136 : decode cX0_known 136 = .ok (.ireturn, 1) := dk_172 (dk_at dksX0_known_5 19 rfl rfl)
theorem q4 : (Jvm.Cond.initialized "RcFourDeskLaw") ∈ lw_all := lw_g (lw_at lw_m1 0 rfl) rfl
theorem q16 : (Jvm.Cond.methodLink "RcFourDeskLaw" (39 : Nat) ({ cls := "RcFourDesk", name := "run", desc := "(II)I" } : Jvm.MethodName)) ∈ lw_all := lw_g (lw_at lw_m1 12 rfl) rfl
theorem q125 : (Jvm.Cond.methodLink "RcFourDeskLaw" (56 : Nat) ({ cls := "RcFourDesk", name := "one", desc := "(I)I" } : Jvm.MethodName)) ∈ lw_all := lw_g (lw_at lw_m1 121 rfl) rfl
theorem q133 : (Jvm.Cond.methodLink "RcFourDeskLaw" (59 : Nat) ({ cls := "RcFourDesk", name := "again", desc := "()V" } : Jvm.MethodName)) ∈ lw_all := lw_g (lw_at lw_m1 129 rfl) rfl
theorem q146 : (Jvm.Cond.methodLink "RcFourDeskLaw" (43 : Nat) ({ cls := "RcFourDesk", name := "out", desc := "(I)I" } : Jvm.MethodName)) ∈ lw_all := lw_g (lw_at lw_m1 142 rfl) rfl
theorem q150 : (Jvm.Cond.methodLink "RcFourDeskLaw" (10 : Nat) ({ cls := "RcFourDeskLaw", name := "cell", desc := "([II)I" } : Jvm.MethodName)) ∈ lw_all := lw_g (lw_at lw_m1 146 rfl) rfl
theorem q151 : (Jvm.Cond.static ({ cls := "RcFourDeskLaw", name := "cell", desc := "([II)I" } : Jvm.MethodName)) ∈ lw_all := lw_g (lw_at lw_m1 147 rfl) rfl
theorem q152 : (Jvm.Cond.code ({ cls := "RcFourDeskLaw", name := "cell", desc := "([II)I" } : Jvm.MethodName) method_2_code (2 : Nat) (Option.some Jvm.ClassFile.FieldType.int)) ∈ lw_all := lw_g (lw_at lw_m1 148 rfl) rfl
theorem q153 : (Jvm.Cond.methodLink "RcFourDeskLaw" (51 : Nat) ({ cls := "RcFourDeskLaw", name := "made", desc := "([I)LRcFourDesk;" } : Jvm.MethodName)) ∈ lw_all := lw_g (lw_at lw_m1 149 rfl) rfl
theorem q154 : (Jvm.Cond.static ({ cls := "RcFourDeskLaw", name := "made", desc := "([I)LRcFourDesk;" } : Jvm.MethodName)) ∈ lw_all := lw_g (lw_at lw_m1 150 rfl) rfl
theorem q155 : (Jvm.Cond.code ({ cls := "RcFourDeskLaw", name := "made", desc := "([I)LRcFourDesk;" } : Jvm.MethodName) method_3_code (3 : Nat) (Option.some (Jvm.ClassFile.FieldType.object "RcFourDesk"))) ∈ lw_all := lw_g (lw_at lw_m1 151 rfl) rfl
theorem q156 : (Jvm.Cond.classLink "RcFourDeskLaw" (7 : Nat) "RcFourDesk") ∈ lw_all := lw_g (lw_at lw_m1 152 rfl) rfl
theorem q157 : (Jvm.Cond.methodLink "RcFourDeskLaw" (9 : Nat) ({ cls := "RcFourDesk", name := "<init>", desc := "()V" } : Jvm.MethodName)) ∈ lw_all := lw_g (lw_at lw_m1 153 rfl) rfl
theorem q207 : (Jvm.Cond.methodLink "RcFourDeskLaw" (16 : Nat) ({ cls := "RcFourDesk", name := "put", desc := "(IIII)Z" } : Jvm.MethodName)) ∈ lw_all := lw_g (lw_at lw_m1 203 rfl) rfl
theorem q214 : (Jvm.Cond.methodLink "RcFourDeskLaw" (20 : Nat) ({ cls := "RcFourDesk", name := "trim", desc := "(I)V" } : Jvm.MethodName)) ∈ lw_all := lw_g (lw_at lw_m1 210 rfl) rfl
theorem q218 : (Jvm.Cond.methodLink "RcFourDeskLaw" (24 : Nat) ({ cls := "RcFourDesk", name := "key", desc := "(IIIII)V" } : Jvm.MethodName)) ∈ lw_all := lw_g (lw_at lw_m1 214 rfl) rfl
theorem q222 : (Jvm.Cond.methodLink "RcFourDeskLaw" (28 : Nat) ({ cls := "RcFourDesk", name := "nonce", desc := "(IIII)V" } : Jvm.MethodName)) ∈ lw_all := lw_g (lw_at lw_m1 218 rfl) rfl
theorem q226 : (Jvm.Cond.methodLink "RcFourDeskLaw" (32 : Nat) ({ cls := "RcFourDesk", name := "begin", desc := "(I)V" } : Jvm.MethodName)) ∈ lw_all := lw_g (lw_at lw_m1 222 rfl) rfl
theorem q274 : (Jvm.Cond.methodLink "RcFourDeskLaw" (47 : Nat) ({ cls := "RcFourDeskLaw", name := "known", desc := "()Z" } : Jvm.MethodName)) ∈ lw_all := lw_g (lw_at lw_m2 30 rfl) rfl
theorem q275 : (Jvm.Cond.static ({ cls := "RcFourDeskLaw", name := "known", desc := "()Z" } : Jvm.MethodName)) ∈ lw_all := lw_g (lw_at lw_m2 31 rfl) rfl
theorem q276 : (Jvm.Cond.code ({ cls := "RcFourDeskLaw", name := "known", desc := "()Z" } : Jvm.MethodName) method_4_code (3 : Nat) (Option.some Jvm.ClassFile.FieldType.boolean)) ∈ lw_all := lw_g (lw_at lw_m2 32 rfl) rfl
theorem q277 : (Jvm.Cond.constant "RcFourDeskLaw" (35 : Nat) (1349280105 : Int32)) ∈ lw_all := lw_g (lw_at lw_m2 33 rfl) rfl
theorem q278 : (Jvm.Cond.constant "RcFourDeskLaw" (36 : Nat) (1853121912 : Int32)) ∈ lw_all := lw_g (lw_at lw_m2 34 rfl) rfl
theorem q279 : (Jvm.Cond.constant "RcFourDeskLaw" (37 : Nat) (1946157056 : Int32)) ∈ lw_all := lw_g (lw_at lw_m2 35 rfl) rfl
theorem q280 : (Jvm.Cond.constant "RcFourDeskLaw" (38 : Nat) (1264941312 : Int32)) ∈ lw_all := lw_g (lw_at lw_m2 36 rfl) rfl
theorem q282 : (Jvm.Cond.constant "RcFourDeskLaw" (55 : Nat) (2147483647 : Int32)) ∈ lw_all := lw_g (lw_at lw_m2 38 rfl) rfl

/-! java/lang/Object -/
set_option maxRecDepth 100000
def RJ4 : String := "java/lang/Object"
abbrev cJ4_init : ByteArray := object_method_1_code
def yJ4_init : MethodName := ⟨RJ4, "<init>", "()V"⟩
theorem dJ4_init_0 : decode cJ4_init 0 = .ok (.return_, 1) := by decide +kernel
theorem q61 : (Jvm.Cond.instanceMethod ({ cls := "java/lang/Object", name := "<init>", desc := "()V" } : Jvm.MethodName)) ∈ lw_all := lw_g (lw_at lw_m1 57 rfl) rfl
theorem q62 : (Jvm.Cond.code ({ cls := "java/lang/Object", name := "<init>", desc := "()V" } : Jvm.MethodName) object_method_1_code (1 : Nat) (Option.none : Option Jvm.ClassFile.FieldType)) ∈ lw_all := lw_g (lw_at lw_m1 58 rfl) rfl

/-! the law's own entry -/
set_option maxRecDepth 100000
abbrev cL_law : ByteArray := code
def dkwL_law_13 : List UInt8 := [167, 255, 205, 4, 172]
abbrev dktL_law_13 : List UInt8 := dkwL_law_13 ++ []
def dkwL_law_12 : List UInt8 := [16, 24, 16, 8, 21, 7, 7, 112, 104, 100, 124, 17, 0, 255, 126, 159, 0, 5, 3, 172, 132, 7, 1]
abbrev dktL_law_12 : List UInt8 := dkwL_law_12 ++ dktL_law_13
def dkwL_law_11 : List UInt8 := [162, 0, 50, 45, 43, 21, 7, 182, 0, 43, 182, 0, 56, 42, 16, 20, 21, 7, 7, 108, 96, 184, 0, 10]
abbrev dktL_law_11 : List UInt8 := dkwL_law_11 ++ dktL_law_12
def dkwL_law_10 : List UInt8 := [159, 0, 5, 3, 172, 132, 7, 1, 167, 255, 185, 45, 182, 0, 59, 3, 54, 7, 21, 7, 21, 5]
abbrev dktL_law_10 : List UInt8 := dkwL_law_10 ++ dktL_law_11
def dkwL_law_9 : List UInt8 := [54, 9, 21, 9, 43, 21, 7, 182, 0, 43, 160, 0, 15, 25, 4, 21, 9, 182, 0, 56, 21, 8]
abbrev dktL_law_9 : List UInt8 := dkwL_law_9 ++ dktL_law_10
def dkwL_law_8 : List UInt8 := [16, 24, 16, 8, 21, 7, 7, 112, 104, 100, 124, 17, 0, 255, 126, 54, 8, 45, 21, 8, 182, 0, 56]
abbrev dktL_law_8 : List UInt8 := dkwL_law_8 ++ dktL_law_9
def dkwL_law_7 : List UInt8 := [167, 255, 154, 3, 54, 7, 21, 7, 21, 5, 162, 0, 70, 42, 16, 20, 21, 7, 7, 108, 96, 184, 0, 10]
abbrev dktL_law_7 : List UInt8 := dkwL_law_7 ++ dktL_law_8
def dkwL_law_6 : List UInt8 := [182, 0, 43, 159, 0, 5, 3, 172, 132, 9, 1, 167, 255, 226, 21, 6, 21, 8, 96, 54, 6, 132, 7, 1]
abbrev dktL_law_6 : List UInt8 := dkwL_law_6 ++ dktL_law_7
def dkwL_law_5 : List UInt8 := [172, 3, 54, 9, 21, 9, 21, 8, 162, 0, 29, 44, 21, 9, 182, 0, 43, 43, 21, 6, 21, 9, 96]
abbrev dktL_law_5 : List UInt8 := dkwL_law_5 ++ dktL_law_6
def dkwL_law_4 : List UInt8 := [21, 5, 21, 6, 100, 4, 96, 112, 54, 8, 44, 21, 6, 21, 8, 182, 0, 39, 21, 8, 159, 0, 5, 3]
abbrev dktL_law_4 : List UInt8 := dkwL_law_4 ++ dktL_law_5
def dkwL_law_3 : List UInt8 := [21, 7, 16, 18, 160, 0, 11, 21, 5, 21, 6, 100, 167, 0, 20, 42, 21, 7, 184, 0, 10, 18, 55, 126]
abbrev dktL_law_3 : List UInt8 := dkwL_law_3 ++ dktL_law_4
def dkwL_law_2 : List UInt8 := [182, 0, 39, 21, 5, 159, 0, 5, 3, 172, 3, 54, 6, 16, 14, 54, 7, 21, 7, 16, 19, 162, 0, 101]
abbrev dktL_law_2 : List UInt8 := dkwL_law_2 ++ dktL_law_3
def dkwL_law_1 : List UInt8 := [184, 0, 51, 58, 4, 42, 16, 13, 184, 0, 10, 18, 55, 126, 17, 0, 129, 112, 54, 5, 43, 3, 21, 5]
abbrev dktL_law_1 : List UInt8 := dkwL_law_1 ++ dktL_law_2
def dkwL_law_0 : List UInt8 := [184, 0, 47, 154, 0, 5, 3, 172, 42, 184, 0, 51, 76, 42, 184, 0, 51, 77, 42, 184, 0, 51, 78, 42]
abbrev dktL_law_0 : List UInt8 := dkwL_law_0 ++ dktL_law_1
theorem dksL_law_0 : cL_law.data.toList.drop 0 = dktL_law_0 := by decide +kernel
theorem dksL_law_1 : cL_law.data.toList.drop 24 = dktL_law_1 := dk_seg dksL_law_0 24 rfl rfl
theorem dksL_law_2 : cL_law.data.toList.drop 48 = dktL_law_2 := dk_seg dksL_law_1 24 rfl rfl
theorem dksL_law_3 : cL_law.data.toList.drop 72 = dktL_law_3 := dk_seg dksL_law_2 24 rfl rfl
theorem dksL_law_4 : cL_law.data.toList.drop 96 = dktL_law_4 := dk_seg dksL_law_3 24 rfl rfl
theorem dksL_law_5 : cL_law.data.toList.drop 120 = dktL_law_5 := dk_seg dksL_law_4 24 rfl rfl
theorem dksL_law_6 : cL_law.data.toList.drop 143 = dktL_law_6 := dk_seg dksL_law_5 23 rfl rfl
theorem dksL_law_7 : cL_law.data.toList.drop 167 = dktL_law_7 := dk_seg dksL_law_6 24 rfl rfl
theorem dksL_law_8 : cL_law.data.toList.drop 191 = dktL_law_8 := dk_seg dksL_law_7 24 rfl rfl
theorem dksL_law_9 : cL_law.data.toList.drop 214 = dktL_law_9 := dk_seg dksL_law_8 23 rfl rfl
theorem dksL_law_10 : cL_law.data.toList.drop 236 = dktL_law_10 := dk_seg dksL_law_9 22 rfl rfl
theorem dksL_law_11 : cL_law.data.toList.drop 258 = dktL_law_11 := dk_seg dksL_law_10 22 rfl rfl
theorem dksL_law_12 : cL_law.data.toList.drop 282 = dktL_law_12 := dk_seg dksL_law_11 24 rfl rfl
theorem dksL_law_13 : cL_law.data.toList.drop 305 = dktL_law_13 := dk_seg dksL_law_12 23 rfl rfl
theorem dL_law_0 : decode cL_law 0 = .ok (.invokestatic 47, 3) := dk_184 0 47 (dk_at dksL_law_0 0 rfl rfl)
theorem dL_law_3 : decode cL_law 3 = .ok (.ifCond .ne 5, 3) := dk_154 0 5 (dk_at dksL_law_0 3 rfl rfl)
theorem dL_law_6 : decode cL_law 6 = .ok (.iconst 0, 1) := dk_3 (dk_at dksL_law_0 6 rfl rfl)
theorem dL_law_7 : decode cL_law 7 = .ok (.ireturn, 1) := dk_172 (dk_at dksL_law_0 7 rfl rfl)
theorem dL_law_8 : decode cL_law 8 = .ok (.aload_n 0, 1) := dk_42 (dk_at dksL_law_0 8 rfl rfl)
theorem dL_law_9 : decode cL_law 9 = .ok (.invokestatic 51, 3) := dk_184 0 51 (dk_at dksL_law_0 9 rfl rfl)
theorem dL_law_12 : decode cL_law 12 = .ok (.astore_n 1, 1) := dk_76 (dk_at dksL_law_0 12 rfl rfl)
theorem dL_law_13 : decode cL_law 13 = .ok (.aload_n 0, 1) := dk_42 (dk_at dksL_law_0 13 rfl rfl)
theorem dL_law_14 : decode cL_law 14 = .ok (.invokestatic 51, 3) := dk_184 0 51 (dk_at dksL_law_0 14 rfl rfl)
theorem dL_law_17 : decode cL_law 17 = .ok (.astore_n 2, 1) := dk_77 (dk_at dksL_law_0 17 rfl rfl)
theorem dL_law_18 : decode cL_law 18 = .ok (.aload_n 0, 1) := dk_42 (dk_at dksL_law_0 18 rfl rfl)
theorem dL_law_19 : decode cL_law 19 = .ok (.invokestatic 51, 3) := dk_184 0 51 (dk_at dksL_law_0 19 rfl rfl)
theorem dL_law_22 : decode cL_law 22 = .ok (.astore_n 3, 1) := dk_78 (dk_at dksL_law_0 22 rfl rfl)
theorem dL_law_23 : decode cL_law 23 = .ok (.aload_n 0, 1) := dk_42 (dk_at dksL_law_0 23 rfl rfl)
theorem dL_law_24 : decode cL_law 24 = .ok (.invokestatic 51, 3) := dk_184 0 51 (dk_at dksL_law_1 0 rfl rfl)
theorem dL_law_27 : decode cL_law 27 = .ok (.astore 4, 2) := dk_58 4 (dk_at dksL_law_1 3 rfl rfl)
theorem dL_law_29 : decode cL_law 29 = .ok (.aload_n 0, 1) := dk_42 (dk_at dksL_law_1 5 rfl rfl)
theorem dL_law_30 : decode cL_law 30 = .ok (.bipush 13, 2) := dk_16 13 (dk_at dksL_law_1 6 rfl rfl)
theorem dL_law_32 : decode cL_law 32 = .ok (.invokestatic 10, 3) := dk_184 0 10 (dk_at dksL_law_1 8 rfl rfl)
theorem dL_law_35 : decode cL_law 35 = .ok (.ldc 55, 2) := dk_18 55 (dk_at dksL_law_1 11 rfl rfl)
theorem dL_law_37 : decode cL_law 37 = .ok (.iand, 1) := dk_126 (dk_at dksL_law_1 13 rfl rfl)
theorem dL_law_38 : decode cL_law 38 = .ok (.sipush 129, 3) := dk_17 0 129 (dk_at dksL_law_1 14 rfl rfl)
theorem dL_law_41 : decode cL_law 41 = .ok (.irem, 1) := dk_112 (dk_at dksL_law_1 17 rfl rfl)
theorem dL_law_42 : decode cL_law 42 = .ok (.istore 5, 2) := dk_54 5 (dk_at dksL_law_1 18 rfl rfl)
theorem dL_law_44 : decode cL_law 44 = .ok (.aload_n 1, 1) := dk_43 (dk_at dksL_law_1 20 rfl rfl)
theorem dL_law_45 : decode cL_law 45 = .ok (.iconst 0, 1) := dk_3 (dk_at dksL_law_1 21 rfl rfl)
theorem dL_law_46 : decode cL_law 46 = .ok (.iload 5, 2) := dk_21 5 (dk_at dksL_law_1 22 rfl rfl)
theorem dL_law_48 : decode cL_law 48 = .ok (.invokevirtual 39, 3) := dk_182 0 39 (dk_at dksL_law_2 0 rfl rfl)
theorem dL_law_51 : decode cL_law 51 = .ok (.iload 5, 2) := dk_21 5 (dk_at dksL_law_2 3 rfl rfl)
theorem dL_law_53 : decode cL_law 53 = .ok (.if_icmp .eq 5, 3) := dk_159 0 5 (dk_at dksL_law_2 5 rfl rfl)
theorem dL_law_56 : decode cL_law 56 = .ok (.iconst 0, 1) := dk_3 (dk_at dksL_law_2 8 rfl rfl)
theorem dL_law_57 : decode cL_law 57 = .ok (.ireturn, 1) := dk_172 (dk_at dksL_law_2 9 rfl rfl)
theorem dL_law_58 : decode cL_law 58 = .ok (.iconst 0, 1) := dk_3 (dk_at dksL_law_2 10 rfl rfl)
theorem dL_law_59 : decode cL_law 59 = .ok (.istore 6, 2) := dk_54 6 (dk_at dksL_law_2 11 rfl rfl)
theorem dL_law_61 : decode cL_law 61 = .ok (.bipush 14, 2) := dk_16 14 (dk_at dksL_law_2 13 rfl rfl)
theorem dL_law_63 : decode cL_law 63 = .ok (.istore 7, 2) := dk_54 7 (dk_at dksL_law_2 15 rfl rfl)
theorem dL_law_65 : decode cL_law 65 = .ok (.iload 7, 2) := dk_21 7 (dk_at dksL_law_2 17 rfl rfl)
theorem dL_law_67 : decode cL_law 67 = .ok (.bipush 19, 2) := dk_16 19 (dk_at dksL_law_2 19 rfl rfl)
theorem dL_law_69 : decode cL_law 69 = .ok (.if_icmp .ge 101, 3) := dk_162 0 101 (dk_at dksL_law_2 21 rfl rfl)
theorem dL_law_72 : decode cL_law 72 = .ok (.iload 7, 2) := dk_21 7 (dk_at dksL_law_3 0 rfl rfl)
theorem dL_law_74 : decode cL_law 74 = .ok (.bipush 18, 2) := dk_16 18 (dk_at dksL_law_3 2 rfl rfl)
theorem dL_law_76 : decode cL_law 76 = .ok (.if_icmp .ne 11, 3) := dk_160 0 11 (dk_at dksL_law_3 4 rfl rfl)
theorem dL_law_79 : decode cL_law 79 = .ok (.iload 5, 2) := dk_21 5 (dk_at dksL_law_3 7 rfl rfl)
theorem dL_law_81 : decode cL_law 81 = .ok (.iload 6, 2) := dk_21 6 (dk_at dksL_law_3 9 rfl rfl)
theorem dL_law_83 : decode cL_law 83 = .ok (.isub, 1) := dk_100 (dk_at dksL_law_3 11 rfl rfl)
theorem dL_law_84 : decode cL_law 84 = .ok (.goto 20, 3) := dk_167 0 20 (dk_at dksL_law_3 12 rfl rfl)
theorem dL_law_87 : decode cL_law 87 = .ok (.aload_n 0, 1) := dk_42 (dk_at dksL_law_3 15 rfl rfl)
theorem dL_law_88 : decode cL_law 88 = .ok (.iload 7, 2) := dk_21 7 (dk_at dksL_law_3 16 rfl rfl)
theorem dL_law_90 : decode cL_law 90 = .ok (.invokestatic 10, 3) := dk_184 0 10 (dk_at dksL_law_3 18 rfl rfl)
theorem dL_law_93 : decode cL_law 93 = .ok (.ldc 55, 2) := dk_18 55 (dk_at dksL_law_3 21 rfl rfl)
theorem dL_law_95 : decode cL_law 95 = .ok (.iand, 1) := dk_126 (dk_at dksL_law_3 23 rfl rfl)
theorem dL_law_96 : decode cL_law 96 = .ok (.iload 5, 2) := dk_21 5 (dk_at dksL_law_4 0 rfl rfl)
theorem dL_law_98 : decode cL_law 98 = .ok (.iload 6, 2) := dk_21 6 (dk_at dksL_law_4 2 rfl rfl)
theorem dL_law_100 : decode cL_law 100 = .ok (.isub, 1) := dk_100 (dk_at dksL_law_4 4 rfl rfl)
theorem dL_law_101 : decode cL_law 101 = .ok (.iconst 1, 1) := dk_4 (dk_at dksL_law_4 5 rfl rfl)
theorem dL_law_102 : decode cL_law 102 = .ok (.iadd, 1) := dk_96 (dk_at dksL_law_4 6 rfl rfl)
theorem dL_law_103 : decode cL_law 103 = .ok (.irem, 1) := dk_112 (dk_at dksL_law_4 7 rfl rfl)
theorem dL_law_104 : decode cL_law 104 = .ok (.istore 8, 2) := dk_54 8 (dk_at dksL_law_4 8 rfl rfl)
theorem dL_law_106 : decode cL_law 106 = .ok (.aload_n 2, 1) := dk_44 (dk_at dksL_law_4 10 rfl rfl)
theorem dL_law_107 : decode cL_law 107 = .ok (.iload 6, 2) := dk_21 6 (dk_at dksL_law_4 11 rfl rfl)
theorem dL_law_109 : decode cL_law 109 = .ok (.iload 8, 2) := dk_21 8 (dk_at dksL_law_4 13 rfl rfl)
theorem dL_law_111 : decode cL_law 111 = .ok (.invokevirtual 39, 3) := dk_182 0 39 (dk_at dksL_law_4 15 rfl rfl)
theorem dL_law_114 : decode cL_law 114 = .ok (.iload 8, 2) := dk_21 8 (dk_at dksL_law_4 18 rfl rfl)
theorem dL_law_116 : decode cL_law 116 = .ok (.if_icmp .eq 5, 3) := dk_159 0 5 (dk_at dksL_law_4 20 rfl rfl)
theorem dL_law_119 : decode cL_law 119 = .ok (.iconst 0, 1) := dk_3 (dk_at dksL_law_4 23 rfl rfl)
theorem dL_law_120 : decode cL_law 120 = .ok (.ireturn, 1) := dk_172 (dk_at dksL_law_5 0 rfl rfl)
theorem dL_law_121 : decode cL_law 121 = .ok (.iconst 0, 1) := dk_3 (dk_at dksL_law_5 1 rfl rfl)
theorem dL_law_122 : decode cL_law 122 = .ok (.istore 9, 2) := dk_54 9 (dk_at dksL_law_5 2 rfl rfl)
theorem dL_law_124 : decode cL_law 124 = .ok (.iload 9, 2) := dk_21 9 (dk_at dksL_law_5 4 rfl rfl)
theorem dL_law_126 : decode cL_law 126 = .ok (.iload 8, 2) := dk_21 8 (dk_at dksL_law_5 6 rfl rfl)
theorem dL_law_128 : decode cL_law 128 = .ok (.if_icmp .ge 29, 3) := dk_162 0 29 (dk_at dksL_law_5 8 rfl rfl)
theorem dL_law_131 : decode cL_law 131 = .ok (.aload_n 2, 1) := dk_44 (dk_at dksL_law_5 11 rfl rfl)
theorem dL_law_132 : decode cL_law 132 = .ok (.iload 9, 2) := dk_21 9 (dk_at dksL_law_5 12 rfl rfl)
theorem dL_law_134 : decode cL_law 134 = .ok (.invokevirtual 43, 3) := dk_182 0 43 (dk_at dksL_law_5 14 rfl rfl)
theorem dL_law_137 : decode cL_law 137 = .ok (.aload_n 1, 1) := dk_43 (dk_at dksL_law_5 17 rfl rfl)
theorem dL_law_138 : decode cL_law 138 = .ok (.iload 6, 2) := dk_21 6 (dk_at dksL_law_5 18 rfl rfl)
theorem dL_law_140 : decode cL_law 140 = .ok (.iload 9, 2) := dk_21 9 (dk_at dksL_law_5 20 rfl rfl)
theorem dL_law_142 : decode cL_law 142 = .ok (.iadd, 1) := dk_96 (dk_at dksL_law_5 22 rfl rfl)
theorem dL_law_143 : decode cL_law 143 = .ok (.invokevirtual 43, 3) := dk_182 0 43 (dk_at dksL_law_6 0 rfl rfl)
theorem dL_law_146 : decode cL_law 146 = .ok (.if_icmp .eq 5, 3) := dk_159 0 5 (dk_at dksL_law_6 3 rfl rfl)
theorem dL_law_149 : decode cL_law 149 = .ok (.iconst 0, 1) := dk_3 (dk_at dksL_law_6 6 rfl rfl)
theorem dL_law_150 : decode cL_law 150 = .ok (.ireturn, 1) := dk_172 (dk_at dksL_law_6 7 rfl rfl)
theorem dL_law_151 : decode cL_law 151 = .ok (.iinc 9 1, 3) := dk_132 9 1 (dk_at dksL_law_6 8 rfl rfl)
theorem dL_law_154 : decode cL_law 154 = .ok (.goto (-30), 3) := dk_167 255 226 (dk_at dksL_law_6 11 rfl rfl)
theorem dL_law_157 : decode cL_law 157 = .ok (.iload 6, 2) := dk_21 6 (dk_at dksL_law_6 14 rfl rfl)
theorem dL_law_159 : decode cL_law 159 = .ok (.iload 8, 2) := dk_21 8 (dk_at dksL_law_6 16 rfl rfl)
theorem dL_law_161 : decode cL_law 161 = .ok (.iadd, 1) := dk_96 (dk_at dksL_law_6 18 rfl rfl)
theorem dL_law_162 : decode cL_law 162 = .ok (.istore 6, 2) := dk_54 6 (dk_at dksL_law_6 19 rfl rfl)
theorem dL_law_164 : decode cL_law 164 = .ok (.iinc 7 1, 3) := dk_132 7 1 (dk_at dksL_law_6 21 rfl rfl)
theorem dL_law_167 : decode cL_law 167 = .ok (.goto (-102), 3) := dk_167 255 154 (dk_at dksL_law_7 0 rfl rfl)
theorem dL_law_170 : decode cL_law 170 = .ok (.iconst 0, 1) := dk_3 (dk_at dksL_law_7 3 rfl rfl)
theorem dL_law_171 : decode cL_law 171 = .ok (.istore 7, 2) := dk_54 7 (dk_at dksL_law_7 4 rfl rfl)
theorem dL_law_173 : decode cL_law 173 = .ok (.iload 7, 2) := dk_21 7 (dk_at dksL_law_7 6 rfl rfl)
theorem dL_law_175 : decode cL_law 175 = .ok (.iload 5, 2) := dk_21 5 (dk_at dksL_law_7 8 rfl rfl)
theorem dL_law_177 : decode cL_law 177 = .ok (.if_icmp .ge 70, 3) := dk_162 0 70 (dk_at dksL_law_7 10 rfl rfl)
theorem dL_law_180 : decode cL_law 180 = .ok (.aload_n 0, 1) := dk_42 (dk_at dksL_law_7 13 rfl rfl)
theorem dL_law_181 : decode cL_law 181 = .ok (.bipush 20, 2) := dk_16 20 (dk_at dksL_law_7 14 rfl rfl)
theorem dL_law_183 : decode cL_law 183 = .ok (.iload 7, 2) := dk_21 7 (dk_at dksL_law_7 16 rfl rfl)
theorem dL_law_185 : decode cL_law 185 = .ok (.iconst 4, 1) := dk_7 (dk_at dksL_law_7 18 rfl rfl)
theorem dL_law_186 : decode cL_law 186 = .ok (.idiv, 1) := dk_108 (dk_at dksL_law_7 19 rfl rfl)
theorem dL_law_187 : decode cL_law 187 = .ok (.iadd, 1) := dk_96 (dk_at dksL_law_7 20 rfl rfl)
theorem dL_law_188 : decode cL_law 188 = .ok (.invokestatic 10, 3) := dk_184 0 10 (dk_at dksL_law_7 21 rfl rfl)
theorem dL_law_191 : decode cL_law 191 = .ok (.bipush 24, 2) := dk_16 24 (dk_at dksL_law_8 0 rfl rfl)
theorem dL_law_193 : decode cL_law 193 = .ok (.bipush 8, 2) := dk_16 8 (dk_at dksL_law_8 2 rfl rfl)
theorem dL_law_195 : decode cL_law 195 = .ok (.iload 7, 2) := dk_21 7 (dk_at dksL_law_8 4 rfl rfl)
theorem dL_law_197 : decode cL_law 197 = .ok (.iconst 4, 1) := dk_7 (dk_at dksL_law_8 6 rfl rfl)
theorem dL_law_198 : decode cL_law 198 = .ok (.irem, 1) := dk_112 (dk_at dksL_law_8 7 rfl rfl)
theorem dL_law_199 : decode cL_law 199 = .ok (.imul, 1) := dk_104 (dk_at dksL_law_8 8 rfl rfl)
theorem dL_law_200 : decode cL_law 200 = .ok (.isub, 1) := dk_100 (dk_at dksL_law_8 9 rfl rfl)
theorem dL_law_201 : decode cL_law 201 = .ok (.iushr, 1) := dk_124 (dk_at dksL_law_8 10 rfl rfl)
theorem dL_law_202 : decode cL_law 202 = .ok (.sipush 255, 3) := dk_17 0 255 (dk_at dksL_law_8 11 rfl rfl)
theorem dL_law_205 : decode cL_law 205 = .ok (.iand, 1) := dk_126 (dk_at dksL_law_8 14 rfl rfl)
theorem dL_law_206 : decode cL_law 206 = .ok (.istore 8, 2) := dk_54 8 (dk_at dksL_law_8 15 rfl rfl)
theorem dL_law_208 : decode cL_law 208 = .ok (.aload_n 3, 1) := dk_45 (dk_at dksL_law_8 17 rfl rfl)
theorem dL_law_209 : decode cL_law 209 = .ok (.iload 8, 2) := dk_21 8 (dk_at dksL_law_8 18 rfl rfl)
theorem dL_law_211 : decode cL_law 211 = .ok (.invokevirtual 56, 3) := dk_182 0 56 (dk_at dksL_law_8 20 rfl rfl)
theorem dL_law_214 : decode cL_law 214 = .ok (.istore 9, 2) := dk_54 9 (dk_at dksL_law_9 0 rfl rfl)
theorem dL_law_216 : decode cL_law 216 = .ok (.iload 9, 2) := dk_21 9 (dk_at dksL_law_9 2 rfl rfl)
theorem dL_law_218 : decode cL_law 218 = .ok (.aload_n 1, 1) := dk_43 (dk_at dksL_law_9 4 rfl rfl)
theorem dL_law_219 : decode cL_law 219 = .ok (.iload 7, 2) := dk_21 7 (dk_at dksL_law_9 5 rfl rfl)
theorem dL_law_221 : decode cL_law 221 = .ok (.invokevirtual 43, 3) := dk_182 0 43 (dk_at dksL_law_9 7 rfl rfl)
theorem dL_law_224 : decode cL_law 224 = .ok (.if_icmp .ne 15, 3) := dk_160 0 15 (dk_at dksL_law_9 10 rfl rfl)
theorem dL_law_227 : decode cL_law 227 = .ok (.aload 4, 2) := dk_25 4 (dk_at dksL_law_9 13 rfl rfl)
theorem dL_law_229 : decode cL_law 229 = .ok (.iload 9, 2) := dk_21 9 (dk_at dksL_law_9 15 rfl rfl)
theorem dL_law_231 : decode cL_law 231 = .ok (.invokevirtual 56, 3) := dk_182 0 56 (dk_at dksL_law_9 17 rfl rfl)
theorem dL_law_234 : decode cL_law 234 = .ok (.iload 8, 2) := dk_21 8 (dk_at dksL_law_9 20 rfl rfl)
theorem dL_law_236 : decode cL_law 236 = .ok (.if_icmp .eq 5, 3) := dk_159 0 5 (dk_at dksL_law_10 0 rfl rfl)
theorem dL_law_239 : decode cL_law 239 = .ok (.iconst 0, 1) := dk_3 (dk_at dksL_law_10 3 rfl rfl)
theorem dL_law_240 : decode cL_law 240 = .ok (.ireturn, 1) := dk_172 (dk_at dksL_law_10 4 rfl rfl)
theorem dL_law_241 : decode cL_law 241 = .ok (.iinc 7 1, 3) := dk_132 7 1 (dk_at dksL_law_10 5 rfl rfl)
theorem dL_law_244 : decode cL_law 244 = .ok (.goto (-71), 3) := dk_167 255 185 (dk_at dksL_law_10 8 rfl rfl)
theorem dL_law_247 : decode cL_law 247 = .ok (.aload_n 3, 1) := dk_45 (dk_at dksL_law_10 11 rfl rfl)
theorem dL_law_248 : decode cL_law 248 = .ok (.invokevirtual 59, 3) := dk_182 0 59 (dk_at dksL_law_10 12 rfl rfl)
theorem dL_law_251 : decode cL_law 251 = .ok (.iconst 0, 1) := dk_3 (dk_at dksL_law_10 15 rfl rfl)
theorem dL_law_252 : decode cL_law 252 = .ok (.istore 7, 2) := dk_54 7 (dk_at dksL_law_10 16 rfl rfl)
theorem dL_law_254 : decode cL_law 254 = .ok (.iload 7, 2) := dk_21 7 (dk_at dksL_law_10 18 rfl rfl)
theorem dL_law_256 : decode cL_law 256 = .ok (.iload 5, 2) := dk_21 5 (dk_at dksL_law_10 20 rfl rfl)
theorem dL_law_258 : decode cL_law 258 = .ok (.if_icmp .ge 50, 3) := dk_162 0 50 (dk_at dksL_law_11 0 rfl rfl)
theorem dL_law_261 : decode cL_law 261 = .ok (.aload_n 3, 1) := dk_45 (dk_at dksL_law_11 3 rfl rfl)
theorem dL_law_262 : decode cL_law 262 = .ok (.aload_n 1, 1) := dk_43 (dk_at dksL_law_11 4 rfl rfl)
theorem dL_law_263 : decode cL_law 263 = .ok (.iload 7, 2) := dk_21 7 (dk_at dksL_law_11 5 rfl rfl)
theorem dL_law_265 : decode cL_law 265 = .ok (.invokevirtual 43, 3) := dk_182 0 43 (dk_at dksL_law_11 7 rfl rfl)
theorem dL_law_268 : decode cL_law 268 = .ok (.invokevirtual 56, 3) := dk_182 0 56 (dk_at dksL_law_11 10 rfl rfl)
theorem dL_law_271 : decode cL_law 271 = .ok (.aload_n 0, 1) := dk_42 (dk_at dksL_law_11 13 rfl rfl)
theorem dL_law_272 : decode cL_law 272 = .ok (.bipush 20, 2) := dk_16 20 (dk_at dksL_law_11 14 rfl rfl)
theorem dL_law_274 : decode cL_law 274 = .ok (.iload 7, 2) := dk_21 7 (dk_at dksL_law_11 16 rfl rfl)
theorem dL_law_276 : decode cL_law 276 = .ok (.iconst 4, 1) := dk_7 (dk_at dksL_law_11 18 rfl rfl)
theorem dL_law_277 : decode cL_law 277 = .ok (.idiv, 1) := dk_108 (dk_at dksL_law_11 19 rfl rfl)
theorem dL_law_278 : decode cL_law 278 = .ok (.iadd, 1) := dk_96 (dk_at dksL_law_11 20 rfl rfl)
theorem dL_law_279 : decode cL_law 279 = .ok (.invokestatic 10, 3) := dk_184 0 10 (dk_at dksL_law_11 21 rfl rfl)
theorem dL_law_282 : decode cL_law 282 = .ok (.bipush 24, 2) := dk_16 24 (dk_at dksL_law_12 0 rfl rfl)
theorem dL_law_284 : decode cL_law 284 = .ok (.bipush 8, 2) := dk_16 8 (dk_at dksL_law_12 2 rfl rfl)
theorem dL_law_286 : decode cL_law 286 = .ok (.iload 7, 2) := dk_21 7 (dk_at dksL_law_12 4 rfl rfl)
theorem dL_law_288 : decode cL_law 288 = .ok (.iconst 4, 1) := dk_7 (dk_at dksL_law_12 6 rfl rfl)
theorem dL_law_289 : decode cL_law 289 = .ok (.irem, 1) := dk_112 (dk_at dksL_law_12 7 rfl rfl)
theorem dL_law_290 : decode cL_law 290 = .ok (.imul, 1) := dk_104 (dk_at dksL_law_12 8 rfl rfl)
theorem dL_law_291 : decode cL_law 291 = .ok (.isub, 1) := dk_100 (dk_at dksL_law_12 9 rfl rfl)
theorem dL_law_292 : decode cL_law 292 = .ok (.iushr, 1) := dk_124 (dk_at dksL_law_12 10 rfl rfl)
theorem dL_law_293 : decode cL_law 293 = .ok (.sipush 255, 3) := dk_17 0 255 (dk_at dksL_law_12 11 rfl rfl)
theorem dL_law_296 : decode cL_law 296 = .ok (.iand, 1) := dk_126 (dk_at dksL_law_12 14 rfl rfl)
theorem dL_law_297 : decode cL_law 297 = .ok (.if_icmp .eq 5, 3) := dk_159 0 5 (dk_at dksL_law_12 15 rfl rfl)
theorem dL_law_300 : decode cL_law 300 = .ok (.iconst 0, 1) := dk_3 (dk_at dksL_law_12 18 rfl rfl)
theorem dL_law_301 : decode cL_law 301 = .ok (.ireturn, 1) := dk_172 (dk_at dksL_law_12 19 rfl rfl)
theorem dL_law_302 : decode cL_law 302 = .ok (.iinc 7 1, 3) := dk_132 7 1 (dk_at dksL_law_12 20 rfl rfl)
theorem dL_law_305 : decode cL_law 305 = .ok (.goto (-51), 3) := dk_167 255 205 (dk_at dksL_law_13 0 rfl rfl)
theorem dL_law_308 : decode cL_law 308 = .ok (.iconst 1, 1) := dk_4 (dk_at dksL_law_13 3 rfl rfl)
theorem dL_law_309 : decode cL_law 309 = .ok (.ireturn, 1) := dk_172 (dk_at dksL_law_13 4 rfl rfl)

theorem q8 : (Jvm.Cond.initialized "java/lang/System") ∈ lw_all := lw_g (lw_at lw_m1 4 rfl) rfl
set_option maxRecDepth 100000
theorem q247 : (Jvm.Cond.static ({ cls := "java/lang/System", name := "arraycopy", desc := "(Ljava/lang/Object;ILjava/lang/Object;II)V" } : Jvm.MethodName)) ∈ lw_all := lw_g (lw_at lw_m2 3 rfl) rfl
theorem q248 : (Jvm.Cond.native ({ cls := "java/lang/System", name := "arraycopy", desc := "(Ljava/lang/Object;ILjava/lang/Object;II)V" } : Jvm.MethodName)) ∈ lw_all := lw_g (lw_at lw_m2 4 rfl) rfl

theorem q107 : (Jvm.Cond.arrayClass Jvm.ClassFile.FieldType.byte) ∈ lw_all := lw_g (lw_at lw_m1 103 rfl) rfl
set_option maxRecDepth 100000
theorem q281 : (Jvm.Cond.arrayClass Jvm.ClassFile.FieldType.int) ∈ lw_all := lw_g (lw_at lw_m2 37 rfl) rfl
end
section
/-! HELP: the world's words, one row an instruction with the world as an explicit list, one row a call -/
set_option maxRecDepth 100000
abbrev vwCl : List vw_C := [(RX1, TX1, 8), (RX2, TX2, 5), (RX3, TX3, 1)]
theorem hb_own1 (k : Nat) : (TX1 k).1 = RX1 := by unfold TX1; split <;> rfl
theorem hb_own2 (k : Nat) : (TX2 k).1 = RX2 := by unfold TX2; split <;> rfl
theorem hb_own3 (k : Nat) : (TX3 k).1 = RX3 := rfl
/-- a method's start and end: the world is a list of cells -/
abbrev hb_P (D : va_G) (cB : ClassId) (sz : Nat) (wd : va_W) (U : State) : Prop := U.heap.size = sz ∧ va_P D vwCl wd U.heap ∧ va_K D vwCl [(cB, .byte)] U ∧ va_D (fun _ => True) wd
abbrev hb_B (D : va_G) (cB : ClassId) (A : Nat → Prop) (wd : va_W) (t : State) : Prop := va_P D vwCl wd t.heap ∧ va_K D vwCl [(cB, .byte)] t ∧ va_D A wd
abbrev hb_Qi (D : va_G) (cB : ClassId) (post : Int32 → va_W → Prop) (A : Nat → Prop) : Array Value → State → Outcome → State → Prop := va_Qi post (hb_B D cB A) A
abbrev hb_Qv (D : va_G) (cB : ClassId) (post : va_W → Prop) (A : Nat → Prop) : Array Value → State → Outcome → State → Prop := va_Qv post (hb_B D cB A) A
abbrev hb_Qr (D : va_G) (cB : ClassId) (post : Nat → va_W → Prop) (A : Nat → Prop) : Array Value → State → Outcome → State → Prop := va_Qr (fun _ : va_W => True) (fun wd ra t => post ra wd ∧ hb_B D cB A wd t) A
/-- contracts: X says what else holds at the start -/
abbrev hb_Mi (l : Launch) (y : MethodName) (wsy : List Cond) (rm : Room) (D : va_G) (cB : ClassId) (sz : Nat) (as : List Value) (wd : va_W) (X : State → Prop) (post : Int32 → va_W → Prop) : Prop :=
  Met l y wsy rm (va_Pc as (fun U => hb_P D cB sz wd U ∧ X U)) (hb_Qi D cB post (va_A wd sz)) rm.cells rm.slots (va_A wd sz)
abbrev hb_Mv (l : Launch) (y : MethodName) (wsy : List Cond) (rm : Room) (D : va_G) (cB : ClassId) (sz : Nat) (as : List Value) (wd : va_W) (X : State → Prop) (post : va_W → Prop) : Prop :=
  Met l y wsy rm (va_Pc as (fun U => hb_P D cB sz wd U ∧ X U)) (hb_Qv D cB post (va_A wd sz)) rm.cells rm.slots (va_A wd sz)
abbrev hb_Mr (l : Launch) (y : MethodName) (wsy : List Cond) (rm : Room) (D : va_G) (cB : ClassId) (sz : Nat) (as : List Value) (wd : va_W) (X : State → Prop) (post : Nat → va_W → Prop) : Prop :=
  Met l y wsy rm (va_Pc as (fun U => hb_P D cB sz wd U ∧ X U)) (hb_Qr D cB post (va_A wd sz)) rm.cells rm.slots (va_A wd sz)
abbrev hb_T : State → Prop := fun _ => True
theorem hb_Psub {D : va_G} {cl : List vw_C} {ws ws' : va_W} {H : Heap} (h : va_P D cl ws H) (is : List Nat) (hs : is.map (fun i => ws[i]?) = ws'.map some) : va_P D cl ws' H := by
  intro k q hq
  have h1 : (is.map (fun i => ws[i]?))[k]? = some (some q) := by rw [hs, List.getElem?_map, hq]; rfl
  rw [List.getElem?_map] at h1
  cases hi : is[k]? with
  | none => rw [hi] at h1; cases h1
  | some i => rw [hi] at h1; exact h i q (Option.some.inj h1)
/-- a cell's contents, known on its places alone -/
theorem hb_ext {D : va_G} {cl : List vw_C} {ws wn : va_W} {A : Nat → Prop} {H : Heap} (hP : va_P D cl ws H) (hD : va_D A ws) (q0 : Nat) {a : Nat} {cA : ClassId} {n : Nat} {f : Nat → Int32} (g : Nat → Int32) (ha : ws[q0]? = some (a, .inl (cA, n, .inl f))) (hfg : ∀ j, j < n → f j = g j) (hw : ws.set q0 (a, .inl (cA, n, .inl g)) = wn) : va_P D cl wn H ∧ va_D A wn := by
  subst hw
  refine ⟨?_, hD.set ha⟩
  have e : vp_cell cA (n, .inl f) = vp_cell cA (n, .inl g) := by
    rw [vp_cell_i, vp_cell_i]
    unfold arrV
    congr 1
    congr 1
    funext j
    exact congrArg Value.int (hfg j.val j.isLt)
  intro k q hk
  by_cases h : q0 = k
  · subst h
    have hl : q0 < ws.length := (List.getElem?_eq_some_iff.mp ha).1
    rw [List.getElem?_set_self hl] at hk
    cases hk
    have h1 := hP q0 _ ha
    show H[a]? = some (vp_cell cA (n, .inl g))
    rw [← e]
    exact h1
  · rw [List.getElem?_set_ne h] at hk
    exact hP k q hk
section HB
variable {p : Program} {l : Launch} {e : Env} {R : Room} {s : State} {m : MethodId} {args : Array Value} {below : List Frame} {meth : Method} {c : Code} {H : Heap} {locs : List Loc} {cells slots : Nat} {Q : State → Prop}
variable {cc : ByteArray} {pc : Nat} {ls : Array Slot} {rest : List Value} {D : va_G} {A : Nat → Prop} {a : Nat} {ws wn : va_W} {H0 : Heap} {cB : ClassId} {own : String} {idx : Nat}
/-- the number on top, by another name -/
theorem hb_top {x : Int32} (v : Int32) (h : x = v) (kk : W p l e R s m args below meth c H locs cells slots Q (F0 m pc ls (.int v :: rest))) : W p l e R s m args below meth c H locs cells slots Q (F0 m pc ls (.int x :: rest)) := by
  subst h
  exact kk
theorem hb_bald (hx : p.tables.exec = Jvm.exec) (hb : c.code = cc) (hK : va_K D vwCl [(cB, .byte)] s) (hP : va_P D vwCl ws H) (q0 : Nat) {n : Nat} {f : Nat → Int32} (ha : ws[q0]? = some (a, .inl (cB, n, .inl f))) {j : Nat} (hj : j < n) (hn : n < 2 ^ 31) (v : Int32) (hv : f j = v) (hdg : decode cc pc = .ok (.baload, 1))
    (kk : W p l e R s m args below meth c H locs cells slots Q (F0 m (pc + 1) ls (.int v :: rest))) : W p l e R s m args below meth c H locs cells slots Q (F0 m pc ls (.int (nI j) :: .ref a :: rest)) := by
  refine va_bald hx hb hK hP q0 0 ha rfl (vp_in_nI hj hn) hdg ?_
  rw [nI_clamp (by omega), hv]
  exact kk
theorem hb_bast (hx : p.tables.exec = Jvm.exec) (hb : c.code = cc) (hK : va_K D vwCl [(cB, .byte)] s) (hP : va_P D vwCl ws H) (hD : va_D A ws) (hS : va_S A H0 H locs) (q0 : Nat) {n : Nat} {f : Nat → Int32} (ha : ws[q0]? = some (a, .inl (cB, n, .inl f))) {j : Nat} {x : Int32} (hj : j < n) (hn : n < 2 ^ 31) (g : Nat → Int32) (hg : upd f j x.toInt8.toInt32 = g) (hw : ws.set q0 (a, .inl (cB, n, .inl g)) = wn) (hdg : decode cc pc = .ok (.bastore, 1))
    (kk : ∀ (H1 : Heap) (locs1 : List Loc), va_P D vwCl wn H1 → va_D A wn → va_S A H0 H1 locs1 → W p l e R s m args below meth c H1 locs1 cells slots Q (F0 m (pc + 1) ls rest)) : W p l e R s m args below meth c H locs cells slots Q (F0 m pc ls (.int x :: .int (nI j) :: .ref a :: rest)) := by
  refine va_bast hx hb hK hP hD hS q0 0 ha rfl (vp_in_nI hj hn) hdg (fun H1 locs1 h1 h2 h3 => ?_)
  rw [nI_clamp (show j < 2 ^ 31 by omega), show upd f j (vp_nar .byte x) = g from hg, hw] at h1 h2
  exact kk H1 locs1 h1 h2 h3
theorem hb_alen (hx : p.tables.exec = Jvm.exec) (hb : c.code = cc) (hK : va_K D vwCl [(cB, .byte)] s) (hP : va_P D vwCl ws H) (q0 : Nat) {n : Nat} {f : Nat → Int32} (ha : ws[q0]? = some (a, .inl (cB, n, .inl f))) (hdg : decode cc pc = .ok (.arraylength, 1))
    (kk : W p l e R s m args below meth c H locs cells slots Q (F0 m (pc + 1) ls (.int (nI n) :: rest))) : W p l e R s m args below meth c H locs cells slots Q (F0 m pc ls (.ref a :: rest)) :=
  va_alen (v := nI n) hx hb hK hP q0 0 ha rfl rfl hdg kk
theorem hb_get1 (hx : p.tables.exec = Jvm.exec) (hb : c.code = cc) (hts : ∀ w ∈ lw_all, w.before args s = true) (hown : s.vm.findClass own = some m.cls) (hK : va_K D vwCl [(cB, .byte)] s) (hP : va_P D vwCl ws H) (q0 : Nat) {fs : List Value} (he : ws[q0]? = some (a, .inr (0, fs))) (k : Nat) (hk : k < 8) (hq : Cond.fieldLink own idx RX1 (TX1 k).2.1 (TX1 k).2.2.1 ∈ lw_all) {v : Value} (hv : fs[k]? = some v) (hdg : decode cc pc = .ok (.getfield idx, 3))
    (kk : W p l e R s m args below meth c H locs cells slots Q (F0 m (pc + 3) ls (v :: rest))) : W p l e R s m args below meth c H locs cells slots Q (F0 m pc ls (.ref a :: rest)) :=
  va_get (D := D) (ci := 0) (C := RX1) (T := TX1) (N := 8) hx hb hts in_X1 hown hK hP q0 he rfl k hk (hts _ hq) (fun _ h => by rw [hb_own1] at h; exact h) hv hdg kk
theorem hb_get2 (hx : p.tables.exec = Jvm.exec) (hb : c.code = cc) (hts : ∀ w ∈ lw_all, w.before args s = true) (hown : s.vm.findClass own = some m.cls) (hK : va_K D vwCl [(cB, .byte)] s) (hP : va_P D vwCl ws H) (q0 : Nat) {fs : List Value} (he : ws[q0]? = some (a, .inr (1, fs))) (k : Nat) (hk : k < 5) (hq : Cond.fieldLink own idx RX2 (TX2 k).2.1 (TX2 k).2.2.1 ∈ lw_all) {v : Value} (hv : fs[k]? = some v) (hdg : decode cc pc = .ok (.getfield idx, 3))
    (kk : W p l e R s m args below meth c H locs cells slots Q (F0 m (pc + 3) ls (v :: rest))) : W p l e R s m args below meth c H locs cells slots Q (F0 m pc ls (.ref a :: rest)) :=
  va_get (D := D) (ci := 1) (C := RX2) (T := TX2) (N := 5) hx hb hts in_X2 hown hK hP q0 he rfl k hk (hts _ hq) (fun _ h => by rw [hb_own2] at h; exact h) hv hdg kk
theorem hb_get3 (hx : p.tables.exec = Jvm.exec) (hb : c.code = cc) (hts : ∀ w ∈ lw_all, w.before args s = true) (hown : s.vm.findClass own = some m.cls) (hK : va_K D vwCl [(cB, .byte)] s) (hP : va_P D vwCl ws H) (q0 : Nat) {fs : List Value} (he : ws[q0]? = some (a, .inr (2, fs))) (k : Nat) (hk : k < 1) (hq : Cond.fieldLink own idx RX3 (TX3 k).2.1 (TX3 k).2.2.1 ∈ lw_all) {v : Value} (hv : fs[k]? = some v) (hdg : decode cc pc = .ok (.getfield idx, 3))
    (kk : W p l e R s m args below meth c H locs cells slots Q (F0 m (pc + 3) ls (v :: rest))) : W p l e R s m args below meth c H locs cells slots Q (F0 m pc ls (.ref a :: rest)) :=
  va_get (D := D) (ci := 2) (C := RX3) (T := TX3) (N := 1) hx hb hts in_X3 hown hK hP q0 he rfl k hk (hts _ hq) (fun _ h => by rw [hb_own3] at h; exact h) hv hdg kk
theorem hb_put1 (hx : p.tables.exec = Jvm.exec) (hb : c.code = cc) (hts : ∀ w ∈ lw_all, w.before args s = true) (hown : s.vm.findClass own = some m.cls) (hK : va_K D vwCl [(cB, .byte)] s) (hP : va_P D vwCl ws H) (hD : va_D A ws) (hS : va_S A H0 H locs) (q0 : Nat) {fs : List Value} (he : ws[q0]? = some (a, .inr (0, fs))) (k : Nat) (hk : k < 8) (hq : Cond.fieldLink own idx RX1 (TX1 k).2.1 (TX1 k).2.2.1 ∈ lw_all) (hfin : (TX1 k).2.2.2 = false) {v : Value} (hn : narrow (tyX1 k) v = v) (hfit : fits (tyX1 k) v = true) (hl : k < fs.length) (hw : ws.set q0 (a, .inr (0, fs.set k v)) = wn) (hdg : decode cc pc = .ok (.putfield idx, 3))
    (kk : ∀ (H1 : Heap) (locs1 : List Loc), va_P D vwCl wn H1 → va_D A wn → va_S A H0 H1 locs1 → W p l e R s m args below meth c H1 locs1 cells slots Q (F0 m (pc + 3) ls rest)) : W p l e R s m args below meth c H locs cells slots Q (F0 m pc ls (v :: .ref a :: rest)) := by
  subst hw
  exact va_put (D := D) (ci := 0) (ty := tyX1 k) (C := RX1) (T := TX1) (N := 8) hx hb hts in_X1 tyX1 tyX1_ok nmX1 hown hK hP hD hS q0 he rfl k hk (hts _ hq) (fun _ h => by rw [hb_own1] at h; exact h) hfin (tyX1_ok k hk) hn hfit hl hdg kk
theorem hb_putF (hx : p.tables.exec = Jvm.exec) (hb : c.code = cc) (hts : ∀ w ∈ lw_all, w.before args s = true) (hown : s.vm.findClass RX1 = some m.cls) (hin : meth.name = "<init>") (hK : va_K D vwCl [(cB, .byte)] s) (hP : va_P D vwCl ws H) (hD : va_D A ws) (hS : va_S A H0 H locs) (q0 : Nat) {fs : List Value} (he : ws[q0]? = some (a, .inr (0, fs))) (k : Nat) (hk : k < 8) (hq : Cond.fieldLink RX1 idx RX1 (TX1 k).2.1 (TX1 k).2.2.1 ∈ lw_all) (hfin : (TX1 k).2.2.2 = true) {v : Value} (hn : narrow (tyX1 k) v = v) (hfit : fits (tyX1 k) v = true) (hl : k < fs.length) (hw : ws.set q0 (a, .inr (0, fs.set k v)) = wn) (hdg : decode cc pc = .ok (.putfield idx, 3))
    (kk : ∀ (H1 : Heap) (locs1 : List Loc), va_P D vwCl wn H1 → va_D A wn → va_S A H0 H1 locs1 → W p l e R s m args below meth c H1 locs1 cells slots Q (F0 m (pc + 3) ls rest)) : W p l e R s m args below meth c H locs cells slots Q (F0 m pc ls (v :: .ref a :: rest)) := by
  subst hw
  exact va_putF (D := D) (ci := 0) (ty := tyX1 k) (C := RX1) (T := TX1) (N := 8) hx hb hts in_X1 tyX1 tyX1_ok nmX1 hown hK hP hD hS q0 he rfl k hk (hts _ hq) (fun _ h => by rw [hb_own1] at h; exact h) hfin hin (hb_own1 k) (tyX1_ok k hk) hn hfit hl hdg kk
theorem hb_put2 (hx : p.tables.exec = Jvm.exec) (hb : c.code = cc) (hts : ∀ w ∈ lw_all, w.before args s = true) (hown : s.vm.findClass own = some m.cls) (hK : va_K D vwCl [(cB, .byte)] s) (hP : va_P D vwCl ws H) (hD : va_D A ws) (hS : va_S A H0 H locs) (q0 : Nat) {fs : List Value} (he : ws[q0]? = some (a, .inr (1, fs))) (k : Nat) (hk : k < 5) (hq : Cond.fieldLink own idx RX2 (TX2 k).2.1 (TX2 k).2.2.1 ∈ lw_all) (hfin : (TX2 k).2.2.2 = false) {v : Value} (hn : narrow (tyX2 k) v = v) (hfit : fits (tyX2 k) v = true) (hl : k < fs.length) (hw : ws.set q0 (a, .inr (1, fs.set k v)) = wn) (hdg : decode cc pc = .ok (.putfield idx, 3))
    (kk : ∀ (H1 : Heap) (locs1 : List Loc), va_P D vwCl wn H1 → va_D A wn → va_S A H0 H1 locs1 → W p l e R s m args below meth c H1 locs1 cells slots Q (F0 m (pc + 3) ls rest)) : W p l e R s m args below meth c H locs cells slots Q (F0 m pc ls (v :: .ref a :: rest)) := by
  subst hw
  exact va_put (D := D) (ci := 1) (ty := tyX2 k) (C := RX2) (T := TX2) (N := 5) hx hb hts in_X2 tyX2 tyX2_ok nmX2 hown hK hP hD hS q0 he rfl k hk (hts _ hq) (fun _ h => by rw [hb_own2] at h; exact h) hfin (tyX2_ok k hk) hn hfit hl hdg kk
theorem hb_put3 (hx : p.tables.exec = Jvm.exec) (hb : c.code = cc) (hts : ∀ w ∈ lw_all, w.before args s = true) (hown : s.vm.findClass own = some m.cls) (hK : va_K D vwCl [(cB, .byte)] s) (hP : va_P D vwCl ws H) (hD : va_D A ws) (hS : va_S A H0 H locs) (q0 : Nat) {fs : List Value} (he : ws[q0]? = some (a, .inr (2, fs))) (k : Nat) (hk : k < 1) (hq : Cond.fieldLink own idx RX3 (TX3 k).2.1 (TX3 k).2.2.1 ∈ lw_all) (hfin : (TX3 k).2.2.2 = false) {v : Value} (hn : narrow (tyX3 k) v = v) (hfit : fits (tyX3 k) v = true) (hl : k < fs.length) (hw : ws.set q0 (a, .inr (2, fs.set k v)) = wn) (hdg : decode cc pc = .ok (.putfield idx, 3))
    (kk : ∀ (H1 : Heap) (locs1 : List Loc), va_P D vwCl wn H1 → va_D A wn → va_S A H0 H1 locs1 → W p l e R s m args below meth c H1 locs1 cells slots Q (F0 m (pc + 3) ls rest)) : W p l e R s m args below meth c H locs cells slots Q (F0 m pc ls (v :: .ref a :: rest)) := by
  subst hw
  exact va_put (D := D) (ci := 2) (ty := tyX3 k) (C := RX3) (T := TX3) (N := 1) hx hb hts in_X3 tyX3 tyX3_ok nmX3 hown hK hP hD hS q0 he rfl k hk (hts _ hq) (fun _ h => by rw [hb_own3] at h; exact h) hfin (tyX3_ok k hk) hn hfit hl hdg kk
theorem hb_newB {k k' N : Nat} (hx : p.tables.exec = Jvm.exec) (hb : c.code = cc) (hts : ∀ w ∈ lw_all, w.before args s = true) (hK : va_K D vwCl [(cB, .byte)] s) (hP : va_P D vwCl ws H) (hD : va_D A ws) (hS : va_S A H0 H locs) (hA : ∀ q : Nat, H0.size ≤ q → A q) (hN : N ≤ 65536) (hk : cells + 1 ≤ k ∧ slots + N ≤ k') (hkR : k ≤ R.cells ∧ k' ≤ R.slots) (hdg : decode cc pc = .ok (.newarray .byte, 2))
    (kk : ∀ (q : Nat) (H1 : Heap), va_P D vwCl (ws ++ [(q, .inl (cB, N, .inl (fun _ => 0)))]) H1 → va_D A (ws ++ [(q, .inl (cB, N, .inl (fun _ => 0)))]) → va_S A H0 H1 locs → W p l e R s m args below meth c H1 locs k k' Q (F0 m (pc + 2) ls (.ref q :: rest))) : W p l e R s m args below meth c H locs cells slots Q (F0 m pc ls (.int (nI N) :: rest)) := by
  refine va_newa (atype := .byte) (ty := .byte) (a0 := (N, .inl (fun _ => 0))) (N' := N) hx hb (hts _ q107) rfl hK hP hD hS hA (fun _ => rfl) (nI_pos (by omega)) (nI_clamp (by omega)) (by show N * 1 ≤ 536870912; omega) (Nat.le_trans hk.1 hkR.1) (Nat.le_trans hk.2 hkR.2) hdg (fun q cA H1 hK1 hP1 hD1 hS1 => ?_)
  have e1 : va_RA s cA .byte := (hK1.2 1 (cA, .byte) rfl).2
  have e2 : va_RA s cB .byte := (hK.2 0 (cB, .byte) rfl).2
  have e3 : s.vm.findClass ("[" ++ (FieldType.byte).toString) = some cA := e1
  have e4 : s.vm.findClass ("[" ++ (FieldType.byte).toString) = some cB := e2
  obtain rfl : cA = cB := Option.some.inj (e3.symm.trans e4)
  exact W.widen hk.1 hk.2 (kk q H1 hP1 hD1 hS1)
theorem hb_new1 {k k' : Nat} (hx : p.tables.exec = Jvm.exec) (hb : c.code = cc) (hts : ∀ w ∈ lw_all, w.before args s = true) (hown : s.vm.findClass own = some m.cls) (hq : Cond.classLink own idx RX1 ∈ lw_all) (hK : va_K D vwCl [(cB, .byte)] s) (hP : va_P D vwCl ws H) (hD : va_D A ws) (hS : va_S A H0 H locs) (hA : ∀ q : Nat, H0.size ≤ q → A q) (hk : cells + 1 ≤ k ∧ slots + 8 ≤ k') (hkR : k ≤ R.cells ∧ k' ≤ R.slots) (hdg : decode cc pc = .ok (.new idx, 3))
    (kk : ∀ (q : Nat) (H1 : Heap), va_P D vwCl (ws ++ [(q, .inr (0, [.null, .int 0, .int 0, .null, .null, .null, .int 0, .null]))]) H1 → va_D A (ws ++ [(q, .inr (0, [.null, .int 0, .int 0, .null, .null, .null, .int 0, .null]))]) → va_S A H0 H1 locs → W p l e R s m args below meth c H1 locs k k' Q (F0 m (pc + 3) ls (.ref q :: rest))) : W p l e R s m args below meth c H locs cells slots Q (F0 m pc ls rest) :=
  va_new (ci := 0) (fs := [.null, .int 0, .int 0, .null, .null, .null, .int 0, .null]) (C := RX1) (T := TX1) (N := 8) hx hb hts in_X1 tyX1 tyX1_ok hown (hts _ hq) (hts _ q23) (hts _ q5) hK hP hD hS hA rfl (fun j hj => by rcases (show j = 0 ∨ j = 1 ∨ j = 2 ∨ j = 3 ∨ j = 4 ∨ j = 5 ∨ j = 6 ∨ j = 7 by omega) with rfl | rfl | rfl | rfl | rfl | rfl | rfl | rfl <;> rfl) (Nat.le_trans hk.1 hkR.1) (Nat.le_trans hk.2 hkR.2) hdg (fun q H1 h1 h2 h3 => W.widen hk.1 hk.2 (kk q H1 h1 h2 h3))
theorem hb_new2 {k k' : Nat} (hx : p.tables.exec = Jvm.exec) (hb : c.code = cc) (hts : ∀ w ∈ lw_all, w.before args s = true) (hown : s.vm.findClass own = some m.cls) (hq : Cond.classLink own idx RX2 ∈ lw_all) (hK : va_K D vwCl [(cB, .byte)] s) (hP : va_P D vwCl ws H) (hD : va_D A ws) (hS : va_S A H0 H locs) (hA : ∀ q : Nat, H0.size ≤ q → A q) (hk : cells + 1 ≤ k ∧ slots + 5 ≤ k') (hkR : k ≤ R.cells ∧ k' ≤ R.slots) (hdg : decode cc pc = .ok (.new idx, 3))
    (kk : ∀ (q : Nat) (H1 : Heap), va_P D vwCl (ws ++ [(q, .inr (1, [.null, .int 0, .int 0, .null, .int 0]))]) H1 → va_D A (ws ++ [(q, .inr (1, [.null, .int 0, .int 0, .null, .int 0]))]) → va_S A H0 H1 locs → W p l e R s m args below meth c H1 locs k k' Q (F0 m (pc + 3) ls (.ref q :: rest))) : W p l e R s m args below meth c H locs cells slots Q (F0 m pc ls rest) :=
  va_new (ci := 1) (fs := [.null, .int 0, .int 0, .null, .int 0]) (C := RX2) (T := TX2) (N := 5) hx hb hts in_X2 tyX2 tyX2_ok hown (hts _ hq) (hts _ q144) (hts _ q6) hK hP hD hS hA rfl (fun j hj => by rcases (show j = 0 ∨ j = 1 ∨ j = 2 ∨ j = 3 ∨ j = 4 by omega) with rfl | rfl | rfl | rfl | rfl <;> rfl) (Nat.le_trans hk.1 hkR.1) (Nat.le_trans hk.2 hkR.2) hdg (fun q H1 h1 h2 h3 => W.widen hk.1 hk.2 (kk q H1 h1 h2 h3))
theorem hb_new3 {k k' : Nat} (hx : p.tables.exec = Jvm.exec) (hb : c.code = cc) (hts : ∀ w ∈ lw_all, w.before args s = true) (hown : s.vm.findClass own = some m.cls) (hq : Cond.classLink own idx RX3 ∈ lw_all) (hK : va_K D vwCl [(cB, .byte)] s) (hP : va_P D vwCl ws H) (hD : va_D A ws) (hS : va_S A H0 H locs) (hA : ∀ q : Nat, H0.size ≤ q → A q) (hk : cells + 1 ≤ k ∧ slots + 1 ≤ k') (hkR : k ≤ R.cells ∧ k' ≤ R.slots) (hdg : decode cc pc = .ok (.new idx, 3))
    (kk : ∀ (q : Nat) (H1 : Heap), va_P D vwCl (ws ++ [(q, .inr (2, [.null]))]) H1 → va_D A (ws ++ [(q, .inr (2, [.null]))]) → va_S A H0 H1 locs → W p l e R s m args below meth c H1 locs k k' Q (F0 m (pc + 3) ls (.ref q :: rest))) : W p l e R s m args below meth c H locs cells slots Q (F0 m pc ls rest) :=
  va_new (ci := 2) (fs := [.null]) (C := RX3) (T := TX3) (N := 1) hx hb hts in_X3 tyX3 tyX3_ok hown (hts _ hq) (hts _ q231) (hts _ q7) hK hP hD hS hA rfl (fun j hj => by rcases (show j = 0 by omega) with rfl; rfl) (Nat.le_trans hk.1 hkR.1) (Nat.le_trans hk.2 hkR.2) hdg (fun q H1 h1 h2 h3 => W.widen hk.1 hk.2 (kk q H1 h1 h2 h3))
/-- Object() -/
theorem hb_obj {nL : Nat} (hx : p.tables.exec = Jvm.exec) (hb : c.code = cc) (hts : ∀ w ∈ lw_all, w.before args s = true) (hown : s.vm.findClass own = some m.cls) (hq : Cond.methodLink own idx objectInit ∈ lw_all) (hml : c.maxLocals = nL) (hls : ls.size = nL) (hR : 1 ≤ R.frames) (hRl : 20 ≤ R.locals) (hW : (rest.map fun v => v.category).sum ≤ 8) (hdg : decode cc pc = .ok (.invokespecial idx, 3))
    (kk : W p l e R s m args below meth c H locs cells slots Q (F0 m (pc + 3) ls rest)) : W p l e R s m args below meth c H locs cells slots Q (F0 m pc ls (.ref a :: rest)) := by
  refine W.objInit hx hb hown (hts _ hq) (hts _ q61) (hts _ q62) rfl (by rw [hml]; exact hls) rfl hdg hR ?_ kk
  have h := lv_room (m := m) (pc := pc) (ls := ls) (rest := .ref a :: rest) hW
  omega
/-! ends -/
theorem hb_reti {post : Int32 → va_W → Prop} {v : Int32} {ty : FieldType} {mc ms : Nat} (hx : p.tables.exec = Jvm.exec) (hb : c.code = cc) (hr : meth.sig.returnType = some ty) (hlk : meth.locks = false) (hn : narrow ty (.int v) = .int v) (hK : va_K D vwCl [(cB, .byte)] s) (hP : va_P D vwCl ws H) (hD : va_D A ws) (hS : va_S A s.heap H locs) (hpost : post v ws) (hc : cells ≤ mc ∧ slots ≤ ms) (hdg : decode cc pc = .ok (.ireturn, 1)) :
    W p l e R s m args below meth c H locs cells slots (MQ below (hb_Qi D cB post A) args s mc ms A) (F0 m pc ls [.int v]) :=
  W.widen hc.1 hc.2 (W.zret hx hb hr hn (fun t ht hW => ⟨⟨v, ws, rfl, hpost, by rw [ht]; exact hP, va_K.moved hW.alike hK, hD⟩, hS.F ht⟩) hS.2.2 hdg hlk)
theorem hb_retv {post : va_W → Prop} {mc ms : Nat} (hx : p.tables.exec = Jvm.exec) (hb : c.code = cc) (hr : meth.sig.returnType = none) (hlk : meth.locks = false) (hK : va_K D vwCl [(cB, .byte)] s) (hP : va_P D vwCl ws H) (hD : va_D A ws) (hS : va_S A s.heap H locs) (hpost : post ws) (hc : cells ≤ mc ∧ slots ≤ ms) (hdg : decode cc pc = .ok (.return_, 1)) :
    W p l e R s m args below meth c H locs cells slots (MQ below (hb_Qv D cB post A) args s mc ms A) (F0 m pc ls []) :=
  W.widen hc.1 hc.2 (W.vret hx hb hr (fun t ht hW => ⟨⟨ws, rfl, hpost, by rw [ht]; exact hP, va_K.moved hW.alike hK, hD⟩, hS.F ht⟩) hS.2.2 hdg hlk)
theorem hb_retr {post : Nat → va_W → Prop} {rt : FieldType} {mc ms : Nat} (hx : p.tables.exec = Jvm.exec) (hb : c.code = cc) (hr : meth.sig.returnType = some rt) (hlk : meth.locks = false) (hrt : (∃ n, rt = .object n) ∨ ∃ t, rt = .array t) (hK : va_K D vwCl [(cB, .byte)] s) (hP : va_P D vwCl ws H) (hD : va_D A ws) (hS : va_S A s.heap H locs) (hpost : post a ws) (hc : cells ≤ mc ∧ slots ≤ ms) (hdg : decode cc pc = .ok (.areturn, 1)) :
    W p l e R s m args below meth c H locs cells slots (MQ below (hb_Qr D cB post A) args s mc ms A) (F0 m pc ls [.ref a]) :=
  W.widen hc.1 hc.2 (W.aret hx hb hr hrt (Or.inr ⟨a, rfl⟩) (fun t ht hW => ⟨⟨ws, a, rfl, trivial, hpost, by rw [ht]; exact hP, va_K.moved hW.alike hK, hD⟩, hS.F ht⟩) hS.2.2 hdg hlk)
end HB
end
section
/-! A METHOD'S START, AND CALLS -/
set_option maxRecDepth 100000
/-- what holds at a method's entry -/
abbrev hb_At (p : Program) (s : State) (m : MethodId) (args : Array Value) (meth : Method) (c : Code) (y : MethodName) (cc : ByteArray) (maxL : Nat) (ret : Option FieldType) : Prop :=
  p.tables.exec = Jvm.exec ∧ c.code = cc ∧ meth.sig.returnType = ret ∧ meth.locks = false ∧ c.maxLocals = maxL ∧ s.vm.findClass y.cls = some m.cls ∧ (∀ w ∈ lw_all, w.before args s = true) ∧ meth.name = y.name
abbrev hb_In (s : State) (D : va_G) (cB : ClassId) (A : Nat → Prop) (wd : va_W) : Prop :=
  va_K D vwCl [(cB, .byte)] s ∧ va_P D vwCl wd s.heap ∧ va_D A wd ∧ (∀ q : Nat, s.heap.size ≤ q → A q) ∧ va_S A s.heap s.heap [] ∧ ∀ q : Nat, q < s.heap.size → (∀ (k : Nat) (x : Nat × va_E), wd[k]? = some x → x.1 ≠ q) → ¬ A q
theorem hb_startG {l : Launch} {y : MethodName} {cc : ByteArray} {maxL : Nat} {ret : Option FieldType} {rm : Room} {D : va_G} {cB : ClassId} {sz : Nat} {as : List Value} {wd : va_W} {X : State → Prop} {Qc : (Nat → Prop) → Array Value → State → Outcome → State → Prop} (hy : plainName y.cls = true) (hn : (lg_sl as).length ≤ maxL)
    (body : ∀ (p : Program) (e : Env) (s : State) (m : MethodId) (args : Array Value) (below : List Frame) (meth : Method) (c : Code) (A : Nat → Prop), hb_At p s m args meth c y cc maxL ret → hb_In s D cB A wd → s.heap.size = sz → X s → ∀ ls : Array Slot, lv_has ls maxL (lv_args 0 as) → W p l e rm s m args below meth c s.heap [] 0 0 (MQ below (Qc A) args s rm.cells rm.slots A) (F0 m 0 ls [])) :
    Met l y (ws_ y cc maxL ret) rm (va_Pc as (fun U => hb_P D cB sz wd U ∧ X U)) (Qc (va_A wd sz)) rm.cells rm.slots (va_A wd sz) := by
  refine Met.ofW (cc := cc) (maxL := maxL) (ret := ret) hy rfl ?_
  intro p e s m args below meth c s₁ B hml hv
  obtain ⟨rfl, ⟨hsz, hP, hK, hD0⟩, hX⟩ := hv
  have hts := atoms_spec (ws := ws_ y cc maxL ret) B.pre
  have hts : ∀ w ∈ lw_all, w.before _ s = true := fun w h => hts w (List.mem_cons_of_mem _ h)
  have hown : s.vm.findClass y.cls = some m.cls := findClass_of_methodNamed B.named
  subst hsz
  have hD := hD0.self (sz := s.heap.size)
  have hA : ∀ q : Nat, s.heap.size ≤ q → va_A wd s.heap.size q := fun q h => Or.inr h
  have hl := lv_entry as (n := maxL) hn
  rw [lg_entry_eq]
  refine body p e s m _ below meth c (va_A wd s.heap.size) ⟨B.exec, B.bytes, B.returns, B.notSynchronized, hml, hown, hts, (name_of_methodNamed B.named B.method).1⟩ ⟨hK, hP, hD, hA, va_S.rf, ?_⟩ rfl hX _ hl
  intro q hq hne h
  rcases h with ⟨k, x, hk⟩ | h
  · exact hne k (q, x) hk rfl
  · omega
section HC
variable {p : Program} {l : Launch} {e : Env} {R : Room} {s : State} {m : MethodId} {args : Array Value} {below : List Frame} {meth : Method} {c : Code} {H : Heap} {locs : List Loc} {cells slots : Nat} {Q : State → Prop}
variable {cc : ByteArray} {pc : Nat} {ls : Array Slot} {rest st As : List Value} {D : va_G} {A : Nat → Prop} {b : Nat} {ws wc wr : va_W} {H0 : Heap} {cB : ClassId} {own C : String} {idx nL n mL k k' : Nat} {y : MethodName} {wsy : List Cond} {rm : Room} {cy : ByteArray} {ry : Option FieldType} {X : State → Prop}
abbrev hb_Bl (X : State → Prop) : Prop := ∀ (U : State) (g : JFrame) (mk : MethodId) (a : Array Value), X U → X (U.calling g mk a)
theorem hb_bl : hb_Bl hb_T := fun _ _ _ _ _ => trivial
/-- the caller's world at a call -/
abbrev hb_Now (s : State) (D : va_G) (cB : ClassId) (A : Nat → Prop) (ws : va_W) (H0 H : Heap) (locs : List Loc) : Prop :=
  va_K D vwCl [(cB, .byte)] s ∧ va_P D vwCl ws H ∧ va_D A ws ∧ va_S A H0 H locs ∧ ∀ q : Nat, H0.size ≤ q → A q
/-- which of its cells it hands down, and which it keeps -/
abbrev hb_Cut (ws wc wr : va_W) (isC isR : List Nat) : Prop :=
  isC.map (fun i => ws[i]?) = wc.map some ∧ isR.map (fun i => ws[i]?) = wr.map some ∧ va_nd isC = true ∧ va_nd isR = true ∧ ∀ i ∈ isR, i ∉ isC
theorem hb_blind (hXb : hb_Bl X) : FrameBlind (va_Pc As (fun U => hb_P D cB H.size wc U ∧ X U)) := by
  intro a U g mk q
  obtain ⟨q0, ⟨q1, qP, qK, qD⟩, qX⟩ := q
  exact ⟨q0, ⟨q1, qP, va_K.moved (u := U) (U := U.calling g mk a) (Vm.Alike.refl U.vm) qK, qD⟩, hXb U g mk a qX⟩
theorem hb_pre {as : List Value} (N : hb_Now s D cB A ws H0 H locs) {isC isR : List Nat} (Z : hb_Cut ws wc wr isC isR) (hX : ∀ U : State, U.heap = H → s.WarmedH U.vm → X U) : ∀ U : State, U.heap = H → s.WarmedH U.vm → va_Pc as (fun U => hb_P D cB H.size wc U ∧ X U) as.toArray U := by
  obtain ⟨hK, hP, hD, hS, hA⟩ := N
  obtain ⟨hC, hR, hnC, hnR, hdis⟩ := Z
  have hPc : va_P D vwCl wc H := hb_Psub hP isC hC
  have hDc : va_D A wc := hD.sub isC hnC hC
  intro U hU hW
  exact ⟨rfl, ⟨by rw [hU], by rw [hU]; exact hPc, va_K.moved hW.alike hK, hDc.weaken (fun _ _ _ _ => trivial)⟩, hX U hU hW⟩
theorem hb_back (N : hb_Now s D cB A ws H0 H locs) {isC isR : List Nat} (Z : hb_Cut ws wc wr isC isR) {H1 : Heap} {t : State} {w1 : va_W} (ht : t.heap = H1) (hk : ∀ q : Nat, q < H.size → ¬ va_A wc H.size q → H1[q]? = H[q]?) (hB : hb_B D cB (va_A wc H.size) w1 t) : va_P D vwCl (wr ++ w1) H1 ∧ va_D A (wr ++ w1) := by
  obtain ⟨hK, hP, hD, hS, hA⟩ := N
  obtain ⟨hC, hR, hnC, hnR, hdis⟩ := Z
  have hFc := va_free (wc := wc) hD hS hA isC hC
  obtain ⟨hP1, hK1, hD1⟩ := hB
  rw [ht] at hP1
  exact va_join (wr := wr) (w1 := w1) hP hD isC isR hC hR hnR hdis hk hFc hP1 hD1
theorem hb_fr (N : hb_Now s D cB A ws H0 H locs) {isC isR : List Nat} (Z : hb_Cut ws wc wr isC isR) : ∀ q, va_A wc H.size q → A q := va_free (wc := wc) N.2.2.1 N.2.2.2.1 N.2.2.2.2 isC Z.1
/-- x.m(..) with an int or a boolean or a byte for an answer -/
theorem hb_Vi {post : Int32 → va_W → Prop} (F : CallFix p m c cc nL s args lw_all own) (hM : hb_Mi l y wsy rm D cB H.size (.ref b :: As) wc X post) (cw : CallW R s args own C idx y cy mL ry wsy rm rm.cells rm.slots n) (N : hb_Now s D cB A ws H0 H locs) (isC isR : List Nat) (Z : hb_Cut ws wc wr isC isR)
    (hrv : ∃ cell : Cell, H[b]? = some cell ∧ cell.vm.isStatics = false ∧ s.vm.findClass C = some cell.cls) (hXb : hb_Bl X) (hX : ∀ U : State, U.heap = H → s.WarmedH U.vm → X U) (hn : As.length = n) (hsize : ls.size = nL) (hst : st = As.reverse ++ .ref b :: rest) (hW : (rest.map fun v => v.category).sum ≤ 8) (hdg : decode cc pc = .ok (.invokevirtual idx, 3)) (hk : cells + rm.cells ≤ k ∧ slots + rm.slots ≤ k') (hkR : k ≤ R.cells ∧ k' ≤ R.slots)
    (kk : ∀ (r : Int32) (w1 : va_W) (H1 : Heap) (locs1 : List Loc), post r w1 → va_P D vwCl (wr ++ w1) H1 → va_D A (wr ++ w1) → va_S A H0 H1 locs1 → W p l e R s m args below meth c H1 locs1 k k' Q (F0 m (pc + 3) ls (.int r :: rest))) : W p l e R s m args below meth c H locs cells slots Q (F0 m pc ls st) := by
  subst hst
  have hFc := hb_fr N Z
  refine va_calli (va_runV F hM cw ⟨hb_blind hXb, hrv, hb_pre N Z hX⟩ rfl hn hsize rfl (lv_room hW) hdg ⟨Nat.le_trans hk.1 hkR.1, Nat.le_trans hk.2 hkR.2⟩) N.2.2.2.1 (fun q _ h => hFc q h) hFc (fun r w1 t H1 locs1 ht hvm hw hB hz1 hk1 hS1 => ?_)
  obtain ⟨hP2, hD2⟩ := hb_back N Z ht hk1 hB
  exact W.widen hk.1 hk.2 (kk r w1 H1 locs1 hw hP2 hD2 hS1)
theorem hb_Vv {post : va_W → Prop} (F : CallFix p m c cc nL s args lw_all own) (hM : hb_Mv l y wsy rm D cB H.size (.ref b :: As) wc X post) (cw : CallW R s args own C idx y cy mL ry wsy rm rm.cells rm.slots n) (N : hb_Now s D cB A ws H0 H locs) (isC isR : List Nat) (Z : hb_Cut ws wc wr isC isR)
    (hrv : ∃ cell : Cell, H[b]? = some cell ∧ cell.vm.isStatics = false ∧ s.vm.findClass C = some cell.cls) (hXb : hb_Bl X) (hX : ∀ U : State, U.heap = H → s.WarmedH U.vm → X U) (hn : As.length = n) (hsize : ls.size = nL) (hst : st = As.reverse ++ .ref b :: rest) (hW : (rest.map fun v => v.category).sum ≤ 8) (hdg : decode cc pc = .ok (.invokevirtual idx, 3)) (hk : cells + rm.cells ≤ k ∧ slots + rm.slots ≤ k') (hkR : k ≤ R.cells ∧ k' ≤ R.slots)
    (kk : ∀ (w1 : va_W) (H1 : Heap) (locs1 : List Loc), post w1 → va_P D vwCl (wr ++ w1) H1 → va_D A (wr ++ w1) → va_S A H0 H1 locs1 → W p l e R s m args below meth c H1 locs1 k k' Q (F0 m (pc + 3) ls rest)) : W p l e R s m args below meth c H locs cells slots Q (F0 m pc ls st) := by
  subst hst
  have hFc := hb_fr N Z
  refine va_callv (va_runV F hM cw ⟨hb_blind hXb, hrv, hb_pre N Z hX⟩ rfl hn hsize rfl (lv_room hW) hdg ⟨Nat.le_trans hk.1 hkR.1, Nat.le_trans hk.2 hkR.2⟩) N.2.2.2.1 (fun q _ h => hFc q h) hFc (fun w1 t H1 locs1 ht hvm hw hB hz1 hk1 hS1 => ?_)
  obtain ⟨hP2, hD2⟩ := hb_back N Z ht hk1 hB
  exact W.widen hk.1 hk.2 (kk w1 H1 locs1 hw hP2 hD2 hS1)
theorem hb_Vr {post : Nat → va_W → Prop} (F : CallFix p m c cc nL s args lw_all own) (hM : hb_Mr l y wsy rm D cB H.size (.ref b :: As) wc X post) (cw : CallW R s args own C idx y cy mL ry wsy rm rm.cells rm.slots n) (N : hb_Now s D cB A ws H0 H locs) (isC isR : List Nat) (Z : hb_Cut ws wc wr isC isR)
    (hrv : ∃ cell : Cell, H[b]? = some cell ∧ cell.vm.isStatics = false ∧ s.vm.findClass C = some cell.cls) (hXb : hb_Bl X) (hX : ∀ U : State, U.heap = H → s.WarmedH U.vm → X U) (hn : As.length = n) (hsize : ls.size = nL) (hst : st = As.reverse ++ .ref b :: rest) (hW : (rest.map fun v => v.category).sum ≤ 8) (hdg : decode cc pc = .ok (.invokevirtual idx, 3)) (hk : cells + rm.cells ≤ k ∧ slots + rm.slots ≤ k') (hkR : k ≤ R.cells ∧ k' ≤ R.slots)
    (kk : ∀ (ra : Nat) (w1 : va_W) (H1 : Heap) (locs1 : List Loc), post ra w1 → va_P D vwCl (wr ++ w1) H1 → va_D A (wr ++ w1) → va_S A H0 H1 locs1 → W p l e R s m args below meth c H1 locs1 k k' Q (F0 m (pc + 3) ls (.ref ra :: rest))) : W p l e R s m args below meth c H locs cells slots Q (F0 m pc ls st) := by
  subst hst
  have hFc := hb_fr N Z
  refine va_callr (va_runV F hM cw ⟨hb_blind hXb, hrv, hb_pre N Z hX⟩ rfl hn hsize rfl (lv_room hW) hdg ⟨Nat.le_trans hk.1 hkR.1, Nat.le_trans hk.2 hkR.2⟩) N.2.2.2.1 (fun q _ h => hFc q h) hFc (fun w1 ra t H1 locs1 ht hvm _ hB hz1 hk1 hS1 => ?_)
  obtain ⟨hw, hB⟩ := hB
  obtain ⟨hP2, hD2⟩ := hb_back N Z ht hk1 hB
  exact W.widen hk.1 hk.2 (kk ra w1 H1 locs1 hw hP2 hD2 hS1)
/-- new C(..): its constructor -/
theorem hb_Iv {post : va_W → Prop} (F : CallFix p m c cc nL s args lw_all own) (hM : hb_Mv l y wsy rm D cB H.size (.ref b :: As) wc X post) (cw : CallB R s args own idx y cy mL none wsy rm rm.cells rm.slots n ∧ y.name = "<init>" ∧ (Cond.instanceMethod y).before args s = true) (N : hb_Now s D cB A ws H0 H locs) (isC isR : List Nat) (Z : hb_Cut ws wc wr isC isR)
    (hXb : hb_Bl X) (hX : ∀ U : State, U.heap = H → s.WarmedH U.vm → X U) (hn : As.length = n) (hsize : ls.size = nL) (hst : st = As.reverse ++ .ref b :: rest) (hW : (rest.map fun v => v.category).sum ≤ 8) (hdg : decode cc pc = .ok (.invokespecial idx, 3)) (hk : cells + rm.cells ≤ k ∧ slots + rm.slots ≤ k') (hkR : k ≤ R.cells ∧ k' ≤ R.slots)
    (kk : ∀ (w1 : va_W) (H1 : Heap) (locs1 : List Loc), post w1 → va_P D vwCl (wr ++ w1) H1 → va_D A (wr ++ w1) → va_S A H0 H1 locs1 → W p l e R s m args below meth c H1 locs1 k k' Q (F0 m (pc + 3) ls rest)) : W p l e R s m args below meth c H locs cells slots Q (F0 m pc ls st) := by
  subst hst
  have hFc := hb_fr N Z
  refine va_callv (va_runI F hM cw ⟨hb_blind hXb, hb_pre N Z hX⟩ rfl hn hsize rfl (lv_room hW) hdg ⟨Nat.le_trans hk.1 hkR.1, Nat.le_trans hk.2 hkR.2⟩) N.2.2.2.1 (fun q _ h => hFc q h) hFc (fun w1 t H1 locs1 ht hvm hw hB hz1 hk1 hS1 => ?_)
  obtain ⟨hP2, hD2⟩ := hb_back N Z ht hk1 hB
  exact W.widen hk.1 hk.2 (kk w1 H1 locs1 hw hP2 hD2 hS1)
/-- static calls -/
theorem hb_Si {post : Int32 → va_W → Prop} (F : CallFix p m c cc nL s args lw_all own) (hM : hb_Mi l y wsy rm D cB H.size As wc X post) (cw : CallB R s args own idx y cy mL ry wsy rm rm.cells rm.slots n ∧ (Cond.static y).before args s = true) (N : hb_Now s D cB A ws H0 H locs) (isC isR : List Nat) (Z : hb_Cut ws wc wr isC isR)
    (hXb : hb_Bl X) (hX : ∀ U : State, U.heap = H → s.WarmedH U.vm → X U) (hn : As.length = n) (hsize : ls.size = nL) (hst : st = As.reverse ++ rest) (hW : (rest.map fun v => v.category).sum ≤ 8) (hdg : decode cc pc = .ok (.invokestatic idx, 3)) (hk : cells + rm.cells ≤ k ∧ slots + rm.slots ≤ k') (hkR : k ≤ R.cells ∧ k' ≤ R.slots)
    (kk : ∀ (r : Int32) (w1 : va_W) (H1 : Heap) (locs1 : List Loc), post r w1 → va_P D vwCl (wr ++ w1) H1 → va_D A (wr ++ w1) → va_S A H0 H1 locs1 → W p l e R s m args below meth c H1 locs1 k k' Q (F0 m (pc + 3) ls (.int r :: rest))) : W p l e R s m args below meth c H locs cells slots Q (F0 m pc ls st) := by
  subst hst
  have hFc := hb_fr N Z
  refine va_calli (va_runS F hM cw ⟨hb_blind hXb, hb_pre N Z hX⟩ rfl hn hsize rfl (lv_room hW) hdg ⟨Nat.le_trans hk.1 hkR.1, Nat.le_trans hk.2 hkR.2⟩) N.2.2.2.1 (fun q _ h => hFc q h) hFc (fun r w1 t H1 locs1 ht hvm hw hB hz1 hk1 hS1 => ?_)
  obtain ⟨hP2, hD2⟩ := hb_back N Z ht hk1 hB
  exact W.widen hk.1 hk.2 (kk r w1 H1 locs1 hw hP2 hD2 hS1)
theorem hb_Sv {post : va_W → Prop} (F : CallFix p m c cc nL s args lw_all own) (hM : hb_Mv l y wsy rm D cB H.size As wc X post) (cw : CallB R s args own idx y cy mL ry wsy rm rm.cells rm.slots n ∧ (Cond.static y).before args s = true) (N : hb_Now s D cB A ws H0 H locs) (isC isR : List Nat) (Z : hb_Cut ws wc wr isC isR)
    (hXb : hb_Bl X) (hX : ∀ U : State, U.heap = H → s.WarmedH U.vm → X U) (hn : As.length = n) (hsize : ls.size = nL) (hst : st = As.reverse ++ rest) (hW : (rest.map fun v => v.category).sum ≤ 8) (hdg : decode cc pc = .ok (.invokestatic idx, 3)) (hk : cells + rm.cells ≤ k ∧ slots + rm.slots ≤ k') (hkR : k ≤ R.cells ∧ k' ≤ R.slots)
    (kk : ∀ (w1 : va_W) (H1 : Heap) (locs1 : List Loc), post w1 → va_P D vwCl (wr ++ w1) H1 → va_D A (wr ++ w1) → va_S A H0 H1 locs1 → W p l e R s m args below meth c H1 locs1 k k' Q (F0 m (pc + 3) ls rest)) : W p l e R s m args below meth c H locs cells slots Q (F0 m pc ls st) := by
  subst hst
  have hFc := hb_fr N Z
  refine va_callv (va_runS F hM cw ⟨hb_blind hXb, hb_pre N Z hX⟩ rfl hn hsize rfl (lv_room hW) hdg ⟨Nat.le_trans hk.1 hkR.1, Nat.le_trans hk.2 hkR.2⟩) N.2.2.2.1 (fun q _ h => hFc q h) hFc (fun w1 t H1 locs1 ht hvm hw hB hz1 hk1 hS1 => ?_)
  obtain ⟨hP2, hD2⟩ := hb_back N Z ht hk1 hB
  exact W.widen hk.1 hk.2 (kk w1 H1 locs1 hw hP2 hD2 hS1)
theorem hb_Sr {post : Nat → va_W → Prop} (F : CallFix p m c cc nL s args lw_all own) (hM : hb_Mr l y wsy rm D cB H.size As wc X post) (cw : CallB R s args own idx y cy mL ry wsy rm rm.cells rm.slots n ∧ (Cond.static y).before args s = true) (N : hb_Now s D cB A ws H0 H locs) (isC isR : List Nat) (Z : hb_Cut ws wc wr isC isR)
    (hXb : hb_Bl X) (hX : ∀ U : State, U.heap = H → s.WarmedH U.vm → X U) (hn : As.length = n) (hsize : ls.size = nL) (hst : st = As.reverse ++ rest) (hW : (rest.map fun v => v.category).sum ≤ 8) (hdg : decode cc pc = .ok (.invokestatic idx, 3)) (hk : cells + rm.cells ≤ k ∧ slots + rm.slots ≤ k') (hkR : k ≤ R.cells ∧ k' ≤ R.slots)
    (kk : ∀ (ra : Nat) (w1 : va_W) (H1 : Heap) (locs1 : List Loc), post ra w1 → va_P D vwCl (wr ++ w1) H1 → va_D A (wr ++ w1) → va_S A H0 H1 locs1 → W p l e R s m args below meth c H1 locs1 k k' Q (F0 m (pc + 3) ls (.ref ra :: rest))) : W p l e R s m args below meth c H locs cells slots Q (F0 m pc ls st) := by
  subst hst
  have hFc := hb_fr N Z
  refine va_callr (va_runS F hM cw ⟨hb_blind hXb, hb_pre N Z hX⟩ rfl hn hsize rfl (lv_room hW) hdg ⟨Nat.le_trans hk.1 hkR.1, Nat.le_trans hk.2 hkR.2⟩) N.2.2.2.1 (fun q _ h => hFc q h) hFc (fun w1 ra t H1 locs1 ht hvm _ hB hz1 hk1 hS1 => ?_)
  obtain ⟨hw, hB⟩ := hB
  obtain ⟨hP2, hD2⟩ := hb_back N Z ht hk1 hB
  exact W.widen hk.1 hk.2 (kk ra w1 H1 locs1 hw hP2 hD2 hS1)
end HC
end
section
/-! THE PURE PICTURE: bytes, RC4's state, the key schedule, the words of a script -/
set_option maxRecDepth 100000
/-- the low eight bits as a number -/
def a8 (x : Int32) : Nat := x.toBitVec.toNat % 256
/-- the byte, as baload gives it back -/
def b8 (x : Int32) : Int32 := x.toInt8.toInt32
theorem a8_lt (x : Int32) : a8 x < 256 := Nat.mod_lt _ (by decide)
theorem a8_and (x : Int32) : x &&& 255 = nI (a8 x) := pk_and x 8 (by decide)
theorem b8_b8 (x : Int32) : b8 (b8 x) = b8 x := pk_vb x
theorem b8_fit (x : Int32) : fits .byte (.int (b8 x)) = true := pk_fb x
/-- the low 31 bits as a number -/
def m31 (x : Int32) : Nat := x.toBitVec.toNat % 2 ^ 31
theorem m31_and (x : Int32) : x &&& 2147483647 = nI (m31 x) := pk_and x 31 (by decide)
theorem m31_lt (x : Int32) : m31 x < 2 ^ 31 := Nat.mod_lt _ (by decide)
theorem m31_nI {n : Nat} (h : n < 2 ^ 31) : m31 (nI n) = n := by
  unfold m31
  rw [pk_tn (by omega)]
  exact Nat.mod_eq_of_lt h
theorem rem_nI (x : Int32) {d : Nat} (h0 : 0 < d) (hd : d < 2 ^ 31) : nI (m31 x) - nI (m31 x) / nI d * nI d = nI (m31 x % d) := pk_rem (m31_lt x) h0 hd
/-- the places below i hold E, the others o -/
def fI (E o : Nat → Int32) (i : Nat) : Nat → Int32 := fun j => if j < i then E j else o j
theorem fI_0 (E o : Nat → Int32) : fI E o 0 = o := by
  funext j
  simp [fI]
theorem fI_s (E o : Nat → Int32) (i : Nat) (v : Int32) (hv : v = E i) : upd (fI E o i) i v = fI E o (i + 1) := by
  subst hv
  funext j
  unfold upd fI
  by_cases h : j = i
  · subst h
    simp
  · rw [if_neg h]
    by_cases h1 : j < i
    · rw [if_pos h1, if_pos (by omega)]
    · rw [if_neg h1, if_neg (by omega)]
theorem fI_lt (E o : Nat → Int32) {i j : Nat} (h : j < i) : fI E o i j = E j := if_pos h
/-- RC4's state: the two counters, the table -/
abbrev rS : Type := Nat × Nat × (Nat → Int32)
def rX (σ : rS) : Nat := a8 (nI σ.1 + 1)
def rY (σ : rS) : Nat := a8 (σ.2.2 (rX σ) + nI σ.2.1)
def rF (σ : rS) : Nat → Int32 := upd (upd σ.2.2 (rX σ) (b8 (σ.2.2 (rY σ)))) (rY σ) (b8 (σ.2.2 (rX σ)))
def rN (σ : rS) : rS := (rX σ, rY σ, rF σ)
def rK (σ : rS) : Int32 := rF σ (a8 (rF σ (rX σ) + rF σ (rY σ)))
def rI : Nat → rS → rS
  | 0, σ => σ
  | n + 1, σ => rN (rI n σ)
theorem rI_add (n k : Nat) (σ : rS) : rI k (rI n σ) = rI (n + k) σ := by
  induction k with
  | zero => rfl
  | succ k ih =>
    show rN (rI k (rI n σ)) = rN (rI (n + k) σ)
    rw [ih]
theorem rX_lt (σ : rS) : rX σ < 256 := a8_lt _
theorem rY_lt (σ : rS) : rY σ < 256 := a8_lt _
/-- the key schedule: place in the key, second counter, table -/
def kS (n : Nat) (w : Nat → Int32) : Nat → Nat × Nat × (Nat → Int32)
  | 0 => (0, 0, fun j => b8 (nI j))
  | i + 1 =>
    ((((kS n w i).1) + 1) % n, a8 ((w (kS n w i).1 &&& 255) + (kS n w i).2.2 i + nI (kS n w i).2.1),
      upd (upd (kS n w i).2.2 i (b8 ((kS n w i).2.2 (a8 ((w (kS n w i).1 &&& 255) + (kS n w i).2.2 i + nI (kS n w i).2.1)))))
        (a8 ((w (kS n w i).1 &&& 255) + (kS n w i).2.2 i + nI (kS n w i).2.1)) (b8 ((kS n w i).2.2 i)))
theorem kS_1 {n : Nat} (h : 0 < n) (w : Nat → Int32) (i : Nat) : (kS n w i).1 < n := by
  cases i with
  | zero => exact h
  | succ i => exact Nat.mod_lt _ h
/-- RC4's state behind the key schedule -/
def k0 (n : Nat) (w : Nat → Int32) : rS := (0, 0, (kS n w 256).2.2)
/-- what processBytes writes: t from place a on -/
def oB (t : Nat → Int32) (a : Nat) (σ : rS) : Nat → Int32 := fun j => b8 (t (j + a) ^^^ rK (rI j σ))
theorem oB_at (t : Nat → Int32) (a i : Nat) (σ : rS) : oB t a (rI a σ) i = oB t 0 σ (a + i) := by
  unfold oB
  rw [rI_add, Nat.add_zero, Nat.add_comm i a]
/-- a word's four bytes -/
def w0 (w : Int32) : Int32 := b8 (w >>> ((24 : Int32) &&& 31))
def w1 (w : Int32) : Int32 := b8 (w >>> ((16 : Int32) &&& 31))
def w2 (w : Int32) : Int32 := b8 (w >>> ((8 : Int32) &&& 31))
def w3 (w : Int32) : Int32 := b8 w
def wU (f : Nat → Int32) (a : Nat) (w : Int32) : Nat → Int32 := upd (upd (upd (upd f a (w0 w)) (a + 1) (w1 w)) (a + 2) (w2 w)) (a + 3) (w3 w)
def wP (f : Nat → Int32) (a : Nat) (x y z t : Int32) : Nat → Int32 := wU (wU (wU (wU f a x) (a + 4) y) (a + 8) z) (a + 12) t
/-- an int of the script -/
def cV (L : Nat) (xs : Nat → Int32) (k : Nat) : Int32 := if k < L then xs k else 0
/-- the text behind k of the eight puts; the key -/
def tX (v : Nat → Int32) : Nat → Nat → Int32
  | 0 => fun _ => 0
  | k + 1 => wP (tX v k) (16 * k) (v (20 + 4 * k)) (v (20 + 4 * k + 1)) (v (20 + 4 * k + 2)) (v (20 + 4 * k + 3))
def kX (v : Nat → Int32) : Nat → Int32 := wP (wP (fun _ => 0) 0 (v 0) (v 1) (v 2) (v 3)) 16 (v 4) (v 5) (v 6) (v 7)
/-- the key's length -/
def kN (x : Int32) : Nat := 1 + x.toBitVec.toNat % 32
theorem kN_and (x : Int32) : 1 + (x &&& 31) = nI (kN x) := by
  rw [pk_and x 5 (by decide), show (1 : Int32) = nI 1 from rfl, nI_add]
  rfl
theorem kN_in (x : Int32) : 0 < kN x ∧ kN x ≤ 32 := by
  have h : x.toBitVec.toNat % 32 < 32 := Nat.mod_lt _ (by decide)
  unfold kN
  omega
theorem a8_b8 (x : Int32) : a8 (b8 x) = a8 x := by
  unfold a8 b8
  rw [Int8.toBitVec_toInt32, Int32.toBitVec_toInt8, BitVec.signExtend_eq_setWidth_of_le x.toBitVec (by decide), BitVec.toNat_signExtend, BitVec.toNat_setWidth, BitVec.toNat_setWidth]
  have h : x.toBitVec.toNat < 2 ^ 32 := x.toBitVec.isLt
  split <;> omega
theorem a8_xor (x y : Int32) : a8 (x ^^^ y) = a8 x ^^^ a8 y := by
  unfold a8
  rw [Int32.toBitVec_xor, BitVec.toNat_xor, show (256 : Nat) = 2 ^ 8 from rfl, Nat.xor_mod_two_pow]
theorem a8_nI (n : Nat) : a8 (nI n) = n % 256 := by
  unfold a8 nI
  rw [show (Int32.ofNat n).toBitVec = BitVec.ofNat 32 n from rfl, BitVec.toNat_ofNat]
  omega
theorem one_r (b k : Int32) : b8 (b8 b ^^^ k) &&& 255 = nI (a8 b ^^^ a8 k) := by
  rw [a8_and, a8_b8, a8_xor, a8_b8]
theorem kh {b : Nat} (hb : b < 2) : (nI b &&& 1) <<< ((4 : Int32) &&& 31) = nI (16 * b) := by
  rcases (show b = 0 ∨ b = 1 by omega) with rfl | rfl <;> decide
end
section
/-! THE CUSTOMARY EXAMPLE: RC4 over lists of numbers, and what it answers for the key Key -/
set_option maxRecDepth 100000
def bb (n : Nat) : Int32 := b8 (nI n)
theorem a8_bb (n : Nat) : a8 (bb n) = n % 256 := (a8_b8 _).trans (a8_nI n)
theorem b8_bb (n : Nat) : b8 (bb n) = bb n := b8_b8 _
theorem a8_add (x y : Int32) : a8 (x + y) = (a8 x + a8 y) % 256 := by
  unfold a8
  rw [Int32.toBitVec_add, BitVec.toNat_add]
  omega
/-- the table as a list -/
def Rl (f : Nat → Int32) (l : List Nat) : Prop := l.length = 256 ∧ ∀ j, j < 256 → f j = bb (l.getD j 0) ∧ l.getD j 0 < 256
def swp (l : List Nat) (i j : Nat) : List Nat := (l.set i (l.getD j 0)).set j (l.getD i 0)
theorem getD_set (l : List Nat) (i j a : Nat) (h : i < l.length) : (l.set i a).getD j 0 = if i = j then a else l.getD j 0 := by
  rw [List.getD_eq_getElem?_getD, List.getD_eq_getElem?_getD, List.getElem?_set]
  by_cases e : i = j
  · subst e
    simp [h]
  · simp [e]
theorem Rl_swp {f : Nat → Int32} {l : List Nat} (h : Rl f l) {i j : Nat} (hi : i < 256) (hj : j < 256) : Rl (upd (upd f i (b8 (f j))) j (b8 (f i))) (swp l i j) := by
  obtain ⟨hl, h⟩ := h
  refine ⟨by simp [swp, hl], fun k hk => ?_⟩
  unfold swp
  rw [getD_set _ _ _ _ (by rw [List.length_set]; omega), getD_set _ _ _ _ (by omega)]
  unfold upd
  by_cases e1 : k = j
  · subst e1
    rw [if_pos rfl, if_pos rfl, (h i hi).1, b8_bb]
    exact ⟨rfl, (h i hi).2⟩
  · rw [if_neg e1, if_neg (show ¬ j = k from fun e => e1 e.symm)]
    by_cases e2 : k = i
    · subst e2
      rw [if_pos rfl, if_pos rfl, (h j hj).1, b8_bb]
      exact ⟨rfl, (h j hj).2⟩
    · rw [if_neg e2, if_neg (show ¬ i = k from fun e => e2 e.symm)]
      exact h k hk
/-- k steps of the key schedule from step i on -/
def kl (w : List Nat) : Nat → Nat → Nat → Nat → List Nat → Nat × Nat × List Nat
  | 0, _, i1, i2, l => (i1, i2, l)
  | k + 1, i, i1, i2, l => kl w k (i + 1) ((i1 + 1) % w.length) ((w.getD i1 0 + l.getD i 0 + i2) % 256) (swp l i ((w.getD i1 0 + l.getD i 0 + i2) % 256))
def Rk (q : Nat × Nat × (Nat → Int32)) (z : Nat × Nat × List Nat) : Prop := q.1 = z.1 ∧ q.2.1 = z.2.1 ∧ Rl q.2.2 z.2.2
theorem kl_ok {w : Nat → Int32} {wl : List Nat} (h0 : 0 < wl.length) (hw : ∀ j, j < wl.length → a8 (w j) = wl.getD j 0) : ∀ (k i i1 i2 : Nat) (l : List Nat), i + k ≤ 256 → i1 < wl.length → Rk (kS wl.length w i) (i1, i2, l) → Rk (kS wl.length w (i + k)) (kl wl k i i1 i2 l) := by
  intro k
  induction k with
  | zero => intro i i1 i2 l _ _ h; exact h
  | succ k ih =>
    intro i i1 i2 l hik hi1 h
    obtain ⟨h1, h2, h3⟩ := h
    dsimp only at h1 h2 h3
    have hi : i < 256 := by omega
    have e : (kS wl.length w (i + 1)).2.1 = (wl.getD i1 0 + l.getD i 0 + i2) % 256 := by
      show a8 ((w (kS wl.length w i).1 &&& 255) + (kS wl.length w i).2.2 i + nI (kS wl.length w i).2.1) = _
      rw [h1, h2, (h3.2 i hi).1, a8_and, a8_add, a8_add, a8_nI, a8_bb, a8_nI, hw i1 hi1]
      omega
    have s : Rk (kS wl.length w (i + 1)) ((i1 + 1) % wl.length, (wl.getD i1 0 + l.getD i 0 + i2) % 256, swp l i ((wl.getD i1 0 + l.getD i 0 + i2) % 256)) := by
      refine ⟨?_, e, ?_⟩
      · show ((kS wl.length w i).1 + 1) % wl.length = _
        rw [h1]
      · show Rl (upd (upd (kS wl.length w i).2.2 i (b8 ((kS wl.length w i).2.2 (kS wl.length w (i + 1)).2.1))) (kS wl.length w (i + 1)).2.1 (b8 ((kS wl.length w i).2.2 i))) _
        rw [e]
        exact Rl_swp h3 hi (Nat.mod_lt _ (by decide))
    have := ih (i + 1) _ _ _ (by omega) (Nat.mod_lt _ h0) s
    rw [show i + (k + 1) = i + 1 + k by omega]
    exact this
theorem kl_on {w : Nat → Int32} {wl : List Nat} {n : Nat} (hn : wl.length = n) (h0 : 0 < n) (hw : ∀ j, j < n → a8 (w j) = wl.getD j 0) (k i i1 i2 : Nat) (l : List Nat) (m : Nat) (hm : i + k = m) (h256 : m ≤ 256) (hi : i1 < n) (z : Nat × Nat × List Nat) (hz : kl wl k i i1 i2 l = z) (h : Rk (kS n w i) (i1, i2, l)) : Rk (kS n w m) z := by
  subst hn; subst hm; subst hz
  exact kl_ok h0 hw k i i1 i2 l h256 hi h
/-- k bytes of the key stream -/
def pl : Nat → Nat → Nat → List Nat → List Nat
  | 0, _, _, _ => []
  | k + 1, x, y, l => (swp l ((x + 1) % 256) ((l.getD ((x + 1) % 256) 0 + y) % 256)).getD (((swp l ((x + 1) % 256) ((l.getD ((x + 1) % 256) 0 + y) % 256)).getD ((x + 1) % 256) 0 + (swp l ((x + 1) % 256) ((l.getD ((x + 1) % 256) 0 + y) % 256)).getD ((l.getD ((x + 1) % 256) 0 + y) % 256) 0) % 256) 0
      :: pl k ((x + 1) % 256) ((l.getD ((x + 1) % 256) 0 + y) % 256) (swp l ((x + 1) % 256) ((l.getD ((x + 1) % 256) 0 + y) % 256))
theorem pl_ok : ∀ (k : Nat) (σ : rS) (x y : Nat) (l : List Nat), σ.1 = x → σ.2.1 = y → Rl σ.2.2 l → ∀ i, i < k → a8 (rK (rI i σ)) = (pl k x y l).getD i 0 := by
  intro k
  induction k with
  | zero => intro σ x y l _ _ _ i hi; omega
  | succ k ih =>
    intro σ x y l hx hy hl i hi
    have e1 : rX σ = (x + 1) % 256 := by
      unfold rX
      rw [hx, a8_add, a8_nI]
      show (x % 256 + 1) % 256 = _
      omega
    have hX : (x + 1) % 256 < 256 := Nat.mod_lt _ (by decide)
    have e2 : rY σ = (l.getD ((x + 1) % 256) 0 + y) % 256 := by
      unfold rY
      rw [e1, hy, a8_add, (hl.2 _ hX).1, a8_bb, a8_nI]
      omega
    have hY : (l.getD ((x + 1) % 256) 0 + y) % 256 < 256 := Nat.mod_lt _ (by decide)
    have e3 : Rl (rF σ) (swp l ((x + 1) % 256) ((l.getD ((x + 1) % 256) 0 + y) % 256)) := by
      unfold rF
      rw [e1, e2]
      exact Rl_swp hl hX hY
    cases i with
    | zero =>
      show a8 (rK σ) = _
      unfold rK
      rw [e1, e2, (e3.2 _ hX).1, (e3.2 _ hY).1, a8_add, a8_bb, a8_bb, (e3.2 _ (Nat.mod_lt _ (by decide))).1, a8_bb]
      have hz : ∀ a b : Nat, (a % 256 + b % 256) % 256 = (a + b) % 256 := fun a b => by omega
      rw [hz]
      exact Nat.mod_eq_of_lt (e3.2 _ (Nat.mod_lt _ (by decide))).2
    | succ i =>
      have := ih (rN σ) _ _ _ e1 e2 e3 i (by omega)
      rw [show rI (i + 1) σ = rI i (rN σ) from by rw [Nat.add_comm i 1]; exact (rI_add 1 i σ).symm]
      exact this
def kw : List Nat := [75, 101, 121]
def kt0 : List Nat := [0, 1, 2, 3, 4, 5, 6, 7, 8, 9, 10, 11, 12, 13, 14, 15, 16, 17, 18, 19, 20, 21, 22, 23, 24, 25, 26, 27, 28, 29, 30, 31, 32, 33, 34, 35, 36, 37, 38, 39, 40, 41, 42, 43, 44, 45, 46, 47, 48, 49, 50, 51, 52, 53, 54, 55, 56, 57, 58, 59, 60, 61, 62, 63, 64, 65, 66, 67, 68, 69, 70, 71, 72, 73, 74, 75, 76, 77, 78, 79, 80, 81, 82, 83, 84, 85, 86, 87, 88, 89, 90, 91, 92, 93, 94, 95, 96, 97, 98, 99, 100, 101, 102, 103, 104, 105, 106, 107, 108, 109, 110, 111, 112, 113, 114, 115, 116, 117, 118, 119, 120, 121, 122, 123, 124, 125, 126, 127, 128, 129, 130, 131, 132, 133, 134, 135, 136, 137, 138, 139, 140, 141, 142, 143, 144, 145, 146, 147, 148, 149, 150, 151, 152, 153, 154, 155, 156, 157, 158, 159, 160, 161, 162, 163, 164, 165, 166, 167, 168, 169, 170, 171, 172, 173, 174, 175, 176, 177, 178, 179, 180, 181, 182, 183, 184, 185, 186, 187, 188, 189, 190, 191, 192, 193, 194, 195, 196, 197, 198, 199, 200, 201, 202, 203, 204, 205, 206, 207, 208, 209, 210, 211, 212, 213, 214, 215, 216, 217, 218, 219, 220, 221, 222, 223, 224, 225, 226, 227, 228, 229, 230, 231, 232, 233, 234, 235, 236, 237, 238, 239, 240, 241, 242, 243, 244, 245, 246, 247, 248, 249, 250, 251, 252, 253, 254, 255]
def kt1 : List Nat := [75, 177, 44, 122, 227, 97, 178, 30, 159, 243, 98, 230, 61, 175, 54, 144, 16, 17, 18, 19, 20, 21, 22, 23, 24, 25, 26, 27, 28, 29, 7, 31, 32, 33, 34, 35, 36, 37, 38, 39, 40, 41, 42, 43, 2, 45, 46, 47, 48, 49, 50, 51, 52, 53, 14, 55, 56, 57, 58, 59, 60, 12, 62, 63, 64, 65, 66, 67, 68, 69, 70, 71, 72, 73, 74, 0, 76, 77, 78, 79, 80, 81, 82, 83, 84, 85, 86, 87, 88, 89, 90, 91, 92, 93, 94, 95, 96, 5, 10, 99, 100, 101, 102, 103, 104, 105, 106, 107, 108, 109, 110, 111, 112, 113, 114, 115, 116, 117, 118, 119, 120, 121, 3, 123, 124, 125, 126, 127, 128, 129, 130, 131, 132, 133, 134, 135, 136, 137, 138, 139, 140, 141, 142, 143, 15, 145, 146, 147, 148, 149, 150, 151, 152, 153, 154, 155, 156, 157, 158, 8, 160, 161, 162, 163, 164, 165, 166, 167, 168, 169, 170, 171, 172, 173, 174, 13, 176, 1, 6, 179, 180, 181, 182, 183, 184, 185, 186, 187, 188, 189, 190, 191, 192, 193, 194, 195, 196, 197, 198, 199, 200, 201, 202, 203, 204, 205, 206, 207, 208, 209, 210, 211, 212, 213, 214, 215, 216, 217, 218, 219, 220, 221, 222, 223, 224, 225, 226, 4, 228, 229, 11, 231, 232, 233, 234, 235, 236, 237, 238, 239, 240, 241, 242, 9, 244, 245, 246, 247, 248, 249, 250, 251, 252, 253, 254, 255]
theorem kc1 : kl kw 16 0 0 0 kt0 = (1, 144, kt1) := by decide +kernel
def kt2 : List Nat := [75, 177, 44, 122, 227, 16, 178, 30, 159, 243, 98, 230, 61, 175, 54, 144, 97, 143, 236, 100, 241, 81, 204, 92, 191, 12, 208, 14, 183, 77, 8, 35, 32, 33, 34, 31, 36, 37, 38, 39, 40, 41, 42, 43, 2, 45, 46, 47, 48, 49, 50, 51, 52, 53, 27, 55, 56, 57, 58, 59, 60, 25, 62, 63, 64, 65, 66, 67, 68, 69, 70, 71, 72, 73, 74, 0, 76, 29, 78, 79, 80, 21, 82, 83, 84, 85, 86, 87, 88, 89, 90, 91, 23, 93, 94, 95, 96, 5, 10, 99, 19, 101, 102, 103, 104, 105, 106, 107, 108, 109, 110, 111, 112, 113, 114, 115, 116, 117, 118, 119, 120, 121, 3, 123, 124, 125, 126, 127, 128, 129, 130, 131, 132, 133, 134, 135, 136, 137, 138, 139, 140, 141, 142, 17, 15, 145, 146, 147, 148, 149, 150, 151, 152, 153, 154, 155, 156, 157, 158, 7, 160, 161, 162, 163, 164, 165, 166, 167, 168, 169, 170, 171, 172, 173, 174, 13, 176, 1, 6, 179, 180, 181, 182, 28, 184, 185, 186, 187, 188, 189, 190, 24, 192, 193, 194, 195, 196, 197, 198, 199, 200, 201, 202, 203, 22, 205, 206, 207, 26, 209, 210, 211, 212, 213, 214, 215, 216, 217, 218, 219, 220, 221, 222, 223, 224, 225, 226, 4, 228, 229, 11, 231, 232, 233, 234, 235, 18, 237, 238, 239, 240, 20, 242, 9, 244, 245, 246, 247, 248, 249, 250, 251, 252, 253, 254, 255]
theorem kc2 : kl kw 16 16 1 144 kt1 = (2, 35, kt2) := by decide +kernel
def kt3 : List Nat := [75, 177, 44, 122, 46, 16, 178, 30, 159, 243, 98, 230, 61, 175, 54, 144, 97, 143, 236, 100, 241, 81, 204, 92, 191, 12, 208, 14, 183, 77, 8, 35, 188, 40, 13, 71, 182, 64, 223, 21, 215, 121, 238, 126, 249, 113, 227, 172, 48, 49, 50, 51, 52, 53, 27, 55, 56, 57, 58, 59, 60, 25, 62, 63, 37, 65, 66, 67, 68, 69, 70, 31, 72, 73, 74, 0, 76, 29, 78, 79, 80, 39, 82, 83, 84, 85, 86, 87, 88, 89, 90, 91, 23, 93, 94, 95, 96, 5, 10, 99, 19, 101, 102, 103, 104, 105, 106, 107, 108, 109, 110, 111, 112, 45, 114, 115, 116, 117, 118, 119, 120, 41, 3, 123, 124, 125, 43, 127, 128, 129, 130, 131, 132, 133, 134, 135, 136, 137, 138, 139, 140, 141, 142, 17, 15, 145, 146, 147, 148, 149, 150, 151, 152, 153, 154, 155, 156, 157, 158, 7, 160, 161, 162, 163, 164, 165, 166, 167, 168, 169, 170, 171, 47, 173, 174, 34, 176, 1, 6, 179, 180, 181, 36, 28, 184, 185, 186, 187, 32, 189, 190, 24, 192, 193, 194, 195, 196, 197, 198, 199, 200, 201, 202, 203, 22, 205, 206, 207, 26, 209, 210, 211, 212, 213, 214, 33, 216, 217, 218, 219, 220, 221, 222, 38, 224, 225, 226, 4, 228, 229, 11, 231, 232, 233, 234, 235, 18, 237, 42, 239, 240, 20, 242, 9, 244, 245, 246, 247, 248, 2, 250, 251, 252, 253, 254, 255]
theorem kc3 : kl kw 16 32 2 35 kt2 = (0, 172, kt3) := by decide +kernel
def kt4 : List Nat := [75, 177, 44, 58, 46, 16, 178, 30, 159, 243, 98, 230, 61, 175, 54, 144, 97, 143, 236, 100, 241, 81, 204, 92, 191, 12, 208, 14, 183, 77, 8, 35, 188, 40, 13, 71, 182, 64, 223, 48, 215, 121, 238, 126, 249, 53, 227, 55, 21, 189, 104, 11, 127, 113, 147, 172, 224, 19, 122, 28, 62, 32, 45, 251, 37, 65, 66, 67, 68, 69, 70, 31, 72, 73, 74, 0, 76, 29, 78, 79, 80, 39, 82, 83, 84, 85, 86, 87, 88, 89, 90, 91, 23, 93, 94, 95, 96, 5, 10, 99, 57, 101, 102, 103, 50, 105, 106, 107, 108, 109, 110, 111, 112, 60, 114, 115, 116, 117, 118, 119, 120, 41, 3, 123, 124, 125, 43, 52, 128, 129, 130, 131, 132, 133, 134, 135, 136, 137, 138, 139, 140, 141, 142, 17, 15, 145, 146, 27, 148, 149, 150, 151, 152, 153, 154, 155, 156, 157, 158, 7, 160, 161, 162, 163, 164, 165, 166, 167, 168, 169, 170, 171, 47, 173, 174, 34, 176, 1, 6, 179, 180, 181, 36, 59, 184, 185, 186, 187, 25, 49, 190, 24, 192, 193, 194, 195, 196, 197, 198, 199, 200, 201, 202, 203, 22, 205, 206, 207, 26, 209, 210, 211, 212, 213, 214, 33, 216, 217, 218, 219, 220, 221, 222, 38, 56, 225, 226, 4, 228, 229, 51, 231, 232, 233, 234, 235, 18, 237, 42, 239, 240, 20, 242, 9, 244, 245, 246, 247, 248, 2, 250, 63, 252, 253, 254, 255]
theorem kc4 : kl kw 16 48 0 172 kt3 = (1, 251, kt4) := by decide +kernel
def kt5 : List Nat := [75, 177, 44, 58, 76, 16, 178, 30, 74, 243, 98, 230, 61, 175, 54, 144, 97, 143, 236, 100, 241, 81, 204, 92, 191, 12, 208, 14, 183, 77, 8, 35, 188, 40, 13, 71, 182, 64, 223, 48, 215, 121, 238, 126, 249, 53, 227, 55, 21, 68, 104, 78, 127, 113, 147, 172, 224, 19, 122, 28, 62, 32, 45, 65, 133, 251, 22, 116, 189, 73, 108, 46, 151, 193, 159, 83, 31, 154, 11, 231, 80, 39, 82, 0, 84, 85, 86, 87, 88, 89, 90, 91, 23, 93, 94, 95, 96, 5, 10, 99, 57, 101, 102, 103, 50, 105, 106, 107, 70, 109, 110, 111, 112, 60, 114, 115, 67, 117, 118, 119, 120, 41, 3, 123, 124, 125, 43, 52, 128, 129, 130, 131, 132, 37, 134, 135, 136, 137, 138, 139, 140, 141, 142, 17, 15, 145, 146, 27, 148, 149, 150, 72, 152, 153, 29, 155, 156, 157, 158, 7, 160, 161, 162, 163, 164, 165, 166, 167, 168, 169, 170, 171, 47, 173, 174, 34, 176, 1, 6, 179, 180, 181, 36, 59, 184, 185, 186, 187, 25, 49, 190, 24, 192, 69, 194, 195, 196, 197, 198, 199, 200, 201, 202, 203, 66, 205, 206, 207, 26, 209, 210, 211, 212, 213, 214, 33, 216, 217, 218, 219, 220, 221, 222, 38, 56, 225, 226, 4, 228, 229, 51, 79, 232, 233, 234, 235, 18, 237, 42, 239, 240, 20, 242, 9, 244, 245, 246, 247, 248, 2, 250, 63, 252, 253, 254, 255]
theorem kc5 : kl kw 16 64 1 251 kt4 = (2, 231, kt5) := by decide +kernel
def kt6 : List Nat := [75, 177, 44, 58, 76, 16, 178, 30, 74, 243, 98, 94, 61, 175, 54, 144, 91, 143, 236, 100, 241, 81, 204, 92, 191, 12, 208, 14, 87, 77, 8, 35, 188, 40, 39, 71, 182, 64, 223, 48, 215, 121, 238, 126, 249, 53, 227, 55, 21, 68, 104, 78, 127, 113, 147, 172, 224, 19, 122, 28, 62, 32, 45, 65, 133, 251, 22, 116, 189, 73, 108, 46, 93, 193, 159, 83, 31, 154, 11, 231, 90, 13, 0, 217, 20, 171, 3, 183, 82, 85, 176, 97, 160, 151, 230, 4, 96, 5, 10, 99, 57, 101, 102, 103, 50, 105, 106, 107, 70, 109, 110, 111, 112, 60, 114, 115, 67, 117, 118, 119, 120, 41, 86, 123, 124, 125, 43, 52, 128, 129, 130, 131, 132, 37, 134, 135, 136, 137, 138, 139, 140, 141, 142, 17, 15, 145, 146, 27, 148, 149, 150, 72, 152, 153, 29, 155, 156, 157, 158, 7, 23, 161, 162, 163, 164, 165, 166, 167, 168, 169, 170, 89, 47, 173, 174, 34, 80, 1, 6, 179, 180, 181, 36, 59, 184, 185, 186, 187, 25, 49, 190, 24, 192, 69, 194, 195, 196, 197, 198, 199, 200, 201, 202, 203, 66, 205, 206, 207, 26, 209, 210, 211, 212, 213, 214, 33, 216, 88, 218, 219, 220, 221, 222, 38, 56, 225, 226, 95, 228, 229, 51, 79, 232, 233, 234, 235, 18, 237, 42, 239, 240, 84, 242, 9, 244, 245, 246, 247, 248, 2, 250, 63, 252, 253, 254, 255]
theorem kc6 : kl kw 16 80 2 231 kt5 = (0, 227, kt6) := by decide +kernel
def kt7 : List Nat := [75, 177, 44, 58, 76, 16, 178, 30, 74, 243, 98, 94, 61, 175, 54, 144, 91, 143, 236, 100, 241, 81, 204, 92, 191, 12, 208, 14, 87, 77, 8, 35, 188, 40, 103, 71, 182, 64, 223, 48, 215, 99, 238, 126, 249, 53, 227, 55, 21, 68, 104, 78, 107, 113, 147, 172, 111, 19, 122, 28, 62, 32, 45, 65, 133, 251, 22, 116, 189, 73, 108, 46, 93, 193, 159, 83, 31, 154, 11, 231, 106, 13, 0, 217, 20, 171, 102, 183, 82, 85, 176, 97, 160, 151, 230, 4, 142, 248, 123, 121, 199, 165, 3, 39, 205, 129, 90, 127, 197, 72, 43, 224, 112, 60, 114, 115, 67, 117, 118, 119, 120, 41, 86, 10, 124, 125, 110, 52, 128, 105, 130, 131, 132, 37, 134, 135, 136, 137, 138, 139, 140, 141, 96, 17, 15, 145, 146, 27, 148, 149, 150, 109, 152, 153, 29, 155, 156, 157, 158, 7, 23, 161, 162, 163, 164, 101, 166, 167, 168, 169, 170, 89, 47, 173, 174, 34, 80, 1, 6, 179, 180, 181, 36, 59, 184, 185, 186, 187, 25, 49, 190, 24, 192, 69, 194, 195, 196, 70, 198, 57, 200, 201, 202, 203, 66, 50, 206, 207, 26, 209, 210, 211, 212, 213, 214, 33, 216, 88, 218, 219, 220, 221, 222, 38, 56, 225, 226, 95, 228, 229, 51, 79, 232, 233, 234, 235, 18, 237, 42, 239, 240, 84, 242, 9, 244, 245, 246, 247, 5, 2, 250, 63, 252, 253, 254, 255]
theorem kc7 : kl kw 16 96 0 227 kt6 = (1, 56, kt7) := by decide +kernel
def kt8 : List Nat := [75, 177, 44, 58, 76, 16, 178, 30, 74, 243, 98, 94, 61, 112, 54, 144, 91, 143, 236, 10, 241, 81, 204, 92, 191, 12, 208, 14, 87, 77, 8, 35, 188, 40, 103, 71, 182, 64, 223, 48, 215, 99, 238, 126, 249, 53, 227, 55, 21, 68, 104, 78, 107, 113, 147, 172, 111, 19, 122, 28, 62, 32, 45, 65, 133, 251, 22, 116, 189, 73, 108, 46, 93, 193, 159, 83, 31, 154, 11, 231, 106, 13, 0, 217, 20, 171, 102, 115, 82, 85, 176, 97, 160, 151, 230, 4, 142, 120, 123, 121, 199, 165, 3, 39, 205, 129, 90, 127, 197, 72, 43, 224, 175, 194, 52, 183, 100, 211, 174, 158, 248, 239, 114, 67, 244, 234, 163, 190, 128, 105, 130, 131, 132, 37, 134, 135, 136, 137, 138, 139, 140, 141, 96, 17, 15, 145, 146, 27, 148, 149, 150, 109, 152, 153, 29, 155, 156, 157, 119, 7, 23, 161, 162, 110, 164, 101, 166, 167, 168, 169, 170, 89, 47, 173, 118, 34, 80, 1, 6, 179, 180, 181, 36, 59, 184, 185, 186, 187, 25, 49, 86, 24, 192, 69, 60, 195, 196, 70, 198, 57, 200, 201, 202, 203, 66, 50, 206, 207, 26, 209, 210, 117, 212, 213, 214, 33, 216, 88, 218, 219, 220, 221, 222, 38, 56, 225, 226, 95, 228, 229, 51, 79, 232, 233, 125, 235, 18, 237, 42, 41, 240, 84, 242, 9, 124, 245, 246, 247, 5, 2, 250, 63, 252, 253, 254, 255]
theorem kc8 : kl kw 16 112 1 56 kt7 = (2, 122, kt8) := by decide +kernel
def kt9 : List Nat := [75, 177, 44, 58, 76, 16, 178, 30, 74, 243, 131, 94, 61, 112, 130, 144, 91, 143, 236, 10, 17, 81, 204, 92, 191, 12, 208, 14, 87, 77, 8, 35, 188, 136, 103, 137, 182, 64, 223, 105, 215, 99, 238, 126, 249, 53, 227, 55, 21, 68, 104, 78, 135, 113, 147, 172, 111, 19, 122, 28, 62, 32, 45, 65, 133, 251, 22, 116, 189, 73, 108, 46, 93, 193, 159, 83, 31, 154, 11, 231, 106, 13, 0, 217, 20, 171, 102, 115, 82, 85, 176, 97, 160, 151, 230, 4, 142, 120, 134, 37, 199, 165, 3, 39, 205, 129, 90, 127, 197, 72, 43, 224, 175, 194, 52, 128, 100, 211, 174, 158, 248, 239, 114, 67, 244, 234, 163, 190, 183, 48, 54, 98, 88, 121, 123, 107, 40, 71, 96, 232, 237, 70, 5, 241, 15, 145, 146, 27, 148, 149, 150, 109, 152, 153, 29, 155, 156, 157, 119, 7, 23, 161, 162, 110, 164, 101, 166, 167, 168, 169, 170, 89, 47, 173, 118, 34, 80, 1, 6, 179, 180, 181, 36, 59, 184, 185, 186, 187, 25, 49, 86, 24, 192, 69, 60, 195, 196, 141, 198, 57, 200, 201, 202, 203, 66, 50, 206, 207, 26, 209, 210, 117, 212, 213, 214, 33, 216, 132, 218, 219, 220, 221, 222, 38, 56, 225, 226, 95, 228, 229, 51, 79, 139, 233, 125, 235, 18, 140, 42, 41, 240, 84, 242, 9, 124, 245, 246, 247, 138, 2, 250, 63, 252, 253, 254, 255]
theorem kc9 : kl kw 16 128 2 122 kt8 = (0, 20, kt9) := by decide +kernel
def kt10 : List Nat := [75, 156, 44, 157, 76, 16, 29, 30, 74, 243, 131, 94, 61, 112, 130, 144, 91, 143, 236, 10, 17, 81, 204, 92, 191, 12, 155, 14, 87, 77, 8, 35, 188, 136, 103, 137, 182, 64, 223, 105, 215, 99, 238, 126, 249, 53, 227, 55, 21, 68, 104, 78, 135, 113, 147, 172, 111, 19, 122, 28, 62, 32, 45, 65, 133, 251, 22, 116, 189, 7, 108, 46, 93, 193, 159, 83, 31, 154, 11, 231, 106, 13, 0, 217, 20, 171, 102, 115, 82, 85, 176, 97, 160, 151, 230, 4, 142, 120, 134, 37, 145, 165, 3, 39, 205, 129, 90, 127, 197, 72, 15, 146, 175, 194, 52, 128, 100, 211, 174, 158, 248, 239, 114, 67, 244, 234, 163, 190, 183, 48, 54, 98, 153, 121, 123, 107, 40, 71, 96, 232, 237, 70, 5, 109, 43, 199, 224, 213, 206, 220, 49, 241, 23, 88, 178, 208, 177, 58, 9, 73, 152, 161, 162, 110, 164, 101, 166, 167, 168, 169, 170, 89, 47, 173, 118, 34, 80, 1, 6, 179, 180, 181, 36, 59, 184, 185, 186, 187, 25, 150, 86, 24, 192, 69, 60, 195, 196, 141, 198, 57, 200, 201, 202, 203, 66, 50, 148, 207, 26, 209, 210, 117, 212, 27, 214, 33, 216, 132, 218, 219, 149, 221, 222, 38, 56, 225, 226, 95, 228, 229, 51, 79, 139, 233, 125, 235, 18, 140, 42, 41, 240, 84, 242, 119, 124, 245, 246, 247, 138, 2, 250, 63, 252, 253, 254, 255]
theorem kc10 : kl kw 16 144 0 20 kt9 = (1, 69, kt10) := by decide +kernel
def kt11 : List Nat := [75, 156, 44, 157, 76, 16, 29, 168, 74, 243, 131, 94, 61, 112, 130, 144, 91, 143, 236, 10, 167, 169, 204, 92, 191, 12, 155, 14, 110, 77, 8, 35, 188, 136, 103, 137, 182, 64, 223, 105, 215, 99, 238, 126, 249, 53, 227, 55, 21, 68, 104, 78, 135, 113, 147, 172, 170, 164, 122, 28, 62, 32, 45, 65, 133, 251, 152, 116, 189, 7, 108, 46, 93, 162, 159, 83, 31, 154, 11, 231, 106, 13, 0, 217, 20, 171, 102, 118, 82, 85, 176, 97, 161, 151, 230, 4, 142, 120, 134, 37, 145, 165, 3, 39, 205, 129, 90, 127, 197, 72, 15, 146, 47, 194, 52, 128, 100, 211, 174, 158, 248, 239, 114, 67, 244, 234, 163, 190, 183, 48, 54, 98, 153, 121, 123, 107, 40, 71, 96, 232, 237, 70, 5, 109, 43, 199, 224, 213, 206, 220, 173, 241, 23, 88, 178, 208, 177, 58, 9, 73, 22, 160, 193, 87, 19, 233, 124, 17, 30, 81, 111, 149, 175, 49, 115, 222, 80, 1, 6, 179, 180, 181, 36, 59, 184, 185, 186, 187, 25, 150, 86, 24, 192, 69, 60, 195, 196, 141, 198, 57, 200, 201, 202, 203, 66, 50, 148, 207, 26, 209, 210, 117, 212, 27, 214, 33, 216, 132, 218, 219, 89, 221, 34, 38, 56, 225, 226, 95, 228, 229, 51, 79, 139, 101, 125, 235, 18, 140, 42, 41, 240, 84, 242, 119, 166, 245, 246, 247, 138, 2, 250, 63, 252, 253, 254, 255]
theorem kc11 : kl kw 16 160 1 69 kt10 = (2, 222, kt11) := by decide +kernel
def kt12 : List Nat := [75, 156, 44, 157, 76, 16, 29, 168, 74, 243, 131, 94, 61, 112, 130, 144, 91, 143, 236, 10, 167, 185, 204, 92, 191, 12, 186, 14, 110, 77, 8, 35, 188, 136, 103, 137, 182, 64, 223, 105, 215, 99, 238, 126, 249, 53, 227, 55, 21, 68, 104, 78, 135, 113, 147, 172, 170, 164, 187, 28, 62, 32, 45, 65, 36, 251, 152, 116, 189, 7, 108, 46, 93, 162, 159, 83, 31, 154, 11, 231, 106, 13, 0, 217, 20, 171, 102, 118, 82, 85, 176, 97, 161, 151, 6, 4, 142, 120, 134, 37, 145, 165, 3, 39, 86, 129, 90, 127, 197, 72, 15, 146, 47, 194, 52, 128, 100, 211, 174, 158, 248, 239, 114, 67, 244, 234, 163, 190, 183, 48, 54, 98, 153, 121, 123, 107, 40, 180, 179, 232, 237, 70, 5, 109, 43, 199, 224, 213, 206, 220, 173, 241, 23, 88, 178, 208, 177, 58, 9, 73, 22, 160, 193, 181, 19, 233, 124, 80, 30, 81, 111, 149, 175, 150, 115, 222, 17, 119, 230, 96, 71, 87, 133, 198, 95, 169, 155, 122, 66, 49, 205, 2, 192, 69, 60, 195, 196, 141, 59, 57, 200, 201, 202, 203, 25, 50, 148, 207, 26, 209, 210, 117, 212, 27, 214, 33, 216, 132, 218, 219, 89, 221, 34, 38, 56, 225, 226, 184, 228, 229, 51, 79, 139, 101, 125, 235, 18, 140, 42, 41, 240, 84, 242, 1, 166, 245, 246, 247, 138, 24, 250, 63, 252, 253, 254, 255]
theorem kc12 : kl kw 16 176 2 222 kt11 = (0, 249, kt12) := by decide +kernel
def kt13 : List Nat := [75, 156, 44, 157, 192, 200, 29, 168, 74, 243, 131, 94, 61, 112, 130, 144, 91, 143, 236, 10, 167, 185, 204, 92, 191, 201, 186, 14, 110, 77, 8, 35, 188, 136, 103, 137, 182, 64, 59, 105, 215, 99, 238, 126, 249, 53, 227, 55, 21, 68, 104, 78, 135, 113, 147, 172, 170, 164, 187, 28, 62, 32, 45, 65, 36, 251, 152, 116, 189, 7, 108, 46, 202, 162, 159, 83, 31, 154, 11, 231, 106, 13, 0, 217, 20, 171, 102, 118, 82, 85, 176, 97, 161, 151, 6, 4, 142, 120, 134, 60, 145, 165, 3, 39, 86, 129, 90, 127, 197, 72, 15, 146, 47, 195, 52, 128, 100, 211, 174, 158, 248, 239, 114, 67, 244, 234, 163, 190, 183, 48, 54, 98, 153, 121, 123, 50, 40, 180, 179, 232, 203, 70, 5, 109, 43, 199, 224, 213, 148, 220, 173, 241, 23, 88, 196, 208, 177, 58, 9, 73, 141, 160, 193, 181, 19, 233, 124, 80, 30, 81, 111, 149, 175, 150, 207, 222, 17, 119, 230, 96, 71, 87, 133, 198, 95, 169, 155, 122, 66, 49, 205, 2, 76, 115, 37, 194, 57, 22, 223, 178, 16, 12, 93, 237, 240, 107, 206, 69, 26, 209, 210, 117, 212, 27, 214, 33, 216, 132, 218, 219, 89, 221, 34, 38, 56, 225, 226, 184, 228, 229, 51, 79, 139, 101, 125, 235, 18, 140, 42, 41, 25, 84, 242, 1, 166, 245, 246, 247, 138, 24, 250, 63, 252, 253, 254, 255]
theorem kc13 : kl kw 16 192 0 249 kt12 = (1, 174, kt13) := by decide +kernel
def kt14 : List Nat := [75, 156, 132, 157, 192, 200, 29, 168, 74, 243, 131, 94, 61, 112, 130, 144, 91, 143, 236, 10, 167, 185, 204, 92, 191, 216, 186, 14, 110, 77, 8, 35, 188, 27, 103, 137, 182, 64, 59, 105, 215, 99, 238, 126, 249, 26, 227, 55, 21, 68, 104, 78, 135, 113, 147, 172, 170, 89, 187, 28, 62, 32, 45, 65, 36, 251, 152, 116, 189, 7, 108, 46, 202, 162, 159, 83, 31, 154, 11, 231, 106, 13, 0, 217, 20, 218, 102, 118, 82, 85, 176, 97, 214, 151, 6, 4, 142, 120, 134, 60, 145, 165, 3, 39, 86, 129, 90, 127, 197, 72, 117, 146, 47, 195, 52, 128, 100, 211, 174, 209, 248, 239, 114, 219, 244, 234, 163, 190, 183, 48, 54, 98, 153, 121, 123, 38, 40, 180, 179, 232, 203, 70, 5, 221, 43, 199, 224, 213, 210, 220, 173, 241, 23, 88, 196, 208, 177, 58, 9, 73, 141, 160, 193, 181, 19, 233, 124, 80, 30, 81, 111, 149, 175, 150, 207, 222, 17, 119, 230, 96, 71, 87, 133, 198, 95, 169, 155, 212, 66, 49, 205, 2, 76, 115, 37, 194, 57, 22, 223, 178, 16, 12, 93, 237, 240, 107, 206, 69, 53, 158, 148, 15, 122, 136, 161, 246, 201, 44, 171, 67, 164, 109, 252, 50, 56, 225, 226, 184, 228, 229, 51, 79, 139, 101, 125, 235, 18, 140, 42, 41, 25, 84, 242, 1, 166, 245, 33, 247, 138, 24, 250, 63, 34, 253, 254, 255]
theorem kc14 : kl kw 16 208 1 174 kt13 = (2, 135, kt14) := by decide +kernel
def kt15 : List Nat := [75, 51, 132, 157, 192, 200, 29, 168, 74, 243, 131, 228, 18, 112, 130, 144, 91, 143, 236, 10, 41, 185, 204, 92, 191, 216, 186, 14, 110, 77, 8, 35, 188, 27, 103, 137, 182, 64, 59, 105, 215, 99, 238, 126, 249, 26, 227, 55, 21, 125, 104, 78, 135, 113, 147, 172, 56, 89, 187, 28, 62, 32, 45, 65, 36, 251, 152, 116, 189, 7, 108, 46, 202, 162, 159, 83, 31, 154, 11, 231, 106, 13, 0, 217, 20, 229, 102, 118, 82, 85, 176, 97, 214, 151, 6, 4, 142, 120, 134, 60, 225, 165, 3, 39, 86, 101, 90, 127, 197, 72, 117, 146, 47, 195, 42, 128, 100, 211, 174, 209, 248, 239, 114, 219, 244, 234, 163, 190, 183, 235, 54, 98, 153, 121, 123, 38, 40, 180, 179, 139, 203, 70, 5, 221, 43, 199, 224, 213, 210, 220, 173, 241, 23, 88, 196, 79, 177, 58, 9, 73, 141, 160, 193, 181, 19, 233, 124, 80, 30, 81, 111, 226, 175, 150, 207, 222, 17, 119, 230, 96, 71, 87, 133, 198, 95, 169, 155, 212, 66, 49, 205, 2, 76, 115, 37, 194, 57, 22, 223, 178, 16, 12, 93, 237, 240, 107, 206, 69, 53, 158, 148, 15, 122, 136, 161, 246, 201, 44, 171, 67, 184, 109, 252, 50, 170, 145, 149, 140, 94, 218, 156, 208, 232, 129, 68, 48, 61, 164, 52, 167, 25, 84, 242, 1, 166, 245, 33, 247, 138, 24, 250, 63, 34, 253, 254, 255]
theorem kc15 : kl kw 16 224 2 135 kt14 = (0, 20, kt15) := by decide +kernel
def kt16 : List Nat := [75, 51, 132, 157, 192, 200, 29, 168, 74, 243, 131, 228, 18, 112, 130, 144, 91, 143, 236, 34, 41, 185, 204, 92, 191, 216, 186, 14, 110, 77, 8, 35, 188, 27, 103, 137, 182, 64, 59, 105, 215, 247, 238, 126, 138, 26, 227, 55, 21, 84, 104, 78, 135, 113, 255, 172, 56, 89, 187, 28, 62, 32, 45, 65, 36, 251, 152, 116, 189, 7, 108, 46, 202, 162, 159, 83, 31, 154, 11, 231, 106, 13, 0, 217, 20, 229, 102, 118, 82, 85, 176, 97, 214, 151, 6, 4, 142, 245, 134, 60, 225, 165, 3, 39, 86, 101, 90, 127, 197, 72, 117, 146, 47, 195, 42, 128, 100, 253, 174, 209, 25, 239, 114, 219, 244, 234, 163, 190, 183, 235, 54, 98, 153, 121, 123, 38, 40, 180, 179, 139, 203, 70, 5, 24, 43, 199, 224, 213, 210, 220, 173, 241, 23, 88, 196, 79, 242, 58, 9, 73, 141, 160, 193, 181, 19, 233, 63, 80, 30, 81, 111, 226, 175, 150, 207, 222, 17, 119, 230, 96, 71, 87, 133, 198, 95, 169, 155, 212, 66, 49, 205, 2, 76, 115, 37, 194, 57, 22, 223, 178, 16, 12, 93, 237, 240, 33, 206, 69, 53, 158, 148, 15, 122, 136, 161, 246, 201, 44, 171, 67, 184, 109, 252, 50, 170, 145, 149, 140, 94, 218, 156, 208, 1, 129, 68, 48, 254, 164, 250, 167, 248, 125, 177, 166, 232, 120, 107, 99, 249, 221, 52, 124, 10, 211, 61, 147]
theorem kc16 : kl kw 16 240 0 20 kt15 = (1, 54, kt16) := by decide +kernel
theorem kp9 : pl 9 0 0 kt16 = [235, 159, 119, 129, 183, 52, 202, 114, 167] := by decide +kernel
theorem kt0_ok (w : Nat → Int32) : Rk (kS 3 w 0) (0, 0, kt0) := by
  refine ⟨rfl, rfl, rfl, ?_⟩
  have h : ∀ j, j < 256 → kt0.getD j 0 = j := by decide +kernel
  intro j hj
  show b8 (nI j) = bb (kt0.getD j 0) ∧ kt0.getD j 0 < 256
  rw [h j hj]
  exact ⟨rfl, hj⟩
theorem kat_ks (w : Nat → Int32) (hw : ∀ j, j < 3 → a8 (w j) = kw.getD j 0) : ∀ i, i < 9 → a8 (rK (rI i (k0 3 w))) = [235, 159, 119, 129, 183, 52, 202, 114, 167].getD i 0 := by
  have h0 := kt0_ok w
  have h1 := kl_on (n := 3) rfl (by decide) hw 16 0 0 0 kt0 16 rfl (by decide) (by decide) (1, 144, kt1) kc1 h0
  have h2 := kl_on (n := 3) rfl (by decide) hw 16 16 1 144 kt1 32 rfl (by decide) (by decide) (2, 35, kt2) kc2 h1
  have h3 := kl_on (n := 3) rfl (by decide) hw 16 32 2 35 kt2 48 rfl (by decide) (by decide) (0, 172, kt3) kc3 h2
  have h4 := kl_on (n := 3) rfl (by decide) hw 16 48 0 172 kt3 64 rfl (by decide) (by decide) (1, 251, kt4) kc4 h3
  have h5 := kl_on (n := 3) rfl (by decide) hw 16 64 1 251 kt4 80 rfl (by decide) (by decide) (2, 231, kt5) kc5 h4
  have h6 := kl_on (n := 3) rfl (by decide) hw 16 80 2 231 kt5 96 rfl (by decide) (by decide) (0, 227, kt6) kc6 h5
  have h7 := kl_on (n := 3) rfl (by decide) hw 16 96 0 227 kt6 112 rfl (by decide) (by decide) (1, 56, kt7) kc7 h6
  have h8 := kl_on (n := 3) rfl (by decide) hw 16 112 1 56 kt7 128 rfl (by decide) (by decide) (2, 122, kt8) kc8 h7
  have h9 := kl_on (n := 3) rfl (by decide) hw 16 128 2 122 kt8 144 rfl (by decide) (by decide) (0, 20, kt9) kc9 h8
  have h10 := kl_on (n := 3) rfl (by decide) hw 16 144 0 20 kt9 160 rfl (by decide) (by decide) (1, 69, kt10) kc10 h9
  have h11 := kl_on (n := 3) rfl (by decide) hw 16 160 1 69 kt10 176 rfl (by decide) (by decide) (2, 222, kt11) kc11 h10
  have h12 := kl_on (n := 3) rfl (by decide) hw 16 176 2 222 kt11 192 rfl (by decide) (by decide) (0, 249, kt12) kc12 h11
  have h13 := kl_on (n := 3) rfl (by decide) hw 16 192 0 249 kt12 208 rfl (by decide) (by decide) (1, 174, kt13) kc13 h12
  have h14 := kl_on (n := 3) rfl (by decide) hw 16 208 1 174 kt13 224 rfl (by decide) (by decide) (2, 135, kt14) kc14 h13
  have h15 := kl_on (n := 3) rfl (by decide) hw 16 224 2 135 kt14 240 rfl (by decide) (by decide) (0, 20, kt15) kc15 h14
  have h16 := kl_on (n := 3) rfl (by decide) hw 16 240 0 20 kt15 256 rfl (by decide) (by decide) (1, 54, kt16) kc16 h15
  intro i hi
  have h := pl_ok 9 (k0 3 w) 0 0 kt16 rfl rfl h16.2.2 i hi
  rw [kp9] at h
  exact h
/-- the array of the law's method known() -/
def kX9 : Nat → Int32 := upd (upd (upd (upd (upd (upd (upd (upd (upd (fun _ => 0) 0 187) 1 243) 2 22) 3 232) 4 217) 5 64) 6 175) 7 10) 8 211
def kTx : Nat → Int32 := wP (fun _ => 0) 0 1349280105 1853121912 1946157056 0
def kKy : Nat → Int32 := wP (fun _ => 0) 0 1264941312 0 0 0
def kSt : rS := k0 3 (fun j => b8 (kKy j))
theorem kat_ok : ∀ i, i < 9 → nI (a8 (oB kTx 0 kSt i)) = kX9 i := by
  have hw : ∀ j, j < 3 → a8 (b8 (kKy j)) = kw.getD j 0 := by decide +kernel
  have ht : ∀ i, i < 9 → a8 (kTx i) = [80, 108, 97, 105, 110, 116, 101, 120, 116].getD i 0 := by decide +kernel
  have hz : ∀ i, i < 9 → nI ([80, 108, 97, 105, 110, 116, 101, 120, 116].getD i 0 ^^^ [235, 159, 119, 129, 183, 52, 202, 114, 167].getD i 0) = kX9 i := by decide +kernel
  intro i hi
  show nI (a8 (b8 (kTx (i + 0) ^^^ rK (rI i kSt)))) = _
  rw [a8_b8, a8_xor, Nat.add_zero, ht i hi, show a8 (rK (rI i kSt)) = _ from kat_ks _ hw i hi]
  exact hz i hi
theorem kat_on {ks : rS} (h : ks = k0 (kN 2) (fun j => b8 (kKy j))) : ∀ i, i < 9 → nI (a8 (oB kTx 0 ks i)) = kX9 i := by
  have e : ks = kSt := by
    rw [h, show kN 2 = 3 from by decide]
    rfl
  rw [e]
  exact kat_ok
end
section
/-! THE SCRIPT'S BYTES: what the text holds, what the law reads out of the script; what one() and out() answer -/
set_option maxRecDepth 100000
def wb (w : Int32) (r : Nat) : Int32 := if r = 0 then w0 w else if r = 1 then w1 w else if r = 2 then w2 w else w3 w
theorem wU_in (f : Nat → Int32) (a : Nat) (w : Int32) {r : Nat} (hr : r < 4) : wU f a w (a + r) = wb w r := by
  rcases (show r = 0 ∨ r = 1 ∨ r = 2 ∨ r = 3 by omega) with rfl | rfl | rfl | rfl
  · unfold wU upd wb
    rw [if_neg (by omega), if_neg (by omega), if_neg (by omega), if_pos (by omega), if_pos rfl]
  · unfold wU upd wb
    rw [if_neg (by omega), if_neg (by omega), if_pos (by omega), if_neg (by omega), if_pos rfl]
  · unfold wU upd wb
    rw [if_neg (by omega), if_pos (by omega), if_neg (by omega), if_neg (by omega), if_pos rfl]
  · unfold wU upd wb
    rw [if_pos (by omega), if_neg (by omega), if_neg (by omega), if_neg (by omega)]
theorem wU_out (f : Nat → Int32) (a : Nat) (w : Int32) {j : Nat} (hj : j < a ∨ a + 4 ≤ j) : wU f a w j = f j := by
  unfold wU upd
  rw [if_neg (by omega), if_neg (by omega), if_neg (by omega), if_neg (by omega)]
theorem wP_in (f : Nat → Int32) (a : Nat) (x y z t : Int32) {q r : Nat} (hq : q < 4) (hr : r < 4) : wP f a x y z t (a + 4 * q + r) = wb (if q = 0 then x else if q = 1 then y else if q = 2 then z else t) r := by
  unfold wP
  rcases (show q = 0 ∨ q = 1 ∨ q = 2 ∨ q = 3 by omega) with rfl | rfl | rfl | rfl
  · rw [wU_out _ _ _ (by omega), wU_out _ _ _ (by omega), wU_out _ _ _ (by omega), if_pos rfl]
    exact wU_in _ _ _ hr
  · rw [wU_out _ _ _ (by omega), wU_out _ _ _ (by omega), if_neg (by omega), if_pos rfl]
    exact wU_in _ _ _ hr
  · rw [wU_out _ _ _ (by omega), if_neg (by omega), if_neg (by omega), if_pos rfl]
    exact wU_in _ _ _ hr
  · rw [if_neg (by omega), if_neg (by omega), if_neg (by omega)]
    exact wU_in _ _ _ hr
theorem wP_out (f : Nat → Int32) (a : Nat) (x y z t : Int32) {j : Nat} (hj : j < a ∨ a + 16 ≤ j) : wP f a x y z t j = f j := by
  unfold wP
  rw [wU_out _ _ _ (by omega), wU_out _ _ _ (by omega), wU_out _ _ _ (by omega), wU_out _ _ _ (by omega)]
theorem tX_in (v : Nat → Int32) : ∀ (k m : Nat), m < k → ∀ {q r : Nat}, q < 4 → r < 4 → tX v k (16 * m + 4 * q + r) = wb (v (20 + 4 * m + q)) r := by
  intro k
  induction k with
  | zero => intro m hm; omega
  | succ k ih =>
    intro m hm q r hq hr
    unfold tX
    by_cases h : m = k
    · subst h
      rw [wP_in _ _ _ _ _ _ hq hr]
      rcases (show q = 0 ∨ q = 1 ∨ q = 2 ∨ q = 3 by omega) with rfl | rfl | rfl | rfl <;> simp
    · rw [wP_out _ _ _ _ _ _ (by omega)]
      exact ih m (by omega) hq hr
theorem tX_at (v : Nat → Int32) {i : Nat} (hi : i < 128) : tX v 8 i = wb (v (20 + i / 4)) (i % 4) := by
  have h := tX_in v 8 (i / 16) (by omega) (q := i / 4 % 4) (r := i % 4) (by omega) (by omega)
  rw [show 16 * (i / 16) + 4 * (i / 4 % 4) + i % 4 = i by omega, show 20 + 4 * (i / 16) + i / 4 % 4 = 20 + i / 4 by omega] at h
  exact h
theorem a8_int (x : Int32) : (a8 x : Int) = x.toInt % 256 := by
  unfold a8
  have h : x.toInt = x.toBitVec.toInt := rfl
  have h2 := BitVec.toInt_eq_toNat_cond x.toBitVec
  have h3 : x.toBitVec.toNat < 2 ^ 32 := x.toBitVec.isLt
  rw [h, h2]
  split <;> omega
theorem a8_shr (w s : Int32) (k : Nat) (hk : k ≤ 24) (hs : (s.toBitVec.smod 32).toNat = k) : a8 (b8 (w >>> s)) = w.toBitVec.toNat / 2 ^ k % 256 := by
  rw [a8_b8]
  have h1 := a8_int (w >>> s)
  rw [pk_shr w s k hs, Int.shiftRight_eq_div_pow] at h1
  have h : w.toInt = w.toBitVec.toInt := rfl
  have h2 := BitVec.toInt_eq_toNat_cond w.toBitVec
  have h3 : w.toBitVec.toNat < 2 ^ 32 := w.toBitVec.isLt
  rw [h, h2] at h1
  have h4 : ((w.toBitVec.toNat / 2 ^ k % 256 : Nat) : Int) = (if 2 * w.toBitVec.toNat < 2 ^ 32 then (w.toBitVec.toNat : Int) else (w.toBitVec.toNat : Int) - ((2 ^ 32 : Nat) : Int)) / ((2 ^ k : Nat) : Int) % 256 := by
    split
    · rw [Int.natCast_emod, Int.natCast_ediv]; rfl
    · rw [Int.natCast_emod, Int.natCast_ediv, show ((2 ^ 32 : Nat) : Int) = ((2 ^ k : Nat) : Int) * ((2 ^ (24 - k) : Nat) : Int) * 256 by
        rw [← Int.natCast_mul, ← Nat.pow_add, show k + (24 - k) = 24 by omega]; rfl]
      rw [Int.mul_assoc, Int.sub_mul_ediv_left _ _ (by have := Nat.two_pow_pos k; omega), Int.sub_mul_emod_self_right]
      rfl
  omega
theorem wb_8 (w : Int32) {r : Nat} (hr : r < 4) : a8 (wb w r) = w.toBitVec.toNat / 2 ^ (24 - 8 * r) % 256 := by
  rcases (show r = 0 ∨ r = 1 ∨ r = 2 ∨ r = 3 by omega) with rfl | rfl | rfl | rfl
  · exact a8_shr w _ 24 (by decide) (by decide)
  · exact a8_shr w _ 16 (by decide) (by decide)
  · exact a8_shr w _ 8 (by decide) (by decide)
  · show a8 (b8 w) = _
    rw [a8_b8]
    show _ = w.toBitVec.toNat / 1 % 256
    rw [Nat.div_one]
    rfl
/-- what the law reads: the byte i of the text -/
theorem tx_byte (v : Nat → Int32) {i : Nat} (hi : i < 128) : ((v (20 + i / 4)).toUInt32 >>> ((nI (24 - 8 * (i % 4))).toUInt32 &&& Int32.toUInt32 31)).toInt32 &&& 255 = nI (a8 (tX v 8 i)) := by
  rw [a8_and, tX_at v hi, wb_8 _ (Nat.mod_lt _ (by decide))]
  have hs : (((nI (24 - 8 * (i % 4))).toUInt32 &&& Int32.toUInt32 31).toBitVec % 32).toNat = 24 - 8 * (i % 4) := by
    rcases (show i % 4 = 0 ∨ i % 4 = 1 ∨ i % 4 = 2 ∨ i % 4 = 3 by omega) with h | h | h | h <;> rw [h] <;> decide
  unfold a8
  rw [pk_ushr _ _ _ hs]
theorem a8_out (t : Nat → Int32) (σ : rS) (i : Nat) : a8 (oB t 0 σ i) = a8 (t i) ^^^ a8 (rK (rI i σ)) := by
  show a8 (b8 (t (i + 0) ^^^ rK (rI i σ))) = _
  rw [a8_b8, a8_xor, Nat.add_zero]
theorem a8_one (x : Int32) : a8 (nI (a8 x)) = a8 x := by
  rw [a8_nI]
  exact Nat.mod_eq_of_lt (a8_lt x)
theorem a8_two (x y : Int32) : a8 (nI (a8 x ^^^ a8 y)) ^^^ a8 y = a8 x := by
  rw [a8_nI, Nat.mod_eq_of_lt (show a8 x ^^^ a8 y < 2 ^ 8 from Nat.xor_lt_two_pow (a8_lt x) (a8_lt y)), Nat.xor_assoc, Nat.xor_self, Nat.xor_zero]
/-- the law's size, its start, its text -/
def lZ (v : Nat → Int32) : Nat := m31 (v 13) % 129
def lS (v : Nat → Int32) : rS := k0 (kN (v 12)) (fun j => b8 (kX v j))
theorem lZ_lt (v : Nat → Int32) : lZ v < 129 := Nat.mod_lt _ (by decide)
end
section
/-! KeyParameter and RC4Engine: contracts -/
set_option maxRecDepth 100000
theorem hb_nat : nativeFrameWords "java/lang/System" "arraycopy" 5 + 11 ≤ 60 := by decide +kernel
theorem hb_copy {p : Program} {l : Launch} {e : Env} {R : Room} {s : State} {m : MethodId} {args : Array Value} {below : List Frame} {meth : Method} {c : Code} {H : Heap} {locs : List Loc} {cells slots : Nat} {Q : State → Prop} {cc : ByteArray} {pc : Nat} {ls : Array Slot} {D : va_G} {A : Nat → Prop} {a a0 n : Nat} {f g : Nat → Int32} {ws wn : va_W} {H0 : Heap} {cB : ClassId} {own : String} {idx : Nat}
    (hx : p.tables.exec = Jvm.exec) (hb : c.code = cc) (hml : c.maxLocals = ls.size) (hts : ∀ w ∈ lw_all, w.before args s = true) (hown : s.vm.findClass own = some m.cls) (hq : Cond.methodLink own idx arraycopyName ∈ lw_all) (hK : va_K D vwCl [(cB, .byte)] s) (hP : va_P D vwCl ws H) (hD : va_D A ws) (hS : va_S A H0 H locs) (q0 q1 : Nat) (ha0 : ws[q0]? = some (a0, .inl (cB, n, .inl f))) (ha1 : ws[q1]? = some (a, .inl (cB, n, .inl g))) (hn : n < 2 ^ 31) (hfit : ∀ i, i < n → fits .byte (.int (f i)) = true) (hR : 1 ≤ R.frames) (hRl : 60 ≤ R.locals) (hw : ws.set q1 (a, .inl (cB, n, .inl f)) = wn) (hdg : decode cc pc = .ok (.invokestatic idx, 3))
    (kk : ∀ (H1 : Heap) (locs1 : List Loc), va_P D vwCl wn H1 → va_D A wn → va_S A H0 H1 locs1 → W p l e R s m args below meth c H1 locs1 cells slots Q (F0 m (pc + 3) ls [])) : W p l e R s m args below meth c H locs cells slots Q (F0 m pc ls [.int (nI n), .int (nI 0), .ref a, .int (nI 0), .ref a0]) := by
  have z0 : (nI 0).toNatClampNeg = 0 := nI_clamp (by decide)
  have zn : (nI n).toNatClampNeg = n := nI_clamp hn
  refine va_copyi hx hb hml hown (hts _ hq) (hts _ q248) (hts _ q247) (hts _ q8) hK hP hD hS q0 q1 0 0 ha0 ha1 rfl rfl rfl (nI_pos (by decide)) (nI_pos (by decide)) (nI_pos hn) (by rw [z0, zn]; omega) (by rw [z0, zn]; omega) (fun i hi => ?_) hR (Nat.le_trans (by rw [show (([] : List Value).map fun v => v.category).sum = 0 from rfl]; rw [Nat.zero_add]; exact hb_nat) hRl) hdg (fun H1 locs1 h1 h2 h3 => ?_)
  · rw [zn] at hi
    rw [z0, Nat.zero_add]
    exact hfit i hi
  · rw [z0, zn] at h1 h2
    have hl : q1 < ws.length := (List.getElem?_eq_some_iff.mp ha1).1
    obtain ⟨g1, g2⟩ := hb_ext (wn := wn) h1 h2 q1 f (List.getElem?_set_self hl) (fun j hj => by rw [va_cpy, if_pos ⟨Nat.zero_le _, by omega⟩]; simp) (by rw [List.set_set]; exact hw)
    exact kk H1 locs1 g1 g2 h3
set_option maxHeartbeats 4000000 in
set_option maxRecDepth 100000 in
/-- KeyParameter(int): one new array of n zeros -/
theorem metX3_init_3 (l : Launch) (D : va_G) (cB : ClassId) (sz : Nat) (p0 n : Nat) (hn : n ≤ 32) : hb_Mv l yX3_init_3 (ws_ yX3_init_3 cX3_init_3 2 none) { frames := 1, cells := 1, slots := 32, locals := 20 } D cB sz [.ref p0, .int (nI n)] [(p0, .inr (2, [.null]))] hb_T (fun w => ∃ q_1 : Nat, w = [(p0, .inr (2, [.ref q_1])), (q_1, .inl (cB, n, .inl (fun _ => 0)))]) := by
  refine hb_startG (Qc := hb_Qv D cB _) (by decide) (Nat.le_of_ble_eq_true rfl) ?_
  intro p e_0 s m args below meth c A hAt hIn hsz hXs ls hl
  obtain ⟨hx, hb, hr, hlk, hml, hown, hts, hin⟩ := hAt
  obtain ⟨hK, hP, hD, hA, hS, hof⟩ := hIn
  have hown : s.vm.findClass RX3 = some m.cls := hown
  have hl : lv_has ls 2 [(0, .ref p0), (1, .int (nI n))] := hl
  refine lv_aload_n hx hb dX3_init_3_0 rfl (lv_at hl 0 rfl) ?_
  refine hb_obj hx hb hts hown q241 hml hl.1 (Nat.le_of_ble_eq_true rfl) (Nat.le_of_ble_eq_true rfl) (Nat.le_of_ble_eq_true rfl) dX3_init_3_1 ?_
  refine lv_aload_n hx hb dX3_init_3_4 rfl (lv_at hl 0 rfl) ?_
  refine lv_iload_n hx hb dX3_init_3_5 rfl (lv_at hl 1 rfl) ?_
  refine hb_newB (k := 1) (k' := 32) (N := n) hx hb hts hK hP hD hS hA (by omega) ⟨Nat.le_refl _, by omega⟩ ⟨Nat.le_of_ble_eq_true rfl, Nat.le_of_ble_eq_true rfl⟩ dX3_init_3_6 (fun q_1 H hP hD hS => ?_)
  have hP : va_P D vwCl [(p0, .inr (2, [.null])), (q_1, .inl (cB, n, .inl (fun _ => 0)))] H := hP
  have hD : va_D A [(p0, .inr (2, [.null])), (q_1, .inl (cB, n, .inl (fun _ => 0)))] := hD
  refine hb_put3 (wn := [(p0, .inr (2, [.ref q_1])), (q_1, .inl (cB, n, .inl (fun _ => 0)))]) hx hb hts hown hK hP hD hS 0 rfl 0 (by decide) q242 rfl (v := .ref q_1) rfl rfl (Nat.le_of_ble_eq_true rfl) rfl dX3_init_3_8 (fun H locs hP hD hS => ?_)
  exact hb_retv hx hb hr hlk hK hP hD hS ⟨q_1, rfl⟩ ⟨Nat.le_of_ble_eq_true rfl, Nat.le_of_ble_eq_true rfl⟩ dX3_init_3_11
set_option maxHeartbeats 4000000 in
set_option maxRecDepth 100000 in
/-- KeyParameter(byte[], 0, n): a copy -/
theorem metX3_init_2 (l : Launch) (D : va_G) (cB : ClassId) (sz : Nat) (p0 k_ n : Nat) (f : Nat → Int32) (hn : n ≤ 32) (hf : ∀ i, i < n → fits .byte (.int (f i)) = true) : hb_Mv l yX3_init_2 (ws_ yX3_init_2 cX3_init_2 4 none) { frames := 2, cells := 1, slots := 32, locals := 60 } D cB sz [.ref p0, .ref k_, .int (nI 0), .int (nI n)] [(p0, .inr (2, [.null])), (k_, .inl (cB, n, .inl f))] hb_T (fun w => ∃ q_1 : Nat, w = [(k_, .inl (cB, n, .inl f)), (p0, .inr (2, [.ref q_1])), (q_1, .inl (cB, n, .inl f))]) := by
  refine hb_startG (Qc := hb_Qv D cB _) (by decide) (Nat.le_of_ble_eq_true rfl) ?_
  intro p e_0 s m args below meth c A hAt hIn hsz hXs ls hl
  obtain ⟨hx, hb, hr, hlk, hml, hown, hts, hin⟩ := hAt
  obtain ⟨hK, hP, hD, hA, hS, hof⟩ := hIn
  have hown : s.vm.findClass RX3 = some m.cls := hown
  have hl : lv_has ls 4 [(0, .ref p0), (1, .ref k_), (2, .int (nI 0)), (3, .int (nI n))] := hl
  refine lv_aload_n hx hb dX3_init_2_0 rfl (lv_at hl 0 rfl) ?_
  refine lv_iload_n hx hb dX3_init_2_1 rfl (lv_at hl 3 rfl) ?_
  refine hb_Iv (As := [.int (nI n)]) (rest := []) (wc := [(p0, .inr (2, [.null]))]) (wr := [(k_, .inl (cB, n, .inl f))]) (k := 1) (k' := 32) ⟨hx, hb, hml, hown, hts⟩ (metX3_init_3 l D cB _ p0 n hn) (cwI 1 hts (lw_meth q240) rfl rfl rfl (hts _ q7) (hts _ q238) (hts _ q239) rfl (by decide +kernel) ⟨Nat.le_of_ble_eq_true rfl, Nat.le_of_ble_eq_true rfl⟩) ⟨hK, hP, hD, hS, hA⟩ [0] [1] ⟨rfl, rfl, rfl, rfl, by decide⟩ hb_bl (fun _ _ _ => trivial) rfl hl.1 rfl (Nat.le_of_ble_eq_true rfl) dX3_init_2_2 ⟨Nat.le_of_ble_eq_true rfl, Nat.le_of_ble_eq_true rfl⟩ ⟨Nat.le_of_ble_eq_true rfl, Nat.le_of_ble_eq_true rfl⟩ (fun w_1 H locs hw hP hD hS => ?_)
  obtain ⟨q_1, rfl⟩ := hw
  have hP : va_P D vwCl [(k_, .inl (cB, n, .inl f)), (p0, .inr (2, [.ref q_1])), (q_1, .inl (cB, n, .inl (fun _ => 0)))] H := hP
  have hD : va_D A [(k_, .inl (cB, n, .inl f)), (p0, .inr (2, [.ref q_1])), (q_1, .inl (cB, n, .inl (fun _ => 0)))] := hD
  refine lv_aload_n hx hb dX3_init_2_5 rfl (lv_at hl 1 rfl) ?_
  refine lv_iload_n hx hb dX3_init_2_6 rfl (lv_at hl 2 rfl) ?_
  refine lv_aload_n hx hb dX3_init_2_7 rfl (lv_at hl 0 rfl) ?_
  refine hb_get3 hx hb hts hown hK hP 1 rfl 0 (by decide) q242 (v := .ref q_1) rfl dX3_init_2_8 ?_
  refine lv_iconst (v := nI 0) hx hb dX3_init_2_11 (by decide) ?_
  refine lv_iload_n hx hb dX3_init_2_12 rfl (lv_at hl 3 rfl) ?_
  refine hb_copy (wn := [(k_, .inl (cB, n, .inl f)), (p0, .inr (2, [.ref q_1])), (q_1, .inl (cB, n, .inl f))]) hx hb (hml.trans hl.1.symm) hts hown q246 hK hP hD hS 0 2 rfl rfl (by omega) hf (Nat.le_of_ble_eq_true rfl) (Nat.le_of_ble_eq_true rfl) rfl dX3_init_2_13 (fun H locs hP hD hS => ?_)
  exact hb_retv hx hb hr hlk hK hP hD hS ⟨q_1, rfl⟩ ⟨Nat.le_of_ble_eq_true rfl, Nat.le_of_ble_eq_true rfl⟩ dX3_init_2_16
set_option maxHeartbeats 4000000 in
set_option maxRecDepth 100000 in
/-- KeyParameter(byte[]): a copy -/
theorem metX3_init (l : Launch) (D : va_G) (cB : ClassId) (sz : Nat) (p0 k_ n : Nat) (f : Nat → Int32) (hn : n ≤ 32) (hf : ∀ i, i < n → fits .byte (.int (f i)) = true) : hb_Mv l yX3_init (ws_ yX3_init cX3_init 2 none) { frames := 3, cells := 1, slots := 32, locals := 90 } D cB sz [.ref p0, .ref k_] [(p0, .inr (2, [.null])), (k_, .inl (cB, n, .inl f))] hb_T (fun w => ∃ q_1 : Nat, w = [(k_, .inl (cB, n, .inl f)), (p0, .inr (2, [.ref q_1])), (q_1, .inl (cB, n, .inl f))]) := by
  refine hb_startG (Qc := hb_Qv D cB _) (by decide) (Nat.le_of_ble_eq_true rfl) ?_
  intro p e_0 s m args below meth c A hAt hIn hsz hXs ls hl
  obtain ⟨hx, hb, hr, hlk, hml, hown, hts, hin⟩ := hAt
  obtain ⟨hK, hP, hD, hA, hS, hof⟩ := hIn
  have hown : s.vm.findClass RX3 = some m.cls := hown
  have hl : lv_has ls 2 [(0, .ref p0), (1, .ref k_)] := hl
  refine lv_aload_n hx hb dX3_init_0 rfl (lv_at hl 0 rfl) ?_
  refine lv_aload_n hx hb dX3_init_1 rfl (lv_at hl 1 rfl) ?_
  refine lv_iconst (v := nI 0) hx hb dX3_init_2 (by decide) ?_
  refine lv_aload_n hx hb dX3_init_3 rfl (lv_at hl 1 rfl) ?_
  refine hb_alen hx hb hK hP 1 rfl dX3_init_4 ?_
  refine hb_Iv (As := [.ref k_, .int (nI 0), .int (nI n)]) (rest := []) (wc := [(p0, .inr (2, [.null])), (k_, .inl (cB, n, .inl f))]) (wr := []) (k := 1) (k' := 32) ⟨hx, hb, hml, hown, hts⟩ (metX3_init_2 l D cB _ p0 k_ n f hn hf) (cwI 3 hts (lw_meth q237) rfl rfl rfl (hts _ q7) (hts _ q235) (hts _ q236) rfl (by decide +kernel) ⟨Nat.le_of_ble_eq_true rfl, Nat.le_of_ble_eq_true rfl⟩) ⟨hK, hP, hD, hS, hA⟩ [0, 1] [] ⟨rfl, rfl, rfl, rfl, by decide⟩ hb_bl (fun _ _ _ => trivial) rfl hl.1 rfl (Nat.le_of_ble_eq_true rfl) dX3_init_5 ⟨Nat.le_of_ble_eq_true rfl, Nat.le_of_ble_eq_true rfl⟩ ⟨Nat.le_of_ble_eq_true rfl, Nat.le_of_ble_eq_true rfl⟩ (fun w_1 H locs hw hP hD hS => ?_)
  obtain ⟨q_1, rfl⟩ := hw
  have hP : va_P D vwCl [(k_, .inl (cB, n, .inl f)), (p0, .inr (2, [.ref q_1])), (q_1, .inl (cB, n, .inl f))] H := hP
  have hD : va_D A [(k_, .inl (cB, n, .inl f)), (p0, .inr (2, [.ref q_1])), (q_1, .inl (cB, n, .inl f))] := hD
  exact hb_retv hx hb hr hlk hK hP hD hS ⟨q_1, rfl⟩ ⟨Nat.le_of_ble_eq_true rfl, Nat.le_of_ble_eq_true rfl⟩ dX3_init_8
set_option maxHeartbeats 4000000 in
set_option maxRecDepth 100000 in
/-- getKey(): the array itself -/
theorem metX3_getKey (l : Launch) (D : va_G) (cB : ClassId) (sz : Nat) (p0 k_ : Nat) : hb_Mr l yX3_getKey (ws_ yX3_getKey cX3_getKey 1 (some (.array .byte))) { frames := 0, cells := 0, slots := 0, locals := 0 } D cB sz [.ref p0] [(p0, .inr (2, [.ref k_]))] hb_T (fun ra w => ra = k_ ∧ w = [(p0, .inr (2, [.ref k_]))]) := by
  refine hb_startG (Qc := hb_Qr D cB _) (by decide) (Nat.le_of_ble_eq_true rfl) ?_
  intro p e_0 s m args below meth c A hAt hIn hsz hXs ls hl
  obtain ⟨hx, hb, hr, hlk, hml, hown, hts, hin⟩ := hAt
  obtain ⟨hK, hP, hD, hA, hS, hof⟩ := hIn
  have hown : s.vm.findClass RX3 = some m.cls := hown
  have hl : lv_has ls 1 [(0, .ref p0)] := hl
  refine lv_aload_n hx hb dX3_getKey_0 rfl (lv_at hl 0 rfl) ?_
  refine hb_get3 hx hb hts hown hK hP 0 rfl 0 (by decide) q242 (v := .ref k_) rfl dX3_getKey_1 ?_
  exact hb_retr hx hb hr hlk (Or.inr ⟨_, rfl⟩) hK hP hD hS ⟨rfl, rfl⟩ ⟨Nat.le_of_ble_eq_true rfl, Nat.le_of_ble_eq_true rfl⟩ dX3_getKey_4
set_option maxHeartbeats 4000000 in
set_option maxRecDepth 100000 in
/-- RC4Engine(): nothing yet -/
theorem metX2_init (l : Launch) (D : va_G) (cB : ClassId) (sz : Nat) (e : Nat) : hb_Mv l yX2_init (ws_ yX2_init cX2_init 1 none) { frames := 1, cells := 0, slots := 0, locals := 20 } D cB sz [.ref e] [(e, .inr (1, [.null, .int 0, .int 0, .null, .int 0]))] hb_T (fun w => w = [(e, .inr (1, [.null, .int 0, .int 0, .null, .int 0]))]) := by
  refine hb_startG (Qc := hb_Qv D cB _) (by decide) (Nat.le_of_ble_eq_true rfl) ?_
  intro p e_0 s m args below meth c A hAt hIn hsz hXs ls hl
  obtain ⟨hx, hb, hr, hlk, hml, hown, hts, hin⟩ := hAt
  obtain ⟨hK, hP, hD, hA, hS, hof⟩ := hIn
  have hown : s.vm.findClass RX2 = some m.cls := hown
  have hl : lv_has ls 1 [(0, .ref e)] := hl
  refine lv_aload_n hx hb dX2_init_0 rfl (lv_at hl 0 rfl) ?_
  refine hb_obj hx hb hts hown q165 hml hl.1 (Nat.le_of_ble_eq_true rfl) (Nat.le_of_ble_eq_true rfl) (Nat.le_of_ble_eq_true rfl) dX2_init_1 ?_
  refine lv_aload_n hx hb dX2_init_4 rfl (lv_at hl 0 rfl) ?_
  refine lv_null hx hb dX2_init_5 ?_
  refine hb_put2 (wn := [(e, .inr (1, [.null, .int 0, .int 0, .null, .int 0]))]) hx hb hts hown hK hP hD hS 0 rfl 0 (by decide) q166 rfl (v := .null) rfl rfl (Nat.le_of_ble_eq_true rfl) rfl dX2_init_6 (fun H locs hP hD hS => ?_)
  refine lv_aload_n hx hb dX2_init_9 rfl (lv_at hl 0 rfl) ?_
  refine lv_iconst (v := 0) hx hb dX2_init_10 (by decide) ?_
  refine hb_put2 (wn := [(e, .inr (1, [.null, .int 0, .int 0, .null, .int 0]))]) hx hb hts hown hK hP hD hS 0 rfl 1 (by decide) q167 rfl (v := .int 0) rfl rfl (Nat.le_of_ble_eq_true rfl) rfl dX2_init_11 (fun H locs hP hD hS => ?_)
  refine lv_aload_n hx hb dX2_init_14 rfl (lv_at hl 0 rfl) ?_
  refine lv_iconst (v := 0) hx hb dX2_init_15 (by decide) ?_
  refine hb_put2 (wn := [(e, .inr (1, [.null, .int 0, .int 0, .null, .int 0]))]) hx hb hts hown hK hP hD hS 0 rfl 2 (by decide) q168 rfl (v := .int 0) rfl rfl (Nat.le_of_ble_eq_true rfl) rfl dX2_init_16 (fun H locs hP hD hS => ?_)
  refine lv_aload_n hx hb dX2_init_19 rfl (lv_at hl 0 rfl) ?_
  refine lv_null hx hb dX2_init_20 ?_
  refine hb_put2 (wn := [(e, .inr (1, [.null, .int 0, .int 0, .null, .int 0]))]) hx hb hts hown hK hP hD hS 0 rfl 3 (by decide) q169 rfl (v := .null) rfl rfl (Nat.le_of_ble_eq_true rfl) rfl dX2_init_21 (fun H locs hP hD hS => ?_)
  exact hb_retv hx hb hr hlk hK hP hD hS rfl ⟨Nat.le_of_ble_eq_true rfl, Nat.le_of_ble_eq_true rfl⟩ dX2_init_24
set_option maxHeartbeats 4000000 in
set_option maxRecDepth 100000 in
theorem sk_loop1 {p : Program} {l : Launch} {e_0 : Env} {R : Room} {s : State} {m : MethodId} {args : Array Value} {below : List Frame} {meth : Method} {c : Code} {Q : State → Prop} {D : va_G} {cB : ClassId} {A : Nat → Prop} {H0 : Heap} {cells slots : Nat} (hx : p.tables.exec = Jvm.exec) (hb : c.code = cX2_setKey) (hts : ∀ w ∈ lw_all, w.before args s = true) (hown : s.vm.findClass RX2 = some m.cls) (hK : va_K D vwCl [(cB, .byte)] s) (e st wk n : Nat) (vf : Value) (w o : Nat → Int32) (kk : ∀ (H : Heap) (locs : List Loc) (ls : Array Slot), va_P D vwCl [(e, .inr (1, [.ref st, .int (nI 0), .int (nI 0), .ref wk, vf])), (wk, .inl (cB, n, .inl w)), (st, .inl (cB, 256, .inl (fI (fun j => b8 (nI j)) o 256)))] H → va_D A [(e, .inr (1, [.ref st, .int (nI 0), .int (nI 0), .ref wk, vf])), (wk, .inl (cB, n, .inl w)), (st, .inl (cB, 256, .inl (fI (fun j => b8 (nI j)) o 256)))] → va_S A H0 H locs → lv_has ls 6 [(0, .ref e), (1, .ref wk), (2, .int (nI 256))] → W p l e_0 R s m args below meth c H locs cells slots Q (F0 m 54 ls [])) :
    ∀ (k i : Nat), i + k = 256 → ∀ (H : Heap) (locs : List Loc) (ls : Array Slot), va_P D vwCl [(e, .inr (1, [.ref st, .int (nI 0), .int (nI 0), .ref wk, vf])), (wk, .inl (cB, n, .inl w)), (st, .inl (cB, 256, .inl (fI (fun j => b8 (nI j)) o i)))] H → va_D A [(e, .inr (1, [.ref st, .int (nI 0), .int (nI 0), .ref wk, vf])), (wk, .inl (cB, n, .inl w)), (st, .inl (cB, 256, .inl (fI (fun j => b8 (nI j)) o i)))] → va_S A H0 H locs → lv_has ls 6 [(0, .ref e), (1, .ref wk), (2, .int (nI i))] → W p l e_0 R s m args below meth c H locs cells slots Q (F0 m 33 ls []) := by
  intro k
  induction k with
  | zero =>
    intro i hi H locs ls hP hD hS hl
    obtain rfl : i = 256 := by omega
    refine lv_iload_n hx hb dX2_setKey_33 rfl (lv_at hl 2 rfl) ?_
    refine lv_sipush (v := nI 256) hx hb dX2_setKey_34 (by decide) ?_
    refine lv_icmp_ge (tgt := 54) hx hb dX2_setKey_37 (by decide) (fun c_37 => ?_) (fun c_37 => absurd (nI_le (Nat.le_refl 256) (by decide)) c_37)
    exact kk H locs ls hP hD hS hl
  | succ k ih =>
    intro i hi H locs ls hP hD hS hl
    have hi1 : i < 256 := by omega
    refine lv_iload_n hx hb dX2_setKey_33 rfl (lv_at hl 2 rfl) ?_
    refine lv_sipush (v := nI 256) hx hb dX2_setKey_34 (by decide) ?_
    refine lv_icmp_ge (tgt := 54) hx hb dX2_setKey_37 (by decide) (fun c_37 => absurd c_37 (nI_ge hi1 (by decide))) (fun c_37 => ?_)
    refine lv_aload_n hx hb dX2_setKey_40 rfl (lv_at hl 0 rfl) ?_
    refine hb_get2 hx hb hts hown hK hP 0 rfl 0 (by decide) q166 (v := .ref st) rfl dX2_setKey_41 ?_
    refine lv_iload_n hx hb dX2_setKey_44 rfl (lv_at hl 2 rfl) ?_
    refine lv_iload_n hx hb dX2_setKey_45 rfl (lv_at hl 2 rfl) ?_
    refine lv_i2b (v := b8 (nI i)) hx hb dX2_setKey_46 rfl ?_
    refine hb_bast (wn := [(e, .inr (1, [.ref st, .int (nI 0), .int (nI 0), .ref wk, vf])), (wk, .inl (cB, n, .inl w)), (st, .inl (cB, 256, .inl (fI (fun j => b8 (nI j)) o (i + 1))))]) (j := i) hx hb hK hP hD hS 2 rfl hi1 (by decide) (fI (fun j => b8 (nI j)) o (i + 1)) (fI_s _ _ _ _ (b8_b8 _)) rfl dX2_setKey_47 (fun H locs hP hD hS => ?_)
    refine lv_iinc (v := nI (i + 1)) (lv' := [(2, .int (nI (i + 1))), (0, .ref e), (1, .ref wk)]) hx hb dX2_setKey_48 hl (k := 2) rfl (nI_1 i) (by decide) rfl (fun ls hl => ?_)
    refine lv_goto (tgt := 33) hx hb dX2_setKey_51 (by decide) ?_
    exact ih (i + 1) (by omega) H locs ls hP hD hS (lv_sub hl [1, 2, 0] rfl)
theorem kS_2 (n : Nat) (w : Nat → Int32) (i : Nat) : (kS n w i).2.1 < 256 := by
  cases i with
  | zero => exact Nat.zero_lt_succ _
  | succ i => exact a8_lt _
set_option maxHeartbeats 4000000 in
set_option maxRecDepth 100000 in
theorem sk_loop2 {p : Program} {l : Launch} {e_0 : Env} {R : Room} {s : State} {m : MethodId} {args : Array Value} {below : List Frame} {meth : Method} {c : Code} {Q : State → Prop} {D : va_G} {cB : ClassId} {A : Nat → Prop} {H0 : Heap} {cells slots : Nat} (hx : p.tables.exec = Jvm.exec) (hb : c.code = cX2_setKey) (hts : ∀ w ∈ lw_all, w.before args s = true) (hown : s.vm.findClass RX2 = some m.cls) (hK : va_K D vwCl [(cB, .byte)] s) (e st wk n : Nat) (hn : 0 < n ∧ n ≤ 32) (vf : Value) (w : Nat → Int32) (kk : ∀ (H : Heap) (locs : List Loc) (ls : Array Slot), va_P D vwCl [(e, .inr (1, [.ref st, .int (nI 0), .int (nI 0), .ref wk, vf])), (wk, .inl (cB, n, .inl w)), (st, .inl (cB, 256, .inl ((kS n w 256).2.2)))] H → va_D A [(e, .inr (1, [.ref st, .int (nI 0), .int (nI 0), .ref wk, vf])), (wk, .inl (cB, n, .inl w)), (st, .inl (cB, 256, .inl ((kS n w 256).2.2)))] → va_S A H0 H locs → lv_has ls 6 [] → W p l e_0 R s m args below meth c H locs cells slots Q (F0 m 134 ls [])) :
    ∀ (k i : Nat), i + k = 256 → ∀ (H : Heap) (locs : List Loc) (ls : Array Slot), va_P D vwCl [(e, .inr (1, [.ref st, .int (nI 0), .int (nI 0), .ref wk, vf])), (wk, .inl (cB, n, .inl w)), (st, .inl (cB, 256, .inl ((kS n w i).2.2)))] H → va_D A [(e, .inr (1, [.ref st, .int (nI 0), .int (nI 0), .ref wk, vf])), (wk, .inl (cB, n, .inl w)), (st, .inl (cB, 256, .inl ((kS n w i).2.2)))] → va_S A H0 H locs → lv_has ls 6 [(0, .ref e), (1, .ref wk), (2, .int (nI (kS n w i).1)), (3, .int (nI (kS n w i).2.1)), (4, .int (nI i))] → W p l e_0 R s m args below meth c H locs cells slots Q (F0 m 61 ls []) := by
  intro k
  induction k with
  | zero =>
    intro i hi H locs ls hP hD hS hl
    obtain rfl : i = 256 := by omega
    refine lv_iload hx hb dX2_setKey_61 (lv_at hl 4 rfl) ?_
    refine lv_sipush (v := nI 256) hx hb dX2_setKey_63 (by decide) ?_
    refine lv_icmp_ge (tgt := 134) hx hb dX2_setKey_66 (by decide) (fun c_66 => ?_) (fun c_66 => absurd (nI_le (Nat.le_refl 256) (by decide)) c_66)
    exact kk H locs ls hP hD hS (lv_sub hl [] rfl)
  | succ k ih =>
    intro i hi H locs ls hP hD hS hl
    have hi1 : i < 256 := by omega
    have hq1 := kS_1 hn.1 w i
    have hJ := kS_2 n w (i + 1)
    refine lv_iload hx hb dX2_setKey_61 (lv_at hl 4 rfl) ?_
    refine lv_sipush (v := nI 256) hx hb dX2_setKey_63 (by decide) ?_
    refine lv_icmp_ge (tgt := 134) hx hb dX2_setKey_66 (by decide) (fun c_66 => absurd c_66 (nI_ge hi1 (by decide))) (fun c_66 => ?_)
    refine lv_aload_n hx hb dX2_setKey_69 rfl (lv_at hl 1 rfl) ?_
    refine lv_iload_n hx hb dX2_setKey_70 rfl (lv_at hl 2 rfl) ?_
    refine hb_bald (j := (kS n w i).1) hx hb hK hP 1 rfl hq1 (by omega) (w ((kS n w i).1)) rfl dX2_setKey_71 ?_
    refine lv_sipush (v := 255) hx hb dX2_setKey_72 (by decide) ?_
    refine lv_iand hx hb dX2_setKey_75 ?_
    refine lv_aload_n hx hb dX2_setKey_76 rfl (lv_at hl 0 rfl) ?_
    refine hb_get2 hx hb hts hown hK hP 0 rfl 0 (by decide) q166 (v := .ref st) rfl dX2_setKey_77 ?_
    refine lv_iload hx hb dX2_setKey_80 (lv_at hl 4 rfl) ?_
    refine hb_bald (j := i) hx hb hK hP 2 rfl hi1 (by decide) (((kS n w i).2.2) i) rfl dX2_setKey_82 ?_
    refine lv_iadd hx hb dX2_setKey_83 ?_
    refine lv_iload_n hx hb dX2_setKey_84 rfl (lv_at hl 3 rfl) ?_
    refine lv_iadd hx hb dX2_setKey_85 ?_
    refine lv_sipush (v := 255) hx hb dX2_setKey_86 (by decide) ?_
    refine lv_iand hx hb dX2_setKey_89 ?_
    refine hb_top (nI (kS n w (i + 1)).2.1) (a8_and _) ?_
    refine lv_istore_n (lv' := [(3, .int (nI (kS n w (i + 1)).2.1)), (0, .ref e), (1, .ref wk), (2, .int (nI (kS n w i).1)), (4, .int (nI i))]) hx hb dX2_setKey_90 rfl hl (by decide) rfl (fun ls hl => ?_)
    refine lv_aload_n hx hb dX2_setKey_91 rfl (lv_at hl 1 rfl) ?_
    refine hb_get2 hx hb hts hown hK hP 0 rfl 0 (by decide) q166 (v := .ref st) rfl dX2_setKey_92 ?_
    refine lv_iload hx hb dX2_setKey_95 (lv_at hl 4 rfl) ?_
    refine hb_bald (j := i) hx hb hK hP 2 rfl hi1 (by decide) (((kS n w i).2.2) i) rfl dX2_setKey_97 ?_
    refine lv_istore (lv' := [(5, .int (((kS n w i).2.2) i)), (3, .int (nI (kS n w (i + 1)).2.1)), (0, .ref e), (1, .ref wk), (2, .int (nI (kS n w i).1)), (4, .int (nI i))]) hx hb dX2_setKey_98 hl (by decide) rfl (fun ls hl => ?_)
    refine lv_aload_n hx hb dX2_setKey_100 rfl (lv_at hl 2 rfl) ?_
    refine hb_get2 hx hb hts hown hK hP 0 rfl 0 (by decide) q166 (v := .ref st) rfl dX2_setKey_101 ?_
    refine lv_iload hx hb dX2_setKey_104 (lv_at hl 5 rfl) ?_
    refine lv_aload_n hx hb dX2_setKey_106 rfl (lv_at hl 2 rfl) ?_
    refine hb_get2 hx hb hts hown hK hP 0 rfl 0 (by decide) q166 (v := .ref st) rfl dX2_setKey_107 ?_
    refine lv_iload_n hx hb dX2_setKey_110 rfl (lv_at hl 1 rfl) ?_
    refine hb_bald (j := (kS n w (i + 1)).2.1) hx hb hK hP 2 rfl hJ (by decide) (((kS n w i).2.2) ((kS n w (i + 1)).2.1)) rfl dX2_setKey_111 ?_
    refine hb_bast (wn := [(e, .inr (1, [.ref st, .int (nI 0), .int (nI 0), .ref wk, vf])), (wk, .inl (cB, n, .inl w)), (st, .inl (cB, 256, .inl (upd ((kS n w i).2.2) i (b8 (((kS n w i).2.2) ((kS n w (i + 1)).2.1))))))]) (j := i) hx hb hK hP hD hS 2 rfl hi1 (by decide) (upd ((kS n w i).2.2) i (b8 (((kS n w i).2.2) ((kS n w (i + 1)).2.1)))) rfl rfl dX2_setKey_112 (fun H locs hP hD hS => ?_)
    refine lv_aload_n hx hb dX2_setKey_113 rfl (lv_at hl 2 rfl) ?_
    refine hb_get2 hx hb hts hown hK hP 0 rfl 0 (by decide) q166 (v := .ref st) rfl dX2_setKey_114 ?_
    refine lv_iload_n hx hb dX2_setKey_117 rfl (lv_at hl 1 rfl) ?_
    refine lv_iload hx hb dX2_setKey_118 (lv_at hl 0 rfl) ?_
    refine hb_bast (wn := [(e, .inr (1, [.ref st, .int (nI 0), .int (nI 0), .ref wk, vf])), (wk, .inl (cB, n, .inl w)), (st, .inl (cB, 256, .inl ((kS n w (i + 1)).2.2)))]) (j := (kS n w (i + 1)).2.1) hx hb hK hP hD hS 2 rfl hJ (by decide) ((kS n w (i + 1)).2.2) rfl rfl dX2_setKey_120 (fun H locs hP hD hS => ?_)
    refine lv_iload_n hx hb dX2_setKey_121 rfl (lv_at hl 4 rfl) ?_
    refine lv_iconst (v := 1) hx hb dX2_setKey_122 (by decide) ?_
    refine lv_iadd hx hb dX2_setKey_123 ?_
    refine hb_top (nI ((kS n w i).1 + 1)) (nI_1 _) ?_
    refine lv_aload_n hx hb dX2_setKey_124 rfl (lv_at hl 3 rfl) ?_
    refine hb_alen hx hb hK hP 1 rfl dX2_setKey_125 ?_
    refine lv_irem hx hb dX2_setKey_126 (nI_ne0 hn.1 (by omega)) ?_
    refine hb_top (nI (kS n w (i + 1)).1) (pk_rem (by omega) hn.1 (by omega)) ?_
    refine lv_istore_n (lv' := [(2, .int (nI (kS n w (i + 1)).1)), (5, .int (((kS n w i).2.2) i)), (3, .int (nI (kS n w (i + 1)).2.1)), (0, .ref e), (1, .ref wk), (4, .int (nI i))]) hx hb dX2_setKey_127 rfl hl (by decide) rfl (fun ls hl => ?_)
    refine lv_iinc (v := nI (i + 1)) (lv' := [(4, .int (nI (i + 1))), (2, .int (nI (kS n w (i + 1)).1)), (5, .int (((kS n w i).2.2) i)), (3, .int (nI (kS n w (i + 1)).2.1)), (0, .ref e), (1, .ref wk)]) hx hb dX2_setKey_128 hl (k := 5) rfl (nI_1 i) (by decide) rfl (fun ls hl => ?_)
    refine lv_goto (tgt := 61) hx hb dX2_setKey_131 (by decide) ?_
    exact ih (i + 1) (by omega) H locs ls hP hD hS (lv_sub hl [4, 5, 1, 3, 0] rfl)
set_option maxHeartbeats 4000000 in
set_option maxRecDepth 100000 in
theorem sk_tail {p : Program} {l : Launch} {e_0 : Env} {R : Room} {s : State} {m : MethodId} {args : Array Value} {below : List Frame} {meth : Method} {c : Code} {Q : State → Prop} {D : va_G} {cB : ClassId} {A : Nat → Prop} {H0 : Heap} {cells slots : Nat} (hx : p.tables.exec = Jvm.exec) (hb : c.code = cX2_setKey) (hts : ∀ w ∈ lw_all, w.before args s = true) (hown : s.vm.findClass RX2 = some m.cls) (hK : va_K D vwCl [(cB, .byte)] s) (e st wk n : Nat) (hn : 0 < n ∧ n ≤ 32) (vf : Value) (w o : Nat → Int32) (kk : ∀ (H : Heap) (locs : List Loc) (ls : Array Slot), va_P D vwCl [(e, .inr (1, [.ref st, .int (nI 0), .int (nI 0), .ref wk, vf])), (wk, .inl (cB, n, .inl w)), (st, .inl (cB, 256, .inl ((kS n w 256).2.2)))] H → va_D A [(e, .inr (1, [.ref st, .int (nI 0), .int (nI 0), .ref wk, vf])), (wk, .inl (cB, n, .inl w)), (st, .inl (cB, 256, .inl ((kS n w 256).2.2)))] → va_S A H0 H locs → lv_has ls 6 [] → W p l e_0 R s m args below meth c H locs cells slots Q (F0 m 134 ls [])) :
    ∀ (H : Heap) (locs : List Loc) (ls : Array Slot), va_P D vwCl [(e, .inr (1, [.ref st, .int (nI 0), .int (nI 0), .ref wk, vf])), (wk, .inl (cB, n, .inl w)), (st, .inl (cB, 256, .inl o))] H → va_D A [(e, .inr (1, [.ref st, .int (nI 0), .int (nI 0), .ref wk, vf])), (wk, .inl (cB, n, .inl w)), (st, .inl (cB, 256, .inl o))] → va_S A H0 H locs → lv_has ls 6 [(0, .ref e), (1, .ref wk)] → W p l e_0 R s m args below meth c H locs cells slots Q (F0 m 31 ls []) := by
  intro H locs ls hP hD hS hl
  refine lv_iconst (v := nI 0) hx hb dX2_setKey_31 (by decide) ?_
  refine lv_istore_n (lv' := [(2, .int (nI 0)), (0, .ref e), (1, .ref wk)]) hx hb dX2_setKey_32 rfl hl (by decide) rfl (fun ls hl => ?_)
  refine sk_loop1 hx hb hts hown hK e st wk n vf w o (fun H locs ls hP hD hS hl => ?_) 256 0 rfl _ _ _ (by rw [fI_0]; exact hP) (by rw [fI_0]; exact hD) hS (lv_sub hl [1, 2, 0] rfl)
  obtain ⟨hP, hD⟩ := hb_ext (wn := [(e, .inr (1, [.ref st, .int (nI 0), .int (nI 0), .ref wk, vf])), (wk, .inl (cB, n, .inl w)), (st, .inl (cB, 256, .inl ((kS n w 0).2.2)))]) hP hD 2 ((kS n w 0).2.2) rfl (fun j hj => fI_lt _ _ hj) rfl
  refine lv_iconst (v := nI 0) hx hb dX2_setKey_54 (by decide) ?_
  refine lv_istore_n (lv' := [(2, .int (nI 0)), (0, .ref e), (1, .ref wk)]) hx hb dX2_setKey_55 rfl hl (by decide) rfl (fun ls hl => ?_)
  refine lv_iconst (v := nI 0) hx hb dX2_setKey_56 (by decide) ?_
  refine lv_istore_n (lv' := [(3, .int (nI 0)), (2, .int (nI 0)), (0, .ref e), (1, .ref wk)]) hx hb dX2_setKey_57 rfl hl (by decide) rfl (fun ls hl => ?_)
  refine lv_iconst (v := nI 0) hx hb dX2_setKey_58 (by decide) ?_
  refine lv_istore (lv' := [(4, .int (nI 0)), (3, .int (nI 0)), (2, .int (nI 0)), (0, .ref e), (1, .ref wk)]) hx hb dX2_setKey_59 hl (by decide) rfl (fun ls hl => ?_)
  exact sk_loop2 hx hb hts hown hK e st wk n hn vf w kk 256 0 rfl _ _ _ hP hD hS (lv_sub hl [3, 4, 2, 1, 0] rfl)
set_option maxHeartbeats 4000000 in
set_option maxRecDepth 100000 in
/-- setKey in a fresh engine: the table is made -/
theorem metX2_setKeyN (l : Launch) (D : va_G) (cB : ClassId) (sz : Nat) (e wk n : Nat) (vx vy vw vf : Value) (w : Nat → Int32) (hn : 0 < n ∧ n ≤ 32) : hb_Mv l yX2_setKey (ws_ yX2_setKey cX2_setKey 6 none) { frames := 0, cells := 1, slots := 256, locals := 0 } D cB sz [.ref e, .ref wk] [(e, .inr (1, [.null, vx, vy, vw, vf])), (wk, .inl (cB, n, .inl w))] hb_T (fun w_ => ∃ st : Nat, w_ = [(e, .inr (1, [.ref st, .int (nI (k0 n w).1), .int (nI (k0 n w).2.1), .ref wk, vf])), (wk, .inl (cB, n, .inl w)), (st, .inl (cB, 256, .inl ((k0 n w).2.2)))]) := by
  refine hb_startG (Qc := hb_Qv D cB _) (by decide) (Nat.le_of_ble_eq_true rfl) ?_
  intro p e_0 s m args below meth c A hAt hIn hsz hXs ls hl
  obtain ⟨hx, hb, hr, hlk, hml, hown, hts, hin⟩ := hAt
  obtain ⟨hK, hP, hD, hA, hS, hof⟩ := hIn
  have hown : s.vm.findClass RX2 = some m.cls := hown
  have hl : lv_has ls 6 [(0, .ref e), (1, .ref wk)] := hl
  refine lv_aload_n hx hb dX2_setKey_0 rfl (lv_at hl 0 rfl) ?_
  refine lv_aload_n hx hb dX2_setKey_1 rfl (lv_at hl 1 rfl) ?_
  refine hb_put2 (wn := [(e, .inr (1, [.null, vx, vy, .ref wk, vf])), (wk, .inl (cB, n, .inl w))]) hx hb hts hown hK hP hD hS 0 rfl 3 (by decide) q169 rfl (v := .ref wk) rfl rfl (Nat.le_of_ble_eq_true rfl) rfl dX2_setKey_2 (fun H locs hP hD hS => ?_)
  refine lv_aload_n hx hb dX2_setKey_5 rfl (lv_at hl 0 rfl) ?_
  refine lv_iconst (v := nI 0) hx hb dX2_setKey_6 (by decide) ?_
  refine hb_put2 (wn := [(e, .inr (1, [.null, .int (nI 0), vy, .ref wk, vf])), (wk, .inl (cB, n, .inl w))]) hx hb hts hown hK hP hD hS 0 rfl 1 (by decide) q167 rfl (v := .int (nI 0)) rfl rfl (Nat.le_of_ble_eq_true rfl) rfl dX2_setKey_7 (fun H locs hP hD hS => ?_)
  refine lv_aload_n hx hb dX2_setKey_10 rfl (lv_at hl 0 rfl) ?_
  refine lv_iconst (v := nI 0) hx hb dX2_setKey_11 (by decide) ?_
  refine hb_put2 (wn := [(e, .inr (1, [.null, .int (nI 0), .int (nI 0), .ref wk, vf])), (wk, .inl (cB, n, .inl w))]) hx hb hts hown hK hP hD hS 0 rfl 2 (by decide) q168 rfl (v := .int (nI 0)) rfl rfl (Nat.le_of_ble_eq_true rfl) rfl dX2_setKey_12 (fun H locs hP hD hS => ?_)
  refine lv_aload_n hx hb dX2_setKey_15 rfl (lv_at hl 0 rfl) ?_
  refine hb_get2 hx hb hts hown hK hP 0 rfl 0 (by decide) q166 (v := .null) rfl dX2_setKey_16 ?_
  refine lv_ifnonnullN hx hb dX2_setKey_19 ?_
  refine lv_aload_n hx hb dX2_setKey_22 rfl (lv_at hl 0 rfl) ?_
  refine lv_sipush (v := nI 256) hx hb dX2_setKey_23 (by decide) ?_
  refine hb_newB (k := 1) (k' := 256) (N := 256) hx hb hts hK hP hD hS hA (by decide) ⟨Nat.le_of_ble_eq_true rfl, Nat.le_of_ble_eq_true rfl⟩ ⟨Nat.le_of_ble_eq_true rfl, Nat.le_of_ble_eq_true rfl⟩ dX2_setKey_26 (fun st H hP hD hS => ?_)
  have hP : va_P D vwCl [(e, .inr (1, [.null, .int (nI 0), .int (nI 0), .ref wk, vf])), (wk, .inl (cB, n, .inl w)), (st, .inl (cB, 256, .inl (fun _ => 0)))] H := hP
  have hD : va_D A [(e, .inr (1, [.null, .int (nI 0), .int (nI 0), .ref wk, vf])), (wk, .inl (cB, n, .inl w)), (st, .inl (cB, 256, .inl (fun _ => 0)))] := hD
  refine hb_put2 (wn := [(e, .inr (1, [.ref st, .int (nI 0), .int (nI 0), .ref wk, vf])), (wk, .inl (cB, n, .inl w)), (st, .inl (cB, 256, .inl (fun _ => 0)))]) hx hb hts hown hK hP hD hS 0 rfl 0 (by decide) q166 rfl (v := .ref st) rfl rfl (Nat.le_of_ble_eq_true rfl) rfl dX2_setKey_28 (fun H locs hP hD hS => ?_)
  refine sk_tail hx hb hts hown hK e st wk n hn vf w (fun _ => 0) (fun H locs ls hP hD hS hl => ?_) _ _ _ hP hD hS hl
  exact hb_retv hx hb hr hlk hK hP hD hS ⟨st, rfl⟩ ⟨Nat.le_of_ble_eq_true rfl, Nat.le_of_ble_eq_true rfl⟩ dX2_setKey_134
set_option maxHeartbeats 4000000 in
set_option maxRecDepth 100000 in
/-- setKey in a used engine: the table is filled anew -/
theorem metX2_setKeyE (l : Launch) (D : va_G) (cB : ClassId) (sz : Nat) (e st wk n : Nat) (vx vy vw vf : Value) (w o : Nat → Int32) (hn : 0 < n ∧ n ≤ 32) : hb_Mv l yX2_setKey (ws_ yX2_setKey cX2_setKey 6 none) { frames := 0, cells := 0, slots := 0, locals := 0 } D cB sz [.ref e, .ref wk] [(e, .inr (1, [.ref st, vx, vy, vw, vf])), (wk, .inl (cB, n, .inl w)), (st, .inl (cB, 256, .inl o))] hb_T (fun w_ => w_ = [(e, .inr (1, [.ref st, .int (nI (k0 n w).1), .int (nI (k0 n w).2.1), .ref wk, vf])), (wk, .inl (cB, n, .inl w)), (st, .inl (cB, 256, .inl ((k0 n w).2.2)))]) := by
  refine hb_startG (Qc := hb_Qv D cB _) (by decide) (Nat.le_of_ble_eq_true rfl) ?_
  intro p e_0 s m args below meth c A hAt hIn hsz hXs ls hl
  obtain ⟨hx, hb, hr, hlk, hml, hown, hts, hin⟩ := hAt
  obtain ⟨hK, hP, hD, hA, hS, hof⟩ := hIn
  have hown : s.vm.findClass RX2 = some m.cls := hown
  have hl : lv_has ls 6 [(0, .ref e), (1, .ref wk)] := hl
  refine lv_aload_n hx hb dX2_setKey_0 rfl (lv_at hl 0 rfl) ?_
  refine lv_aload_n hx hb dX2_setKey_1 rfl (lv_at hl 1 rfl) ?_
  refine hb_put2 (wn := [(e, .inr (1, [.ref st, vx, vy, .ref wk, vf])), (wk, .inl (cB, n, .inl w)), (st, .inl (cB, 256, .inl o))]) hx hb hts hown hK hP hD hS 0 rfl 3 (by decide) q169 rfl (v := .ref wk) rfl rfl (Nat.le_of_ble_eq_true rfl) rfl dX2_setKey_2 (fun H locs hP hD hS => ?_)
  refine lv_aload_n hx hb dX2_setKey_5 rfl (lv_at hl 0 rfl) ?_
  refine lv_iconst (v := nI 0) hx hb dX2_setKey_6 (by decide) ?_
  refine hb_put2 (wn := [(e, .inr (1, [.ref st, .int (nI 0), vy, .ref wk, vf])), (wk, .inl (cB, n, .inl w)), (st, .inl (cB, 256, .inl o))]) hx hb hts hown hK hP hD hS 0 rfl 1 (by decide) q167 rfl (v := .int (nI 0)) rfl rfl (Nat.le_of_ble_eq_true rfl) rfl dX2_setKey_7 (fun H locs hP hD hS => ?_)
  refine lv_aload_n hx hb dX2_setKey_10 rfl (lv_at hl 0 rfl) ?_
  refine lv_iconst (v := nI 0) hx hb dX2_setKey_11 (by decide) ?_
  refine hb_put2 (wn := [(e, .inr (1, [.ref st, .int (nI 0), .int (nI 0), .ref wk, vf])), (wk, .inl (cB, n, .inl w)), (st, .inl (cB, 256, .inl o))]) hx hb hts hown hK hP hD hS 0 rfl 2 (by decide) q168 rfl (v := .int (nI 0)) rfl rfl (Nat.le_of_ble_eq_true rfl) rfl dX2_setKey_12 (fun H locs hP hD hS => ?_)
  refine lv_aload_n hx hb dX2_setKey_15 rfl (lv_at hl 0 rfl) ?_
  refine hb_get2 hx hb hts hown hK hP 0 rfl 0 (by decide) q166 (v := .ref st) rfl dX2_setKey_16 ?_
  refine lv_ifnonnull (tgt := 31) hx hb dX2_setKey_19 (by decide) ?_
  refine sk_tail hx hb hts hown hK e st wk n hn vf w o (fun H locs ls hP hD hS hl => ?_) _ _ _ hP hD hS hl
  exact hb_retv hx hb hr hlk hK hP hD hS rfl ⟨Nat.le_of_ble_eq_true rfl, Nat.le_of_ble_eq_true rfl⟩ dX2_setKey_134
set_option maxHeartbeats 4000000 in
set_option maxRecDepth 100000 in
/-- init(true, p): the key schedule of p's key -/
theorem metX2_init_2 (l : Launch) (D : va_G) (cB : ClassId) (sz : Nat) (e p0 wk n : Nat) (w : Nat → Int32) (hn : 0 < n ∧ n ≤ 32) : hb_Mv l yX2_init_2 (ws_ yX2_init_2 cX2_init_2 3 none) { frames := 1, cells := 1, slots := 256, locals := 30 } D cB sz [.ref e, .int 1, .ref p0] [(e, .inr (1, [.null, .int 0, .int 0, .null, .int 0])), (p0, .inr (2, [.ref wk])), (wk, .inl (cB, n, .inl w))] hb_T (fun w_ => ∃ st : Nat, w_ = [(p0, .inr (2, [.ref wk])), (e, .inr (1, [.ref st, .int (nI (k0 n w).1), .int (nI (k0 n w).2.1), .ref wk, .int 1])), (wk, .inl (cB, n, .inl w)), (st, .inl (cB, 256, .inl ((k0 n w).2.2)))]) := by
  refine hb_startG (Qc := hb_Qv D cB _) (by decide) (Nat.le_of_ble_eq_true rfl) ?_
  intro p e_0 s m args below meth c A hAt hIn hsz hXs ls hl
  obtain ⟨hx, hb, hr, hlk, hml, hown, hts, hin⟩ := hAt
  obtain ⟨hK, hP, hD, hA, hS, hof⟩ := hIn
  have hown : s.vm.findClass RX2 = some m.cls := hown
  have hl : lv_has ls 3 [(0, .ref e), (1, .int 1), (2, .ref p0)] := hl
  refine lv_aload_n hx hb dX2_init_2_0 rfl (lv_at hl 2 rfl) ?_
  refine va_instS hx hb hown (hts _ q253) (nm := "KeyParameter") ((hK.1 2 _ rfl).2) (va_recv hK hP (ci := 2) (q0 := 1) rfl rfl) dX2_init_2_1 ?_
  refine lv_if_eq (tgt := 32) hx hb dX2_init_2_4 (by decide) (fun c_4 => absurd c_4 (by decide)) (fun c_4 => ?_)
  refine lv_aload_n hx hb dX2_init_2_7 rfl (lv_at hl 0 rfl) ?_
  refine lv_aload_n hx hb dX2_init_2_8 rfl (lv_at hl 2 rfl) ?_
  refine va_castS hx hb hown (hts _ q253) (nm := "KeyParameter") ((hK.1 2 _ rfl).2) (va_recv hK hP (ci := 2) (q0 := 1) rfl rfl) dX2_init_2_9 ?_
  refine hb_Vr (As := []) (rest := [.ref e]) (wc := [(p0, .inr (2, [.ref wk]))]) (wr := [(e, .inr (1, [.null, .int 0, .int 0, .null, .int 0])), (wk, .inl (cB, n, .inl w))]) (k := 0) (k' := 0) ⟨hx, hb, hml, hown, hts⟩ (metX3_getKey l D cB _ p0 wk) (cwV 0 hts (lw_V q254 q255 q256 q7 q257) rfl rfl rfl (by decide +kernel) ⟨Nat.le_of_ble_eq_true rfl, Nat.le_of_ble_eq_true rfl⟩) ⟨hK, hP, hD, hS, hA⟩ [1] [0, 2] ⟨rfl, rfl, rfl, rfl, by decide⟩ (va_recv hK hP (ci := 2) (q0 := 1) rfl rfl) hb_bl (fun _ _ _ => trivial) rfl hl.1 rfl (Nat.le_of_ble_eq_true rfl) dX2_init_2_12 ⟨Nat.le_of_ble_eq_true rfl, Nat.le_of_ble_eq_true rfl⟩ ⟨Nat.le_of_ble_eq_true rfl, Nat.le_of_ble_eq_true rfl⟩ (fun r_1 w_1 H locs hw hP hD hS => ?_)
  obtain ⟨hr_, rfl⟩ := hw
  obtain rfl := hr_.symm
  have hP : va_P D vwCl [(e, .inr (1, [.null, .int 0, .int 0, .null, .int 0])), (wk, .inl (cB, n, .inl w)), (p0, .inr (2, [.ref wk]))] H := hP
  have hD : va_D A [(e, .inr (1, [.null, .int 0, .int 0, .null, .int 0])), (wk, .inl (cB, n, .inl w)), (p0, .inr (2, [.ref wk]))] := hD
  refine hb_put2 (wn := [(e, .inr (1, [.null, .int 0, .int 0, .ref wk, .int 0])), (wk, .inl (cB, n, .inl w)), (p0, .inr (2, [.ref wk]))]) hx hb hts hown hK hP hD hS 0 rfl 3 (by decide) q169 rfl (v := .ref wk) rfl rfl (Nat.le_of_ble_eq_true rfl) rfl dX2_init_2_15 (fun H locs hP hD hS => ?_)
  refine lv_aload_n hx hb dX2_init_2_18 rfl (lv_at hl 0 rfl) ?_
  refine lv_iload_n hx hb dX2_init_2_19 rfl (lv_at hl 1 rfl) ?_
  refine hb_put2 (wn := [(e, .inr (1, [.null, .int 0, .int 0, .ref wk, .int 1])), (wk, .inl (cB, n, .inl w)), (p0, .inr (2, [.ref wk]))]) hx hb hts hown hK hP hD hS 0 rfl 4 (by decide) q170 rfl (v := .int 1) rfl rfl (Nat.le_of_ble_eq_true rfl) rfl dX2_init_2_20 (fun H locs hP hD hS => ?_)
  refine lv_aload_n hx hb dX2_init_2_23 rfl (lv_at hl 0 rfl) ?_
  refine lv_aload_n hx hb dX2_init_2_24 rfl (lv_at hl 0 rfl) ?_
  refine hb_get2 hx hb hts hown hK hP 0 rfl 3 (by decide) q169 (v := .ref wk) rfl dX2_init_2_25 ?_
  refine hb_Vv (As := [.ref wk]) (rest := []) (wc := [(e, .inr (1, [.null, .int 0, .int 0, .ref wk, .int 1])), (wk, .inl (cB, n, .inl w))]) (wr := [(p0, .inr (2, [.ref wk]))]) (k := 1) (k' := 256) ⟨hx, hb, hml, hown, hts⟩ (metX2_setKeyN l D cB _ e wk n (.int 0) (.int 0) (.ref wk) (.int 1) w hn) (cwV 1 hts (lw_V q141 q143 qs3 q6 q145) rfl rfl rfl (by decide +kernel) ⟨Nat.le_of_ble_eq_true rfl, Nat.le_of_ble_eq_true rfl⟩) ⟨hK, hP, hD, hS, hA⟩ [0, 1] [2] ⟨rfl, rfl, rfl, rfl, by decide⟩ (va_recv hK hP (ci := 1) (q0 := 0) rfl rfl) hb_bl (fun _ _ _ => trivial) rfl hl.1 rfl (Nat.le_of_ble_eq_true rfl) dX2_init_2_28 ⟨Nat.le_of_ble_eq_true rfl, Nat.le_of_ble_eq_true rfl⟩ ⟨Nat.le_of_ble_eq_true rfl, Nat.le_of_ble_eq_true rfl⟩ (fun w_1 H locs hw hP hD hS => ?_)
  obtain ⟨st, rfl⟩ := hw
  have hP : va_P D vwCl [(p0, .inr (2, [.ref wk])), (e, .inr (1, [.ref st, .int (nI (k0 n w).1), .int (nI (k0 n w).2.1), .ref wk, .int 1])), (wk, .inl (cB, n, .inl w)), (st, .inl (cB, 256, .inl ((k0 n w).2.2)))] H := hP
  have hD : va_D A [(p0, .inr (2, [.ref wk])), (e, .inr (1, [.ref st, .int (nI (k0 n w).1), .int (nI (k0 n w).2.1), .ref wk, .int 1])), (wk, .inl (cB, n, .inl w)), (st, .inl (cB, 256, .inl ((k0 n w).2.2)))] := hD
  exact hb_retv hx hb hr hlk hK hP hD hS ⟨st, rfl⟩ ⟨Nat.le_of_ble_eq_true rfl, Nat.le_of_ble_eq_true rfl⟩ dX2_init_2_31
set_option maxHeartbeats 4000000 in
set_option maxRecDepth 100000 in
/-- reset(): the key schedule again -/
theorem metX2_reset (l : Launch) (D : va_G) (cB : ClassId) (sz : Nat) (e st wk n : Nat) (vx vy vf : Value) (w o : Nat → Int32) (hn : 0 < n ∧ n ≤ 32) : hb_Mv l yX2_reset (ws_ yX2_reset cX2_reset 1 none) { frames := 1, cells := 0, slots := 0, locals := 30 } D cB sz [.ref e] [(e, .inr (1, [.ref st, vx, vy, .ref wk, vf])), (wk, .inl (cB, n, .inl w)), (st, .inl (cB, 256, .inl o))] hb_T (fun w_ => w_ = [(e, .inr (1, [.ref st, .int (nI (k0 n w).1), .int (nI (k0 n w).2.1), .ref wk, vf])), (wk, .inl (cB, n, .inl w)), (st, .inl (cB, 256, .inl ((k0 n w).2.2)))]) := by
  refine hb_startG (Qc := hb_Qv D cB _) (by decide) (Nat.le_of_ble_eq_true rfl) ?_
  intro p e_0 s m args below meth c A hAt hIn hsz hXs ls hl
  obtain ⟨hx, hb, hr, hlk, hml, hown, hts, hin⟩ := hAt
  obtain ⟨hK, hP, hD, hA, hS, hof⟩ := hIn
  have hown : s.vm.findClass RX2 = some m.cls := hown
  have hl : lv_has ls 1 [(0, .ref e)] := hl
  refine lv_aload_n hx hb dX2_reset_0 rfl (lv_at hl 0 rfl) ?_
  refine lv_aload_n hx hb dX2_reset_1 rfl (lv_at hl 0 rfl) ?_
  refine hb_get2 hx hb hts hown hK hP 0 rfl 3 (by decide) q169 (v := .ref wk) rfl dX2_reset_2 ?_
  refine hb_Vv (As := [.ref wk]) (rest := []) (wc := [(e, .inr (1, [.ref st, vx, vy, .ref wk, vf])), (wk, .inl (cB, n, .inl w)), (st, .inl (cB, 256, .inl o))]) (wr := []) (k := 0) (k' := 0) ⟨hx, hb, hml, hown, hts⟩ (metX2_setKeyE l D cB _ e st wk n vx vy (.ref wk) vf w o hn) (cwV 1 hts (lw_V q141 q143 qs3 q6 q145) rfl rfl rfl (by decide +kernel) ⟨Nat.le_of_ble_eq_true rfl, Nat.le_of_ble_eq_true rfl⟩) ⟨hK, hP, hD, hS, hA⟩ [0, 1, 2] [] ⟨rfl, rfl, rfl, rfl, by decide⟩ (va_recv hK hP (ci := 1) (q0 := 0) rfl rfl) hb_bl (fun _ _ _ => trivial) rfl hl.1 rfl (Nat.le_of_ble_eq_true rfl) dX2_reset_5 ⟨Nat.le_of_ble_eq_true rfl, Nat.le_of_ble_eq_true rfl⟩ ⟨Nat.le_of_ble_eq_true rfl, Nat.le_of_ble_eq_true rfl⟩ (fun w_1 H locs hw hP hD hS => ?_)
  obtain rfl := hw
  have hP : va_P D vwCl [(e, .inr (1, [.ref st, .int (nI (k0 n w).1), .int (nI (k0 n w).2.1), .ref wk, vf])), (wk, .inl (cB, n, .inl w)), (st, .inl (cB, 256, .inl ((k0 n w).2.2)))] H := hP
  have hD : va_D A [(e, .inr (1, [.ref st, .int (nI (k0 n w).1), .int (nI (k0 n w).2.1), .ref wk, vf])), (wk, .inl (cB, n, .inl w)), (st, .inl (cB, 256, .inl ((k0 n w).2.2)))] := hD
  exact hb_retv hx hb hr hlk hK hP hD hS rfl ⟨Nat.le_of_ble_eq_true rfl, Nat.le_of_ble_eq_true rfl⟩ dX2_reset_8
set_option maxHeartbeats 4000000 in
set_option maxRecDepth 100000 in
/-- returnByte(b): one step -/
theorem metX2_returnByte (l : Launch) (D : va_G) (cB : ClassId) (sz : Nat) (e st : Nat) (vw vf : Value) (σ : rS) (b : Int32) : hb_Mi l yX2_returnByte (ws_ yX2_returnByte cX2_returnByte 3 (some .byte)) { frames := 0, cells := 0, slots := 0, locals := 0 } D cB sz [.ref e, .int b] [(e, .inr (1, [.ref st, .int (nI (σ).1), .int (nI (σ).2.1), vw, vf])), (st, .inl (cB, 256, .inl ((σ).2.2)))] hb_T (fun r w => r = b8 (b ^^^ rK σ) ∧ w = [(e, .inr (1, [.ref st, .int (nI ((rN σ)).1), .int (nI ((rN σ)).2.1), vw, vf])), (st, .inl (cB, 256, .inl (((rN σ)).2.2)))]) := by
  refine hb_startG (Qc := hb_Qi D cB _) (by decide) (Nat.le_of_ble_eq_true rfl) ?_
  intro p e_0 s m args below meth c A hAt hIn hsz hXs ls hl
  obtain ⟨hx, hb, hr, hlk, hml, hown, hts, hin⟩ := hAt
  obtain ⟨hK, hP, hD, hA, hS, hof⟩ := hIn
  have hown : s.vm.findClass RX2 = some m.cls := hown
  have hl : lv_has ls 3 [(0, .ref e), (1, .int b)] := hl
  refine lv_aload_n hx hb dX2_returnByte_0 rfl (lv_at hl 0 rfl) ?_
  refine lv_aload_n hx hb dX2_returnByte_1 rfl (lv_at hl 0 rfl) ?_
  refine hb_get2 hx hb hts hown hK hP 0 rfl 1 (by decide) q167 (v := .int (nI (σ).1)) rfl dX2_returnByte_2 ?_
  refine lv_iconst (v := 1) hx hb dX2_returnByte_5 (by decide) ?_
  refine lv_iadd hx hb dX2_returnByte_6 ?_
  refine lv_sipush (v := 255) hx hb dX2_returnByte_7 (by decide) ?_
  refine lv_iand hx hb dX2_returnByte_10 ?_
  refine hb_top (nI (rX σ)) (a8_and _) ?_
  refine hb_put2 (wn := [(e, .inr (1, [.ref st, .int (nI (rX σ)), .int (nI (σ).2.1), vw, vf])), (st, .inl (cB, 256, .inl ((σ).2.2)))]) hx hb hts hown hK hP hD hS 0 rfl 1 (by decide) q167 rfl (v := .int (nI (rX σ))) rfl rfl (Nat.le_of_ble_eq_true rfl) rfl dX2_returnByte_11 (fun H locs hP hD hS => ?_)
  refine lv_aload_n hx hb dX2_returnByte_14 rfl (lv_at hl 0 rfl) ?_
  refine lv_aload_n hx hb dX2_returnByte_15 rfl (lv_at hl 0 rfl) ?_
  refine hb_get2 hx hb hts hown hK hP 0 rfl 0 (by decide) q166 (v := .ref st) rfl dX2_returnByte_16 ?_
  refine lv_aload_n hx hb dX2_returnByte_19 rfl (lv_at hl 0 rfl) ?_
  refine hb_get2 hx hb hts hown hK hP 0 rfl 1 (by decide) q167 (v := .int (nI (rX σ))) rfl dX2_returnByte_20 ?_
  refine hb_bald (j := rX σ) hx hb hK hP 1 rfl (rX_lt _) (by decide) (((σ).2.2) (rX σ)) rfl dX2_returnByte_23 ?_
  refine lv_aload_n hx hb dX2_returnByte_24 rfl (lv_at hl 0 rfl) ?_
  refine hb_get2 hx hb hts hown hK hP 0 rfl 2 (by decide) q168 (v := .int (nI (σ).2.1)) rfl dX2_returnByte_25 ?_
  refine lv_iadd hx hb dX2_returnByte_28 ?_
  refine lv_sipush (v := 255) hx hb dX2_returnByte_29 (by decide) ?_
  refine lv_iand hx hb dX2_returnByte_32 ?_
  refine hb_top (nI (rY σ)) (a8_and _) ?_
  refine hb_put2 (wn := [(e, .inr (1, [.ref st, .int (nI (rX σ)), .int (nI (rY σ)), vw, vf])), (st, .inl (cB, 256, .inl ((σ).2.2)))]) hx hb hts hown hK hP hD hS 0 rfl 2 (by decide) q168 rfl (v := .int (nI (rY σ))) rfl rfl (Nat.le_of_ble_eq_true rfl) rfl dX2_returnByte_33 (fun H locs hP hD hS => ?_)
  refine lv_aload_n hx hb dX2_returnByte_36 rfl (lv_at hl 0 rfl) ?_
  refine hb_get2 hx hb hts hown hK hP 0 rfl 0 (by decide) q166 (v := .ref st) rfl dX2_returnByte_37 ?_
  refine lv_aload_n hx hb dX2_returnByte_40 rfl (lv_at hl 0 rfl) ?_
  refine hb_get2 hx hb hts hown hK hP 0 rfl 1 (by decide) q167 (v := .int (nI (rX σ))) rfl dX2_returnByte_41 ?_
  refine hb_bald (j := rX σ) hx hb hK hP 1 rfl (rX_lt _) (by decide) (((σ).2.2) (rX σ)) rfl dX2_returnByte_44 ?_
  refine lv_istore_n (lv' := [(2, .int (((σ).2.2) (rX σ))), (0, .ref e), (1, .int b)]) hx hb dX2_returnByte_45 rfl hl (by decide) rfl (fun ls hl => ?_)
  refine lv_aload_n hx hb dX2_returnByte_46 rfl (lv_at hl 1 rfl) ?_
  refine hb_get2 hx hb hts hown hK hP 0 rfl 0 (by decide) q166 (v := .ref st) rfl dX2_returnByte_47 ?_
  refine lv_aload_n hx hb dX2_returnByte_50 rfl (lv_at hl 1 rfl) ?_
  refine hb_get2 hx hb hts hown hK hP 0 rfl 1 (by decide) q167 (v := .int (nI (rX σ))) rfl dX2_returnByte_51 ?_
  refine lv_aload_n hx hb dX2_returnByte_54 rfl (lv_at hl 1 rfl) ?_
  refine hb_get2 hx hb hts hown hK hP 0 rfl 0 (by decide) q166 (v := .ref st) rfl dX2_returnByte_55 ?_
  refine lv_aload_n hx hb dX2_returnByte_58 rfl (lv_at hl 1 rfl) ?_
  refine hb_get2 hx hb hts hown hK hP 0 rfl 2 (by decide) q168 (v := .int (nI (rY σ))) rfl dX2_returnByte_59 ?_
  refine hb_bald (j := rY σ) hx hb hK hP 1 rfl (rY_lt _) (by decide) (((σ).2.2) (rY σ)) rfl dX2_returnByte_62 ?_
  refine hb_bast (wn := [(e, .inr (1, [.ref st, .int (nI (rX σ)), .int (nI (rY σ)), vw, vf])), (st, .inl (cB, 256, .inl (upd ((σ).2.2) (rX σ) (b8 (((σ).2.2) (rY σ))))))]) (j := rX σ) hx hb hK hP hD hS 1 rfl (rX_lt _) (by decide) (upd ((σ).2.2) (rX σ) (b8 (((σ).2.2) (rY σ)))) rfl rfl dX2_returnByte_63 (fun H locs hP hD hS => ?_)
  refine lv_aload_n hx hb dX2_returnByte_64 rfl (lv_at hl 1 rfl) ?_
  refine hb_get2 hx hb hts hown hK hP 0 rfl 0 (by decide) q166 (v := .ref st) rfl dX2_returnByte_65 ?_
  refine lv_aload_n hx hb dX2_returnByte_68 rfl (lv_at hl 1 rfl) ?_
  refine hb_get2 hx hb hts hown hK hP 0 rfl 2 (by decide) q168 (v := .int (nI (rY σ))) rfl dX2_returnByte_69 ?_
  refine lv_iload_n hx hb dX2_returnByte_72 rfl (lv_at hl 0 rfl) ?_
  refine hb_bast (wn := [(e, .inr (1, [.ref st, .int (nI (rX σ)), .int (nI (rY σ)), vw, vf])), (st, .inl (cB, 256, .inl (rF σ)))]) (j := rY σ) hx hb hK hP hD hS 1 rfl (rY_lt _) (by decide) (rF σ) rfl rfl dX2_returnByte_73 (fun H locs hP hD hS => ?_)
  refine lv_iload_n hx hb dX2_returnByte_74 rfl (lv_at hl 2 rfl) ?_
  refine lv_aload_n hx hb dX2_returnByte_75 rfl (lv_at hl 1 rfl) ?_
  refine hb_get2 hx hb hts hown hK hP 0 rfl 0 (by decide) q166 (v := .ref st) rfl dX2_returnByte_76 ?_
  refine lv_aload_n hx hb dX2_returnByte_79 rfl (lv_at hl 1 rfl) ?_
  refine hb_get2 hx hb hts hown hK hP 0 rfl 0 (by decide) q166 (v := .ref st) rfl dX2_returnByte_80 ?_
  refine lv_aload_n hx hb dX2_returnByte_83 rfl (lv_at hl 1 rfl) ?_
  refine hb_get2 hx hb hts hown hK hP 0 rfl 1 (by decide) q167 (v := .int (nI (rX σ))) rfl dX2_returnByte_84 ?_
  refine hb_bald (j := rX σ) hx hb hK hP 1 rfl (rX_lt _) (by decide) ((rF σ) (rX σ)) rfl dX2_returnByte_87 ?_
  refine lv_aload_n hx hb dX2_returnByte_88 rfl (lv_at hl 1 rfl) ?_
  refine hb_get2 hx hb hts hown hK hP 0 rfl 0 (by decide) q166 (v := .ref st) rfl dX2_returnByte_89 ?_
  refine lv_aload_n hx hb dX2_returnByte_92 rfl (lv_at hl 1 rfl) ?_
  refine hb_get2 hx hb hts hown hK hP 0 rfl 2 (by decide) q168 (v := .int (nI (rY σ))) rfl dX2_returnByte_93 ?_
  refine hb_bald (j := rY σ) hx hb hK hP 1 rfl (rY_lt _) (by decide) ((rF σ) (rY σ)) rfl dX2_returnByte_96 ?_
  refine lv_iadd hx hb dX2_returnByte_97 ?_
  refine lv_sipush (v := 255) hx hb dX2_returnByte_98 (by decide) ?_
  refine lv_iand hx hb dX2_returnByte_101 ?_
  refine hb_top (nI (a8 (rF σ (rX σ) + rF σ (rY σ)))) (a8_and _) ?_
  refine hb_bald (j := a8 (rF σ (rX σ) + rF σ (rY σ))) hx hb hK hP 1 rfl (a8_lt _) (by decide) (rK σ) rfl dX2_returnByte_102 ?_
  refine lv_ixor hx hb dX2_returnByte_103 ?_
  refine lv_i2b (v := b8 (b ^^^ (rK σ))) hx hb dX2_returnByte_104 rfl ?_
  exact hb_reti (v := b8 (b ^^^ (rK σ))) hx hb hr hlk (congrArg Value.int (b8_b8 _)) hK hP hD hS ⟨rfl, rfl⟩ ⟨Nat.le_of_ble_eq_true rfl, Nat.le_of_ble_eq_true rfl⟩ dX2_returnByte_105
set_option maxHeartbeats 4000000 in
set_option maxRecDepth 100000 in
theorem pb_loop {p : Program} {l : Launch} {e_0 : Env} {R : Room} {s : State} {m : MethodId} {args : Array Value} {below : List Frame} {meth : Method} {c : Code} {Q : State → Prop} {D : va_G} {cB : ClassId} {A : Nat → Prop} {H0 : Heap} {cells slots : Nat} (hx : p.tables.exec = Jvm.exec) (hb : c.code = cX2_processBytes) (hts : ∀ w ∈ lw_all, w.before args s = true) (hown : s.vm.findClass RX2 = some m.cls) (hK : va_K D vwCl [(cB, .byte)] s) (e st inn ou : Nat) (vw vf : Value) (σ : rS) (a len n : Nat) (t o : Nat → Int32) (han : a + len ≤ n) (hn : n ≤ 65536) (kk : ∀ (H : Heap) (locs : List Loc) (ls : Array Slot), va_P D vwCl [(e, .inr (1, [.ref st, .int (nI ((rI len σ)).1), .int (nI ((rI len σ)).2.1), vw, vf])), (st, .inl (cB, 256, .inl (((rI len σ)).2.2))), (inn, .inl (cB, n, .inl t)), (ou, .inl (cB, len, .inl (fI (oB t a σ) o len)))] H → va_D A [(e, .inr (1, [.ref st, .int (nI ((rI len σ)).1), .int (nI ((rI len σ)).2.1), vw, vf])), (st, .inl (cB, 256, .inl (((rI len σ)).2.2))), (inn, .inl (cB, n, .inl t)), (ou, .inl (cB, len, .inl (fI (oB t a σ) o len)))] → va_S A H0 H locs → lv_has ls 8 [(0, .ref e), (1, .ref inn), (2, .int (nI a)), (3, .int (nI len)), (4, .ref ou), (5, .int (nI 0)), (6, .int (nI len))] → W p l e_0 R s m args below meth c H locs cells slots Q (F0 m 173 ls [])) :
    ∀ (k i : Nat), i + k = len → ∀ (H : Heap) (locs : List Loc) (ls : Array Slot), va_P D vwCl [(e, .inr (1, [.ref st, .int (nI ((rI i σ)).1), .int (nI ((rI i σ)).2.1), vw, vf])), (st, .inl (cB, 256, .inl (((rI i σ)).2.2))), (inn, .inl (cB, n, .inl t)), (ou, .inl (cB, len, .inl (fI (oB t a σ) o i)))] H → va_D A [(e, .inr (1, [.ref st, .int (nI ((rI i σ)).1), .int (nI ((rI i σ)).2.1), vw, vf])), (st, .inl (cB, 256, .inl (((rI i σ)).2.2))), (inn, .inl (cB, n, .inl t)), (ou, .inl (cB, len, .inl (fI (oB t a σ) o i)))] → va_S A H0 H locs → lv_has ls 8 [(0, .ref e), (1, .ref inn), (2, .int (nI a)), (3, .int (nI len)), (4, .ref ou), (5, .int (nI 0)), (6, .int (nI i))] → W p l e_0 R s m args below meth c H locs cells slots Q (F0 m 41 ls []) := by
  intro k
  induction k with
  | zero =>
    intro i hi H locs ls hP hD hS hl
    obtain rfl : i = len := by omega
    refine lv_iload hx hb dX2_processBytes_41 (lv_at hl 6 rfl) ?_
    refine lv_iload_n hx hb dX2_processBytes_43 rfl (lv_at hl 3 rfl) ?_
    refine lv_icmp_ge (tgt := 173) hx hb dX2_processBytes_44 (by decide) (fun c_44 => ?_) (fun c_44 => absurd (nI_le (Nat.le_refl i) (by omega)) c_44)
    exact kk H locs ls hP hD hS hl
  | succ k ih =>
    intro i hi H locs ls hP hD hS hl
    have hi1 : i < len := by omega
    refine lv_iload hx hb dX2_processBytes_41 (lv_at hl 6 rfl) ?_
    refine lv_iload_n hx hb dX2_processBytes_43 rfl (lv_at hl 3 rfl) ?_
    refine lv_icmp_ge (tgt := 173) hx hb dX2_processBytes_44 (by decide) (fun c_44 => absurd c_44 (nI_ge hi1 (by omega))) (fun c_44 => ?_)
    refine lv_aload_n hx hb dX2_processBytes_47 rfl (lv_at hl 0 rfl) ?_
    refine lv_aload_n hx hb dX2_processBytes_48 rfl (lv_at hl 0 rfl) ?_
    refine hb_get2 hx hb hts hown hK hP 0 rfl 1 (by decide) q167 (v := .int (nI ((rI i σ)).1)) rfl dX2_processBytes_49 ?_
    refine lv_iconst (v := 1) hx hb dX2_processBytes_52 (by decide) ?_
    refine lv_iadd hx hb dX2_processBytes_53 ?_
    refine lv_sipush (v := 255) hx hb dX2_processBytes_54 (by decide) ?_
    refine lv_iand hx hb dX2_processBytes_57 ?_
    refine hb_top (nI (rX (rI i σ))) (a8_and _) ?_
    refine hb_put2 (wn := [(e, .inr (1, [.ref st, .int (nI (rX (rI i σ))), .int (nI ((rI i σ)).2.1), vw, vf])), (st, .inl (cB, 256, .inl (((rI i σ)).2.2))), (inn, .inl (cB, n, .inl t)), (ou, .inl (cB, len, .inl (fI (oB t a σ) o i)))]) hx hb hts hown hK hP hD hS 0 rfl 1 (by decide) q167 rfl (v := .int (nI (rX (rI i σ)))) rfl rfl (Nat.le_of_ble_eq_true rfl) rfl dX2_processBytes_58 (fun H locs hP hD hS => ?_)
    refine lv_aload_n hx hb dX2_processBytes_61 rfl (lv_at hl 0 rfl) ?_
    refine lv_aload_n hx hb dX2_processBytes_62 rfl (lv_at hl 0 rfl) ?_
    refine hb_get2 hx hb hts hown hK hP 0 rfl 0 (by decide) q166 (v := .ref st) rfl dX2_processBytes_63 ?_
    refine lv_aload_n hx hb dX2_processBytes_66 rfl (lv_at hl 0 rfl) ?_
    refine hb_get2 hx hb hts hown hK hP 0 rfl 1 (by decide) q167 (v := .int (nI (rX (rI i σ)))) rfl dX2_processBytes_67 ?_
    refine hb_bald (j := rX (rI i σ)) hx hb hK hP 1 rfl (rX_lt _) (by decide) ((((rI i σ)).2.2) (rX (rI i σ))) rfl dX2_processBytes_70 ?_
    refine lv_aload_n hx hb dX2_processBytes_71 rfl (lv_at hl 0 rfl) ?_
    refine hb_get2 hx hb hts hown hK hP 0 rfl 2 (by decide) q168 (v := .int (nI ((rI i σ)).2.1)) rfl dX2_processBytes_72 ?_
    refine lv_iadd hx hb dX2_processBytes_75 ?_
    refine lv_sipush (v := 255) hx hb dX2_processBytes_76 (by decide) ?_
    refine lv_iand hx hb dX2_processBytes_79 ?_
    refine hb_top (nI (rY (rI i σ))) (a8_and _) ?_
    refine hb_put2 (wn := [(e, .inr (1, [.ref st, .int (nI (rX (rI i σ))), .int (nI (rY (rI i σ))), vw, vf])), (st, .inl (cB, 256, .inl (((rI i σ)).2.2))), (inn, .inl (cB, n, .inl t)), (ou, .inl (cB, len, .inl (fI (oB t a σ) o i)))]) hx hb hts hown hK hP hD hS 0 rfl 2 (by decide) q168 rfl (v := .int (nI (rY (rI i σ)))) rfl rfl (Nat.le_of_ble_eq_true rfl) rfl dX2_processBytes_80 (fun H locs hP hD hS => ?_)
    refine lv_aload_n hx hb dX2_processBytes_83 rfl (lv_at hl 0 rfl) ?_
    refine hb_get2 hx hb hts hown hK hP 0 rfl 0 (by decide) q166 (v := .ref st) rfl dX2_processBytes_84 ?_
    refine lv_aload_n hx hb dX2_processBytes_87 rfl (lv_at hl 0 rfl) ?_
    refine hb_get2 hx hb hts hown hK hP 0 rfl 1 (by decide) q167 (v := .int (nI (rX (rI i σ)))) rfl dX2_processBytes_88 ?_
    refine hb_bald (j := rX (rI i σ)) hx hb hK hP 1 rfl (rX_lt _) (by decide) ((((rI i σ)).2.2) (rX (rI i σ))) rfl dX2_processBytes_91 ?_
    refine lv_istore (lv' := [(7, .int ((((rI i σ)).2.2) (rX (rI i σ)))), (0, .ref e), (1, .ref inn), (2, .int (nI a)), (3, .int (nI len)), (4, .ref ou), (5, .int (nI 0)), (6, .int (nI i))]) hx hb dX2_processBytes_92 hl (by decide) rfl (fun ls hl => ?_)
    refine lv_aload_n hx hb dX2_processBytes_94 rfl (lv_at hl 1 rfl) ?_
    refine hb_get2 hx hb hts hown hK hP 0 rfl 0 (by decide) q166 (v := .ref st) rfl dX2_processBytes_95 ?_
    refine lv_aload_n hx hb dX2_processBytes_98 rfl (lv_at hl 1 rfl) ?_
    refine hb_get2 hx hb hts hown hK hP 0 rfl 1 (by decide) q167 (v := .int (nI (rX (rI i σ)))) rfl dX2_processBytes_99 ?_
    refine lv_aload_n hx hb dX2_processBytes_102 rfl (lv_at hl 1 rfl) ?_
    refine hb_get2 hx hb hts hown hK hP 0 rfl 0 (by decide) q166 (v := .ref st) rfl dX2_processBytes_103 ?_
    refine lv_aload_n hx hb dX2_processBytes_106 rfl (lv_at hl 1 rfl) ?_
    refine hb_get2 hx hb hts hown hK hP 0 rfl 2 (by decide) q168 (v := .int (nI (rY (rI i σ)))) rfl dX2_processBytes_107 ?_
    refine hb_bald (j := rY (rI i σ)) hx hb hK hP 1 rfl (rY_lt _) (by decide) ((((rI i σ)).2.2) (rY (rI i σ))) rfl dX2_processBytes_110 ?_
    refine hb_bast (wn := [(e, .inr (1, [.ref st, .int (nI (rX (rI i σ))), .int (nI (rY (rI i σ))), vw, vf])), (st, .inl (cB, 256, .inl (upd (((rI i σ)).2.2) (rX (rI i σ)) (b8 ((((rI i σ)).2.2) (rY (rI i σ))))))), (inn, .inl (cB, n, .inl t)), (ou, .inl (cB, len, .inl (fI (oB t a σ) o i)))]) (j := rX (rI i σ)) hx hb hK hP hD hS 1 rfl (rX_lt _) (by decide) (upd (((rI i σ)).2.2) (rX (rI i σ)) (b8 ((((rI i σ)).2.2) (rY (rI i σ))))) rfl rfl dX2_processBytes_111 (fun H locs hP hD hS => ?_)
    refine lv_aload_n hx hb dX2_processBytes_112 rfl (lv_at hl 1 rfl) ?_
    refine hb_get2 hx hb hts hown hK hP 0 rfl 0 (by decide) q166 (v := .ref st) rfl dX2_processBytes_113 ?_
    refine lv_aload_n hx hb dX2_processBytes_116 rfl (lv_at hl 1 rfl) ?_
    refine hb_get2 hx hb hts hown hK hP 0 rfl 2 (by decide) q168 (v := .int (nI (rY (rI i σ)))) rfl dX2_processBytes_117 ?_
    refine lv_iload hx hb dX2_processBytes_120 (lv_at hl 0 rfl) ?_
    refine hb_bast (wn := [(e, .inr (1, [.ref st, .int (nI (rX (rI i σ))), .int (nI (rY (rI i σ))), vw, vf])), (st, .inl (cB, 256, .inl (rF (rI i σ)))), (inn, .inl (cB, n, .inl t)), (ou, .inl (cB, len, .inl (fI (oB t a σ) o i)))]) (j := rY (rI i σ)) hx hb hK hP hD hS 1 rfl (rY_lt _) (by decide) (rF (rI i σ)) rfl rfl dX2_processBytes_122 (fun H locs hP hD hS => ?_)
    refine lv_aload hx hb dX2_processBytes_123 (lv_at hl 5 rfl) ?_
    refine lv_iload hx hb dX2_processBytes_125 (lv_at hl 7 rfl) ?_
    refine lv_iload hx hb dX2_processBytes_127 (lv_at hl 6 rfl) ?_
    refine lv_iadd hx hb dX2_processBytes_129 ?_
    refine hb_top (nI i) (nI_add i 0) ?_
    refine lv_aload_n hx hb dX2_processBytes_130 rfl (lv_at hl 2 rfl) ?_
    refine lv_iload hx hb dX2_processBytes_131 (lv_at hl 7 rfl) ?_
    refine lv_iload_n hx hb dX2_processBytes_133 rfl (lv_at hl 3 rfl) ?_
    refine lv_iadd hx hb dX2_processBytes_134 ?_
    refine hb_top (nI (i + a)) (nI_add i a) ?_
    refine hb_bald (j := i + a) hx hb hK hP 2 rfl (by omega) (by omega) (t (i + a)) rfl dX2_processBytes_135 ?_
    refine lv_aload_n hx hb dX2_processBytes_136 rfl (lv_at hl 1 rfl) ?_
    refine hb_get2 hx hb hts hown hK hP 0 rfl 0 (by decide) q166 (v := .ref st) rfl dX2_processBytes_137 ?_
    refine lv_aload_n hx hb dX2_processBytes_140 rfl (lv_at hl 1 rfl) ?_
    refine hb_get2 hx hb hts hown hK hP 0 rfl 0 (by decide) q166 (v := .ref st) rfl dX2_processBytes_141 ?_
    refine lv_aload_n hx hb dX2_processBytes_144 rfl (lv_at hl 1 rfl) ?_
    refine hb_get2 hx hb hts hown hK hP 0 rfl 1 (by decide) q167 (v := .int (nI (rX (rI i σ)))) rfl dX2_processBytes_145 ?_
    refine hb_bald (j := rX (rI i σ)) hx hb hK hP 1 rfl (rX_lt _) (by decide) ((rF (rI i σ)) (rX (rI i σ))) rfl dX2_processBytes_148 ?_
    refine lv_aload_n hx hb dX2_processBytes_149 rfl (lv_at hl 1 rfl) ?_
    refine hb_get2 hx hb hts hown hK hP 0 rfl 0 (by decide) q166 (v := .ref st) rfl dX2_processBytes_150 ?_
    refine lv_aload_n hx hb dX2_processBytes_153 rfl (lv_at hl 1 rfl) ?_
    refine hb_get2 hx hb hts hown hK hP 0 rfl 2 (by decide) q168 (v := .int (nI (rY (rI i σ)))) rfl dX2_processBytes_154 ?_
    refine hb_bald (j := rY (rI i σ)) hx hb hK hP 1 rfl (rY_lt _) (by decide) ((rF (rI i σ)) (rY (rI i σ))) rfl dX2_processBytes_157 ?_
    refine lv_iadd hx hb dX2_processBytes_158 ?_
    refine lv_sipush (v := 255) hx hb dX2_processBytes_159 (by decide) ?_
    refine lv_iand hx hb dX2_processBytes_162 ?_
    refine hb_top (nI (a8 (rF (rI i σ) (rX (rI i σ)) + rF (rI i σ) (rY (rI i σ))))) (a8_and _) ?_
    refine hb_bald (j := a8 (rF (rI i σ) (rX (rI i σ)) + rF (rI i σ) (rY (rI i σ)))) hx hb hK hP 1 rfl (a8_lt _) (by decide) (rK (rI i σ)) rfl dX2_processBytes_163 ?_
    refine lv_ixor hx hb dX2_processBytes_164 ?_
    refine lv_i2b (v := b8 ((t (i + a)) ^^^ (rK (rI i σ)))) hx hb dX2_processBytes_165 rfl ?_
    refine hb_bast (wn := [(e, .inr (1, [.ref st, .int (nI (rX (rI i σ))), .int (nI (rY (rI i σ))), vw, vf])), (st, .inl (cB, 256, .inl (rF (rI i σ)))), (inn, .inl (cB, n, .inl t)), (ou, .inl (cB, len, .inl (fI (oB t a σ) o (i + 1))))]) (j := i) hx hb hK hP hD hS 3 rfl hi1 (by omega) (fI (oB t a σ) o (i + 1)) (fI_s _ _ _ _ (b8_b8 _)) rfl dX2_processBytes_166 (fun H locs hP hD hS => ?_)
    refine lv_iinc (v := nI (i + 1)) (lv' := [(6, .int (nI (i + 1))), (7, .int ((((rI i σ)).2.2) (rX (rI i σ)))), (0, .ref e), (1, .ref inn), (2, .int (nI a)), (3, .int (nI len)), (4, .ref ou), (5, .int (nI 0))]) hx hb dX2_processBytes_167 hl (k := 7) rfl (nI_1 i) (by decide) rfl (fun ls hl => ?_)
    refine lv_goto (tgt := 41) hx hb dX2_processBytes_170 (by decide) ?_
    exact ih (i + 1) (by omega) H locs ls hP hD hS (lv_sub hl [2, 3, 4, 5, 6, 7, 0] rfl)
set_option maxHeartbeats 4000000 in
set_option maxRecDepth 100000 in
/-- processBytes(in, a, len, out, 0): len steps -/
theorem metX2_processBytes (l : Launch) (D : va_G) (cB : ClassId) (sz : Nat) (e st inn ou : Nat) (vw vf : Value) (σ : rS) (a len n : Nat) (t o : Nat → Int32) (han : a + len ≤ n) (hn : n ≤ 65536) : hb_Mi l yX2_processBytes (ws_ yX2_processBytes cX2_processBytes 8 (some .int)) { frames := 0, cells := 0, slots := 0, locals := 0 } D cB sz [.ref e, .ref inn, .int (nI a), .int (nI len), .ref ou, .int (nI 0)] [(e, .inr (1, [.ref st, .int (nI (σ).1), .int (nI (σ).2.1), vw, vf])), (st, .inl (cB, 256, .inl ((σ).2.2))), (inn, .inl (cB, n, .inl t)), (ou, .inl (cB, len, .inl o))] hb_T (fun r w => r = nI len ∧ w = [(e, .inr (1, [.ref st, .int (nI ((rI len σ)).1), .int (nI ((rI len σ)).2.1), vw, vf])), (st, .inl (cB, 256, .inl (((rI len σ)).2.2))), (inn, .inl (cB, n, .inl t)), (ou, .inl (cB, len, .inl (oB t a σ)))]) := by
  refine hb_startG (Qc := hb_Qi D cB _) (by decide) (Nat.le_of_ble_eq_true rfl) ?_
  intro p e_0 s m args below meth c A hAt hIn hsz hXs ls hl
  obtain ⟨hx, hb, hr, hlk, hml, hown, hts, hin⟩ := hAt
  obtain ⟨hK, hP, hD, hA, hS, hof⟩ := hIn
  have hown : s.vm.findClass RX2 = some m.cls := hown
  have hl : lv_has ls 8 [(0, .ref e), (1, .ref inn), (2, .int (nI a)), (3, .int (nI len)), (4, .ref ou), (5, .int (nI 0))] := hl
  refine lv_iload_n hx hb dX2_processBytes_0 rfl (lv_at hl 2 rfl) ?_
  refine lv_iload_n hx hb dX2_processBytes_1 rfl (lv_at hl 3 rfl) ?_
  refine lv_iadd hx hb dX2_processBytes_2 ?_
  refine hb_top (nI (a + len)) (nI_add a len) ?_
  refine lv_aload_n hx hb dX2_processBytes_3 rfl (lv_at hl 1 rfl) ?_
  refine hb_alen hx hb hK hP 2 rfl dX2_processBytes_4 ?_
  refine lv_icmp_le (tgt := 18) hx hb dX2_processBytes_5 (by decide) (fun c_5 => ?_) (fun c_5 => absurd (nI_le han (by omega)) c_5)
  refine lv_iload hx hb dX2_processBytes_18 (lv_at hl 5 rfl) ?_
  refine lv_iload_n hx hb dX2_processBytes_20 rfl (lv_at hl 3 rfl) ?_
  refine lv_iadd hx hb dX2_processBytes_21 ?_
  refine hb_top (nI (0 + len)) (nI_add 0 len) ?_
  refine lv_aload hx hb dX2_processBytes_22 (lv_at hl 4 rfl) ?_
  refine hb_alen hx hb hK hP 3 rfl dX2_processBytes_24 ?_
  refine lv_icmp_le (tgt := 38) hx hb dX2_processBytes_25 (by decide) (fun c_25 => ?_) (fun c_25 => absurd (nI_le (by omega) (by omega)) c_25)
  refine lv_iconst (v := nI 0) hx hb dX2_processBytes_38 (by decide) ?_
  refine lv_istore (lv' := [(6, .int (nI 0)), (0, .ref e), (1, .ref inn), (2, .int (nI a)), (3, .int (nI len)), (4, .ref ou), (5, .int (nI 0))]) hx hb dX2_processBytes_39 hl (by decide) rfl (fun ls hl => ?_)
  refine pb_loop hx hb hts hown hK e st inn ou vw vf σ a len n t o han hn (fun H locs ls hP hD hS hl => ?_) len 0 (by omega) _ _ _ (by rw [fI_0]; exact hP) (by rw [fI_0]; exact hD) hS (lv_sub hl [1, 2, 3, 4, 5, 6, 0] rfl)
  obtain ⟨hP, hD⟩ := hb_ext (wn := [(e, .inr (1, [.ref st, .int (nI ((rI len σ)).1), .int (nI ((rI len σ)).2.1), vw, vf])), (st, .inl (cB, 256, .inl (((rI len σ)).2.2))), (inn, .inl (cB, n, .inl t)), (ou, .inl (cB, len, .inl (oB t a σ)))]) hP hD 3 (oB t a σ) rfl (fun j hj => fI_lt _ _ hj) rfl
  refine lv_iload_n hx hb dX2_processBytes_173 rfl (lv_at hl 3 rfl) ?_
  exact hb_reti (v := nI len) hx hb hr hlk rfl hK hP hD hS ⟨rfl, rfl⟩ ⟨Nat.le_of_ble_eq_true rfl, Nat.le_of_ble_eq_true rfl⟩ dX2_processBytes_174
end
section
/-! RcFourDesk: contracts -/
set_option maxRecDepth 100000
set_option maxHeartbeats 4000000 in
set_option maxRecDepth 100000 in
/-- word(to, a, w): four bytes -/
theorem metX1_word (l : Launch) (D : va_G) (cB : ClassId) (sz : Nat) (q n a : Nat) (f : Nat → Int32) (w : Int32) (ha : a + 3 < n) (hn : n ≤ 65536) : hb_Mv l yX1_word (ws_ yX1_word cX1_word 3 none) { frames := 0, cells := 0, slots := 0, locals := 0 } D cB sz [.ref q, .int (nI a), .int w] [(q, .inl (cB, n, .inl f))] hb_T (fun w_ => w_ = [(q, .inl (cB, n, .inl (wU f a w)))]) := by
  refine hb_startG (Qc := hb_Qv D cB _) (by decide) (Nat.le_of_ble_eq_true rfl) ?_
  intro p e_0 s m args below meth c A hAt hIn hsz hXs ls hl
  obtain ⟨hx, hb, hr, hlk, hml, hown, hts, hin⟩ := hAt
  obtain ⟨hK, hP, hD, hA, hS, hof⟩ := hIn
  have hown : s.vm.findClass RX1 = some m.cls := hown
  have hl : lv_has ls 3 [(0, .ref q), (1, .int (nI a)), (2, .int w)] := hl
  refine lv_aload_n hx hb dX1_word_0 rfl (lv_at hl 0 rfl) ?_
  refine lv_iload_n hx hb dX1_word_1 rfl (lv_at hl 1 rfl) ?_
  refine lv_iload_n hx hb dX1_word_2 rfl (lv_at hl 2 rfl) ?_
  refine lv_bipush (v := 24) hx hb dX1_word_3 (by decide) ?_
  refine lv_ishr hx hb dX1_word_5 ?_
  refine lv_i2b (v := b8 (w >>> (24 &&& 31))) hx hb dX1_word_6 rfl ?_
  refine hb_bast (wn := [(q, .inl (cB, n, .inl (upd f a (w0 w))))]) (j := a) hx hb hK hP hD hS 0 rfl (by omega) (by omega) (upd f a (w0 w)) (congrArg (upd f a) (b8_b8 _)) rfl dX1_word_7 (fun H locs hP hD hS => ?_)
  refine lv_aload_n hx hb dX1_word_8 rfl (lv_at hl 0 rfl) ?_
  refine lv_iload_n hx hb dX1_word_9 rfl (lv_at hl 1 rfl) ?_
  refine lv_iconst (v := 1) hx hb dX1_word_10 (by decide) ?_
  refine lv_iadd hx hb dX1_word_11 ?_
  refine hb_top (nI (a + 1)) (nI_1 a) ?_
  refine lv_iload_n hx hb dX1_word_12 rfl (lv_at hl 2 rfl) ?_
  refine lv_bipush (v := 16) hx hb dX1_word_13 (by decide) ?_
  refine lv_ishr hx hb dX1_word_15 ?_
  refine lv_i2b (v := b8 (w >>> (16 &&& 31))) hx hb dX1_word_16 rfl ?_
  refine hb_bast (wn := [(q, .inl (cB, n, .inl (upd (upd f a (w0 w)) (a + 1) (w1 w))))]) (j := a + 1) hx hb hK hP hD hS 0 rfl (by omega) (by omega) (upd (upd f a (w0 w)) (a + 1) (w1 w)) (congrArg (upd (upd f a (w0 w)) (a + 1)) (b8_b8 _)) rfl dX1_word_17 (fun H locs hP hD hS => ?_)
  refine lv_aload_n hx hb dX1_word_18 rfl (lv_at hl 0 rfl) ?_
  refine lv_iload_n hx hb dX1_word_19 rfl (lv_at hl 1 rfl) ?_
  refine lv_iconst (v := nI 2) hx hb dX1_word_20 (by decide) ?_
  refine lv_iadd hx hb dX1_word_21 ?_
  refine hb_top (nI (a + 2)) (nI_add a 2) ?_
  refine lv_iload_n hx hb dX1_word_22 rfl (lv_at hl 2 rfl) ?_
  refine lv_bipush (v := 8) hx hb dX1_word_23 (by decide) ?_
  refine lv_ishr hx hb dX1_word_25 ?_
  refine lv_i2b (v := b8 (w >>> (8 &&& 31))) hx hb dX1_word_26 rfl ?_
  refine hb_bast (wn := [(q, .inl (cB, n, .inl (upd (upd (upd f a (w0 w)) (a + 1) (w1 w)) (a + 2) (w2 w))))]) (j := a + 2) hx hb hK hP hD hS 0 rfl (by omega) (by omega) (upd (upd (upd f a (w0 w)) (a + 1) (w1 w)) (a + 2) (w2 w)) (congrArg (upd (upd (upd f a (w0 w)) (a + 1) (w1 w)) (a + 2)) (b8_b8 _)) rfl dX1_word_27 (fun H locs hP hD hS => ?_)
  refine lv_aload_n hx hb dX1_word_28 rfl (lv_at hl 0 rfl) ?_
  refine lv_iload_n hx hb dX1_word_29 rfl (lv_at hl 1 rfl) ?_
  refine lv_iconst (v := nI 3) hx hb dX1_word_30 (by decide) ?_
  refine lv_iadd hx hb dX1_word_31 ?_
  refine hb_top (nI (a + 3)) (nI_add a 3) ?_
  refine lv_iload_n hx hb dX1_word_32 rfl (lv_at hl 2 rfl) ?_
  refine lv_i2b (v := b8 w) hx hb dX1_word_33 rfl ?_
  refine hb_bast (wn := [(q, .inl (cB, n, .inl (wU f a w)))]) (j := a + 3) hx hb hK hP hD hS 0 rfl (by omega) (by omega) (wU f a w) (congrArg (upd (upd (upd (upd f a (w0 w)) (a + 1) (w1 w)) (a + 2) (w2 w)) (a + 3)) (b8_b8 _)) rfl dX1_word_34 (fun H locs hP hD hS => ?_)
  exact hb_retv hx hb hr hlk hK hP hD hS rfl ⟨Nat.le_of_ble_eq_true rfl, Nat.le_of_ble_eq_true rfl⟩ dX1_word_35
set_option maxHeartbeats 4000000 in
set_option maxRecDepth 100000 in
/-- put(x, y, z, t): sixteen bytes more -/
theorem metX1_put (l : Launch) (D : va_G) (cB : ClassId) (sz : Nat) (h tx n : Nat) (v0 v1 v2 v3 v4 v7 : Value) (f : Nat → Int32) (x y z t : Int32) (hn : n ≤ 240) : hb_Mi l yX1_put (ws_ yX1_put cX1_put 5 (some .boolean)) { frames := 1, cells := 0, slots := 0, locals := 30 } D cB sz [.ref h, .int x, .int y, .int z, .int t] [(h, .inr (0, [v0, v1, v2, v3, v4, .ref tx, .int (nI n), v7])), (tx, .inl (cB, 256, .inl f))] hb_T (fun r w => r = 1 ∧ w = [(h, .inr (0, [v0, v1, v2, v3, v4, .ref tx, .int (nI (n + 16)), v7])), (tx, .inl (cB, 256, .inl (wP f n x y z t)))]) := by
  refine hb_startG (Qc := hb_Qi D cB _) (by decide) (Nat.le_of_ble_eq_true rfl) ?_
  intro p e_0 s m args below meth c A hAt hIn hsz hXs ls hl
  obtain ⟨hx, hb, hr, hlk, hml, hown, hts, hin⟩ := hAt
  obtain ⟨hK, hP, hD, hA, hS, hof⟩ := hIn
  have hown : s.vm.findClass RX1 = some m.cls := hown
  have hl : lv_has ls 5 [(0, .ref h), (1, .int x), (2, .int y), (3, .int z), (4, .int t)] := hl
  refine lv_aload_n hx hb dX1_put_0 rfl (lv_at hl 0 rfl) ?_
  refine hb_get1 hx hb hts hown hK hP 0 rfl 6 (by decide) q188 (v := .int (nI n)) rfl dX1_put_1 ?_
  refine lv_aload_n hx hb dX1_put_4 rfl (lv_at hl 0 rfl) ?_
  refine hb_get1 hx hb hts hown hK hP 0 rfl 5 (by decide) q187 (v := .ref tx) rfl dX1_put_5 ?_
  refine hb_alen hx hb hK hP 1 rfl dX1_put_8 ?_
  refine lv_bipush (v := nI 16) hx hb dX1_put_9 (by decide) ?_
  refine lv_isub hx hb dX1_put_11 ?_
  refine hb_top (nI 240) (pk_sub (by decide)) ?_
  refine lv_icmp_le (tgt := 17) hx hb dX1_put_12 (by decide) (fun c_12 => ?_) (fun c_12 => absurd (nI_le hn (by decide)) c_12)
  refine lv_aload_n hx hb dX1_put_17 rfl (lv_at hl 0 rfl) ?_
  refine hb_get1 hx hb hts hown hK hP 0 rfl 5 (by decide) q187 (v := .ref tx) rfl dX1_put_18 ?_
  refine lv_aload_n hx hb dX1_put_21 rfl (lv_at hl 0 rfl) ?_
  refine hb_get1 hx hb hts hown hK hP 0 rfl 6 (by decide) q188 (v := .int (nI n)) rfl dX1_put_22 ?_
  refine lv_iload_n hx hb dX1_put_25 rfl (lv_at hl 1 rfl) ?_
  refine hb_Sv (As := [.ref tx, .int (nI n), .int x]) (rest := []) (wc := [(tx, .inl (cB, 256, .inl f))]) (wr := [(h, .inr (0, [v0, v1, v2, v3, v4, .ref tx, .int (nI n), v7]))]) (k := 0) (k' := 0) ⟨hx, hb, hml, hown, hts⟩ (metX1_word l D cB _ tx 256 n f x (by omega) (by decide)) (va_cwS 3 hts (lw_S q211 q212 q5 q213) rfl rfl rfl (by decide +kernel) ⟨Nat.le_of_ble_eq_true rfl, Nat.le_of_ble_eq_true rfl⟩) ⟨hK, hP, hD, hS, hA⟩ [1] [0] ⟨rfl, rfl, rfl, rfl, by decide⟩ hb_bl (fun _ _ _ => trivial) rfl hl.1 rfl (Nat.le_of_ble_eq_true rfl) dX1_put_26 ⟨Nat.le_of_ble_eq_true rfl, Nat.le_of_ble_eq_true rfl⟩ ⟨Nat.le_of_ble_eq_true rfl, Nat.le_of_ble_eq_true rfl⟩ (fun w_1 H locs hw hP hD hS => ?_)
  obtain rfl := hw
  have hP : va_P D vwCl [(h, .inr (0, [v0, v1, v2, v3, v4, .ref tx, .int (nI n), v7])), (tx, .inl (cB, 256, .inl (wU f n x)))] H := hP
  have hD : va_D A [(h, .inr (0, [v0, v1, v2, v3, v4, .ref tx, .int (nI n), v7])), (tx, .inl (cB, 256, .inl (wU f n x)))] := hD
  refine lv_aload_n hx hb dX1_put_29 rfl (lv_at hl 0 rfl) ?_
  refine hb_get1 hx hb hts hown hK hP 0 rfl 5 (by decide) q187 (v := .ref tx) rfl dX1_put_30 ?_
  refine lv_aload_n hx hb dX1_put_33 rfl (lv_at hl 0 rfl) ?_
  refine hb_get1 hx hb hts hown hK hP 0 rfl 6 (by decide) q188 (v := .int (nI n)) rfl dX1_put_34 ?_
  refine lv_iconst (v := nI 4) hx hb dX1_put_37 (by decide) ?_
  refine lv_iadd hx hb dX1_put_38 ?_
  refine hb_top (nI (n + 4)) (nI_add n 4) ?_
  refine lv_iload_n hx hb dX1_put_39 rfl (lv_at hl 2 rfl) ?_
  refine hb_Sv (As := [.ref tx, .int (nI (n + 4)), .int y]) (rest := []) (wc := [(tx, .inl (cB, 256, .inl (wU f n x)))]) (wr := [(h, .inr (0, [v0, v1, v2, v3, v4, .ref tx, .int (nI n), v7]))]) (k := 0) (k' := 0) ⟨hx, hb, hml, hown, hts⟩ (metX1_word l D cB _ tx 256 (n + 4) (wU f n x) y (by omega) (by decide)) (va_cwS 3 hts (lw_S q211 q212 q5 q213) rfl rfl rfl (by decide +kernel) ⟨Nat.le_of_ble_eq_true rfl, Nat.le_of_ble_eq_true rfl⟩) ⟨hK, hP, hD, hS, hA⟩ [1] [0] ⟨rfl, rfl, rfl, rfl, by decide⟩ hb_bl (fun _ _ _ => trivial) rfl hl.1 rfl (Nat.le_of_ble_eq_true rfl) dX1_put_40 ⟨Nat.le_of_ble_eq_true rfl, Nat.le_of_ble_eq_true rfl⟩ ⟨Nat.le_of_ble_eq_true rfl, Nat.le_of_ble_eq_true rfl⟩ (fun w_1 H locs hw hP hD hS => ?_)
  obtain rfl := hw
  have hP : va_P D vwCl [(h, .inr (0, [v0, v1, v2, v3, v4, .ref tx, .int (nI n), v7])), (tx, .inl (cB, 256, .inl (wU (wU f n x) (n + 4) y)))] H := hP
  have hD : va_D A [(h, .inr (0, [v0, v1, v2, v3, v4, .ref tx, .int (nI n), v7])), (tx, .inl (cB, 256, .inl (wU (wU f n x) (n + 4) y)))] := hD
  refine lv_aload_n hx hb dX1_put_43 rfl (lv_at hl 0 rfl) ?_
  refine hb_get1 hx hb hts hown hK hP 0 rfl 5 (by decide) q187 (v := .ref tx) rfl dX1_put_44 ?_
  refine lv_aload_n hx hb dX1_put_47 rfl (lv_at hl 0 rfl) ?_
  refine hb_get1 hx hb hts hown hK hP 0 rfl 6 (by decide) q188 (v := .int (nI n)) rfl dX1_put_48 ?_
  refine lv_bipush (v := nI 8) hx hb dX1_put_51 (by decide) ?_
  refine lv_iadd hx hb dX1_put_53 ?_
  refine hb_top (nI (n + 8)) (nI_add n 8) ?_
  refine lv_iload_n hx hb dX1_put_54 rfl (lv_at hl 3 rfl) ?_
  refine hb_Sv (As := [.ref tx, .int (nI (n + 8)), .int z]) (rest := []) (wc := [(tx, .inl (cB, 256, .inl (wU (wU f n x) (n + 4) y)))]) (wr := [(h, .inr (0, [v0, v1, v2, v3, v4, .ref tx, .int (nI n), v7]))]) (k := 0) (k' := 0) ⟨hx, hb, hml, hown, hts⟩ (metX1_word l D cB _ tx 256 (n + 8) (wU (wU f n x) (n + 4) y) z (by omega) (by decide)) (va_cwS 3 hts (lw_S q211 q212 q5 q213) rfl rfl rfl (by decide +kernel) ⟨Nat.le_of_ble_eq_true rfl, Nat.le_of_ble_eq_true rfl⟩) ⟨hK, hP, hD, hS, hA⟩ [1] [0] ⟨rfl, rfl, rfl, rfl, by decide⟩ hb_bl (fun _ _ _ => trivial) rfl hl.1 rfl (Nat.le_of_ble_eq_true rfl) dX1_put_55 ⟨Nat.le_of_ble_eq_true rfl, Nat.le_of_ble_eq_true rfl⟩ ⟨Nat.le_of_ble_eq_true rfl, Nat.le_of_ble_eq_true rfl⟩ (fun w_1 H locs hw hP hD hS => ?_)
  obtain rfl := hw
  have hP : va_P D vwCl [(h, .inr (0, [v0, v1, v2, v3, v4, .ref tx, .int (nI n), v7])), (tx, .inl (cB, 256, .inl (wU (wU (wU f n x) (n + 4) y) (n + 8) z)))] H := hP
  have hD : va_D A [(h, .inr (0, [v0, v1, v2, v3, v4, .ref tx, .int (nI n), v7])), (tx, .inl (cB, 256, .inl (wU (wU (wU f n x) (n + 4) y) (n + 8) z)))] := hD
  refine lv_aload_n hx hb dX1_put_58 rfl (lv_at hl 0 rfl) ?_
  refine hb_get1 hx hb hts hown hK hP 0 rfl 5 (by decide) q187 (v := .ref tx) rfl dX1_put_59 ?_
  refine lv_aload_n hx hb dX1_put_62 rfl (lv_at hl 0 rfl) ?_
  refine hb_get1 hx hb hts hown hK hP 0 rfl 6 (by decide) q188 (v := .int (nI n)) rfl dX1_put_63 ?_
  refine lv_bipush (v := nI 12) hx hb dX1_put_66 (by decide) ?_
  refine lv_iadd hx hb dX1_put_68 ?_
  refine hb_top (nI (n + 12)) (nI_add n 12) ?_
  refine lv_iload hx hb dX1_put_69 (lv_at hl 4 rfl) ?_
  refine hb_Sv (As := [.ref tx, .int (nI (n + 12)), .int t]) (rest := []) (wc := [(tx, .inl (cB, 256, .inl (wU (wU (wU f n x) (n + 4) y) (n + 8) z)))]) (wr := [(h, .inr (0, [v0, v1, v2, v3, v4, .ref tx, .int (nI n), v7]))]) (k := 0) (k' := 0) ⟨hx, hb, hml, hown, hts⟩ (metX1_word l D cB _ tx 256 (n + 12) (wU (wU (wU f n x) (n + 4) y) (n + 8) z) t (by omega) (by decide)) (va_cwS 3 hts (lw_S q211 q212 q5 q213) rfl rfl rfl (by decide +kernel) ⟨Nat.le_of_ble_eq_true rfl, Nat.le_of_ble_eq_true rfl⟩) ⟨hK, hP, hD, hS, hA⟩ [1] [0] ⟨rfl, rfl, rfl, rfl, by decide⟩ hb_bl (fun _ _ _ => trivial) rfl hl.1 rfl (Nat.le_of_ble_eq_true rfl) dX1_put_71 ⟨Nat.le_of_ble_eq_true rfl, Nat.le_of_ble_eq_true rfl⟩ ⟨Nat.le_of_ble_eq_true rfl, Nat.le_of_ble_eq_true rfl⟩ (fun w_1 H locs hw hP hD hS => ?_)
  obtain rfl := hw
  have hP : va_P D vwCl [(h, .inr (0, [v0, v1, v2, v3, v4, .ref tx, .int (nI n), v7])), (tx, .inl (cB, 256, .inl (wU (wU (wU (wU f n x) (n + 4) y) (n + 8) z) (n + 12) t)))] H := hP
  have hD : va_D A [(h, .inr (0, [v0, v1, v2, v3, v4, .ref tx, .int (nI n), v7])), (tx, .inl (cB, 256, .inl (wU (wU (wU (wU f n x) (n + 4) y) (n + 8) z) (n + 12) t)))] := hD
  refine lv_aload_n hx hb dX1_put_74 rfl (lv_at hl 0 rfl) ?_
  refine lv_dup hx hb dX1_put_75 rfl ?_
  refine hb_get1 hx hb hts hown hK hP 0 rfl 6 (by decide) q188 (v := .int (nI n)) rfl dX1_put_76 ?_
  refine lv_bipush (v := nI 16) hx hb dX1_put_79 (by decide) ?_
  refine lv_iadd hx hb dX1_put_81 ?_
  refine hb_top (nI (n + 16)) (nI_add n 16) ?_
  refine hb_put1 (wn := [(h, .inr (0, [v0, v1, v2, v3, v4, .ref tx, .int (nI (n + 16)), v7])), (tx, .inl (cB, 256, .inl (wU (wU (wU (wU f n x) (n + 4) y) (n + 8) z) (n + 12) t)))]) hx hb hts hown hK hP hD hS 0 rfl 6 (by decide) q188 rfl (v := .int (nI (n + 16))) rfl rfl (Nat.le_of_ble_eq_true rfl) rfl dX1_put_82 (fun H locs hP hD hS => ?_)
  refine lv_iconst (v := 1) hx hb dX1_put_85 (by decide) ?_
  exact hb_reti (v := 1) hx hb hr hlk rfl hK hP hD hS ⟨rfl, rfl⟩ ⟨Nat.le_of_ble_eq_true rfl, Nat.le_of_ble_eq_true rfl⟩ dX1_put_86
set_option maxHeartbeats 4000000 in
set_option maxRecDepth 100000 in
/-- from(x) -/
theorem metX1_from (l : Launch) (D : va_G) (cB : ClassId) (sz : Nat) (h n : Nat) (v0 v1 v2 v3 v4 v5 v7 : Value) (x : Int32) (hn : n ≤ 65536) : hb_Mi l yX1_from (ws_ yX1_from cX1_from 2 (some .int)) { frames := 0, cells := 0, slots := 0, locals := 0 } D cB sz [.ref h, .int x] [(h, .inr (0, [v0, v1, v2, v3, v4, v5, .int (nI n), v7]))] hb_T (fun r w => r = nI (m31 x % (n + 1)) ∧ w = [(h, .inr (0, [v0, v1, v2, v3, v4, v5, .int (nI n), v7]))]) := by
  refine hb_startG (Qc := hb_Qi D cB _) (by decide) (Nat.le_of_ble_eq_true rfl) ?_
  intro p e_0 s m args below meth c A hAt hIn hsz hXs ls hl
  obtain ⟨hx, hb, hr, hlk, hml, hown, hts, hin⟩ := hAt
  obtain ⟨hK, hP, hD, hA, hS, hof⟩ := hIn
  have hown : s.vm.findClass RX1 = some m.cls := hown
  have hl : lv_has ls 2 [(0, .ref h), (1, .int x)] := hl
  refine lv_iload_n hx hb dX1_from_0 rfl (lv_at hl 1 rfl) ?_
  refine lv_ldc hx hb hown (hts _ q25) dX1_from_1 ?_
  refine lv_iand hx hb dX1_from_3 ?_
  refine hb_top (nI (m31 x)) (m31_and x) ?_
  refine lv_aload_n hx hb dX1_from_4 rfl (lv_at hl 0 rfl) ?_
  refine hb_get1 hx hb hts hown hK hP 0 rfl 6 (by decide) q188 (v := .int (nI n)) rfl dX1_from_5 ?_
  refine lv_iconst (v := 1) hx hb dX1_from_8 (by decide) ?_
  refine lv_iadd hx hb dX1_from_9 ?_
  refine hb_top (nI (n + 1)) (nI_1 n) ?_
  refine lv_irem hx hb dX1_from_10 (nI_ne0 (by omega) (by omega)) ?_
  refine hb_top (nI (m31 x % (n + 1))) (rem_nI x (by omega) (by omega)) ?_
  exact hb_reti (v := nI (m31 x % (n + 1))) hx hb hr hlk rfl hK hP hD hS ⟨rfl, rfl⟩ ⟨Nat.le_of_ble_eq_true rfl, Nat.le_of_ble_eq_true rfl⟩ dX1_from_11
set_option maxHeartbeats 4000000 in
set_option maxRecDepth 100000 in
/-- count(a, x) -/
theorem metX1_count (l : Launch) (D : va_G) (cB : ClassId) (sz : Nat) (h n a : Nat) (v0 v1 v2 v3 v4 v5 v7 : Value) (x : Int32) (ha : a ≤ n) (hn : n ≤ 65536) : hb_Mi l yX1_count (ws_ yX1_count cX1_count 3 (some .int)) { frames := 0, cells := 0, slots := 0, locals := 0 } D cB sz [.ref h, .int (nI a), .int x] [(h, .inr (0, [v0, v1, v2, v3, v4, v5, .int (nI n), v7]))] hb_T (fun r w => r = nI (m31 x % (n - a + 1)) ∧ w = [(h, .inr (0, [v0, v1, v2, v3, v4, v5, .int (nI n), v7]))]) := by
  refine hb_startG (Qc := hb_Qi D cB _) (by decide) (Nat.le_of_ble_eq_true rfl) ?_
  intro p e_0 s m args below meth c A hAt hIn hsz hXs ls hl
  obtain ⟨hx, hb, hr, hlk, hml, hown, hts, hin⟩ := hAt
  obtain ⟨hK, hP, hD, hA, hS, hof⟩ := hIn
  have hown : s.vm.findClass RX1 = some m.cls := hown
  have hl : lv_has ls 3 [(0, .ref h), (1, .int (nI a)), (2, .int x)] := hl
  refine lv_iload_n hx hb dX1_count_0 rfl (lv_at hl 2 rfl) ?_
  refine lv_ldc hx hb hown (hts _ q25) dX1_count_1 ?_
  refine lv_iand hx hb dX1_count_3 ?_
  refine hb_top (nI (m31 x)) (m31_and x) ?_
  refine lv_aload_n hx hb dX1_count_4 rfl (lv_at hl 0 rfl) ?_
  refine hb_get1 hx hb hts hown hK hP 0 rfl 6 (by decide) q188 (v := .int (nI n)) rfl dX1_count_5 ?_
  refine lv_iload_n hx hb dX1_count_8 rfl (lv_at hl 1 rfl) ?_
  refine lv_isub hx hb dX1_count_9 ?_
  refine hb_top (nI (n - a)) (pk_sub ha) ?_
  refine lv_iconst (v := 1) hx hb dX1_count_10 (by decide) ?_
  refine lv_iadd hx hb dX1_count_11 ?_
  refine hb_top (nI (n - a + 1)) (nI_1 _) ?_
  refine lv_irem hx hb dX1_count_12 (nI_ne0 (by omega) (by omega)) ?_
  refine hb_top (nI (m31 x % (n - a + 1))) (rem_nI x (by omega) (by omega)) ?_
  exact hb_reti (v := nI (m31 x % (n - a + 1))) hx hb hr hlk rfl hK hP hD hS ⟨rfl, rfl⟩ ⟨Nat.le_of_ble_eq_true rfl, Nat.le_of_ble_eq_true rfl⟩ dX1_count_13
set_option maxHeartbeats 4000000 in
set_option maxRecDepth 100000 in
/-- trim(x) -/
theorem metX1_trim (l : Launch) (D : va_G) (cB : ClassId) (sz : Nat) (h n : Nat) (v0 v1 v2 v3 v4 v5 v7 : Value) (x : Int32) (hn : n ≤ 65536) : hb_Mv l yX1_trim (ws_ yX1_trim cX1_trim 2 none) { frames := 1, cells := 0, slots := 0, locals := 30 } D cB sz [.ref h, .int x] [(h, .inr (0, [v0, v1, v2, v3, v4, v5, .int (nI n), v7]))] hb_T (fun w => w = [(h, .inr (0, [v0, v1, v2, v3, v4, v5, .int (nI (m31 x % (n + 1))), v7]))]) := by
  refine hb_startG (Qc := hb_Qv D cB _) (by decide) (Nat.le_of_ble_eq_true rfl) ?_
  intro p e_0 s m args below meth c A hAt hIn hsz hXs ls hl
  obtain ⟨hx, hb, hr, hlk, hml, hown, hts, hin⟩ := hAt
  obtain ⟨hK, hP, hD, hA, hS, hof⟩ := hIn
  have hown : s.vm.findClass RX1 = some m.cls := hown
  have hl : lv_has ls 2 [(0, .ref h), (1, .int x)] := hl
  refine lv_aload_n hx hb dX1_trim_0 rfl (lv_at hl 0 rfl) ?_
  refine lv_aload_n hx hb dX1_trim_1 rfl (lv_at hl 0 rfl) ?_
  refine lv_iload_n hx hb dX1_trim_2 rfl (lv_at hl 1 rfl) ?_
  refine hb_Vi (As := [.int x]) (rest := [.ref h]) (wc := [(h, .inr (0, [v0, v1, v2, v3, v4, v5, .int (nI n), v7]))]) (wr := []) (k := 0) (k' := 0) ⟨hx, hb, hml, hown, hts⟩ (metX1_from l D cB _ h n v0 v1 v2 v3 v4 v5 v7 x hn) (cwV 1 hts (lw_V q20 q22 qs0 q5 q24) rfl rfl rfl (by decide +kernel) ⟨Nat.le_of_ble_eq_true rfl, Nat.le_of_ble_eq_true rfl⟩) ⟨hK, hP, hD, hS, hA⟩ [0] [] ⟨rfl, rfl, rfl, rfl, by decide⟩ (va_recv hK hP (ci := 0) (q0 := 0) rfl rfl) hb_bl (fun _ _ _ => trivial) rfl hl.1 rfl (Nat.le_of_ble_eq_true rfl) dX1_trim_3 ⟨Nat.le_of_ble_eq_true rfl, Nat.le_of_ble_eq_true rfl⟩ ⟨Nat.le_of_ble_eq_true rfl, Nat.le_of_ble_eq_true rfl⟩ (fun r_3 w_1 H locs hw hP hD hS => ?_)
  obtain ⟨rfl, rfl⟩ := hw
  have hP : va_P D vwCl [(h, .inr (0, [v0, v1, v2, v3, v4, v5, .int (nI n), v7]))] H := hP
  have hD : va_D A [(h, .inr (0, [v0, v1, v2, v3, v4, v5, .int (nI n), v7]))] := hD
  refine hb_put1 (wn := [(h, .inr (0, [v0, v1, v2, v3, v4, v5, .int (nI (m31 x % (n + 1))), v7]))]) hx hb hts hown hK hP hD hS 0 rfl 6 (by decide) q188 rfl (v := .int (nI (m31 x % (n + 1)))) rfl rfl (Nat.le_of_ble_eq_true rfl) rfl dX1_trim_6 (fun H locs hP hD hS => ?_)
  exact hb_retv hx hb hr hlk hK hP hD hS rfl ⟨Nat.le_of_ble_eq_true rfl, Nat.le_of_ble_eq_true rfl⟩ dX1_trim_9
set_option maxHeartbeats 4000000 in
set_option maxRecDepth 100000 in
/-- key(b, x, y, z, t): sixteen bytes of the key -/
theorem metX1_key (l : Launch) (D : va_G) (cB : ClassId) (sz : Nat) (h ky b : Nat) (v0 v1 v2 v4 v5 v6 v7 : Value) (f : Nat → Int32) (x y z t : Int32) (hb2 : b < 2) : hb_Mv l yX1_key (ws_ yX1_key cX1_key 7 none) { frames := 1, cells := 0, slots := 0, locals := 30 } D cB sz [.ref h, .int (nI b), .int x, .int y, .int z, .int t] [(h, .inr (0, [v0, v1, v2, .ref ky, v4, v5, v6, v7])), (ky, .inl (cB, 32, .inl f))] hb_T (fun w => w = [(h, .inr (0, [v0, v1, v2, .ref ky, v4, v5, v6, v7])), (ky, .inl (cB, 32, .inl (wP f (16 * b) x y z t)))]) := by
  refine hb_startG (Qc := hb_Qv D cB _) (by decide) (Nat.le_of_ble_eq_true rfl) ?_
  intro p e_0 s m args below meth c A hAt hIn hsz hXs ls hl
  obtain ⟨hx, hb, hr, hlk, hml, hown, hts, hin⟩ := hAt
  obtain ⟨hK, hP, hD, hA, hS, hof⟩ := hIn
  have hown : s.vm.findClass RX1 = some m.cls := hown
  have hl : lv_has ls 7 [(0, .ref h), (1, .int (nI b)), (2, .int x), (3, .int y), (4, .int z), (5, .int t)] := hl
  refine lv_iload_n hx hb dX1_key_0 rfl (lv_at hl 1 rfl) ?_
  refine lv_iconst (v := 1) hx hb dX1_key_1 (by decide) ?_
  refine lv_iand hx hb dX1_key_2 ?_
  refine lv_iconst (v := 4) hx hb dX1_key_3 (by decide) ?_
  refine lv_ishl hx hb dX1_key_4 ?_
  refine hb_top (nI (16 * b)) (kh hb2) ?_
  refine lv_istore (lv' := [(6, .int (nI (16 * b))), (0, .ref h), (1, .int (nI b)), (2, .int x), (3, .int y), (4, .int z), (5, .int t)]) hx hb dX1_key_5 hl (by decide) rfl (fun ls hl => ?_)
  refine lv_aload_n hx hb dX1_key_7 rfl (lv_at hl 1 rfl) ?_
  refine hb_get1 hx hb hts hown hK hP 0 rfl 3 (by decide) q185 (v := .ref ky) rfl dX1_key_8 ?_
  refine lv_iload hx hb dX1_key_11 (lv_at hl 0 rfl) ?_
  refine lv_iload_n hx hb dX1_key_13 rfl (lv_at hl 3 rfl) ?_
  refine hb_Sv (As := [.ref ky, .int (nI (16 * b)), .int x]) (rest := []) (wc := [(ky, .inl (cB, 32, .inl f))]) (wr := [(h, .inr (0, [v0, v1, v2, .ref ky, v4, v5, v6, v7]))]) (k := 0) (k' := 0) ⟨hx, hb, hml, hown, hts⟩ (metX1_word l D cB _ ky 32 (16 * b) f x (by omega) (by decide)) (va_cwS 3 hts (lw_S q211 q212 q5 q213) rfl rfl rfl (by decide +kernel) ⟨Nat.le_of_ble_eq_true rfl, Nat.le_of_ble_eq_true rfl⟩) ⟨hK, hP, hD, hS, hA⟩ [1] [0] ⟨rfl, rfl, rfl, rfl, by decide⟩ hb_bl (fun _ _ _ => trivial) rfl hl.1 rfl (Nat.le_of_ble_eq_true rfl) dX1_key_14 ⟨Nat.le_of_ble_eq_true rfl, Nat.le_of_ble_eq_true rfl⟩ ⟨Nat.le_of_ble_eq_true rfl, Nat.le_of_ble_eq_true rfl⟩ (fun w_1 H locs hw hP hD hS => ?_)
  obtain rfl := hw
  have hP : va_P D vwCl [(h, .inr (0, [v0, v1, v2, .ref ky, v4, v5, v6, v7])), (ky, .inl (cB, 32, .inl (wU f (16 * b) x)))] H := hP
  have hD : va_D A [(h, .inr (0, [v0, v1, v2, .ref ky, v4, v5, v6, v7])), (ky, .inl (cB, 32, .inl (wU f (16 * b) x)))] := hD
  refine lv_aload_n hx hb dX1_key_17 rfl (lv_at hl 1 rfl) ?_
  refine hb_get1 hx hb hts hown hK hP 0 rfl 3 (by decide) q185 (v := .ref ky) rfl dX1_key_18 ?_
  refine lv_iload hx hb dX1_key_21 (lv_at hl 0 rfl) ?_
  refine lv_iconst (v := nI 4) hx hb dX1_key_23 (by decide) ?_
  refine lv_iadd hx hb dX1_key_24 ?_
  refine hb_top (nI (16 * b + 4)) (nI_add _ 4) ?_
  refine lv_iload_n hx hb dX1_key_25 rfl (lv_at hl 4 rfl) ?_
  refine hb_Sv (As := [.ref ky, .int (nI (16 * b + 4)), .int y]) (rest := []) (wc := [(ky, .inl (cB, 32, .inl (wU f (16 * b) x)))]) (wr := [(h, .inr (0, [v0, v1, v2, .ref ky, v4, v5, v6, v7]))]) (k := 0) (k' := 0) ⟨hx, hb, hml, hown, hts⟩ (metX1_word l D cB _ ky 32 (16 * b + 4) (wU f (16 * b) x) y (by omega) (by decide)) (va_cwS 3 hts (lw_S q211 q212 q5 q213) rfl rfl rfl (by decide +kernel) ⟨Nat.le_of_ble_eq_true rfl, Nat.le_of_ble_eq_true rfl⟩) ⟨hK, hP, hD, hS, hA⟩ [1] [0] ⟨rfl, rfl, rfl, rfl, by decide⟩ hb_bl (fun _ _ _ => trivial) rfl hl.1 rfl (Nat.le_of_ble_eq_true rfl) dX1_key_26 ⟨Nat.le_of_ble_eq_true rfl, Nat.le_of_ble_eq_true rfl⟩ ⟨Nat.le_of_ble_eq_true rfl, Nat.le_of_ble_eq_true rfl⟩ (fun w_1 H locs hw hP hD hS => ?_)
  obtain rfl := hw
  have hP : va_P D vwCl [(h, .inr (0, [v0, v1, v2, .ref ky, v4, v5, v6, v7])), (ky, .inl (cB, 32, .inl (wU (wU f (16 * b) x) (16 * b + 4) y)))] H := hP
  have hD : va_D A [(h, .inr (0, [v0, v1, v2, .ref ky, v4, v5, v6, v7])), (ky, .inl (cB, 32, .inl (wU (wU f (16 * b) x) (16 * b + 4) y)))] := hD
  refine lv_aload_n hx hb dX1_key_29 rfl (lv_at hl 1 rfl) ?_
  refine hb_get1 hx hb hts hown hK hP 0 rfl 3 (by decide) q185 (v := .ref ky) rfl dX1_key_30 ?_
  refine lv_iload hx hb dX1_key_33 (lv_at hl 0 rfl) ?_
  refine lv_bipush (v := nI 8) hx hb dX1_key_35 (by decide) ?_
  refine lv_iadd hx hb dX1_key_37 ?_
  refine hb_top (nI (16 * b + 8)) (nI_add _ 8) ?_
  refine lv_iload hx hb dX1_key_38 (lv_at hl 5 rfl) ?_
  refine hb_Sv (As := [.ref ky, .int (nI (16 * b + 8)), .int z]) (rest := []) (wc := [(ky, .inl (cB, 32, .inl (wU (wU f (16 * b) x) (16 * b + 4) y)))]) (wr := [(h, .inr (0, [v0, v1, v2, .ref ky, v4, v5, v6, v7]))]) (k := 0) (k' := 0) ⟨hx, hb, hml, hown, hts⟩ (metX1_word l D cB _ ky 32 (16 * b + 8) (wU (wU f (16 * b) x) (16 * b + 4) y) z (by omega) (by decide)) (va_cwS 3 hts (lw_S q211 q212 q5 q213) rfl rfl rfl (by decide +kernel) ⟨Nat.le_of_ble_eq_true rfl, Nat.le_of_ble_eq_true rfl⟩) ⟨hK, hP, hD, hS, hA⟩ [1] [0] ⟨rfl, rfl, rfl, rfl, by decide⟩ hb_bl (fun _ _ _ => trivial) rfl hl.1 rfl (Nat.le_of_ble_eq_true rfl) dX1_key_40 ⟨Nat.le_of_ble_eq_true rfl, Nat.le_of_ble_eq_true rfl⟩ ⟨Nat.le_of_ble_eq_true rfl, Nat.le_of_ble_eq_true rfl⟩ (fun w_1 H locs hw hP hD hS => ?_)
  obtain rfl := hw
  have hP : va_P D vwCl [(h, .inr (0, [v0, v1, v2, .ref ky, v4, v5, v6, v7])), (ky, .inl (cB, 32, .inl (wU (wU (wU f (16 * b) x) (16 * b + 4) y) (16 * b + 8) z)))] H := hP
  have hD : va_D A [(h, .inr (0, [v0, v1, v2, .ref ky, v4, v5, v6, v7])), (ky, .inl (cB, 32, .inl (wU (wU (wU f (16 * b) x) (16 * b + 4) y) (16 * b + 8) z)))] := hD
  refine lv_aload_n hx hb dX1_key_43 rfl (lv_at hl 1 rfl) ?_
  refine hb_get1 hx hb hts hown hK hP 0 rfl 3 (by decide) q185 (v := .ref ky) rfl dX1_key_44 ?_
  refine lv_iload hx hb dX1_key_47 (lv_at hl 0 rfl) ?_
  refine lv_bipush (v := nI 12) hx hb dX1_key_49 (by decide) ?_
  refine lv_iadd hx hb dX1_key_51 ?_
  refine hb_top (nI (16 * b + 12)) (nI_add _ 12) ?_
  refine lv_iload hx hb dX1_key_52 (lv_at hl 6 rfl) ?_
  refine hb_Sv (As := [.ref ky, .int (nI (16 * b + 12)), .int t]) (rest := []) (wc := [(ky, .inl (cB, 32, .inl (wU (wU (wU f (16 * b) x) (16 * b + 4) y) (16 * b + 8) z)))]) (wr := [(h, .inr (0, [v0, v1, v2, .ref ky, v4, v5, v6, v7]))]) (k := 0) (k' := 0) ⟨hx, hb, hml, hown, hts⟩ (metX1_word l D cB _ ky 32 (16 * b + 12) (wU (wU (wU f (16 * b) x) (16 * b + 4) y) (16 * b + 8) z) t (by omega) (by decide)) (va_cwS 3 hts (lw_S q211 q212 q5 q213) rfl rfl rfl (by decide +kernel) ⟨Nat.le_of_ble_eq_true rfl, Nat.le_of_ble_eq_true rfl⟩) ⟨hK, hP, hD, hS, hA⟩ [1] [0] ⟨rfl, rfl, rfl, rfl, by decide⟩ hb_bl (fun _ _ _ => trivial) rfl hl.1 rfl (Nat.le_of_ble_eq_true rfl) dX1_key_54 ⟨Nat.le_of_ble_eq_true rfl, Nat.le_of_ble_eq_true rfl⟩ ⟨Nat.le_of_ble_eq_true rfl, Nat.le_of_ble_eq_true rfl⟩ (fun w_1 H locs hw hP hD hS => ?_)
  obtain rfl := hw
  have hP : va_P D vwCl [(h, .inr (0, [v0, v1, v2, .ref ky, v4, v5, v6, v7])), (ky, .inl (cB, 32, .inl (wU (wU (wU (wU f (16 * b) x) (16 * b + 4) y) (16 * b + 8) z) (16 * b + 12) t)))] H := hP
  have hD : va_D A [(h, .inr (0, [v0, v1, v2, .ref ky, v4, v5, v6, v7])), (ky, .inl (cB, 32, .inl (wU (wU (wU (wU f (16 * b) x) (16 * b + 4) y) (16 * b + 8) z) (16 * b + 12) t)))] := hD
  exact hb_retv hx hb hr hlk hK hP hD hS rfl ⟨Nat.le_of_ble_eq_true rfl, Nat.le_of_ble_eq_true rfl⟩ dX1_key_57
set_option maxHeartbeats 4000000 in
set_option maxRecDepth 100000 in
/-- nonce(x, y, z, t) -/
theorem metX1_nonce (l : Launch) (D : va_G) (cB : ClassId) (sz : Nat) (h no : Nat) (v0 v1 v2 v3 v5 v6 v7 : Value) (f : Nat → Int32) (x y z t : Int32) : hb_Mv l yX1_nonce (ws_ yX1_nonce cX1_nonce 5 none) { frames := 1, cells := 0, slots := 0, locals := 30 } D cB sz [.ref h, .int x, .int y, .int z, .int t] [(h, .inr (0, [v0, v1, v2, v3, .ref no, v5, v6, v7])), (no, .inl (cB, 16, .inl f))] hb_T (fun w => w = [(h, .inr (0, [v0, v1, v2, v3, .ref no, v5, v6, v7])), (no, .inl (cB, 16, .inl (wP f 0 x y z t)))]) := by
  refine hb_startG (Qc := hb_Qv D cB _) (by decide) (Nat.le_of_ble_eq_true rfl) ?_
  intro p e_0 s m args below meth c A hAt hIn hsz hXs ls hl
  obtain ⟨hx, hb, hr, hlk, hml, hown, hts, hin⟩ := hAt
  obtain ⟨hK, hP, hD, hA, hS, hof⟩ := hIn
  have hown : s.vm.findClass RX1 = some m.cls := hown
  have hl : lv_has ls 5 [(0, .ref h), (1, .int x), (2, .int y), (3, .int z), (4, .int t)] := hl
  refine lv_aload_n hx hb dX1_nonce_0 rfl (lv_at hl 0 rfl) ?_
  refine hb_get1 hx hb hts hown hK hP 0 rfl 4 (by decide) q186 (v := .ref no) rfl dX1_nonce_1 ?_
  refine lv_iconst (v := nI 0) hx hb dX1_nonce_4 (by decide) ?_
  refine lv_iload_n hx hb dX1_nonce_5 rfl (lv_at hl 1 rfl) ?_
  refine hb_Sv (As := [.ref no, .int (nI 0), .int x]) (rest := []) (wc := [(no, .inl (cB, 16, .inl f))]) (wr := [(h, .inr (0, [v0, v1, v2, v3, .ref no, v5, v6, v7]))]) (k := 0) (k' := 0) ⟨hx, hb, hml, hown, hts⟩ (metX1_word l D cB _ no 16 0 f x (by decide) (by decide)) (va_cwS 3 hts (lw_S q211 q212 q5 q213) rfl rfl rfl (by decide +kernel) ⟨Nat.le_of_ble_eq_true rfl, Nat.le_of_ble_eq_true rfl⟩) ⟨hK, hP, hD, hS, hA⟩ [1] [0] ⟨rfl, rfl, rfl, rfl, by decide⟩ hb_bl (fun _ _ _ => trivial) rfl hl.1 rfl (Nat.le_of_ble_eq_true rfl) dX1_nonce_6 ⟨Nat.le_of_ble_eq_true rfl, Nat.le_of_ble_eq_true rfl⟩ ⟨Nat.le_of_ble_eq_true rfl, Nat.le_of_ble_eq_true rfl⟩ (fun w_1 H locs hw hP hD hS => ?_)
  obtain rfl := hw
  have hP : va_P D vwCl [(h, .inr (0, [v0, v1, v2, v3, .ref no, v5, v6, v7])), (no, .inl (cB, 16, .inl (wU f 0 x)))] H := hP
  have hD : va_D A [(h, .inr (0, [v0, v1, v2, v3, .ref no, v5, v6, v7])), (no, .inl (cB, 16, .inl (wU f 0 x)))] := hD
  refine lv_aload_n hx hb dX1_nonce_9 rfl (lv_at hl 0 rfl) ?_
  refine hb_get1 hx hb hts hown hK hP 0 rfl 4 (by decide) q186 (v := .ref no) rfl dX1_nonce_10 ?_
  refine lv_iconst (v := nI 4) hx hb dX1_nonce_13 (by decide) ?_
  refine lv_iload_n hx hb dX1_nonce_14 rfl (lv_at hl 2 rfl) ?_
  refine hb_Sv (As := [.ref no, .int (nI 4), .int y]) (rest := []) (wc := [(no, .inl (cB, 16, .inl (wU f 0 x)))]) (wr := [(h, .inr (0, [v0, v1, v2, v3, .ref no, v5, v6, v7]))]) (k := 0) (k' := 0) ⟨hx, hb, hml, hown, hts⟩ (metX1_word l D cB _ no 16 4 (wU f 0 x) y (by decide) (by decide)) (va_cwS 3 hts (lw_S q211 q212 q5 q213) rfl rfl rfl (by decide +kernel) ⟨Nat.le_of_ble_eq_true rfl, Nat.le_of_ble_eq_true rfl⟩) ⟨hK, hP, hD, hS, hA⟩ [1] [0] ⟨rfl, rfl, rfl, rfl, by decide⟩ hb_bl (fun _ _ _ => trivial) rfl hl.1 rfl (Nat.le_of_ble_eq_true rfl) dX1_nonce_15 ⟨Nat.le_of_ble_eq_true rfl, Nat.le_of_ble_eq_true rfl⟩ ⟨Nat.le_of_ble_eq_true rfl, Nat.le_of_ble_eq_true rfl⟩ (fun w_1 H locs hw hP hD hS => ?_)
  obtain rfl := hw
  have hP : va_P D vwCl [(h, .inr (0, [v0, v1, v2, v3, .ref no, v5, v6, v7])), (no, .inl (cB, 16, .inl (wU (wU f 0 x) 4 y)))] H := hP
  have hD : va_D A [(h, .inr (0, [v0, v1, v2, v3, .ref no, v5, v6, v7])), (no, .inl (cB, 16, .inl (wU (wU f 0 x) 4 y)))] := hD
  refine lv_aload_n hx hb dX1_nonce_18 rfl (lv_at hl 0 rfl) ?_
  refine hb_get1 hx hb hts hown hK hP 0 rfl 4 (by decide) q186 (v := .ref no) rfl dX1_nonce_19 ?_
  refine lv_bipush (v := nI 8) hx hb dX1_nonce_22 (by decide) ?_
  refine lv_iload_n hx hb dX1_nonce_24 rfl (lv_at hl 3 rfl) ?_
  refine hb_Sv (As := [.ref no, .int (nI 8), .int z]) (rest := []) (wc := [(no, .inl (cB, 16, .inl (wU (wU f 0 x) 4 y)))]) (wr := [(h, .inr (0, [v0, v1, v2, v3, .ref no, v5, v6, v7]))]) (k := 0) (k' := 0) ⟨hx, hb, hml, hown, hts⟩ (metX1_word l D cB _ no 16 8 (wU (wU f 0 x) 4 y) z (by decide) (by decide)) (va_cwS 3 hts (lw_S q211 q212 q5 q213) rfl rfl rfl (by decide +kernel) ⟨Nat.le_of_ble_eq_true rfl, Nat.le_of_ble_eq_true rfl⟩) ⟨hK, hP, hD, hS, hA⟩ [1] [0] ⟨rfl, rfl, rfl, rfl, by decide⟩ hb_bl (fun _ _ _ => trivial) rfl hl.1 rfl (Nat.le_of_ble_eq_true rfl) dX1_nonce_25 ⟨Nat.le_of_ble_eq_true rfl, Nat.le_of_ble_eq_true rfl⟩ ⟨Nat.le_of_ble_eq_true rfl, Nat.le_of_ble_eq_true rfl⟩ (fun w_1 H locs hw hP hD hS => ?_)
  obtain rfl := hw
  have hP : va_P D vwCl [(h, .inr (0, [v0, v1, v2, v3, .ref no, v5, v6, v7])), (no, .inl (cB, 16, .inl (wU (wU (wU f 0 x) 4 y) 8 z)))] H := hP
  have hD : va_D A [(h, .inr (0, [v0, v1, v2, v3, .ref no, v5, v6, v7])), (no, .inl (cB, 16, .inl (wU (wU (wU f 0 x) 4 y) 8 z)))] := hD
  refine lv_aload_n hx hb dX1_nonce_28 rfl (lv_at hl 0 rfl) ?_
  refine hb_get1 hx hb hts hown hK hP 0 rfl 4 (by decide) q186 (v := .ref no) rfl dX1_nonce_29 ?_
  refine lv_bipush (v := nI 12) hx hb dX1_nonce_32 (by decide) ?_
  refine lv_iload hx hb dX1_nonce_34 (lv_at hl 4 rfl) ?_
  refine hb_Sv (As := [.ref no, .int (nI 12), .int t]) (rest := []) (wc := [(no, .inl (cB, 16, .inl (wU (wU (wU f 0 x) 4 y) 8 z)))]) (wr := [(h, .inr (0, [v0, v1, v2, v3, .ref no, v5, v6, v7]))]) (k := 0) (k' := 0) ⟨hx, hb, hml, hown, hts⟩ (metX1_word l D cB _ no 16 12 (wU (wU (wU f 0 x) 4 y) 8 z) t (by decide) (by decide)) (va_cwS 3 hts (lw_S q211 q212 q5 q213) rfl rfl rfl (by decide +kernel) ⟨Nat.le_of_ble_eq_true rfl, Nat.le_of_ble_eq_true rfl⟩) ⟨hK, hP, hD, hS, hA⟩ [1] [0] ⟨rfl, rfl, rfl, rfl, by decide⟩ hb_bl (fun _ _ _ => trivial) rfl hl.1 rfl (Nat.le_of_ble_eq_true rfl) dX1_nonce_36 ⟨Nat.le_of_ble_eq_true rfl, Nat.le_of_ble_eq_true rfl⟩ ⟨Nat.le_of_ble_eq_true rfl, Nat.le_of_ble_eq_true rfl⟩ (fun w_1 H locs hw hP hD hS => ?_)
  obtain rfl := hw
  have hP : va_P D vwCl [(h, .inr (0, [v0, v1, v2, v3, .ref no, v5, v6, v7])), (no, .inl (cB, 16, .inl (wU (wU (wU (wU f 0 x) 4 y) 8 z) 12 t)))] H := hP
  have hD : va_D A [(h, .inr (0, [v0, v1, v2, v3, .ref no, v5, v6, v7])), (no, .inl (cB, 16, .inl (wU (wU (wU (wU f 0 x) 4 y) 8 z) 12 t)))] := hD
  exact hb_retv hx hb hr hlk hK hP hD hS rfl ⟨Nat.le_of_ble_eq_true rfl, Nat.le_of_ble_eq_true rfl⟩ dX1_nonce_39
set_option maxHeartbeats 4000000 in
set_option maxRecDepth 100000 in
/-- out(a) -/
theorem metX1_out (l : Launch) (D : va_G) (cB : ClassId) (sz : Nat) (h ou n a : Nat) (v0 v1 v2 v3 v4 v5 v6 : Value) (o : Nat → Int32) (ha : a < n) (hn : n ≤ 65536) : hb_Mi l yX1_out (ws_ yX1_out cX1_out 2 (some .int)) { frames := 0, cells := 0, slots := 0, locals := 0 } D cB sz [.ref h, .int (nI a)] [(h, .inr (0, [v0, v1, v2, v3, v4, v5, v6, .ref ou])), (ou, .inl (cB, n, .inl o))] hb_T (fun r w => r = nI (a8 (o a)) ∧ w = [(h, .inr (0, [v0, v1, v2, v3, v4, v5, v6, .ref ou])), (ou, .inl (cB, n, .inl o))]) := by
  refine hb_startG (Qc := hb_Qi D cB _) (by decide) (Nat.le_of_ble_eq_true rfl) ?_
  intro p e_0 s m args below meth c A hAt hIn hsz hXs ls hl
  obtain ⟨hx, hb, hr, hlk, hml, hown, hts, hin⟩ := hAt
  obtain ⟨hK, hP, hD, hA, hS, hof⟩ := hIn
  have hown : s.vm.findClass RX1 = some m.cls := hown
  have hl : lv_has ls 2 [(0, .ref h), (1, .int (nI a))] := hl
  refine lv_aload_n hx hb dX1_out_0 rfl (lv_at hl 0 rfl) ?_
  refine hb_get1 hx hb hts hown hK hP 0 rfl 7 (by decide) q189 (v := .ref ou) rfl dX1_out_1 ?_
  refine hb_alen hx hb hK hP 1 rfl dX1_out_4 ?_
  refine lv_if_ne (tgt := 12) hx hb dX1_out_5 (by decide) (fun c_5 => ?_) (fun c_5 => absurd c_5 (nI_ne0 (by omega) (by omega)))
  refine lv_aload_n hx hb dX1_out_12 rfl (lv_at hl 0 rfl) ?_
  refine hb_get1 hx hb hts hown hK hP 0 rfl 7 (by decide) q189 (v := .ref ou) rfl dX1_out_13 ?_
  refine lv_iload_n hx hb dX1_out_16 rfl (lv_at hl 1 rfl) ?_
  refine lv_ldc hx hb hown (hts _ q25) dX1_out_17 ?_
  refine lv_iand hx hb dX1_out_19 ?_
  refine hb_top (nI a) ((m31_and _).trans (congrArg nI (m31_nI (by omega)))) ?_
  refine lv_aload_n hx hb dX1_out_20 rfl (lv_at hl 0 rfl) ?_
  refine hb_get1 hx hb hts hown hK hP 0 rfl 7 (by decide) q189 (v := .ref ou) rfl dX1_out_21 ?_
  refine hb_alen hx hb hK hP 1 rfl dX1_out_24 ?_
  refine lv_irem hx hb dX1_out_25 (nI_ne0 (by omega) (by omega)) ?_
  refine hb_top (nI a) ((pk_rem (by omega) (by omega) (by omega)).trans (congrArg nI (Nat.mod_eq_of_lt ha))) ?_
  refine hb_bald (j := a) hx hb hK hP 1 rfl ha (by omega) (o a) rfl dX1_out_26 ?_
  refine lv_sipush (v := 255) hx hb dX1_out_27 (by decide) ?_
  refine lv_iand hx hb dX1_out_30 ?_
  refine hb_top (nI (a8 (o a))) (a8_and _) ?_
  exact hb_reti (v := nI (a8 (o a))) hx hb hr hlk rfl hK hP hD hS ⟨rfl, rfl⟩ ⟨Nat.le_of_ble_eq_true rfl, Nat.le_of_ble_eq_true rfl⟩ dX1_out_31
set_option maxHeartbeats 4000000 in
set_option maxRecDepth 100000 in
/-- one(b): one step -/
theorem metX1_one (l : Launch) (D : va_G) (cB : ClassId) (sz : Nat) (h e st g : Nat) (v3 v4 v5 v6 v7 vw vf : Value) (σ : rS) (b : Int32) (hg : g < 1024) : hb_Mi l yX1_one (ws_ yX1_one cX1_one 2 (some .int)) { frames := 1, cells := 0, slots := 0, locals := 30 } D cB sz [.ref h, .int b] [(h, .inr (0, [.ref e, .int 1, .int (nI g), v3, v4, v5, v6, v7])), (e, .inr (1, [.ref st, .int (nI (σ).1), .int (nI (σ).2.1), vw, vf])), (st, .inl (cB, 256, .inl ((σ).2.2)))] hb_T (fun r w => r = nI (a8 b ^^^ a8 (rK σ)) ∧ w = [(h, .inr (0, [.ref e, .int 1, .int (nI (g + 1)), v3, v4, v5, v6, v7])), (e, .inr (1, [.ref st, .int (nI ((rN σ)).1), .int (nI ((rN σ)).2.1), vw, vf])), (st, .inl (cB, 256, .inl (((rN σ)).2.2)))]) := by
  refine hb_startG (Qc := hb_Qi D cB _) (by decide) (Nat.le_of_ble_eq_true rfl) ?_
  intro p e_0 s m args below meth c A hAt hIn hsz hXs ls hl
  obtain ⟨hx, hb, hr, hlk, hml, hown, hts, hin⟩ := hAt
  obtain ⟨hK, hP, hD, hA, hS, hof⟩ := hIn
  have hown : s.vm.findClass RX1 = some m.cls := hown
  have hl : lv_has ls 2 [(0, .ref h), (1, .int b)] := hl
  refine lv_aload_n hx hb dX1_one_0 rfl (lv_at hl 0 rfl) ?_
  refine hb_get1 hx hb hts hown hK hP 0 rfl 1 (by decide) q183 (v := .int 1) rfl dX1_one_1 ?_
  refine lv_if_ne (tgt := 9) hx hb dX1_one_4 (by decide) (fun c_4 => ?_) (fun c_4 => absurd c_4 (by decide))
  refine lv_aload_n hx hb dX1_one_9 rfl (lv_at hl 0 rfl) ?_
  refine hb_get1 hx hb hts hown hK hP 0 rfl 2 (by decide) q184 (v := .int (nI g)) rfl dX1_one_10 ?_
  refine lv_sipush (v := nI 1024) hx hb dX1_one_13 (by decide) ?_
  refine lv_icmp_lt (tgt := 22) hx hb dX1_one_16 (by decide) (fun c_16 => ?_) (fun c_16 => absurd (nI_lt hg (by decide)) c_16)
  refine lv_aload_n hx hb dX1_one_22 rfl (lv_at hl 0 rfl) ?_
  refine lv_dup hx hb dX1_one_23 rfl ?_
  refine hb_get1 hx hb hts hown hK hP 0 rfl 2 (by decide) q184 (v := .int (nI g)) rfl dX1_one_24 ?_
  refine lv_iconst (v := 1) hx hb dX1_one_27 (by decide) ?_
  refine lv_iadd hx hb dX1_one_28 ?_
  refine hb_top (nI (g + 1)) (nI_1 g) ?_
  refine hb_put1 (wn := [(h, .inr (0, [.ref e, .int 1, .int (nI (g + 1)), v3, v4, v5, v6, v7])), (e, .inr (1, [.ref st, .int (nI (σ).1), .int (nI (σ).2.1), vw, vf])), (st, .inl (cB, 256, .inl ((σ).2.2)))]) hx hb hts hown hK hP hD hS 0 rfl 2 (by decide) q184 rfl (v := .int (nI (g + 1))) rfl rfl (Nat.le_of_ble_eq_true rfl) rfl dX1_one_29 (fun H locs hP hD hS => ?_)
  refine lv_aload_n hx hb dX1_one_32 rfl (lv_at hl 0 rfl) ?_
  refine hb_get1 hx hb hts hown hK hP 0 rfl 0 (by decide) q182 (v := .ref e) rfl dX1_one_33 ?_
  refine lv_iload_n hx hb dX1_one_36 rfl (lv_at hl 1 rfl) ?_
  refine lv_i2b (v := b8 b) hx hb dX1_one_37 rfl ?_
  refine hb_Vi (As := [.int (b8 b)]) (rest := []) (wc := [(e, .inr (1, [.ref st, .int (nI (σ).1), .int (nI (σ).2.1), vw, vf])), (st, .inl (cB, 256, .inl ((σ).2.2)))]) (wr := [(h, .inr (0, [.ref e, .int 1, .int (nI (g + 1)), v3, v4, v5, v6, v7]))]) (k := 0) (k' := 0) ⟨hx, hb, hml, hown, hts⟩ (metX2_returnByte l D cB _ e st vw vf σ (b8 b)) (cwV 1 hts (lw_V q129 q130 q131 q6 q132) rfl rfl rfl (by decide +kernel) ⟨Nat.le_of_ble_eq_true rfl, Nat.le_of_ble_eq_true rfl⟩) ⟨hK, hP, hD, hS, hA⟩ [1, 2] [0] ⟨rfl, rfl, rfl, rfl, by decide⟩ (va_recv hK hP (ci := 1) (q0 := 1) rfl rfl) hb_bl (fun _ _ _ => trivial) rfl hl.1 rfl (Nat.le_of_ble_eq_true rfl) dX1_one_38 ⟨Nat.le_of_ble_eq_true rfl, Nat.le_of_ble_eq_true rfl⟩ ⟨Nat.le_of_ble_eq_true rfl, Nat.le_of_ble_eq_true rfl⟩ (fun r_38 w_1 H locs hw hP hD hS => ?_)
  obtain ⟨rfl, rfl⟩ := hw
  have hP : va_P D vwCl [(h, .inr (0, [.ref e, .int 1, .int (nI (g + 1)), v3, v4, v5, v6, v7])), (e, .inr (1, [.ref st, .int (nI ((rN σ)).1), .int (nI ((rN σ)).2.1), vw, vf])), (st, .inl (cB, 256, .inl (((rN σ)).2.2)))] H := hP
  have hD : va_D A [(h, .inr (0, [.ref e, .int 1, .int (nI (g + 1)), v3, v4, v5, v6, v7])), (e, .inr (1, [.ref st, .int (nI ((rN σ)).1), .int (nI ((rN σ)).2.1), vw, vf])), (st, .inl (cB, 256, .inl (((rN σ)).2.2)))] := hD
  refine lv_sipush (v := 255) hx hb dX1_one_41 (by decide) ?_
  refine lv_iand hx hb dX1_one_44 ?_
  refine hb_top (nI (a8 b ^^^ a8 (rK σ))) (one_r b _) ?_
  exact hb_reti (v := nI (a8 b ^^^ a8 (rK σ))) hx hb hr hlk rfl hK hP hD hS ⟨rfl, rfl⟩ ⟨Nat.le_of_ble_eq_true rfl, Nat.le_of_ble_eq_true rfl⟩ dX1_one_45
set_option maxHeartbeats 4000000 in
set_option maxRecDepth 100000 in
/-- again(): the key schedule again -/
theorem metX1_again (l : Launch) (D : va_G) (cB : ClassId) (sz : Nat) (h e st wk n : Nat) (v2 v3 v4 v5 v6 v7 vx vy vf : Value) (w o : Nat → Int32) (hn : 0 < n ∧ n ≤ 32) : hb_Mv l yX1_again (ws_ yX1_again cX1_again 1 none) { frames := 2, cells := 0, slots := 0, locals := 60 } D cB sz [.ref h] [(h, .inr (0, [.ref e, .int 1, v2, v3, v4, v5, v6, v7])), (e, .inr (1, [.ref st, vx, vy, .ref wk, vf])), (wk, .inl (cB, n, .inl w)), (st, .inl (cB, 256, .inl o))] hb_T (fun w_ => w_ = [(h, .inr (0, [.ref e, .int 1, .int (nI 0), v3, v4, v5, v6, v7])), (e, .inr (1, [.ref st, .int (nI (k0 n w).1), .int (nI (k0 n w).2.1), .ref wk, vf])), (wk, .inl (cB, n, .inl w)), (st, .inl (cB, 256, .inl ((k0 n w).2.2)))]) := by
  refine hb_startG (Qc := hb_Qv D cB _) (by decide) (Nat.le_of_ble_eq_true rfl) ?_
  intro p e_0 s m args below meth c A hAt hIn hsz hXs ls hl
  obtain ⟨hx, hb, hr, hlk, hml, hown, hts, hin⟩ := hAt
  obtain ⟨hK, hP, hD, hA, hS, hof⟩ := hIn
  have hown : s.vm.findClass RX1 = some m.cls := hown
  have hl : lv_has ls 1 [(0, .ref h)] := hl
  refine lv_aload_n hx hb dX1_again_0 rfl (lv_at hl 0 rfl) ?_
  refine hb_get1 hx hb hts hown hK hP 0 rfl 1 (by decide) q183 (v := .int 1) rfl dX1_again_1 ?_
  refine lv_if_eq (tgt := 19) hx hb dX1_again_4 (by decide) (fun c_4 => absurd c_4 (by decide)) (fun c_4 => ?_)
  refine lv_aload_n hx hb dX1_again_7 rfl (lv_at hl 0 rfl) ?_
  refine hb_get1 hx hb hts hown hK hP 0 rfl 0 (by decide) q182 (v := .ref e) rfl dX1_again_8 ?_
  refine hb_Vv (As := []) (rest := []) (wc := [(e, .inr (1, [.ref st, vx, vy, .ref wk, vf])), (wk, .inl (cB, n, .inl w)), (st, .inl (cB, 256, .inl o))]) (wr := [(h, .inr (0, [.ref e, .int 1, v2, v3, v4, v5, v6, v7]))]) (k := 0) (k' := 0) ⟨hx, hb, hml, hown, hts⟩ (metX2_reset l D cB _ e st wk n vx vy vf w o hn) (cwV 0 hts (lw_V q137 q138 q139 q6 q140) rfl rfl rfl (by decide +kernel) ⟨Nat.le_of_ble_eq_true rfl, Nat.le_of_ble_eq_true rfl⟩) ⟨hK, hP, hD, hS, hA⟩ [1, 2, 3] [0] ⟨rfl, rfl, rfl, rfl, by decide⟩ (va_recv hK hP (ci := 1) (q0 := 1) rfl rfl) hb_bl (fun _ _ _ => trivial) rfl hl.1 rfl (Nat.le_of_ble_eq_true rfl) dX1_again_11 ⟨Nat.le_of_ble_eq_true rfl, Nat.le_of_ble_eq_true rfl⟩ ⟨Nat.le_of_ble_eq_true rfl, Nat.le_of_ble_eq_true rfl⟩ (fun w_1 H locs hw hP hD hS => ?_)
  obtain rfl := hw
  have hP : va_P D vwCl [(h, .inr (0, [.ref e, .int 1, v2, v3, v4, v5, v6, v7])), (e, .inr (1, [.ref st, .int (nI (k0 n w).1), .int (nI (k0 n w).2.1), .ref wk, vf])), (wk, .inl (cB, n, .inl w)), (st, .inl (cB, 256, .inl ((k0 n w).2.2)))] H := hP
  have hD : va_D A [(h, .inr (0, [.ref e, .int 1, v2, v3, v4, v5, v6, v7])), (e, .inr (1, [.ref st, .int (nI (k0 n w).1), .int (nI (k0 n w).2.1), .ref wk, vf])), (wk, .inl (cB, n, .inl w)), (st, .inl (cB, 256, .inl ((k0 n w).2.2)))] := hD
  refine lv_aload_n hx hb dX1_again_14 rfl (lv_at hl 0 rfl) ?_
  refine lv_iconst (v := nI 0) hx hb dX1_again_15 (by decide) ?_
  refine hb_put1 (wn := [(h, .inr (0, [.ref e, .int 1, .int (nI 0), v3, v4, v5, v6, v7])), (e, .inr (1, [.ref st, .int (nI (k0 n w).1), .int (nI (k0 n w).2.1), .ref wk, vf])), (wk, .inl (cB, n, .inl w)), (st, .inl (cB, 256, .inl ((k0 n w).2.2)))]) hx hb hts hown hK hP hD hS 0 rfl 2 (by decide) q184 rfl (v := .int (nI 0)) rfl rfl (Nat.le_of_ble_eq_true rfl) rfl dX1_again_16 (fun H locs hP hD hS => ?_)
  exact hb_retv hx hb hr hlk hK hP hD hS rfl ⟨Nat.le_of_ble_eq_true rfl, Nat.le_of_ble_eq_true rfl⟩ dX1_again_19
set_option maxHeartbeats 4000000 in
set_option maxRecDepth 100000 in
/-- run(a, k): k bytes from a on -/
theorem metX1_run (l : Launch) (D : va_G) (cB : ClassId) (sz : Nat) (h e st tx n g a k : Nat) (v3 v4 v7 vw vf : Value) (σ : rS) (t : Nat → Int32) (hak : a + k ≤ n) (hn : n ≤ 256) (hg : g + k ≤ 1024) : hb_Mi l yX1_run (ws_ yX1_run cX1_run 6 (some .int)) { frames := 1, cells := 1, slots := 256, locals := 30 } D cB sz [.ref h, .int (nI a), .int (nI k)] [(h, .inr (0, [.ref e, .int 1, .int (nI g), v3, v4, .ref tx, .int (nI n), v7])), (e, .inr (1, [.ref st, .int (nI (σ).1), .int (nI (σ).2.1), vw, vf])), (st, .inl (cB, 256, .inl ((σ).2.2))), (tx, .inl (cB, 256, .inl t))] hb_T (fun r w => r = nI k ∧ ∃ o_ : Nat, w = [(h, .inr (0, [.ref e, .int 1, .int (nI (g + k)), v3, v4, .ref tx, .int (nI n), .ref o_])), (e, .inr (1, [.ref st, .int (nI ((rI k σ)).1), .int (nI ((rI k σ)).2.1), vw, vf])), (st, .inl (cB, 256, .inl (((rI k σ)).2.2))), (tx, .inl (cB, 256, .inl t)), (o_, .inl (cB, k, .inl (oB t a σ)))]) := by
  refine hb_startG (Qc := hb_Qi D cB _) (by decide) (Nat.le_of_ble_eq_true rfl) ?_
  intro p e_0 s m args below meth c A hAt hIn hsz hXs ls hl
  obtain ⟨hx, hb, hr, hlk, hml, hown, hts, hin⟩ := hAt
  obtain ⟨hK, hP, hD, hA, hS, hof⟩ := hIn
  have hown : s.vm.findClass RX1 = some m.cls := hown
  have hl : lv_has ls 6 [(0, .ref h), (1, .int (nI a)), (2, .int (nI k))] := hl
  refine lv_aload_n hx hb dX1_run_0 rfl (lv_at hl 0 rfl) ?_
  refine hb_get1 hx hb hts hown hK hP 0 rfl 1 (by decide) q183 (v := .int 1) rfl dX1_run_1 ?_
  refine lv_if_ne (tgt := 9) hx hb dX1_run_4 (by decide) (fun c_4 => ?_) (fun c_4 => absurd c_4 (by decide))
  refine lv_aload_n hx hb dX1_run_9 rfl (lv_at hl 0 rfl) ?_
  refine lv_iload_n hx hb dX1_run_10 rfl (lv_at hl 1 rfl) ?_
  refine hb_Vi (As := [.int (nI a)]) (rest := []) (wc := [(h, .inr (0, [.ref e, .int 1, .int (nI g), v3, v4, .ref tx, .int (nI n), v7]))]) (wr := [(e, .inr (1, [.ref st, .int (nI (σ).1), .int (nI (σ).2.1), vw, vf])), (st, .inl (cB, 256, .inl ((σ).2.2))), (tx, .inl (cB, 256, .inl t))]) (k := 0) (k' := 0) ⟨hx, hb, hml, hown, hts⟩ (metX1_from l D cB _ h n (.ref e) (.int 1) (.int (nI g)) v3 v4 (.ref tx) v7 (nI a) (by omega)) (cwV 1 hts (lw_V q20 q22 qs0 q5 q24) rfl rfl rfl (by decide +kernel) ⟨Nat.le_of_ble_eq_true rfl, Nat.le_of_ble_eq_true rfl⟩) ⟨hK, hP, hD, hS, hA⟩ [0] [1, 2, 3] ⟨rfl, rfl, rfl, rfl, by decide⟩ (va_recv hK hP (ci := 0) (q0 := 0) rfl rfl) hb_bl (fun _ _ _ => trivial) rfl hl.1 rfl (Nat.le_of_ble_eq_true rfl) dX1_run_11 ⟨Nat.le_of_ble_eq_true rfl, Nat.le_of_ble_eq_true rfl⟩ ⟨Nat.le_of_ble_eq_true rfl, Nat.le_of_ble_eq_true rfl⟩ (fun r_11 w_1 H locs hw hP hD hS => ?_)
  obtain ⟨rfl, rfl⟩ := hw
  have hP : va_P D vwCl [(e, .inr (1, [.ref st, .int (nI (σ).1), .int (nI (σ).2.1), vw, vf])), (st, .inl (cB, 256, .inl ((σ).2.2))), (tx, .inl (cB, 256, .inl t)), (h, .inr (0, [.ref e, .int 1, .int (nI g), v3, v4, .ref tx, .int (nI n), v7]))] H := hP
  have hD : va_D A [(e, .inr (1, [.ref st, .int (nI (σ).1), .int (nI (σ).2.1), vw, vf])), (st, .inl (cB, 256, .inl ((σ).2.2))), (tx, .inl (cB, 256, .inl t)), (h, .inr (0, [.ref e, .int 1, .int (nI g), v3, v4, .ref tx, .int (nI n), v7]))] := hD
  refine hb_top (nI a) (by rw [m31_nI (by omega), Nat.mod_eq_of_lt (by omega)]) ?_
  refine lv_istore_n (lv' := [(3, .int (nI a)), (0, .ref h), (1, .int (nI a)), (2, .int (nI k))]) hx hb dX1_run_14 rfl hl (by decide) rfl (fun ls hl => ?_)
  refine lv_aload_n hx hb dX1_run_15 rfl (lv_at hl 1 rfl) ?_
  refine lv_iload_n hx hb dX1_run_16 rfl (lv_at hl 0 rfl) ?_
  refine lv_iload_n hx hb dX1_run_17 rfl (lv_at hl 3 rfl) ?_
  refine hb_Vi (As := [.int (nI a), .int (nI k)]) (rest := []) (wc := [(h, .inr (0, [.ref e, .int 1, .int (nI g), v3, v4, .ref tx, .int (nI n), v7]))]) (wr := [(e, .inr (1, [.ref st, .int (nI (σ).1), .int (nI (σ).2.1), vw, vf])), (st, .inl (cB, 256, .inl ((σ).2.2))), (tx, .inl (cB, 256, .inl t))]) (k := 0) (k' := 0) ⟨hx, hb, hml, hown, hts⟩ (metX1_count l D cB _ h n a (.ref e) (.int 1) (.int (nI g)) v3 v4 (.ref tx) v7 (nI k) (by omega) (by omega)) (cwV 2 hts (lw_V q26 q28 qs1 q5 q29) rfl rfl rfl (by decide +kernel) ⟨Nat.le_of_ble_eq_true rfl, Nat.le_of_ble_eq_true rfl⟩) ⟨hK, hP, hD, hS, hA⟩ [3] [0, 1, 2] ⟨rfl, rfl, rfl, rfl, by decide⟩ (va_recv hK hP (ci := 0) (q0 := 3) rfl rfl) hb_bl (fun _ _ _ => trivial) rfl hl.1 rfl (Nat.le_of_ble_eq_true rfl) dX1_run_18 ⟨Nat.le_of_ble_eq_true rfl, Nat.le_of_ble_eq_true rfl⟩ ⟨Nat.le_of_ble_eq_true rfl, Nat.le_of_ble_eq_true rfl⟩ (fun r_18 w_1 H locs hw hP hD hS => ?_)
  obtain ⟨rfl, rfl⟩ := hw
  have hP : va_P D vwCl [(e, .inr (1, [.ref st, .int (nI (σ).1), .int (nI (σ).2.1), vw, vf])), (st, .inl (cB, 256, .inl ((σ).2.2))), (tx, .inl (cB, 256, .inl t)), (h, .inr (0, [.ref e, .int 1, .int (nI g), v3, v4, .ref tx, .int (nI n), v7]))] H := hP
  have hD : va_D A [(e, .inr (1, [.ref st, .int (nI (σ).1), .int (nI (σ).2.1), vw, vf])), (st, .inl (cB, 256, .inl ((σ).2.2))), (tx, .inl (cB, 256, .inl t)), (h, .inr (0, [.ref e, .int 1, .int (nI g), v3, v4, .ref tx, .int (nI n), v7]))] := hD
  refine hb_top (nI k) (by rw [m31_nI (by omega), Nat.mod_eq_of_lt (by omega)]) ?_
  refine lv_istore (lv' := [(4, .int (nI k)), (3, .int (nI a)), (0, .ref h), (1, .int (nI a)), (2, .int (nI k))]) hx hb dX1_run_21 hl (by decide) rfl (fun ls hl => ?_)
  refine lv_aload_n hx hb dX1_run_23 rfl (lv_at hl 2 rfl) ?_
  refine hb_get1 hx hb hts hown hK hP 3 rfl 2 (by decide) q184 (v := .int (nI g)) rfl dX1_run_24 ?_
  refine lv_iload hx hb dX1_run_27 (lv_at hl 0 rfl) ?_
  refine lv_iadd hx hb dX1_run_29 ?_
  refine hb_top (nI (g + k)) (nI_add g k) ?_
  refine lv_sipush (v := nI 1024) hx hb dX1_run_30 (by decide) ?_
  refine lv_icmp_le (tgt := 39) hx hb dX1_run_33 (by decide) (fun c_33 => ?_) (fun c_33 => absurd (nI_le hg (by decide)) c_33)
  refine lv_aload_n hx hb dX1_run_39 rfl (lv_at hl 2 rfl) ?_
  refine lv_dup hx hb dX1_run_40 rfl ?_
  refine hb_get1 hx hb hts hown hK hP 3 rfl 2 (by decide) q184 (v := .int (nI g)) rfl dX1_run_41 ?_
  refine lv_iload hx hb dX1_run_44 (lv_at hl 0 rfl) ?_
  refine lv_iadd hx hb dX1_run_46 ?_
  refine hb_top (nI (g + k)) (nI_add g k) ?_
  refine hb_put1 (wn := [(e, .inr (1, [.ref st, .int (nI (σ).1), .int (nI (σ).2.1), vw, vf])), (st, .inl (cB, 256, .inl ((σ).2.2))), (tx, .inl (cB, 256, .inl t)), (h, .inr (0, [.ref e, .int 1, .int (nI (g + k)), v3, v4, .ref tx, .int (nI n), v7]))]) hx hb hts hown hK hP hD hS 3 rfl 2 (by decide) q184 rfl (v := .int (nI (g + k))) rfl rfl (Nat.le_of_ble_eq_true rfl) rfl dX1_run_47 (fun H locs hP hD hS => ?_)
  refine lv_iload hx hb dX1_run_50 (lv_at hl 0 rfl) ?_
  refine hb_newB (k := 1) (k' := 256) (N := k) hx hb hts hK hP hD hS hA (by omega) ⟨Nat.le_refl _, by omega⟩ ⟨Nat.le_of_ble_eq_true rfl, Nat.le_of_ble_eq_true rfl⟩ dX1_run_52 (fun o_ H hP hD hS => ?_)
  have hP : va_P D vwCl [(e, .inr (1, [.ref st, .int (nI (σ).1), .int (nI (σ).2.1), vw, vf])), (st, .inl (cB, 256, .inl ((σ).2.2))), (tx, .inl (cB, 256, .inl t)), (h, .inr (0, [.ref e, .int 1, .int (nI (g + k)), v3, v4, .ref tx, .int (nI n), v7])), (o_, .inl (cB, k, .inl (fun _ => 0)))] H := hP
  have hD : va_D A [(e, .inr (1, [.ref st, .int (nI (σ).1), .int (nI (σ).2.1), vw, vf])), (st, .inl (cB, 256, .inl ((σ).2.2))), (tx, .inl (cB, 256, .inl t)), (h, .inr (0, [.ref e, .int 1, .int (nI (g + k)), v3, v4, .ref tx, .int (nI n), v7])), (o_, .inl (cB, k, .inl (fun _ => 0)))] := hD
  refine lv_astore (lv' := [(5, .ref o_), (4, .int (nI k)), (3, .int (nI a)), (0, .ref h), (1, .int (nI a)), (2, .int (nI k))]) hx hb dX1_run_54 hl (by decide) rfl (fun ls hl => ?_)
  refine lv_aload_n hx hb dX1_run_56 rfl (lv_at hl 3 rfl) ?_
  refine hb_get1 hx hb hts hown hK hP 3 rfl 0 (by decide) q182 (v := .ref e) rfl dX1_run_57 ?_
  refine lv_aload_n hx hb dX1_run_60 rfl (lv_at hl 3 rfl) ?_
  refine hb_get1 hx hb hts hown hK hP 3 rfl 5 (by decide) q187 (v := .ref tx) rfl dX1_run_61 ?_
  refine lv_iload_n hx hb dX1_run_64 rfl (lv_at hl 2 rfl) ?_
  refine lv_iload hx hb dX1_run_65 (lv_at hl 1 rfl) ?_
  refine lv_aload hx hb dX1_run_67 (lv_at hl 0 rfl) ?_
  refine lv_iconst (v := nI 0) hx hb dX1_run_69 (by decide) ?_
  refine hb_Vi (As := [.ref tx, .int (nI a), .int (nI k), .ref o_, .int (nI 0)]) (rest := []) (wc := [(e, .inr (1, [.ref st, .int (nI (σ).1), .int (nI (σ).2.1), vw, vf])), (st, .inl (cB, 256, .inl ((σ).2.2))), (tx, .inl (cB, 256, .inl t)), (o_, .inl (cB, k, .inl (fun _ => 0)))]) (wr := [(h, .inr (0, [.ref e, .int 1, .int (nI (g + k)), v3, v4, .ref tx, .int (nI n), v7]))]) (k := 1) (k' := 256) ⟨hx, hb, hml, hown, hts⟩ (metX2_processBytes l D cB _ e st tx o_ vw vf σ a k 256 t (fun _ => 0) (by omega) (by decide)) (cwV 5 hts (lw_V q30 q31 q32 q6 q33) rfl rfl rfl (by decide +kernel) ⟨Nat.le_of_ble_eq_true rfl, Nat.le_of_ble_eq_true rfl⟩) ⟨hK, hP, hD, hS, hA⟩ [0, 1, 2, 4] [3] ⟨rfl, rfl, rfl, rfl, by decide⟩ (va_recv hK hP (ci := 1) (q0 := 0) rfl rfl) hb_bl (fun _ _ _ => trivial) rfl hl.1 rfl (Nat.le_of_ble_eq_true rfl) dX1_run_70 ⟨Nat.le_of_ble_eq_true rfl, Nat.le_of_ble_eq_true rfl⟩ ⟨Nat.le_of_ble_eq_true rfl, Nat.le_of_ble_eq_true rfl⟩ (fun r_70 w_1 H locs hw hP hD hS => ?_)
  obtain ⟨rfl, rfl⟩ := hw
  have hP : va_P D vwCl [(h, .inr (0, [.ref e, .int 1, .int (nI (g + k)), v3, v4, .ref tx, .int (nI n), v7])), (e, .inr (1, [.ref st, .int (nI ((rI k σ)).1), .int (nI ((rI k σ)).2.1), vw, vf])), (st, .inl (cB, 256, .inl (((rI k σ)).2.2))), (tx, .inl (cB, 256, .inl t)), (o_, .inl (cB, k, .inl (oB t a σ)))] H := hP
  have hD : va_D A [(h, .inr (0, [.ref e, .int 1, .int (nI (g + k)), v3, v4, .ref tx, .int (nI n), v7])), (e, .inr (1, [.ref st, .int (nI ((rI k σ)).1), .int (nI ((rI k σ)).2.1), vw, vf])), (st, .inl (cB, 256, .inl (((rI k σ)).2.2))), (tx, .inl (cB, 256, .inl t)), (o_, .inl (cB, k, .inl (oB t a σ)))] := hD
  refine lv_pop hx hb dX1_run_73 rfl ?_
  refine lv_aload_n hx hb dX1_run_74 rfl (lv_at hl 3 rfl) ?_
  refine lv_aload hx hb dX1_run_75 (lv_at hl 0 rfl) ?_
  refine hb_put1 (wn := [(h, .inr (0, [.ref e, .int 1, .int (nI (g + k)), v3, v4, .ref tx, .int (nI n), .ref o_])), (e, .inr (1, [.ref st, .int (nI ((rI k σ)).1), .int (nI ((rI k σ)).2.1), vw, vf])), (st, .inl (cB, 256, .inl (((rI k σ)).2.2))), (tx, .inl (cB, 256, .inl t)), (o_, .inl (cB, k, .inl (oB t a σ)))]) hx hb hts hown hK hP hD hS 0 rfl 7 (by decide) q189 rfl (v := .ref o_) rfl rfl (Nat.le_of_ble_eq_true rfl) rfl dX1_run_77 (fun H locs hP hD hS => ?_)
  refine lv_iload hx hb dX1_run_80 (lv_at hl 1 rfl) ?_
  have hP := hb_Psub (ws' := [(h, .inr (0, [.ref e, .int 1, .int (nI (g + k)), v3, v4, .ref tx, .int (nI n), .ref o_])), (e, .inr (1, [.ref st, .int (nI ((rI k σ)).1), .int (nI ((rI k σ)).2.1), vw, vf])), (st, .inl (cB, 256, .inl (((rI k σ)).2.2))), (tx, .inl (cB, 256, .inl t)), (o_, .inl (cB, k, .inl (oB t a σ)))]) hP [0, 1, 2, 3, 4] rfl
  have hD := hD.sub (ws' := [(h, .inr (0, [.ref e, .int 1, .int (nI (g + k)), v3, v4, .ref tx, .int (nI n), .ref o_])), (e, .inr (1, [.ref st, .int (nI ((rI k σ)).1), .int (nI ((rI k σ)).2.1), vw, vf])), (st, .inl (cB, 256, .inl (((rI k σ)).2.2))), (tx, .inl (cB, 256, .inl t)), (o_, .inl (cB, k, .inl (oB t a σ)))]) [0, 1, 2, 3, 4] (by decide) rfl
  exact hb_reti (v := nI k) hx hb hr hlk rfl hK hP hD hS ⟨rfl, o_, rfl⟩ ⟨Nat.le_of_ble_eq_true rfl, Nat.le_of_ble_eq_true rfl⟩ dX1_run_82
set_option maxHeartbeats 4000000 in
set_option maxRecDepth 100000 in
/-- RcFourDesk(): a desk with nothing on it -/
theorem metX1_init (l : Launch) (D : va_G) (cB : ClassId) (sz : Nat) (h : Nat) : hb_Mv l yX1_init (ws_ yX1_init cX1_init 1 none) { frames := 2, cells := 5, slots := 310, locals := 60 } D cB sz [.ref h] [(h, .inr (0, [.null, .int 0, .int 0, .null, .null, .null, .int 0, .null]))] hb_T (fun w => ∃ e ky no tx ou : Nat, w = [(h, .inr (0, [.ref e, .int 0, .int 0, .ref ky, .ref no, .ref tx, .int 0, .ref ou])), (e, .inr (1, [.null, .int 0, .int 0, .null, .int 0])), (ky, .inl (cB, 32, .inl (fun _ => 0))), (no, .inl (cB, 16, .inl (fun _ => 0))), (tx, .inl (cB, 256, .inl (fun _ => 0))), (ou, .inl (cB, 0, .inl (fun _ => 0)))]) := by
  refine hb_startG (Qc := hb_Qv D cB _) (by decide) (Nat.le_of_ble_eq_true rfl) ?_
  intro p e_0 s m args below meth c A hAt hIn hsz hXs ls hl
  obtain ⟨hx, hb, hr, hlk, hml, hown, hts, hin⟩ := hAt
  obtain ⟨hK, hP, hD, hA, hS, hof⟩ := hIn
  have hown : s.vm.findClass RX1 = some m.cls := hown
  have hl : lv_has ls 1 [(0, .ref h)] := hl
  refine lv_aload_n hx hb dX1_init_0 rfl (lv_at hl 0 rfl) ?_
  refine hb_obj hx hb hts hown q160 hml hl.1 (Nat.le_of_ble_eq_true rfl) (Nat.le_of_ble_eq_true rfl) (Nat.le_of_ble_eq_true rfl) dX1_init_1 ?_
  refine lv_aload_n hx hb dX1_init_4 rfl (lv_at hl 0 rfl) ?_
  refine hb_new2 (k := 1) (k' := 5) hx hb hts hown q161 hK hP hD hS hA ⟨Nat.le_of_ble_eq_true rfl, Nat.le_of_ble_eq_true rfl⟩ ⟨Nat.le_of_ble_eq_true rfl, Nat.le_of_ble_eq_true rfl⟩ dX1_init_5 (fun e H hP hD hS => ?_)
  have hP : va_P D vwCl [(h, .inr (0, [.null, .int 0, .int 0, .null, .null, .null, .int 0, .null])), (e, .inr (1, [.null, .int 0, .int 0, .null, .int 0]))] H := hP
  have hD : va_D A [(h, .inr (0, [.null, .int 0, .int 0, .null, .null, .null, .int 0, .null])), (e, .inr (1, [.null, .int 0, .int 0, .null, .int 0]))] := hD
  refine lv_dup hx hb dX1_init_8 rfl ?_
  refine hb_Iv (As := []) (rest := [.ref e, .ref h]) (wc := [(e, .inr (1, [.null, .int 0, .int 0, .null, .int 0]))]) (wr := [(h, .inr (0, [.null, .int 0, .int 0, .null, .null, .null, .int 0, .null]))]) (k := 1) (k' := 5) ⟨hx, hb, hml, hown, hts⟩ (metX2_init l D cB _ e) (cwI 0 hts (lw_meth q164) rfl rfl rfl (hts _ q6) (hts _ q162) (hts _ q163) rfl (by decide +kernel) ⟨Nat.le_of_ble_eq_true rfl, Nat.le_of_ble_eq_true rfl⟩) ⟨hK, hP, hD, hS, hA⟩ [1] [0] ⟨rfl, rfl, rfl, rfl, by decide⟩ hb_bl (fun _ _ _ => trivial) rfl hl.1 rfl (Nat.le_of_ble_eq_true rfl) dX1_init_9 ⟨Nat.le_of_ble_eq_true rfl, Nat.le_of_ble_eq_true rfl⟩ ⟨Nat.le_of_ble_eq_true rfl, Nat.le_of_ble_eq_true rfl⟩ (fun w_1 H locs hw hP hD hS => ?_)
  obtain rfl := hw
  have hP : va_P D vwCl [(h, .inr (0, [.null, .int 0, .int 0, .null, .null, .null, .int 0, .null])), (e, .inr (1, [.null, .int 0, .int 0, .null, .int 0]))] H := hP
  have hD : va_D A [(h, .inr (0, [.null, .int 0, .int 0, .null, .null, .null, .int 0, .null])), (e, .inr (1, [.null, .int 0, .int 0, .null, .int 0]))] := hD
  refine hb_put1 (wn := [(h, .inr (0, [.ref e, .int 0, .int 0, .null, .null, .null, .int 0, .null])), (e, .inr (1, [.null, .int 0, .int 0, .null, .int 0]))]) hx hb hts hown hK hP hD hS 0 rfl 0 (by decide) q182 rfl (v := .ref e) rfl rfl (Nat.le_of_ble_eq_true rfl) rfl dX1_init_12 (fun H locs hP hD hS => ?_)
  refine lv_aload_n hx hb dX1_init_15 rfl (lv_at hl 0 rfl) ?_
  refine lv_bipush (v := nI 32) hx hb dX1_init_16 (by decide) ?_
  refine hb_newB (k := 2) (k' := 37) (N := 32) hx hb hts hK hP hD hS hA (by decide) ⟨Nat.le_of_ble_eq_true rfl, Nat.le_of_ble_eq_true rfl⟩ ⟨Nat.le_of_ble_eq_true rfl, Nat.le_of_ble_eq_true rfl⟩ dX1_init_18 (fun ky H hP hD hS => ?_)
  have hP : va_P D vwCl [(h, .inr (0, [.ref e, .int 0, .int 0, .null, .null, .null, .int 0, .null])), (e, .inr (1, [.null, .int 0, .int 0, .null, .int 0])), (ky, .inl (cB, 32, .inl (fun _ => 0)))] H := hP
  have hD : va_D A [(h, .inr (0, [.ref e, .int 0, .int 0, .null, .null, .null, .int 0, .null])), (e, .inr (1, [.null, .int 0, .int 0, .null, .int 0])), (ky, .inl (cB, 32, .inl (fun _ => 0)))] := hD
  refine hb_putF (wn := [(h, .inr (0, [.ref e, .int 0, .int 0, .ref ky, .null, .null, .int 0, .null])), (e, .inr (1, [.null, .int 0, .int 0, .null, .int 0])), (ky, .inl (cB, 32, .inl (fun _ => 0)))]) hx hb hts hown hin hK hP hD hS 0 rfl 3 (by decide) q185 rfl (v := .ref ky) rfl rfl (Nat.le_of_ble_eq_true rfl) rfl dX1_init_20 (fun H locs hP hD hS => ?_)
  refine lv_aload_n hx hb dX1_init_23 rfl (lv_at hl 0 rfl) ?_
  refine lv_bipush (v := nI 16) hx hb dX1_init_24 (by decide) ?_
  refine hb_newB (k := 3) (k' := 53) (N := 16) hx hb hts hK hP hD hS hA (by decide) ⟨Nat.le_of_ble_eq_true rfl, Nat.le_of_ble_eq_true rfl⟩ ⟨Nat.le_of_ble_eq_true rfl, Nat.le_of_ble_eq_true rfl⟩ dX1_init_26 (fun no H hP hD hS => ?_)
  have hP : va_P D vwCl [(h, .inr (0, [.ref e, .int 0, .int 0, .ref ky, .null, .null, .int 0, .null])), (e, .inr (1, [.null, .int 0, .int 0, .null, .int 0])), (ky, .inl (cB, 32, .inl (fun _ => 0))), (no, .inl (cB, 16, .inl (fun _ => 0)))] H := hP
  have hD : va_D A [(h, .inr (0, [.ref e, .int 0, .int 0, .ref ky, .null, .null, .int 0, .null])), (e, .inr (1, [.null, .int 0, .int 0, .null, .int 0])), (ky, .inl (cB, 32, .inl (fun _ => 0))), (no, .inl (cB, 16, .inl (fun _ => 0)))] := hD
  refine hb_putF (wn := [(h, .inr (0, [.ref e, .int 0, .int 0, .ref ky, .ref no, .null, .int 0, .null])), (e, .inr (1, [.null, .int 0, .int 0, .null, .int 0])), (ky, .inl (cB, 32, .inl (fun _ => 0))), (no, .inl (cB, 16, .inl (fun _ => 0)))]) hx hb hts hown hin hK hP hD hS 0 rfl 4 (by decide) q186 rfl (v := .ref no) rfl rfl (Nat.le_of_ble_eq_true rfl) rfl dX1_init_28 (fun H locs hP hD hS => ?_)
  refine lv_aload_n hx hb dX1_init_31 rfl (lv_at hl 0 rfl) ?_
  refine lv_sipush (v := nI 256) hx hb dX1_init_32 (by decide) ?_
  refine hb_newB (k := 4) (k' := 309) (N := 256) hx hb hts hK hP hD hS hA (by decide) ⟨Nat.le_of_ble_eq_true rfl, Nat.le_of_ble_eq_true rfl⟩ ⟨Nat.le_of_ble_eq_true rfl, Nat.le_of_ble_eq_true rfl⟩ dX1_init_35 (fun tx H hP hD hS => ?_)
  have hP : va_P D vwCl [(h, .inr (0, [.ref e, .int 0, .int 0, .ref ky, .ref no, .null, .int 0, .null])), (e, .inr (1, [.null, .int 0, .int 0, .null, .int 0])), (ky, .inl (cB, 32, .inl (fun _ => 0))), (no, .inl (cB, 16, .inl (fun _ => 0))), (tx, .inl (cB, 256, .inl (fun _ => 0)))] H := hP
  have hD : va_D A [(h, .inr (0, [.ref e, .int 0, .int 0, .ref ky, .ref no, .null, .int 0, .null])), (e, .inr (1, [.null, .int 0, .int 0, .null, .int 0])), (ky, .inl (cB, 32, .inl (fun _ => 0))), (no, .inl (cB, 16, .inl (fun _ => 0))), (tx, .inl (cB, 256, .inl (fun _ => 0)))] := hD
  refine hb_putF (wn := [(h, .inr (0, [.ref e, .int 0, .int 0, .ref ky, .ref no, .ref tx, .int 0, .null])), (e, .inr (1, [.null, .int 0, .int 0, .null, .int 0])), (ky, .inl (cB, 32, .inl (fun _ => 0))), (no, .inl (cB, 16, .inl (fun _ => 0))), (tx, .inl (cB, 256, .inl (fun _ => 0)))]) hx hb hts hown hin hK hP hD hS 0 rfl 5 (by decide) q187 rfl (v := .ref tx) rfl rfl (Nat.le_of_ble_eq_true rfl) rfl dX1_init_37 (fun H locs hP hD hS => ?_)
  refine lv_aload_n hx hb dX1_init_40 rfl (lv_at hl 0 rfl) ?_
  refine lv_iconst (v := nI 0) hx hb dX1_init_41 (by decide) ?_
  refine hb_newB (k := 5) (k' := 309) (N := 0) hx hb hts hK hP hD hS hA (by decide) ⟨Nat.le_of_ble_eq_true rfl, Nat.le_of_ble_eq_true rfl⟩ ⟨Nat.le_of_ble_eq_true rfl, Nat.le_of_ble_eq_true rfl⟩ dX1_init_42 (fun ou H hP hD hS => ?_)
  have hP : va_P D vwCl [(h, .inr (0, [.ref e, .int 0, .int 0, .ref ky, .ref no, .ref tx, .int 0, .null])), (e, .inr (1, [.null, .int 0, .int 0, .null, .int 0])), (ky, .inl (cB, 32, .inl (fun _ => 0))), (no, .inl (cB, 16, .inl (fun _ => 0))), (tx, .inl (cB, 256, .inl (fun _ => 0))), (ou, .inl (cB, 0, .inl (fun _ => 0)))] H := hP
  have hD : va_D A [(h, .inr (0, [.ref e, .int 0, .int 0, .ref ky, .ref no, .ref tx, .int 0, .null])), (e, .inr (1, [.null, .int 0, .int 0, .null, .int 0])), (ky, .inl (cB, 32, .inl (fun _ => 0))), (no, .inl (cB, 16, .inl (fun _ => 0))), (tx, .inl (cB, 256, .inl (fun _ => 0))), (ou, .inl (cB, 0, .inl (fun _ => 0)))] := hD
  refine hb_put1 (wn := [(h, .inr (0, [.ref e, .int 0, .int 0, .ref ky, .ref no, .ref tx, .int 0, .ref ou])), (e, .inr (1, [.null, .int 0, .int 0, .null, .int 0])), (ky, .inl (cB, 32, .inl (fun _ => 0))), (no, .inl (cB, 16, .inl (fun _ => 0))), (tx, .inl (cB, 256, .inl (fun _ => 0))), (ou, .inl (cB, 0, .inl (fun _ => 0)))]) hx hb hts hown hK hP hD hS 0 rfl 7 (by decide) q189 rfl (v := .ref ou) rfl rfl (Nat.le_of_ble_eq_true rfl) rfl dX1_init_44 (fun H locs hP hD hS => ?_)
  exact hb_retv hx hb hr hlk hK hP hD hS ⟨e, ky, no, tx, ou, rfl⟩ ⟨Nat.le_of_ble_eq_true rfl, Nat.le_of_ble_eq_true rfl⟩ dX1_init_47
set_option maxHeartbeats 4000000 in
set_option maxRecDepth 100000 in
theorem bg_loop {p : Program} {l : Launch} {e_0 : Env} {R : Room} {s : State} {m : MethodId} {args : Array Value} {below : List Frame} {meth : Method} {c : Code} {Q : State → Prop} {D : va_G} {cB : ClassId} {A : Nat → Prop} {H0 : Heap} {cells slots : Nat} (hx : p.tables.exec = Jvm.exec) (hb : c.code = cX1_begin) (hts : ∀ w ∈ lw_all, w.before args s = true) (hown : s.vm.findClass RX1 = some m.cls) (hK : va_K D vwCl [(cB, .byte)] s) (h ky k_ n : Nat) (v0 v1 v2 v4 v5 v6 v7 : Value) (f : Nat → Int32) (hn : 0 < n ∧ n ≤ 32) (kk : ∀ (H : Heap) (locs : List Loc) (ls : Array Slot), va_P D vwCl [(h, .inr (0, [v0, v1, v2, .ref ky, v4, v5, v6, v7])), (ky, .inl (cB, 32, .inl f)), (k_, .inl (cB, n, .inl (fI (fun j => b8 (f j)) (fun _ => 0) n)))] H → va_D A [(h, .inr (0, [v0, v1, v2, .ref ky, v4, v5, v6, v7])), (ky, .inl (cB, 32, .inl f)), (k_, .inl (cB, n, .inl (fI (fun j => b8 (f j)) (fun _ => 0) n)))] → va_S A H0 H locs → lv_has ls 4 [(0, .ref h), (2, .ref k_), (3, .int (nI n))] → W p l e_0 R s m args below meth c H locs cells slots Q (F0 m 32 ls [])) :
    ∀ (k i : Nat), i + k = n → ∀ (H : Heap) (locs : List Loc) (ls : Array Slot), va_P D vwCl [(h, .inr (0, [v0, v1, v2, .ref ky, v4, v5, v6, v7])), (ky, .inl (cB, 32, .inl f)), (k_, .inl (cB, n, .inl (fI (fun j => b8 (f j)) (fun _ => 0) i)))] H → va_D A [(h, .inr (0, [v0, v1, v2, .ref ky, v4, v5, v6, v7])), (ky, .inl (cB, 32, .inl f)), (k_, .inl (cB, n, .inl (fI (fun j => b8 (f j)) (fun _ => 0) i)))] → va_S A H0 H locs → lv_has ls 4 [(0, .ref h), (2, .ref k_), (3, .int (nI i))] → W p l e_0 R s m args below meth c H locs cells slots Q (F0 m 11 ls []) := by
  intro k
  induction k with
  | zero =>
    intro i hi H locs ls hP hD hS hl
    obtain rfl : i = n := by omega
    refine lv_iload_n hx hb dX1_begin_11 rfl (lv_at hl 2 rfl) ?_
    refine lv_aload_n hx hb dX1_begin_12 rfl (lv_at hl 1 rfl) ?_
    refine hb_alen hx hb hK hP 2 rfl dX1_begin_13 ?_
    refine lv_icmp_ge (tgt := 32) hx hb dX1_begin_14 (by decide) (fun c_14 => ?_) (fun c_14 => absurd (nI_le (Nat.le_refl i) (by omega)) c_14)
    exact kk H locs ls hP hD hS hl
  | succ k ih =>
    intro i hi H locs ls hP hD hS hl
    have hi1 : i < n := by omega
    refine lv_iload_n hx hb dX1_begin_11 rfl (lv_at hl 2 rfl) ?_
    refine lv_aload_n hx hb dX1_begin_12 rfl (lv_at hl 1 rfl) ?_
    refine hb_alen hx hb hK hP 2 rfl dX1_begin_13 ?_
    refine lv_icmp_ge (tgt := 32) hx hb dX1_begin_14 (by decide) (fun c_14 => absurd c_14 (nI_ge hi1 (by omega))) (fun c_14 => ?_)
    refine lv_aload_n hx hb dX1_begin_17 rfl (lv_at hl 1 rfl) ?_
    refine lv_iload_n hx hb dX1_begin_18 rfl (lv_at hl 2 rfl) ?_
    refine lv_aload_n hx hb dX1_begin_19 rfl (lv_at hl 0 rfl) ?_
    refine hb_get1 hx hb hts hown hK hP 0 rfl 3 (by decide) q185 (v := .ref ky) rfl dX1_begin_20 ?_
    refine lv_iload_n hx hb dX1_begin_23 rfl (lv_at hl 2 rfl) ?_
    refine hb_bald (j := i) hx hb hK hP 1 rfl (by omega) (by decide) (f i) rfl dX1_begin_24 ?_
    refine hb_bast (wn := [(h, .inr (0, [v0, v1, v2, .ref ky, v4, v5, v6, v7])), (ky, .inl (cB, 32, .inl f)), (k_, .inl (cB, n, .inl (fI (fun j => b8 (f j)) (fun _ => 0) (i + 1))))]) (j := i) hx hb hK hP hD hS 2 rfl hi1 (by omega) (fI (fun j => b8 (f j)) (fun _ => 0) (i + 1)) (fI_s _ _ _ _ rfl) rfl dX1_begin_25 (fun H locs hP hD hS => ?_)
    refine lv_iinc (v := nI (i + 1)) (lv' := [(3, .int (nI (i + 1))), (0, .ref h), (2, .ref k_)]) hx hb dX1_begin_26 hl (k := 2) rfl (nI_1 i) (by decide) rfl (fun ls hl => ?_)
    refine lv_goto (tgt := 11) hx hb dX1_begin_29 (by decide) ?_
    exact ih (i + 1) (by omega) H locs ls hP hD hS (lv_sub hl [1, 2, 0] rfl)
set_option maxHeartbeats 4000000 in
set_option maxRecDepth 100000 in
/-- begin(x): a new engine, the key schedule of the first kN x bytes of the key -/
theorem metX1_begin (l : Launch) (D : va_G) (cB : ClassId) (sz : Nat) (h ky : Nat) (v0 v1 v2 v4 v5 v6 v7 : Value) (f : Nat → Int32) (x : Int32) : hb_Mv l yX1_begin (ws_ yX1_begin cX1_begin 4 none) { frames := 4, cells := 5, slots := 330, locals := 120 } D cB sz [.ref h, .int x] [(h, .inr (0, [v0, v1, v2, .ref ky, v4, v5, v6, v7])), (ky, .inl (cB, 32, .inl f))] hb_T (fun w => ∃ e wk st : Nat, w = [(h, .inr (0, [.ref e, .int 1, .int (nI 0), .ref ky, v4, v5, v6, v7])), (ky, .inl (cB, 32, .inl f)), (e, .inr (1, [.ref st, .int (nI (k0 (kN x) (fun j => b8 (f j))).1), .int (nI (k0 (kN x) (fun j => b8 (f j))).2.1), .ref wk, .int 1])), (wk, .inl (cB, kN x, .inl (fun j => b8 (f j)))), (st, .inl (cB, 256, .inl ((k0 (kN x) (fun j => b8 (f j))).2.2)))]) := by
  refine hb_startG (Qc := hb_Qv D cB _) (by decide) (Nat.le_of_ble_eq_true rfl) ?_
  intro p e_0 s m args below meth c A hAt hIn hsz hXs ls hl
  obtain ⟨hx, hb, hr, hlk, hml, hown, hts, hin⟩ := hAt
  obtain ⟨hK, hP, hD, hA, hS, hof⟩ := hIn
  have hown : s.vm.findClass RX1 = some m.cls := hown
  have hl : lv_has ls 4 [(0, .ref h), (1, .int x)] := hl
  have hkn := kN_in x
  refine lv_iconst (v := 1) hx hb dX1_begin_0 (by decide) ?_
  refine lv_iload_n hx hb dX1_begin_1 rfl (lv_at hl 1 rfl) ?_
  refine lv_bipush (v := 31) hx hb dX1_begin_2 (by decide) ?_
  refine lv_iand hx hb dX1_begin_4 ?_
  refine lv_iadd hx hb dX1_begin_5 ?_
  refine hb_top (nI (kN x)) (kN_and x) ?_
  refine hb_newB (k := 1) (k' := 32) (N := kN x) hx hb hts hK hP hD hS hA (by omega) ⟨Nat.le_refl _, by omega⟩ ⟨Nat.le_of_ble_eq_true rfl, Nat.le_of_ble_eq_true rfl⟩ dX1_begin_6 (fun k_ H hP hD hS => ?_)
  have hP : va_P D vwCl [(h, .inr (0, [v0, v1, v2, .ref ky, v4, v5, v6, v7])), (ky, .inl (cB, 32, .inl f)), (k_, .inl (cB, kN x, .inl (fun _ => 0)))] H := hP
  have hD : va_D A [(h, .inr (0, [v0, v1, v2, .ref ky, v4, v5, v6, v7])), (ky, .inl (cB, 32, .inl f)), (k_, .inl (cB, kN x, .inl (fun _ => 0)))] := hD
  refine lv_astore_n (lv' := [(2, .ref k_), (0, .ref h), (1, .int x)]) hx hb dX1_begin_8 rfl hl (by decide) rfl (fun ls hl => ?_)
  refine lv_iconst (v := nI 0) hx hb dX1_begin_9 (by decide) ?_
  refine lv_istore_n (lv' := [(3, .int (nI 0)), (2, .ref k_), (0, .ref h), (1, .int x)]) hx hb dX1_begin_10 rfl hl (by decide) rfl (fun ls hl => ?_)
  refine bg_loop hx hb hts hown hK h ky k_ (kN x) v0 v1 v2 v4 v5 v6 v7 f hkn (fun H locs ls hP hD hS hl => ?_) (kN x) 0 (by omega) _ _ _ (by rw [fI_0]; exact hP) (by rw [fI_0]; exact hD) hS (lv_sub hl [2, 1, 0] rfl)
  obtain ⟨hP, hD⟩ := hb_ext (wn := [(h, .inr (0, [v0, v1, v2, .ref ky, v4, v5, v6, v7])), (ky, .inl (cB, 32, .inl f)), (k_, .inl (cB, kN x, .inl (fun j => b8 (f j))))]) hP hD 2 (fun j => b8 (f j)) rfl (fun j hj => fI_lt _ _ hj) rfl
  refine hb_new3 (k := 2) (k' := 33) hx hb hts hown q230 hK hP hD hS hA ⟨Nat.le_of_ble_eq_true rfl, Nat.le_of_ble_eq_true rfl⟩ ⟨Nat.le_of_ble_eq_true rfl, Nat.le_of_ble_eq_true rfl⟩ dX1_begin_32 (fun p0 H hP hD hS => ?_)
  have hP : va_P D vwCl [(h, .inr (0, [v0, v1, v2, .ref ky, v4, v5, v6, v7])), (ky, .inl (cB, 32, .inl f)), (k_, .inl (cB, kN x, .inl (fun j => b8 (f j)))), (p0, .inr (2, [.null]))] H := hP
  have hD : va_D A [(h, .inr (0, [v0, v1, v2, .ref ky, v4, v5, v6, v7])), (ky, .inl (cB, 32, .inl f)), (k_, .inl (cB, kN x, .inl (fun j => b8 (f j)))), (p0, .inr (2, [.null]))] := hD
  refine lv_dup hx hb dX1_begin_35 rfl ?_
  refine lv_aload_n hx hb dX1_begin_36 rfl (lv_at hl 1 rfl) ?_
  refine hb_Iv (As := [.ref k_]) (rest := [.ref p0]) (wc := [(p0, .inr (2, [.null])), (k_, .inl (cB, kN x, .inl (fun j => b8 (f j))))]) (wr := [(h, .inr (0, [v0, v1, v2, .ref ky, v4, v5, v6, v7])), (ky, .inl (cB, 32, .inl f))]) (k := 3) (k' := 65) ⟨hx, hb, hml, hown, hts⟩ (metX3_init l D cB _ p0 k_ (kN x) (fun j => b8 (f j)) hkn.2 (fun i _ => b8_fit _)) (cwI 1 hts (lw_meth q234) rfl rfl rfl (hts _ q7) (hts _ q232) (hts _ q233) rfl (by decide +kernel) ⟨Nat.le_of_ble_eq_true rfl, Nat.le_of_ble_eq_true rfl⟩) ⟨hK, hP, hD, hS, hA⟩ [3, 2] [0, 1] ⟨rfl, rfl, rfl, rfl, by decide⟩ hb_bl (fun _ _ _ => trivial) rfl hl.1 rfl (Nat.le_of_ble_eq_true rfl) dX1_begin_37 ⟨Nat.le_of_ble_eq_true rfl, Nat.le_of_ble_eq_true rfl⟩ ⟨Nat.le_of_ble_eq_true rfl, Nat.le_of_ble_eq_true rfl⟩ (fun w_1 H locs hw hP hD hS => ?_)
  obtain ⟨wk, rfl⟩ := hw
  have hP : va_P D vwCl [(h, .inr (0, [v0, v1, v2, .ref ky, v4, v5, v6, v7])), (ky, .inl (cB, 32, .inl f)), (k_, .inl (cB, kN x, .inl (fun j => b8 (f j)))), (p0, .inr (2, [.ref wk])), (wk, .inl (cB, kN x, .inl (fun j => b8 (f j))))] H := hP
  have hD : va_D A [(h, .inr (0, [v0, v1, v2, .ref ky, v4, v5, v6, v7])), (ky, .inl (cB, 32, .inl f)), (k_, .inl (cB, kN x, .inl (fun j => b8 (f j)))), (p0, .inr (2, [.ref wk])), (wk, .inl (cB, kN x, .inl (fun j => b8 (f j))))] := hD
  refine lv_astore_n (lv' := [(3, .ref p0), (0, .ref h), (2, .ref k_)]) hx hb dX1_begin_40 rfl hl (by decide) rfl (fun ls hl => ?_)
  refine lv_aload_n hx hb dX1_begin_41 rfl (lv_at hl 1 rfl) ?_
  refine hb_new2 (k := 4) (k' := 70) hx hb hts hown q161 hK hP hD hS hA ⟨Nat.le_of_ble_eq_true rfl, Nat.le_of_ble_eq_true rfl⟩ ⟨Nat.le_of_ble_eq_true rfl, Nat.le_of_ble_eq_true rfl⟩ dX1_begin_42 (fun e H hP hD hS => ?_)
  have hP : va_P D vwCl [(h, .inr (0, [v0, v1, v2, .ref ky, v4, v5, v6, v7])), (ky, .inl (cB, 32, .inl f)), (k_, .inl (cB, kN x, .inl (fun j => b8 (f j)))), (p0, .inr (2, [.ref wk])), (wk, .inl (cB, kN x, .inl (fun j => b8 (f j)))), (e, .inr (1, [.null, .int 0, .int 0, .null, .int 0]))] H := hP
  have hD : va_D A [(h, .inr (0, [v0, v1, v2, .ref ky, v4, v5, v6, v7])), (ky, .inl (cB, 32, .inl f)), (k_, .inl (cB, kN x, .inl (fun j => b8 (f j)))), (p0, .inr (2, [.ref wk])), (wk, .inl (cB, kN x, .inl (fun j => b8 (f j)))), (e, .inr (1, [.null, .int 0, .int 0, .null, .int 0]))] := hD
  refine lv_dup hx hb dX1_begin_45 rfl ?_
  refine hb_Iv (As := []) (rest := [.ref e, .ref h]) (wc := [(e, .inr (1, [.null, .int 0, .int 0, .null, .int 0]))]) (wr := [(h, .inr (0, [v0, v1, v2, .ref ky, v4, v5, v6, v7])), (ky, .inl (cB, 32, .inl f)), (k_, .inl (cB, kN x, .inl (fun j => b8 (f j)))), (p0, .inr (2, [.ref wk])), (wk, .inl (cB, kN x, .inl (fun j => b8 (f j))))]) (k := 4) (k' := 70) ⟨hx, hb, hml, hown, hts⟩ (metX2_init l D cB _ e) (cwI 0 hts (lw_meth q164) rfl rfl rfl (hts _ q6) (hts _ q162) (hts _ q163) rfl (by decide +kernel) ⟨Nat.le_of_ble_eq_true rfl, Nat.le_of_ble_eq_true rfl⟩) ⟨hK, hP, hD, hS, hA⟩ [5] [0, 1, 2, 3, 4] ⟨rfl, rfl, rfl, rfl, by decide⟩ hb_bl (fun _ _ _ => trivial) rfl hl.1 rfl (Nat.le_of_ble_eq_true rfl) dX1_begin_46 ⟨Nat.le_of_ble_eq_true rfl, Nat.le_of_ble_eq_true rfl⟩ ⟨Nat.le_of_ble_eq_true rfl, Nat.le_of_ble_eq_true rfl⟩ (fun w_1 H locs hw hP hD hS => ?_)
  obtain rfl := hw
  have hP : va_P D vwCl [(h, .inr (0, [v0, v1, v2, .ref ky, v4, v5, v6, v7])), (ky, .inl (cB, 32, .inl f)), (k_, .inl (cB, kN x, .inl (fun j => b8 (f j)))), (p0, .inr (2, [.ref wk])), (wk, .inl (cB, kN x, .inl (fun j => b8 (f j)))), (e, .inr (1, [.null, .int 0, .int 0, .null, .int 0]))] H := hP
  have hD : va_D A [(h, .inr (0, [v0, v1, v2, .ref ky, v4, v5, v6, v7])), (ky, .inl (cB, 32, .inl f)), (k_, .inl (cB, kN x, .inl (fun j => b8 (f j)))), (p0, .inr (2, [.ref wk])), (wk, .inl (cB, kN x, .inl (fun j => b8 (f j)))), (e, .inr (1, [.null, .int 0, .int 0, .null, .int 0]))] := hD
  refine hb_put1 (wn := [(h, .inr (0, [.ref e, v1, v2, .ref ky, v4, v5, v6, v7])), (ky, .inl (cB, 32, .inl f)), (k_, .inl (cB, kN x, .inl (fun j => b8 (f j)))), (p0, .inr (2, [.ref wk])), (wk, .inl (cB, kN x, .inl (fun j => b8 (f j)))), (e, .inr (1, [.null, .int 0, .int 0, .null, .int 0]))]) hx hb hts hown hK hP hD hS 0 rfl 0 (by decide) q182 rfl (v := .ref e) rfl rfl (Nat.le_of_ble_eq_true rfl) rfl dX1_begin_49 (fun H locs hP hD hS => ?_)
  refine lv_aload_n hx hb dX1_begin_52 rfl (lv_at hl 1 rfl) ?_
  refine hb_get1 hx hb hts hown hK hP 0 rfl 0 (by decide) q182 (v := .ref e) rfl dX1_begin_53 ?_
  refine lv_iconst (v := 1) hx hb dX1_begin_56 (by decide) ?_
  refine lv_aload_n hx hb dX1_begin_57 rfl (lv_at hl 0 rfl) ?_
  refine hb_Vv (As := [.int 1, .ref p0]) (rest := []) (wc := [(e, .inr (1, [.null, .int 0, .int 0, .null, .int 0])), (p0, .inr (2, [.ref wk])), (wk, .inl (cB, kN x, .inl (fun j => b8 (f j))))]) (wr := [(h, .inr (0, [.ref e, v1, v2, .ref ky, v4, v5, v6, v7])), (ky, .inl (cB, 32, .inl f)), (k_, .inl (cB, kN x, .inl (fun j => b8 (f j))))]) (k := 5) (k' := 326) ⟨hx, hb, hml, hown, hts⟩ (metX2_init_2 l D cB _ e p0 wk (kN x) (fun j => b8 (f j)) hkn) (cwV 2 hts (lw_V q249 q250 q251 q6 q252) rfl rfl rfl (by decide +kernel) ⟨Nat.le_of_ble_eq_true rfl, Nat.le_of_ble_eq_true rfl⟩) ⟨hK, hP, hD, hS, hA⟩ [5, 3, 4] [0, 1, 2] ⟨rfl, rfl, rfl, rfl, by decide⟩ (va_recv hK hP (ci := 1) (q0 := 5) rfl rfl) hb_bl (fun _ _ _ => trivial) rfl hl.1 rfl (Nat.le_of_ble_eq_true rfl) dX1_begin_58 ⟨Nat.le_of_ble_eq_true rfl, Nat.le_of_ble_eq_true rfl⟩ ⟨Nat.le_of_ble_eq_true rfl, Nat.le_of_ble_eq_true rfl⟩ (fun w_1 H locs hw hP hD hS => ?_)
  obtain ⟨st, rfl⟩ := hw
  have hP : va_P D vwCl [(h, .inr (0, [.ref e, v1, v2, .ref ky, v4, v5, v6, v7])), (ky, .inl (cB, 32, .inl f)), (k_, .inl (cB, kN x, .inl (fun j => b8 (f j)))), (p0, .inr (2, [.ref wk])), (e, .inr (1, [.ref st, .int (nI (k0 (kN x) (fun j => b8 (f j))).1), .int (nI (k0 (kN x) (fun j => b8 (f j))).2.1), .ref wk, .int 1])), (wk, .inl (cB, kN x, .inl (fun j => b8 (f j)))), (st, .inl (cB, 256, .inl ((k0 (kN x) (fun j => b8 (f j))).2.2)))] H := hP
  have hD : va_D A [(h, .inr (0, [.ref e, v1, v2, .ref ky, v4, v5, v6, v7])), (ky, .inl (cB, 32, .inl f)), (k_, .inl (cB, kN x, .inl (fun j => b8 (f j)))), (p0, .inr (2, [.ref wk])), (e, .inr (1, [.ref st, .int (nI (k0 (kN x) (fun j => b8 (f j))).1), .int (nI (k0 (kN x) (fun j => b8 (f j))).2.1), .ref wk, .int 1])), (wk, .inl (cB, kN x, .inl (fun j => b8 (f j)))), (st, .inl (cB, 256, .inl ((k0 (kN x) (fun j => b8 (f j))).2.2)))] := hD
  refine lv_aload_n hx hb dX1_begin_61 rfl (lv_at hl 1 rfl) ?_
  refine lv_iconst (v := 1) hx hb dX1_begin_62 (by decide) ?_
  refine hb_put1 (wn := [(h, .inr (0, [.ref e, .int 1, v2, .ref ky, v4, v5, v6, v7])), (ky, .inl (cB, 32, .inl f)), (k_, .inl (cB, kN x, .inl (fun j => b8 (f j)))), (p0, .inr (2, [.ref wk])), (e, .inr (1, [.ref st, .int (nI (k0 (kN x) (fun j => b8 (f j))).1), .int (nI (k0 (kN x) (fun j => b8 (f j))).2.1), .ref wk, .int 1])), (wk, .inl (cB, kN x, .inl (fun j => b8 (f j)))), (st, .inl (cB, 256, .inl ((k0 (kN x) (fun j => b8 (f j))).2.2)))]) hx hb hts hown hK hP hD hS 0 rfl 1 (by decide) q183 rfl (v := .int 1) rfl rfl (Nat.le_of_ble_eq_true rfl) rfl dX1_begin_63 (fun H locs hP hD hS => ?_)
  refine lv_aload_n hx hb dX1_begin_66 rfl (lv_at hl 1 rfl) ?_
  refine lv_iconst (v := nI 0) hx hb dX1_begin_67 (by decide) ?_
  refine hb_put1 (wn := [(h, .inr (0, [.ref e, .int 1, .int (nI 0), .ref ky, v4, v5, v6, v7])), (ky, .inl (cB, 32, .inl f)), (k_, .inl (cB, kN x, .inl (fun j => b8 (f j)))), (p0, .inr (2, [.ref wk])), (e, .inr (1, [.ref st, .int (nI (k0 (kN x) (fun j => b8 (f j))).1), .int (nI (k0 (kN x) (fun j => b8 (f j))).2.1), .ref wk, .int 1])), (wk, .inl (cB, kN x, .inl (fun j => b8 (f j)))), (st, .inl (cB, 256, .inl ((k0 (kN x) (fun j => b8 (f j))).2.2)))]) hx hb hts hown hK hP hD hS 0 rfl 2 (by decide) q184 rfl (v := .int (nI 0)) rfl rfl (Nat.le_of_ble_eq_true rfl) rfl dX1_begin_68 (fun H locs hP hD hS => ?_)
  have hP := hb_Psub (ws' := [(h, .inr (0, [.ref e, .int 1, .int (nI 0), .ref ky, v4, v5, v6, v7])), (ky, .inl (cB, 32, .inl f)), (e, .inr (1, [.ref st, .int (nI (k0 (kN x) (fun j => b8 (f j))).1), .int (nI (k0 (kN x) (fun j => b8 (f j))).2.1), .ref wk, .int 1])), (wk, .inl (cB, kN x, .inl (fun j => b8 (f j)))), (st, .inl (cB, 256, .inl ((k0 (kN x) (fun j => b8 (f j))).2.2)))]) hP [0, 1, 4, 5, 6] rfl
  have hD := hD.sub (ws' := [(h, .inr (0, [.ref e, .int 1, .int (nI 0), .ref ky, v4, v5, v6, v7])), (ky, .inl (cB, 32, .inl f)), (e, .inr (1, [.ref st, .int (nI (k0 (kN x) (fun j => b8 (f j))).1), .int (nI (k0 (kN x) (fun j => b8 (f j))).2.1), .ref wk, .int 1])), (wk, .inl (cB, kN x, .inl (fun j => b8 (f j)))), (st, .inl (cB, 256, .inl ((k0 (kN x) (fun j => b8 (f j))).2.2)))]) [0, 1, 4, 5, 6] (by decide) rfl
  exact hb_retv hx hb hr hlk hK hP hD hS ⟨e, wk, st, rfl⟩ ⟨Nat.le_of_ble_eq_true rfl, Nat.le_of_ble_eq_true rfl⟩ dX1_begin_71
end
section
/-! cell, made, known: contracts of the law's own methods -/
set_option maxRecDepth 100000
/-- the script, read by any of the law's methods -/
abbrev hb_Xs (b L : Nat) (xs : Nat → Int32) (sz : Nat) : State → Prop := fun U => b < sz ∧ va_X b L xs U U.heap
theorem hb_blX {b L sz : Nat} {xs : Nat → Int32} : hb_Bl (hb_Xs b L xs sz) := fun U g mk a h => ⟨h.1, va_X.moved (u := U) (U := U.calling g mk a) (Vm.Alike.refl U.vm) h.2⟩
theorem hb_gX {s : State} {b L : Nat} {xs : Nat → Int32} {A : Nat → Prop} {H : Heap} {locs : List Loc} (hX : va_X b L xs s s.heap) (hbs : b < s.heap.size) (hbA : ¬ A b) (hS : va_S A s.heap H locs) : ∀ U : State, U.heap = H → s.WarmedH U.vm → hb_Xs b L xs H.size U := by
  intro U hU hW
  refine ⟨Nat.lt_of_lt_of_le hbs hS.1, ?_⟩
  rw [hU]
  exact (hX.moved hW.alike).kept (hS.2.1 b hbs hbA)
section HI
variable {p : Program} {l : Launch} {e : Env} {R : Room} {s : State} {m : MethodId} {args : Array Value} {below : List Frame} {meth : Method} {c : Code} {H : Heap} {locs : List Loc} {cells slots : Nat} {Q : State → Prop}
variable {cc : ByteArray} {pc : Nat} {ls : Array Slot} {rest : List Value} {D : va_G} {A : Nat → Prop} {a : Nat} {ws wn : va_W} {H0 : Heap} {cB cI : ClassId}
theorem hb_iald (hx : p.tables.exec = Jvm.exec) (hb : c.code = cc) (hK : va_K D vwCl [(cB, .byte), (cI, .int)] s) (hP : va_P D vwCl ws H) (q0 : Nat) {n : Nat} {f : Nat → Int32} (ha : ws[q0]? = some (a, .inl (cI, n, .inl f))) {j : Nat} (hj : j < n) (hn : n < 2 ^ 31) (v : Int32) (hv : f j = v) (hdg : decode cc pc = .ok (.iaload, 1))
    (kk : W p l e R s m args below meth c H locs cells slots Q (F0 m (pc + 1) ls (.int v :: rest))) : W p l e R s m args below meth c H locs cells slots Q (F0 m pc ls (.int (nI j) :: .ref a :: rest)) := by
  refine va_iald hx hb hK hP q0 1 ha rfl (vp_in_nI hj hn) hdg ?_
  rw [nI_clamp (by omega), hv]
  exact kk
theorem hb_iast (hx : p.tables.exec = Jvm.exec) (hb : c.code = cc) (hK : va_K D vwCl [(cB, .byte), (cI, .int)] s) (hP : va_P D vwCl ws H) (hD : va_D A ws) (hS : va_S A H0 H locs) (q0 : Nat) {n : Nat} {f : Nat → Int32} (ha : ws[q0]? = some (a, .inl (cI, n, .inl f))) {j : Nat} {x : Int32} (hj : j < n) (hn : n < 2 ^ 31) (g : Nat → Int32) (hg : upd f j x = g) (hw : ws.set q0 (a, .inl (cI, n, .inl g)) = wn) (hdg : decode cc pc = .ok (.iastore, 1))
    (kk : ∀ (H1 : Heap) (locs1 : List Loc), va_P D vwCl wn H1 → va_D A wn → va_S A H0 H1 locs1 → W p l e R s m args below meth c H1 locs1 cells slots Q (F0 m (pc + 1) ls rest)) : W p l e R s m args below meth c H locs cells slots Q (F0 m pc ls (.int x :: .int (nI j) :: .ref a :: rest)) := by
  refine va_iast hx hb hK hP hD hS q0 1 ha rfl (vp_in_nI hj hn) hdg (fun H1 locs1 h1 h2 h3 => ?_)
  rw [nI_clamp (show j < 2 ^ 31 by omega), hg, hw] at h1 h2
  exact kk H1 locs1 h1 h2 h3
end HI
set_option maxHeartbeats 4000000 in
set_option maxRecDepth 100000 in
/-- cell(s, j) -/
theorem metX0_cell (l : Launch) (D : va_G) (cB : ClassId) (sz : Nat) (b L j : Nat) (xs : Nat → Int32) (hL : L ≤ 60) (hj : j < 2 ^ 31) : hb_Mi l yX0_cell (ws_ yX0_cell cX0_cell 2 (some .int)) { frames := 0, cells := 0, slots := 0, locals := 0 } D cB sz [.ref b, .int (nI j)] [] (hb_Xs b L xs sz) (fun r w => r = cV L xs j ∧ w = []) := by
  refine hb_startG (Qc := hb_Qi D cB _) (by decide) (Nat.le_of_ble_eq_true rfl) ?_
  intro p e_0 s m args below meth c A hAt hIn hsz hXs ls hl
  obtain ⟨hx, hb, hr, hlk, hml, hown, hts, hin⟩ := hAt
  obtain ⟨hK, hP, hD, hA, hS, hof⟩ := hIn
  have hown : s.vm.findClass RX0 = some m.cls := hown
  have hl : lv_has ls 2 [(0, .ref b), (1, .int (nI j))] := hl
  obtain ⟨hbs, hX⟩ := hXs
  subst hsz
  have hbA : ¬ A b := hof b hbs (fun k x h => by simp at h)
  refine lv_iload_n hx hb dX0_cell_0 rfl (lv_at hl 1 rfl) ?_
  refine lv_aload_n hx hb dX0_cell_1 rfl (lv_at hl 0 rfl) ?_
  refine va_slen hx hb hX hbs hbA hS dX0_cell_2 ?_
  refine lv_icmp_ge (tgt := 12) hx hb dX0_cell_3 (by decide) (fun c_3 => ?_) (fun c_3 => ?_)
  · have hLj : L ≤ j := (nI_leI (by omega) hj).mp c_3
    refine lv_iconst (v := 0) hx hb dX0_cell_12 (by decide) ?_
    exact hb_reti (v := 0) hx hb hr hlk rfl hK hP hD hS ⟨by rw [cV, if_neg (by omega)], rfl⟩ ⟨Nat.le_of_ble_eq_true rfl, Nat.le_of_ble_eq_true rfl⟩ dX0_cell_13
  · have hlt : j < L := by
      rcases Nat.lt_or_ge j L with q | q
      · exact q
      · exact absurd (nI_le q hj) c_3
    refine lv_aload_n hx hb dX0_cell_6 rfl (lv_at hl 0 rfl) ?_
    refine lv_iload_n hx hb dX0_cell_7 rfl (lv_at hl 1 rfl) ?_
    refine va_sld hx hb hX hbs hbA hS (vp_in_nI hlt (by omega)) dX0_cell_8 ?_
    refine hb_top (xs j) (by rw [nI_clamp hj]) ?_
    refine lv_goto (tgt := 13) hx hb dX0_cell_9 (by decide) ?_
    exact hb_reti (v := xs j) hx hb hr hlk rfl hK hP hD hS ⟨by rw [cV, if_pos hlt], rfl⟩ ⟨Nat.le_of_ble_eq_true rfl, Nat.le_of_ble_eq_true rfl⟩ dX0_cell_13
set_option maxHeartbeats 4000000 in
set_option maxRecDepth 100000 in
theorem md_loop {p : Program} {l : Launch} {e_0 : Env} {s : State} {m : MethodId} {args : Array Value} {below : List Frame} {meth : Method} {c : Code} {Q : State → Prop} {D : va_G} {cB : ClassId} {A : Nat → Prop} (hx : p.tables.exec = Jvm.exec) (hb : c.code = cX0_made) (hts : ∀ w ∈ lw_all, w.before args s = true) (hown : s.vm.findClass RX0 = some m.cls) (hK : va_K D vwCl [(cB, .byte)] s) (hml : c.maxLocals = 3) (hA : ∀ q : Nat, s.heap.size ≤ q → A q) {b L : Nat} {xs : Nat → Int32} (hL : L ≤ 60) (hX : va_X b L xs s s.heap) (hbs : b < s.heap.size) (hbA : ¬ A b) (h e ky no tx ou : Nat) (kk : ∀ (H : Heap) (locs : List Loc) (ls : Array Slot), va_P D vwCl [(h, .inr (0, [.ref e, .int 0, .int 0, .ref ky, .ref no, .ref tx, .int (nI (16 * 8)), .ref ou])), (e, .inr (1, [.null, .int 0, .int 0, .null, .int 0])), (ky, .inl (cB, 32, .inl (fun _ => 0))), (no, .inl (cB, 16, .inl (fun _ => 0))), (ou, .inl (cB, 0, .inl (fun _ => 0))), (tx, .inl (cB, 256, .inl (tX (cV L xs) 8)))] H → va_D A [(h, .inr (0, [.ref e, .int 0, .int 0, .ref ky, .ref no, .ref tx, .int (nI (16 * 8)), .ref ou])), (e, .inr (1, [.null, .int 0, .int 0, .null, .int 0])), (ky, .inl (cB, 32, .inl (fun _ => 0))), (no, .inl (cB, 16, .inl (fun _ => 0))), (ou, .inl (cB, 0, .inl (fun _ => 0))), (tx, .inl (cB, 256, .inl (tX (cV L xs) 8)))] → va_S A s.heap H locs → lv_has ls 3 [(0, .ref b), (1, .ref h), (2, .int (nI (20 + 4 * 8)))] → W p l e_0 ({ frames := 5, cells := 11, slots := 650, locals := 160 } : Room) s m args below meth c H locs 6 318 Q (F0 m 54 ls [])) :
    ∀ (k i : Nat), i + k = 8 → ∀ (H : Heap) (locs : List Loc) (ls : Array Slot), va_P D vwCl [(h, .inr (0, [.ref e, .int 0, .int 0, .ref ky, .ref no, .ref tx, .int (nI (16 * i)), .ref ou])), (e, .inr (1, [.null, .int 0, .int 0, .null, .int 0])), (ky, .inl (cB, 32, .inl (fun _ => 0))), (no, .inl (cB, 16, .inl (fun _ => 0))), (ou, .inl (cB, 0, .inl (fun _ => 0))), (tx, .inl (cB, 256, .inl (tX (cV L xs) i)))] H → va_D A [(h, .inr (0, [.ref e, .int 0, .int 0, .ref ky, .ref no, .ref tx, .int (nI (16 * i)), .ref ou])), (e, .inr (1, [.null, .int 0, .int 0, .null, .int 0])), (ky, .inl (cB, 32, .inl (fun _ => 0))), (no, .inl (cB, 16, .inl (fun _ => 0))), (ou, .inl (cB, 0, .inl (fun _ => 0))), (tx, .inl (cB, 256, .inl (tX (cV L xs) i)))] → va_S A s.heap H locs → lv_has ls 3 [(0, .ref b), (1, .ref h), (2, .int (nI (20 + 4 * i)))] → W p l e_0 ({ frames := 5, cells := 11, slots := 650, locals := 160 } : Room) s m args below meth c H locs 6 318 Q (F0 m 11 ls []) := by
  intro k
  induction k with
  | zero =>
    intro i hi H locs ls hP hD hS hl
    obtain rfl : i = 8 := by omega
    refine lv_iload_n hx hb dX0_made_11 rfl (lv_at hl 2 rfl) ?_
    refine lv_bipush (v := nI (20 + 4 * 8)) hx hb dX0_made_12 (by decide) ?_
    refine lv_icmp_ge (tgt := 54) hx hb dX0_made_14 (by decide) (fun c_14 => ?_) (fun c_14 => absurd (nI_le (Nat.le_refl _) (by decide)) c_14)
    exact kk H locs ls hP hD hS hl
  | succ k ih =>
    intro i hi H locs ls hP hD hS hl
    have hi1 : i < 8 := by omega
    refine lv_iload_n hx hb dX0_made_11 rfl (lv_at hl 2 rfl) ?_
    refine lv_bipush (v := nI 52) hx hb dX0_made_12 (by decide) ?_
    refine lv_icmp_ge (tgt := 54) hx hb dX0_made_14 (by decide) (fun c_14 => absurd c_14 (nI_ge (by omega) (by decide))) (fun c_14 => ?_)
    refine lv_aload_n hx hb dX0_made_17 rfl (lv_at hl 1 rfl) ?_
    refine lv_aload_n hx hb dX0_made_18 rfl (lv_at hl 0 rfl) ?_
    refine lv_iload_n hx hb dX0_made_19 rfl (lv_at hl 2 rfl) ?_
    refine hb_Si (As := [.ref b, .int (nI (20 + 4 * i))]) (rest := [.ref h]) (wc := []) (wr := [(h, .inr (0, [.ref e, .int 0, .int 0, .ref ky, .ref no, .ref tx, .int (nI (16 * i)), .ref ou])), (e, .inr (1, [.null, .int 0, .int 0, .null, .int 0])), (ky, .inl (cB, 32, .inl (fun _ => 0))), (no, .inl (cB, 16, .inl (fun _ => 0))), (ou, .inl (cB, 0, .inl (fun _ => 0))), (tx, .inl (cB, 256, .inl (tX (cV L xs) i)))]) (k := 6) (k' := 318) ⟨hx, hb, hml, hown, hts⟩ (metX0_cell l D cB _ b L (20 + 4 * i) xs hL (by omega)) (va_cwS 2 hts (lw_S q150 q151 q4 q152) rfl rfl rfl (by decide +kernel) ⟨Nat.le_of_ble_eq_true rfl, Nat.le_of_ble_eq_true rfl⟩) ⟨hK, hP, hD, hS, hA⟩ [] [0, 1, 2, 3, 4, 5] ⟨rfl, rfl, rfl, rfl, by decide⟩ hb_blX (hb_gX hX hbs hbA hS) rfl hl.1 rfl (Nat.le_of_ble_eq_true rfl) dX0_made_20 ⟨Nat.le_of_ble_eq_true rfl, Nat.le_of_ble_eq_true rfl⟩ ⟨Nat.le_of_ble_eq_true rfl, Nat.le_of_ble_eq_true rfl⟩ (fun r_20 w_1 H locs hw hP hD hS => ?_)
    obtain ⟨rfl, rfl⟩ := hw
    have hP : va_P D vwCl [(h, .inr (0, [.ref e, .int 0, .int 0, .ref ky, .ref no, .ref tx, .int (nI (16 * i)), .ref ou])), (e, .inr (1, [.null, .int 0, .int 0, .null, .int 0])), (ky, .inl (cB, 32, .inl (fun _ => 0))), (no, .inl (cB, 16, .inl (fun _ => 0))), (ou, .inl (cB, 0, .inl (fun _ => 0))), (tx, .inl (cB, 256, .inl (tX (cV L xs) i)))] H := hP
    have hD : va_D A [(h, .inr (0, [.ref e, .int 0, .int 0, .ref ky, .ref no, .ref tx, .int (nI (16 * i)), .ref ou])), (e, .inr (1, [.null, .int 0, .int 0, .null, .int 0])), (ky, .inl (cB, 32, .inl (fun _ => 0))), (no, .inl (cB, 16, .inl (fun _ => 0))), (ou, .inl (cB, 0, .inl (fun _ => 0))), (tx, .inl (cB, 256, .inl (tX (cV L xs) i)))] := hD
    refine lv_aload_n hx hb dX0_made_23 rfl (lv_at hl 0 rfl) ?_
    refine lv_iload_n hx hb dX0_made_24 rfl (lv_at hl 2 rfl) ?_
    refine lv_iconst (v := 1) hx hb dX0_made_25 (by decide) ?_
    refine lv_iadd hx hb dX0_made_26 ?_
    refine hb_top (nI (20 + 4 * i + 1)) (nI_1 _) ?_
    refine hb_Si (As := [.ref b, .int (nI (20 + 4 * i + 1))]) (rest := [.int (cV L xs (20 + 4 * i)), .ref h]) (wc := []) (wr := [(h, .inr (0, [.ref e, .int 0, .int 0, .ref ky, .ref no, .ref tx, .int (nI (16 * i)), .ref ou])), (e, .inr (1, [.null, .int 0, .int 0, .null, .int 0])), (ky, .inl (cB, 32, .inl (fun _ => 0))), (no, .inl (cB, 16, .inl (fun _ => 0))), (ou, .inl (cB, 0, .inl (fun _ => 0))), (tx, .inl (cB, 256, .inl (tX (cV L xs) i)))]) (k := 6) (k' := 318) ⟨hx, hb, hml, hown, hts⟩ (metX0_cell l D cB _ b L (20 + 4 * i + 1) xs hL (by omega)) (va_cwS 2 hts (lw_S q150 q151 q4 q152) rfl rfl rfl (by decide +kernel) ⟨Nat.le_of_ble_eq_true rfl, Nat.le_of_ble_eq_true rfl⟩) ⟨hK, hP, hD, hS, hA⟩ [] [0, 1, 2, 3, 4, 5] ⟨rfl, rfl, rfl, rfl, by decide⟩ hb_blX (hb_gX hX hbs hbA hS) rfl hl.1 rfl (Nat.le_of_ble_eq_true rfl) dX0_made_27 ⟨Nat.le_of_ble_eq_true rfl, Nat.le_of_ble_eq_true rfl⟩ ⟨Nat.le_of_ble_eq_true rfl, Nat.le_of_ble_eq_true rfl⟩ (fun r_27 w_1 H locs hw hP hD hS => ?_)
    obtain ⟨rfl, rfl⟩ := hw
    have hP : va_P D vwCl [(h, .inr (0, [.ref e, .int 0, .int 0, .ref ky, .ref no, .ref tx, .int (nI (16 * i)), .ref ou])), (e, .inr (1, [.null, .int 0, .int 0, .null, .int 0])), (ky, .inl (cB, 32, .inl (fun _ => 0))), (no, .inl (cB, 16, .inl (fun _ => 0))), (ou, .inl (cB, 0, .inl (fun _ => 0))), (tx, .inl (cB, 256, .inl (tX (cV L xs) i)))] H := hP
    have hD : va_D A [(h, .inr (0, [.ref e, .int 0, .int 0, .ref ky, .ref no, .ref tx, .int (nI (16 * i)), .ref ou])), (e, .inr (1, [.null, .int 0, .int 0, .null, .int 0])), (ky, .inl (cB, 32, .inl (fun _ => 0))), (no, .inl (cB, 16, .inl (fun _ => 0))), (ou, .inl (cB, 0, .inl (fun _ => 0))), (tx, .inl (cB, 256, .inl (tX (cV L xs) i)))] := hD
    refine lv_aload_n hx hb dX0_made_30 rfl (lv_at hl 0 rfl) ?_
    refine lv_iload_n hx hb dX0_made_31 rfl (lv_at hl 2 rfl) ?_
    refine lv_iconst (v := nI 2) hx hb dX0_made_32 (by decide) ?_
    refine lv_iadd hx hb dX0_made_33 ?_
    refine hb_top (nI (20 + 4 * i + 2)) (nI_add _ 2) ?_
    refine hb_Si (As := [.ref b, .int (nI (20 + 4 * i + 2))]) (rest := [.int (cV L xs (20 + 4 * i + 1)), .int (cV L xs (20 + 4 * i)), .ref h]) (wc := []) (wr := [(h, .inr (0, [.ref e, .int 0, .int 0, .ref ky, .ref no, .ref tx, .int (nI (16 * i)), .ref ou])), (e, .inr (1, [.null, .int 0, .int 0, .null, .int 0])), (ky, .inl (cB, 32, .inl (fun _ => 0))), (no, .inl (cB, 16, .inl (fun _ => 0))), (ou, .inl (cB, 0, .inl (fun _ => 0))), (tx, .inl (cB, 256, .inl (tX (cV L xs) i)))]) (k := 6) (k' := 318) ⟨hx, hb, hml, hown, hts⟩ (metX0_cell l D cB _ b L (20 + 4 * i + 2) xs hL (by omega)) (va_cwS 2 hts (lw_S q150 q151 q4 q152) rfl rfl rfl (by decide +kernel) ⟨Nat.le_of_ble_eq_true rfl, Nat.le_of_ble_eq_true rfl⟩) ⟨hK, hP, hD, hS, hA⟩ [] [0, 1, 2, 3, 4, 5] ⟨rfl, rfl, rfl, rfl, by decide⟩ hb_blX (hb_gX hX hbs hbA hS) rfl hl.1 rfl (Nat.le_of_ble_eq_true rfl) dX0_made_34 ⟨Nat.le_of_ble_eq_true rfl, Nat.le_of_ble_eq_true rfl⟩ ⟨Nat.le_of_ble_eq_true rfl, Nat.le_of_ble_eq_true rfl⟩ (fun r_34 w_1 H locs hw hP hD hS => ?_)
    obtain ⟨rfl, rfl⟩ := hw
    have hP : va_P D vwCl [(h, .inr (0, [.ref e, .int 0, .int 0, .ref ky, .ref no, .ref tx, .int (nI (16 * i)), .ref ou])), (e, .inr (1, [.null, .int 0, .int 0, .null, .int 0])), (ky, .inl (cB, 32, .inl (fun _ => 0))), (no, .inl (cB, 16, .inl (fun _ => 0))), (ou, .inl (cB, 0, .inl (fun _ => 0))), (tx, .inl (cB, 256, .inl (tX (cV L xs) i)))] H := hP
    have hD : va_D A [(h, .inr (0, [.ref e, .int 0, .int 0, .ref ky, .ref no, .ref tx, .int (nI (16 * i)), .ref ou])), (e, .inr (1, [.null, .int 0, .int 0, .null, .int 0])), (ky, .inl (cB, 32, .inl (fun _ => 0))), (no, .inl (cB, 16, .inl (fun _ => 0))), (ou, .inl (cB, 0, .inl (fun _ => 0))), (tx, .inl (cB, 256, .inl (tX (cV L xs) i)))] := hD
    refine lv_aload_n hx hb dX0_made_37 rfl (lv_at hl 0 rfl) ?_
    refine lv_iload_n hx hb dX0_made_38 rfl (lv_at hl 2 rfl) ?_
    refine lv_iconst (v := nI 3) hx hb dX0_made_39 (by decide) ?_
    refine lv_iadd hx hb dX0_made_40 ?_
    refine hb_top (nI (20 + 4 * i + 3)) (nI_add _ 3) ?_
    refine hb_Si (As := [.ref b, .int (nI (20 + 4 * i + 3))]) (rest := [.int (cV L xs (20 + 4 * i + 2)), .int (cV L xs (20 + 4 * i + 1)), .int (cV L xs (20 + 4 * i)), .ref h]) (wc := []) (wr := [(h, .inr (0, [.ref e, .int 0, .int 0, .ref ky, .ref no, .ref tx, .int (nI (16 * i)), .ref ou])), (e, .inr (1, [.null, .int 0, .int 0, .null, .int 0])), (ky, .inl (cB, 32, .inl (fun _ => 0))), (no, .inl (cB, 16, .inl (fun _ => 0))), (ou, .inl (cB, 0, .inl (fun _ => 0))), (tx, .inl (cB, 256, .inl (tX (cV L xs) i)))]) (k := 6) (k' := 318) ⟨hx, hb, hml, hown, hts⟩ (metX0_cell l D cB _ b L (20 + 4 * i + 3) xs hL (by omega)) (va_cwS 2 hts (lw_S q150 q151 q4 q152) rfl rfl rfl (by decide +kernel) ⟨Nat.le_of_ble_eq_true rfl, Nat.le_of_ble_eq_true rfl⟩) ⟨hK, hP, hD, hS, hA⟩ [] [0, 1, 2, 3, 4, 5] ⟨rfl, rfl, rfl, rfl, by decide⟩ hb_blX (hb_gX hX hbs hbA hS) rfl hl.1 rfl (Nat.le_of_ble_eq_true rfl) dX0_made_41 ⟨Nat.le_of_ble_eq_true rfl, Nat.le_of_ble_eq_true rfl⟩ ⟨Nat.le_of_ble_eq_true rfl, Nat.le_of_ble_eq_true rfl⟩ (fun r_41 w_1 H locs hw hP hD hS => ?_)
    obtain ⟨rfl, rfl⟩ := hw
    have hP : va_P D vwCl [(h, .inr (0, [.ref e, .int 0, .int 0, .ref ky, .ref no, .ref tx, .int (nI (16 * i)), .ref ou])), (e, .inr (1, [.null, .int 0, .int 0, .null, .int 0])), (ky, .inl (cB, 32, .inl (fun _ => 0))), (no, .inl (cB, 16, .inl (fun _ => 0))), (ou, .inl (cB, 0, .inl (fun _ => 0))), (tx, .inl (cB, 256, .inl (tX (cV L xs) i)))] H := hP
    have hD : va_D A [(h, .inr (0, [.ref e, .int 0, .int 0, .ref ky, .ref no, .ref tx, .int (nI (16 * i)), .ref ou])), (e, .inr (1, [.null, .int 0, .int 0, .null, .int 0])), (ky, .inl (cB, 32, .inl (fun _ => 0))), (no, .inl (cB, 16, .inl (fun _ => 0))), (ou, .inl (cB, 0, .inl (fun _ => 0))), (tx, .inl (cB, 256, .inl (tX (cV L xs) i)))] := hD
    refine hb_Vi (As := [.int (cV L xs (20 + 4 * i)), .int (cV L xs (20 + 4 * i + 1)), .int (cV L xs (20 + 4 * i + 2)), .int (cV L xs (20 + 4 * i + 3))]) (rest := []) (wc := [(h, .inr (0, [.ref e, .int 0, .int 0, .ref ky, .ref no, .ref tx, .int (nI (16 * i)), .ref ou])), (tx, .inl (cB, 256, .inl (tX (cV L xs) i)))]) (wr := [(e, .inr (1, [.null, .int 0, .int 0, .null, .int 0])), (ky, .inl (cB, 32, .inl (fun _ => 0))), (no, .inl (cB, 16, .inl (fun _ => 0))), (ou, .inl (cB, 0, .inl (fun _ => 0)))]) (k := 6) (k' := 318) ⟨hx, hb, hml, hown, hts⟩ (metX1_put l D cB _ h tx (16 * i) (.ref e) (.int 0) (.int 0) (.ref ky) (.ref no) (.ref ou) (tX (cV L xs) i) (cV L xs (20 + 4 * i)) (cV L xs (20 + 4 * i + 1)) (cV L xs (20 + 4 * i + 2)) (cV L xs (20 + 4 * i + 3)) (by omega)) (cwV 4 hts (lw_V q207 q208 q209 q5 q210) rfl rfl rfl (by decide +kernel) ⟨Nat.le_of_ble_eq_true rfl, Nat.le_of_ble_eq_true rfl⟩) ⟨hK, hP, hD, hS, hA⟩ [0, 5] [1, 2, 3, 4] ⟨rfl, rfl, rfl, rfl, by decide⟩ (va_recv hK hP (ci := 0) (q0 := 0) rfl rfl) hb_bl (fun _ _ _ => trivial) rfl hl.1 rfl (Nat.le_of_ble_eq_true rfl) dX0_made_44 ⟨Nat.le_of_ble_eq_true rfl, Nat.le_of_ble_eq_true rfl⟩ ⟨Nat.le_of_ble_eq_true rfl, Nat.le_of_ble_eq_true rfl⟩ (fun r_44 w_1 H locs hw hP hD hS => ?_)
    obtain ⟨rfl, rfl⟩ := hw
    have hP : va_P D vwCl [(e, .inr (1, [.null, .int 0, .int 0, .null, .int 0])), (ky, .inl (cB, 32, .inl (fun _ => 0))), (no, .inl (cB, 16, .inl (fun _ => 0))), (ou, .inl (cB, 0, .inl (fun _ => 0))), (h, .inr (0, [.ref e, .int 0, .int 0, .ref ky, .ref no, .ref tx, .int (nI (16 * i + 16)), .ref ou])), (tx, .inl (cB, 256, .inl (tX (cV L xs) (i + 1))))] H := hP
    have hD : va_D A [(e, .inr (1, [.null, .int 0, .int 0, .null, .int 0])), (ky, .inl (cB, 32, .inl (fun _ => 0))), (no, .inl (cB, 16, .inl (fun _ => 0))), (ou, .inl (cB, 0, .inl (fun _ => 0))), (h, .inr (0, [.ref e, .int 0, .int 0, .ref ky, .ref no, .ref tx, .int (nI (16 * i + 16)), .ref ou])), (tx, .inl (cB, 256, .inl (tX (cV L xs) (i + 1))))] := hD
    rw [show 16 * i + 16 = 16 * (i + 1) by omega] at hP hD
    refine lv_pop hx hb dX0_made_47 rfl ?_
    refine lv_iinc (v := nI (20 + 4 * (i + 1))) (lv' := [(2, .int (nI (20 + 4 * (i + 1)))), (0, .ref b), (1, .ref h)]) hx hb dX0_made_48 hl (k := 2) rfl (by rw [show 20 + 4 * (i + 1) = 20 + 4 * i + 4 by omega]; exact nI_add _ 4) (by decide) rfl (fun ls hl => ?_)
    refine lv_goto (tgt := 11) hx hb dX0_made_51 (by decide) ?_
    have hP := hb_Psub (ws' := [(h, .inr (0, [.ref e, .int 0, .int 0, .ref ky, .ref no, .ref tx, .int (nI (16 * (i + 1))), .ref ou])), (e, .inr (1, [.null, .int 0, .int 0, .null, .int 0])), (ky, .inl (cB, 32, .inl (fun _ => 0))), (no, .inl (cB, 16, .inl (fun _ => 0))), (ou, .inl (cB, 0, .inl (fun _ => 0))), (tx, .inl (cB, 256, .inl (tX (cV L xs) (i + 1))))]) hP [4, 0, 1, 2, 3, 5] rfl
    have hD := hD.sub (ws' := [(h, .inr (0, [.ref e, .int 0, .int 0, .ref ky, .ref no, .ref tx, .int (nI (16 * (i + 1))), .ref ou])), (e, .inr (1, [.null, .int 0, .int 0, .null, .int 0])), (ky, .inl (cB, 32, .inl (fun _ => 0))), (no, .inl (cB, 16, .inl (fun _ => 0))), (ou, .inl (cB, 0, .inl (fun _ => 0))), (tx, .inl (cB, 256, .inl (tX (cV L xs) (i + 1))))]) [4, 0, 1, 2, 3, 5] (by decide) rfl
    exact ih (i + 1) (by omega) H locs ls hP hD hS (lv_sub hl [1, 2, 0] rfl)
set_option maxHeartbeats 4000000 in
set_option maxRecDepth 100000 in
/-- made(s): a desk out of the script -/
theorem metX0_made (l : Launch) (D : va_G) (cB : ClassId) (sz : Nat) (b L : Nat) (xs : Nat → Int32) (hL : L ≤ 60) : hb_Mr l yX0_made (ws_ yX0_made cX0_made 3 (some (.object "RcFourDesk"))) { frames := 5, cells := 11, slots := 650, locals := 160 } D cB sz [.ref b] [] (hb_Xs b L xs sz) (fun ra w => ∃ e ky no tx ou wk st : Nat, w = [(ra, .inr (0, [.ref e, .int 1, .int (nI 0), .ref ky, .ref no, .ref tx, .int (nI (lZ (cV L xs))), .ref ou])), (e, .inr (1, [.ref st, .int (nI (lS (cV L xs)).1), .int (nI (lS (cV L xs)).2.1), .ref wk, .int 1])), (wk, .inl (cB, kN (cV L xs 12), .inl (fun j => b8 (kX (cV L xs) j)))), (st, .inl (cB, 256, .inl ((lS (cV L xs)).2.2))), (tx, .inl (cB, 256, .inl (tX (cV L xs) 8))), (ou, .inl (cB, 0, .inl (fun _ => 0)))]) := by
  refine hb_startG (Qc := hb_Qr D cB _) (by decide) (Nat.le_of_ble_eq_true rfl) ?_
  intro p e_0 s m args below meth c A hAt hIn hsz hXs ls hl
  obtain ⟨hx, hb, hr, hlk, hml, hown, hts, hin⟩ := hAt
  obtain ⟨hK, hP, hD, hA, hS, hof⟩ := hIn
  have hown : s.vm.findClass RX0 = some m.cls := hown
  have hl : lv_has ls 3 [(0, .ref b)] := hl
  obtain ⟨hbs, hX⟩ := hXs
  subst hsz
  have hbA : ¬ A b := hof b hbs (fun k x h => by simp at h)
  refine hb_new1 (k := 1) (k' := 8) hx hb hts hown q156 hK hP hD hS hA ⟨Nat.le_of_ble_eq_true rfl, Nat.le_of_ble_eq_true rfl⟩ ⟨Nat.le_of_ble_eq_true rfl, Nat.le_of_ble_eq_true rfl⟩ dX0_made_0 (fun h H hP hD hS => ?_)
  have hP : va_P D vwCl [(h, .inr (0, [.null, .int 0, .int 0, .null, .null, .null, .int 0, .null]))] H := hP
  have hD : va_D A [(h, .inr (0, [.null, .int 0, .int 0, .null, .null, .null, .int 0, .null]))] := hD
  refine lv_dup hx hb dX0_made_3 rfl ?_
  refine hb_Iv (As := []) (rest := [.ref h]) (wc := [(h, .inr (0, [.null, .int 0, .int 0, .null, .null, .null, .int 0, .null]))]) (wr := []) (k := 6) (k' := 318) ⟨hx, hb, hml, hown, hts⟩ (metX1_init l D cB _ h) (cwI 0 hts (lw_meth q159) rfl rfl rfl (hts _ q5) (hts _ q157) (hts _ q158) rfl (by decide +kernel) ⟨Nat.le_of_ble_eq_true rfl, Nat.le_of_ble_eq_true rfl⟩) ⟨hK, hP, hD, hS, hA⟩ [0] [] ⟨rfl, rfl, rfl, rfl, by decide⟩ hb_bl (fun _ _ _ => trivial) rfl hl.1 rfl (Nat.le_of_ble_eq_true rfl) dX0_made_4 ⟨Nat.le_of_ble_eq_true rfl, Nat.le_of_ble_eq_true rfl⟩ ⟨Nat.le_of_ble_eq_true rfl, Nat.le_of_ble_eq_true rfl⟩ (fun w_1 H locs hw hP hD hS => ?_)
  obtain ⟨e, ky, no, tx, ou, rfl⟩ := hw
  have hP : va_P D vwCl [(h, .inr (0, [.ref e, .int 0, .int 0, .ref ky, .ref no, .ref tx, .int 0, .ref ou])), (e, .inr (1, [.null, .int 0, .int 0, .null, .int 0])), (ky, .inl (cB, 32, .inl (fun _ => 0))), (no, .inl (cB, 16, .inl (fun _ => 0))), (tx, .inl (cB, 256, .inl (fun _ => 0))), (ou, .inl (cB, 0, .inl (fun _ => 0)))] H := hP
  have hD : va_D A [(h, .inr (0, [.ref e, .int 0, .int 0, .ref ky, .ref no, .ref tx, .int 0, .ref ou])), (e, .inr (1, [.null, .int 0, .int 0, .null, .int 0])), (ky, .inl (cB, 32, .inl (fun _ => 0))), (no, .inl (cB, 16, .inl (fun _ => 0))), (tx, .inl (cB, 256, .inl (fun _ => 0))), (ou, .inl (cB, 0, .inl (fun _ => 0)))] := hD
  refine lv_astore_n (lv' := [(1, .ref h), (0, .ref b)]) hx hb dX0_made_7 rfl hl (by decide) rfl (fun ls hl => ?_)
  refine lv_bipush (v := nI 20) hx hb dX0_made_8 (by decide) ?_
  refine lv_istore_n (lv' := [(2, .int (nI 20)), (1, .ref h), (0, .ref b)]) hx hb dX0_made_10 rfl hl (by decide) rfl (fun ls hl => ?_)
  have hP := hb_Psub (ws' := [(h, .inr (0, [.ref e, .int 0, .int 0, .ref ky, .ref no, .ref tx, .int 0, .ref ou])), (e, .inr (1, [.null, .int 0, .int 0, .null, .int 0])), (ky, .inl (cB, 32, .inl (fun _ => 0))), (no, .inl (cB, 16, .inl (fun _ => 0))), (ou, .inl (cB, 0, .inl (fun _ => 0))), (tx, .inl (cB, 256, .inl (fun _ => 0)))]) hP [0, 1, 2, 3, 5, 4] rfl
  have hD := hD.sub (ws' := [(h, .inr (0, [.ref e, .int 0, .int 0, .ref ky, .ref no, .ref tx, .int 0, .ref ou])), (e, .inr (1, [.null, .int 0, .int 0, .null, .int 0])), (ky, .inl (cB, 32, .inl (fun _ => 0))), (no, .inl (cB, 16, .inl (fun _ => 0))), (ou, .inl (cB, 0, .inl (fun _ => 0))), (tx, .inl (cB, 256, .inl (fun _ => 0)))]) [0, 1, 2, 3, 5, 4] (by decide) rfl
  refine md_loop hx hb hts hown hK hml hA hL hX hbs hbA h e ky no tx ou (fun H locs ls hP hD hS hl => ?_) 8 0 rfl _ _ _ hP hD hS (lv_sub hl [2, 1, 0] rfl)
  refine lv_aload_n hx hb dX0_made_54 rfl (lv_at hl 1 rfl) ?_
  refine lv_aload_n hx hb dX0_made_55 rfl (lv_at hl 0 rfl) ?_
  refine lv_bipush (v := nI 13) hx hb dX0_made_56 (by decide) ?_
  refine hb_Si (As := [.ref b, .int (nI 13)]) (rest := [.ref h]) (wc := []) (wr := [(h, .inr (0, [.ref e, .int 0, .int 0, .ref ky, .ref no, .ref tx, .int (nI (16 * 8)), .ref ou])), (e, .inr (1, [.null, .int 0, .int 0, .null, .int 0])), (ky, .inl (cB, 32, .inl (fun _ => 0))), (no, .inl (cB, 16, .inl (fun _ => 0))), (ou, .inl (cB, 0, .inl (fun _ => 0))), (tx, .inl (cB, 256, .inl (tX (cV L xs) 8)))]) (k := 6) (k' := 318) ⟨hx, hb, hml, hown, hts⟩ (metX0_cell l D cB _ b L 13 xs hL (by decide)) (va_cwS 2 hts (lw_S q150 q151 q4 q152) rfl rfl rfl (by decide +kernel) ⟨Nat.le_of_ble_eq_true rfl, Nat.le_of_ble_eq_true rfl⟩) ⟨hK, hP, hD, hS, hA⟩ [] [0, 1, 2, 3, 4, 5] ⟨rfl, rfl, rfl, rfl, by decide⟩ hb_blX (hb_gX hX hbs hbA hS) rfl hl.1 rfl (Nat.le_of_ble_eq_true rfl) dX0_made_58 ⟨Nat.le_of_ble_eq_true rfl, Nat.le_of_ble_eq_true rfl⟩ ⟨Nat.le_of_ble_eq_true rfl, Nat.le_of_ble_eq_true rfl⟩ (fun r_58 w_1 H locs hw hP hD hS => ?_)
  obtain ⟨rfl, rfl⟩ := hw
  have hP : va_P D vwCl [(h, .inr (0, [.ref e, .int 0, .int 0, .ref ky, .ref no, .ref tx, .int (nI (16 * 8)), .ref ou])), (e, .inr (1, [.null, .int 0, .int 0, .null, .int 0])), (ky, .inl (cB, 32, .inl (fun _ => 0))), (no, .inl (cB, 16, .inl (fun _ => 0))), (ou, .inl (cB, 0, .inl (fun _ => 0))), (tx, .inl (cB, 256, .inl (tX (cV L xs) 8)))] H := hP
  have hD : va_D A [(h, .inr (0, [.ref e, .int 0, .int 0, .ref ky, .ref no, .ref tx, .int (nI (16 * 8)), .ref ou])), (e, .inr (1, [.null, .int 0, .int 0, .null, .int 0])), (ky, .inl (cB, 32, .inl (fun _ => 0))), (no, .inl (cB, 16, .inl (fun _ => 0))), (ou, .inl (cB, 0, .inl (fun _ => 0))), (tx, .inl (cB, 256, .inl (tX (cV L xs) 8)))] := hD
  refine hb_Vv (As := [.int (cV L xs 13)]) (rest := []) (wc := [(h, .inr (0, [.ref e, .int 0, .int 0, .ref ky, .ref no, .ref tx, .int (nI (16 * 8)), .ref ou]))]) (wr := [(e, .inr (1, [.null, .int 0, .int 0, .null, .int 0])), (ky, .inl (cB, 32, .inl (fun _ => 0))), (no, .inl (cB, 16, .inl (fun _ => 0))), (ou, .inl (cB, 0, .inl (fun _ => 0))), (tx, .inl (cB, 256, .inl (tX (cV L xs) 8)))]) (k := 6) (k' := 318) ⟨hx, hb, hml, hown, hts⟩ (metX1_trim l D cB _ h (16 * 8) (.ref e) (.int 0) (.int 0) (.ref ky) (.ref no) (.ref tx) (.ref ou) (cV L xs 13) (by decide)) (cwV 1 hts (lw_V q214 q215 q216 q5 q217) rfl rfl rfl (by decide +kernel) ⟨Nat.le_of_ble_eq_true rfl, Nat.le_of_ble_eq_true rfl⟩) ⟨hK, hP, hD, hS, hA⟩ [0] [1, 2, 3, 4, 5] ⟨rfl, rfl, rfl, rfl, by decide⟩ (va_recv hK hP (ci := 0) (q0 := 0) rfl rfl) hb_bl (fun _ _ _ => trivial) rfl hl.1 rfl (Nat.le_of_ble_eq_true rfl) dX0_made_61 ⟨Nat.le_of_ble_eq_true rfl, Nat.le_of_ble_eq_true rfl⟩ ⟨Nat.le_of_ble_eq_true rfl, Nat.le_of_ble_eq_true rfl⟩ (fun w_1 H locs hw hP hD hS => ?_)
  obtain rfl := hw
  have hP : va_P D vwCl [(e, .inr (1, [.null, .int 0, .int 0, .null, .int 0])), (ky, .inl (cB, 32, .inl (fun _ => 0))), (no, .inl (cB, 16, .inl (fun _ => 0))), (ou, .inl (cB, 0, .inl (fun _ => 0))), (tx, .inl (cB, 256, .inl (tX (cV L xs) 8))), (h, .inr (0, [.ref e, .int 0, .int 0, .ref ky, .ref no, .ref tx, .int (nI (lZ (cV L xs))), .ref ou]))] H := hP
  have hD : va_D A [(e, .inr (1, [.null, .int 0, .int 0, .null, .int 0])), (ky, .inl (cB, 32, .inl (fun _ => 0))), (no, .inl (cB, 16, .inl (fun _ => 0))), (ou, .inl (cB, 0, .inl (fun _ => 0))), (tx, .inl (cB, 256, .inl (tX (cV L xs) 8))), (h, .inr (0, [.ref e, .int 0, .int 0, .ref ky, .ref no, .ref tx, .int (nI (lZ (cV L xs))), .ref ou]))] := hD
  refine lv_aload_n hx hb dX0_made_64 rfl (lv_at hl 1 rfl) ?_
  refine lv_iconst (v := nI 0) hx hb dX0_made_65 (by decide) ?_
  refine lv_aload_n hx hb dX0_made_66 rfl (lv_at hl 0 rfl) ?_
  refine lv_iconst (v := nI 0) hx hb dX0_made_67 (by decide) ?_
  refine hb_Si (As := [.ref b, .int (nI 0)]) (rest := [.int (nI 0), .ref h]) (wc := []) (wr := [(e, .inr (1, [.null, .int 0, .int 0, .null, .int 0])), (ky, .inl (cB, 32, .inl (fun _ => 0))), (no, .inl (cB, 16, .inl (fun _ => 0))), (ou, .inl (cB, 0, .inl (fun _ => 0))), (tx, .inl (cB, 256, .inl (tX (cV L xs) 8))), (h, .inr (0, [.ref e, .int 0, .int 0, .ref ky, .ref no, .ref tx, .int (nI (lZ (cV L xs))), .ref ou]))]) (k := 6) (k' := 318) ⟨hx, hb, hml, hown, hts⟩ (metX0_cell l D cB _ b L 0 xs hL (by decide)) (va_cwS 2 hts (lw_S q150 q151 q4 q152) rfl rfl rfl (by decide +kernel) ⟨Nat.le_of_ble_eq_true rfl, Nat.le_of_ble_eq_true rfl⟩) ⟨hK, hP, hD, hS, hA⟩ [] [0, 1, 2, 3, 4, 5] ⟨rfl, rfl, rfl, rfl, by decide⟩ hb_blX (hb_gX hX hbs hbA hS) rfl hl.1 rfl (Nat.le_of_ble_eq_true rfl) dX0_made_68 ⟨Nat.le_of_ble_eq_true rfl, Nat.le_of_ble_eq_true rfl⟩ ⟨Nat.le_of_ble_eq_true rfl, Nat.le_of_ble_eq_true rfl⟩ (fun r_68 w_1 H locs hw hP hD hS => ?_)
  obtain ⟨rfl, rfl⟩ := hw
  have hP : va_P D vwCl [(e, .inr (1, [.null, .int 0, .int 0, .null, .int 0])), (ky, .inl (cB, 32, .inl (fun _ => 0))), (no, .inl (cB, 16, .inl (fun _ => 0))), (ou, .inl (cB, 0, .inl (fun _ => 0))), (tx, .inl (cB, 256, .inl (tX (cV L xs) 8))), (h, .inr (0, [.ref e, .int 0, .int 0, .ref ky, .ref no, .ref tx, .int (nI (lZ (cV L xs))), .ref ou]))] H := hP
  have hD : va_D A [(e, .inr (1, [.null, .int 0, .int 0, .null, .int 0])), (ky, .inl (cB, 32, .inl (fun _ => 0))), (no, .inl (cB, 16, .inl (fun _ => 0))), (ou, .inl (cB, 0, .inl (fun _ => 0))), (tx, .inl (cB, 256, .inl (tX (cV L xs) 8))), (h, .inr (0, [.ref e, .int 0, .int 0, .ref ky, .ref no, .ref tx, .int (nI (lZ (cV L xs))), .ref ou]))] := hD
  refine lv_aload_n hx hb dX0_made_71 rfl (lv_at hl 0 rfl) ?_
  refine lv_iconst (v := nI 1) hx hb dX0_made_72 (by decide) ?_
  refine hb_Si (As := [.ref b, .int (nI 1)]) (rest := [.int (cV L xs 0), .int (nI 0), .ref h]) (wc := []) (wr := [(e, .inr (1, [.null, .int 0, .int 0, .null, .int 0])), (ky, .inl (cB, 32, .inl (fun _ => 0))), (no, .inl (cB, 16, .inl (fun _ => 0))), (ou, .inl (cB, 0, .inl (fun _ => 0))), (tx, .inl (cB, 256, .inl (tX (cV L xs) 8))), (h, .inr (0, [.ref e, .int 0, .int 0, .ref ky, .ref no, .ref tx, .int (nI (lZ (cV L xs))), .ref ou]))]) (k := 6) (k' := 318) ⟨hx, hb, hml, hown, hts⟩ (metX0_cell l D cB _ b L 1 xs hL (by decide)) (va_cwS 2 hts (lw_S q150 q151 q4 q152) rfl rfl rfl (by decide +kernel) ⟨Nat.le_of_ble_eq_true rfl, Nat.le_of_ble_eq_true rfl⟩) ⟨hK, hP, hD, hS, hA⟩ [] [0, 1, 2, 3, 4, 5] ⟨rfl, rfl, rfl, rfl, by decide⟩ hb_blX (hb_gX hX hbs hbA hS) rfl hl.1 rfl (Nat.le_of_ble_eq_true rfl) dX0_made_73 ⟨Nat.le_of_ble_eq_true rfl, Nat.le_of_ble_eq_true rfl⟩ ⟨Nat.le_of_ble_eq_true rfl, Nat.le_of_ble_eq_true rfl⟩ (fun r_73 w_1 H locs hw hP hD hS => ?_)
  obtain ⟨rfl, rfl⟩ := hw
  have hP : va_P D vwCl [(e, .inr (1, [.null, .int 0, .int 0, .null, .int 0])), (ky, .inl (cB, 32, .inl (fun _ => 0))), (no, .inl (cB, 16, .inl (fun _ => 0))), (ou, .inl (cB, 0, .inl (fun _ => 0))), (tx, .inl (cB, 256, .inl (tX (cV L xs) 8))), (h, .inr (0, [.ref e, .int 0, .int 0, .ref ky, .ref no, .ref tx, .int (nI (lZ (cV L xs))), .ref ou]))] H := hP
  have hD : va_D A [(e, .inr (1, [.null, .int 0, .int 0, .null, .int 0])), (ky, .inl (cB, 32, .inl (fun _ => 0))), (no, .inl (cB, 16, .inl (fun _ => 0))), (ou, .inl (cB, 0, .inl (fun _ => 0))), (tx, .inl (cB, 256, .inl (tX (cV L xs) 8))), (h, .inr (0, [.ref e, .int 0, .int 0, .ref ky, .ref no, .ref tx, .int (nI (lZ (cV L xs))), .ref ou]))] := hD
  refine lv_aload_n hx hb dX0_made_76 rfl (lv_at hl 0 rfl) ?_
  refine lv_iconst (v := nI 2) hx hb dX0_made_77 (by decide) ?_
  refine hb_Si (As := [.ref b, .int (nI 2)]) (rest := [.int (cV L xs 1), .int (cV L xs 0), .int (nI 0), .ref h]) (wc := []) (wr := [(e, .inr (1, [.null, .int 0, .int 0, .null, .int 0])), (ky, .inl (cB, 32, .inl (fun _ => 0))), (no, .inl (cB, 16, .inl (fun _ => 0))), (ou, .inl (cB, 0, .inl (fun _ => 0))), (tx, .inl (cB, 256, .inl (tX (cV L xs) 8))), (h, .inr (0, [.ref e, .int 0, .int 0, .ref ky, .ref no, .ref tx, .int (nI (lZ (cV L xs))), .ref ou]))]) (k := 6) (k' := 318) ⟨hx, hb, hml, hown, hts⟩ (metX0_cell l D cB _ b L 2 xs hL (by decide)) (va_cwS 2 hts (lw_S q150 q151 q4 q152) rfl rfl rfl (by decide +kernel) ⟨Nat.le_of_ble_eq_true rfl, Nat.le_of_ble_eq_true rfl⟩) ⟨hK, hP, hD, hS, hA⟩ [] [0, 1, 2, 3, 4, 5] ⟨rfl, rfl, rfl, rfl, by decide⟩ hb_blX (hb_gX hX hbs hbA hS) rfl hl.1 rfl (Nat.le_of_ble_eq_true rfl) dX0_made_78 ⟨Nat.le_of_ble_eq_true rfl, Nat.le_of_ble_eq_true rfl⟩ ⟨Nat.le_of_ble_eq_true rfl, Nat.le_of_ble_eq_true rfl⟩ (fun r_78 w_1 H locs hw hP hD hS => ?_)
  obtain ⟨rfl, rfl⟩ := hw
  have hP : va_P D vwCl [(e, .inr (1, [.null, .int 0, .int 0, .null, .int 0])), (ky, .inl (cB, 32, .inl (fun _ => 0))), (no, .inl (cB, 16, .inl (fun _ => 0))), (ou, .inl (cB, 0, .inl (fun _ => 0))), (tx, .inl (cB, 256, .inl (tX (cV L xs) 8))), (h, .inr (0, [.ref e, .int 0, .int 0, .ref ky, .ref no, .ref tx, .int (nI (lZ (cV L xs))), .ref ou]))] H := hP
  have hD : va_D A [(e, .inr (1, [.null, .int 0, .int 0, .null, .int 0])), (ky, .inl (cB, 32, .inl (fun _ => 0))), (no, .inl (cB, 16, .inl (fun _ => 0))), (ou, .inl (cB, 0, .inl (fun _ => 0))), (tx, .inl (cB, 256, .inl (tX (cV L xs) 8))), (h, .inr (0, [.ref e, .int 0, .int 0, .ref ky, .ref no, .ref tx, .int (nI (lZ (cV L xs))), .ref ou]))] := hD
  refine lv_aload_n hx hb dX0_made_81 rfl (lv_at hl 0 rfl) ?_
  refine lv_iconst (v := nI 3) hx hb dX0_made_82 (by decide) ?_
  refine hb_Si (As := [.ref b, .int (nI 3)]) (rest := [.int (cV L xs 2), .int (cV L xs 1), .int (cV L xs 0), .int (nI 0), .ref h]) (wc := []) (wr := [(e, .inr (1, [.null, .int 0, .int 0, .null, .int 0])), (ky, .inl (cB, 32, .inl (fun _ => 0))), (no, .inl (cB, 16, .inl (fun _ => 0))), (ou, .inl (cB, 0, .inl (fun _ => 0))), (tx, .inl (cB, 256, .inl (tX (cV L xs) 8))), (h, .inr (0, [.ref e, .int 0, .int 0, .ref ky, .ref no, .ref tx, .int (nI (lZ (cV L xs))), .ref ou]))]) (k := 6) (k' := 318) ⟨hx, hb, hml, hown, hts⟩ (metX0_cell l D cB _ b L 3 xs hL (by decide)) (va_cwS 2 hts (lw_S q150 q151 q4 q152) rfl rfl rfl (by decide +kernel) ⟨Nat.le_of_ble_eq_true rfl, Nat.le_of_ble_eq_true rfl⟩) ⟨hK, hP, hD, hS, hA⟩ [] [0, 1, 2, 3, 4, 5] ⟨rfl, rfl, rfl, rfl, by decide⟩ hb_blX (hb_gX hX hbs hbA hS) rfl hl.1 rfl (Nat.le_of_ble_eq_true rfl) dX0_made_83 ⟨Nat.le_of_ble_eq_true rfl, Nat.le_of_ble_eq_true rfl⟩ ⟨Nat.le_of_ble_eq_true rfl, Nat.le_of_ble_eq_true rfl⟩ (fun r_83 w_1 H locs hw hP hD hS => ?_)
  obtain ⟨rfl, rfl⟩ := hw
  have hP : va_P D vwCl [(e, .inr (1, [.null, .int 0, .int 0, .null, .int 0])), (ky, .inl (cB, 32, .inl (fun _ => 0))), (no, .inl (cB, 16, .inl (fun _ => 0))), (ou, .inl (cB, 0, .inl (fun _ => 0))), (tx, .inl (cB, 256, .inl (tX (cV L xs) 8))), (h, .inr (0, [.ref e, .int 0, .int 0, .ref ky, .ref no, .ref tx, .int (nI (lZ (cV L xs))), .ref ou]))] H := hP
  have hD : va_D A [(e, .inr (1, [.null, .int 0, .int 0, .null, .int 0])), (ky, .inl (cB, 32, .inl (fun _ => 0))), (no, .inl (cB, 16, .inl (fun _ => 0))), (ou, .inl (cB, 0, .inl (fun _ => 0))), (tx, .inl (cB, 256, .inl (tX (cV L xs) 8))), (h, .inr (0, [.ref e, .int 0, .int 0, .ref ky, .ref no, .ref tx, .int (nI (lZ (cV L xs))), .ref ou]))] := hD
  refine hb_Vv (As := [.int (nI 0), .int (cV L xs 0), .int (cV L xs 1), .int (cV L xs 2), .int (cV L xs 3)]) (rest := []) (wc := [(h, .inr (0, [.ref e, .int 0, .int 0, .ref ky, .ref no, .ref tx, .int (nI (lZ (cV L xs))), .ref ou])), (ky, .inl (cB, 32, .inl (fun _ => 0)))]) (wr := [(e, .inr (1, [.null, .int 0, .int 0, .null, .int 0])), (no, .inl (cB, 16, .inl (fun _ => 0))), (ou, .inl (cB, 0, .inl (fun _ => 0))), (tx, .inl (cB, 256, .inl (tX (cV L xs) 8)))]) (k := 6) (k' := 318) ⟨hx, hb, hml, hown, hts⟩ (metX1_key l D cB _ h ky 0 (.ref e) (.int 0) (.int 0) (.ref no) (.ref tx) (.int (nI (lZ (cV L xs)))) (.ref ou) (fun _ => 0) (cV L xs 0) (cV L xs 1) (cV L xs 2) (cV L xs 3) (by decide)) (cwV 5 hts (lw_V q218 q219 q220 q5 q221) rfl rfl rfl (by decide +kernel) ⟨Nat.le_of_ble_eq_true rfl, Nat.le_of_ble_eq_true rfl⟩) ⟨hK, hP, hD, hS, hA⟩ [5, 1] [0, 2, 3, 4] ⟨rfl, rfl, rfl, rfl, by decide⟩ (va_recv hK hP (ci := 0) (q0 := 5) rfl rfl) hb_bl (fun _ _ _ => trivial) rfl hl.1 rfl (Nat.le_of_ble_eq_true rfl) dX0_made_86 ⟨Nat.le_of_ble_eq_true rfl, Nat.le_of_ble_eq_true rfl⟩ ⟨Nat.le_of_ble_eq_true rfl, Nat.le_of_ble_eq_true rfl⟩ (fun w_1 H locs hw hP hD hS => ?_)
  obtain rfl := hw
  have hP : va_P D vwCl [(e, .inr (1, [.null, .int 0, .int 0, .null, .int 0])), (no, .inl (cB, 16, .inl (fun _ => 0))), (ou, .inl (cB, 0, .inl (fun _ => 0))), (tx, .inl (cB, 256, .inl (tX (cV L xs) 8))), (h, .inr (0, [.ref e, .int 0, .int 0, .ref ky, .ref no, .ref tx, .int (nI (lZ (cV L xs))), .ref ou])), (ky, .inl (cB, 32, .inl (wP (fun _ => 0) 0 (cV L xs 0) (cV L xs 1) (cV L xs 2) (cV L xs 3))))] H := hP
  have hD : va_D A [(e, .inr (1, [.null, .int 0, .int 0, .null, .int 0])), (no, .inl (cB, 16, .inl (fun _ => 0))), (ou, .inl (cB, 0, .inl (fun _ => 0))), (tx, .inl (cB, 256, .inl (tX (cV L xs) 8))), (h, .inr (0, [.ref e, .int 0, .int 0, .ref ky, .ref no, .ref tx, .int (nI (lZ (cV L xs))), .ref ou])), (ky, .inl (cB, 32, .inl (wP (fun _ => 0) 0 (cV L xs 0) (cV L xs 1) (cV L xs 2) (cV L xs 3))))] := hD
  refine lv_aload_n hx hb dX0_made_89 rfl (lv_at hl 1 rfl) ?_
  refine lv_iconst (v := nI 1) hx hb dX0_made_90 (by decide) ?_
  refine lv_aload_n hx hb dX0_made_91 rfl (lv_at hl 0 rfl) ?_
  refine lv_iconst (v := nI 4) hx hb dX0_made_92 (by decide) ?_
  refine hb_Si (As := [.ref b, .int (nI 4)]) (rest := [.int (nI 1), .ref h]) (wc := []) (wr := [(e, .inr (1, [.null, .int 0, .int 0, .null, .int 0])), (no, .inl (cB, 16, .inl (fun _ => 0))), (ou, .inl (cB, 0, .inl (fun _ => 0))), (tx, .inl (cB, 256, .inl (tX (cV L xs) 8))), (h, .inr (0, [.ref e, .int 0, .int 0, .ref ky, .ref no, .ref tx, .int (nI (lZ (cV L xs))), .ref ou])), (ky, .inl (cB, 32, .inl (wP (fun _ => 0) 0 (cV L xs 0) (cV L xs 1) (cV L xs 2) (cV L xs 3))))]) (k := 6) (k' := 318) ⟨hx, hb, hml, hown, hts⟩ (metX0_cell l D cB _ b L 4 xs hL (by decide)) (va_cwS 2 hts (lw_S q150 q151 q4 q152) rfl rfl rfl (by decide +kernel) ⟨Nat.le_of_ble_eq_true rfl, Nat.le_of_ble_eq_true rfl⟩) ⟨hK, hP, hD, hS, hA⟩ [] [0, 1, 2, 3, 4, 5] ⟨rfl, rfl, rfl, rfl, by decide⟩ hb_blX (hb_gX hX hbs hbA hS) rfl hl.1 rfl (Nat.le_of_ble_eq_true rfl) dX0_made_93 ⟨Nat.le_of_ble_eq_true rfl, Nat.le_of_ble_eq_true rfl⟩ ⟨Nat.le_of_ble_eq_true rfl, Nat.le_of_ble_eq_true rfl⟩ (fun r_93 w_1 H locs hw hP hD hS => ?_)
  obtain ⟨rfl, rfl⟩ := hw
  have hP : va_P D vwCl [(e, .inr (1, [.null, .int 0, .int 0, .null, .int 0])), (no, .inl (cB, 16, .inl (fun _ => 0))), (ou, .inl (cB, 0, .inl (fun _ => 0))), (tx, .inl (cB, 256, .inl (tX (cV L xs) 8))), (h, .inr (0, [.ref e, .int 0, .int 0, .ref ky, .ref no, .ref tx, .int (nI (lZ (cV L xs))), .ref ou])), (ky, .inl (cB, 32, .inl (wP (fun _ => 0) 0 (cV L xs 0) (cV L xs 1) (cV L xs 2) (cV L xs 3))))] H := hP
  have hD : va_D A [(e, .inr (1, [.null, .int 0, .int 0, .null, .int 0])), (no, .inl (cB, 16, .inl (fun _ => 0))), (ou, .inl (cB, 0, .inl (fun _ => 0))), (tx, .inl (cB, 256, .inl (tX (cV L xs) 8))), (h, .inr (0, [.ref e, .int 0, .int 0, .ref ky, .ref no, .ref tx, .int (nI (lZ (cV L xs))), .ref ou])), (ky, .inl (cB, 32, .inl (wP (fun _ => 0) 0 (cV L xs 0) (cV L xs 1) (cV L xs 2) (cV L xs 3))))] := hD
  refine lv_aload_n hx hb dX0_made_96 rfl (lv_at hl 0 rfl) ?_
  refine lv_iconst (v := nI 5) hx hb dX0_made_97 (by decide) ?_
  refine hb_Si (As := [.ref b, .int (nI 5)]) (rest := [.int (cV L xs 4), .int (nI 1), .ref h]) (wc := []) (wr := [(e, .inr (1, [.null, .int 0, .int 0, .null, .int 0])), (no, .inl (cB, 16, .inl (fun _ => 0))), (ou, .inl (cB, 0, .inl (fun _ => 0))), (tx, .inl (cB, 256, .inl (tX (cV L xs) 8))), (h, .inr (0, [.ref e, .int 0, .int 0, .ref ky, .ref no, .ref tx, .int (nI (lZ (cV L xs))), .ref ou])), (ky, .inl (cB, 32, .inl (wP (fun _ => 0) 0 (cV L xs 0) (cV L xs 1) (cV L xs 2) (cV L xs 3))))]) (k := 6) (k' := 318) ⟨hx, hb, hml, hown, hts⟩ (metX0_cell l D cB _ b L 5 xs hL (by decide)) (va_cwS 2 hts (lw_S q150 q151 q4 q152) rfl rfl rfl (by decide +kernel) ⟨Nat.le_of_ble_eq_true rfl, Nat.le_of_ble_eq_true rfl⟩) ⟨hK, hP, hD, hS, hA⟩ [] [0, 1, 2, 3, 4, 5] ⟨rfl, rfl, rfl, rfl, by decide⟩ hb_blX (hb_gX hX hbs hbA hS) rfl hl.1 rfl (Nat.le_of_ble_eq_true rfl) dX0_made_98 ⟨Nat.le_of_ble_eq_true rfl, Nat.le_of_ble_eq_true rfl⟩ ⟨Nat.le_of_ble_eq_true rfl, Nat.le_of_ble_eq_true rfl⟩ (fun r_98 w_1 H locs hw hP hD hS => ?_)
  obtain ⟨rfl, rfl⟩ := hw
  have hP : va_P D vwCl [(e, .inr (1, [.null, .int 0, .int 0, .null, .int 0])), (no, .inl (cB, 16, .inl (fun _ => 0))), (ou, .inl (cB, 0, .inl (fun _ => 0))), (tx, .inl (cB, 256, .inl (tX (cV L xs) 8))), (h, .inr (0, [.ref e, .int 0, .int 0, .ref ky, .ref no, .ref tx, .int (nI (lZ (cV L xs))), .ref ou])), (ky, .inl (cB, 32, .inl (wP (fun _ => 0) 0 (cV L xs 0) (cV L xs 1) (cV L xs 2) (cV L xs 3))))] H := hP
  have hD : va_D A [(e, .inr (1, [.null, .int 0, .int 0, .null, .int 0])), (no, .inl (cB, 16, .inl (fun _ => 0))), (ou, .inl (cB, 0, .inl (fun _ => 0))), (tx, .inl (cB, 256, .inl (tX (cV L xs) 8))), (h, .inr (0, [.ref e, .int 0, .int 0, .ref ky, .ref no, .ref tx, .int (nI (lZ (cV L xs))), .ref ou])), (ky, .inl (cB, 32, .inl (wP (fun _ => 0) 0 (cV L xs 0) (cV L xs 1) (cV L xs 2) (cV L xs 3))))] := hD
  refine lv_aload_n hx hb dX0_made_101 rfl (lv_at hl 0 rfl) ?_
  refine lv_bipush (v := nI 6) hx hb dX0_made_102 (by decide) ?_
  refine hb_Si (As := [.ref b, .int (nI 6)]) (rest := [.int (cV L xs 5), .int (cV L xs 4), .int (nI 1), .ref h]) (wc := []) (wr := [(e, .inr (1, [.null, .int 0, .int 0, .null, .int 0])), (no, .inl (cB, 16, .inl (fun _ => 0))), (ou, .inl (cB, 0, .inl (fun _ => 0))), (tx, .inl (cB, 256, .inl (tX (cV L xs) 8))), (h, .inr (0, [.ref e, .int 0, .int 0, .ref ky, .ref no, .ref tx, .int (nI (lZ (cV L xs))), .ref ou])), (ky, .inl (cB, 32, .inl (wP (fun _ => 0) 0 (cV L xs 0) (cV L xs 1) (cV L xs 2) (cV L xs 3))))]) (k := 6) (k' := 318) ⟨hx, hb, hml, hown, hts⟩ (metX0_cell l D cB _ b L 6 xs hL (by decide)) (va_cwS 2 hts (lw_S q150 q151 q4 q152) rfl rfl rfl (by decide +kernel) ⟨Nat.le_of_ble_eq_true rfl, Nat.le_of_ble_eq_true rfl⟩) ⟨hK, hP, hD, hS, hA⟩ [] [0, 1, 2, 3, 4, 5] ⟨rfl, rfl, rfl, rfl, by decide⟩ hb_blX (hb_gX hX hbs hbA hS) rfl hl.1 rfl (Nat.le_of_ble_eq_true rfl) dX0_made_104 ⟨Nat.le_of_ble_eq_true rfl, Nat.le_of_ble_eq_true rfl⟩ ⟨Nat.le_of_ble_eq_true rfl, Nat.le_of_ble_eq_true rfl⟩ (fun r_104 w_1 H locs hw hP hD hS => ?_)
  obtain ⟨rfl, rfl⟩ := hw
  have hP : va_P D vwCl [(e, .inr (1, [.null, .int 0, .int 0, .null, .int 0])), (no, .inl (cB, 16, .inl (fun _ => 0))), (ou, .inl (cB, 0, .inl (fun _ => 0))), (tx, .inl (cB, 256, .inl (tX (cV L xs) 8))), (h, .inr (0, [.ref e, .int 0, .int 0, .ref ky, .ref no, .ref tx, .int (nI (lZ (cV L xs))), .ref ou])), (ky, .inl (cB, 32, .inl (wP (fun _ => 0) 0 (cV L xs 0) (cV L xs 1) (cV L xs 2) (cV L xs 3))))] H := hP
  have hD : va_D A [(e, .inr (1, [.null, .int 0, .int 0, .null, .int 0])), (no, .inl (cB, 16, .inl (fun _ => 0))), (ou, .inl (cB, 0, .inl (fun _ => 0))), (tx, .inl (cB, 256, .inl (tX (cV L xs) 8))), (h, .inr (0, [.ref e, .int 0, .int 0, .ref ky, .ref no, .ref tx, .int (nI (lZ (cV L xs))), .ref ou])), (ky, .inl (cB, 32, .inl (wP (fun _ => 0) 0 (cV L xs 0) (cV L xs 1) (cV L xs 2) (cV L xs 3))))] := hD
  refine lv_aload_n hx hb dX0_made_107 rfl (lv_at hl 0 rfl) ?_
  refine lv_bipush (v := nI 7) hx hb dX0_made_108 (by decide) ?_
  refine hb_Si (As := [.ref b, .int (nI 7)]) (rest := [.int (cV L xs 6), .int (cV L xs 5), .int (cV L xs 4), .int (nI 1), .ref h]) (wc := []) (wr := [(e, .inr (1, [.null, .int 0, .int 0, .null, .int 0])), (no, .inl (cB, 16, .inl (fun _ => 0))), (ou, .inl (cB, 0, .inl (fun _ => 0))), (tx, .inl (cB, 256, .inl (tX (cV L xs) 8))), (h, .inr (0, [.ref e, .int 0, .int 0, .ref ky, .ref no, .ref tx, .int (nI (lZ (cV L xs))), .ref ou])), (ky, .inl (cB, 32, .inl (wP (fun _ => 0) 0 (cV L xs 0) (cV L xs 1) (cV L xs 2) (cV L xs 3))))]) (k := 6) (k' := 318) ⟨hx, hb, hml, hown, hts⟩ (metX0_cell l D cB _ b L 7 xs hL (by decide)) (va_cwS 2 hts (lw_S q150 q151 q4 q152) rfl rfl rfl (by decide +kernel) ⟨Nat.le_of_ble_eq_true rfl, Nat.le_of_ble_eq_true rfl⟩) ⟨hK, hP, hD, hS, hA⟩ [] [0, 1, 2, 3, 4, 5] ⟨rfl, rfl, rfl, rfl, by decide⟩ hb_blX (hb_gX hX hbs hbA hS) rfl hl.1 rfl (Nat.le_of_ble_eq_true rfl) dX0_made_110 ⟨Nat.le_of_ble_eq_true rfl, Nat.le_of_ble_eq_true rfl⟩ ⟨Nat.le_of_ble_eq_true rfl, Nat.le_of_ble_eq_true rfl⟩ (fun r_110 w_1 H locs hw hP hD hS => ?_)
  obtain ⟨rfl, rfl⟩ := hw
  have hP : va_P D vwCl [(e, .inr (1, [.null, .int 0, .int 0, .null, .int 0])), (no, .inl (cB, 16, .inl (fun _ => 0))), (ou, .inl (cB, 0, .inl (fun _ => 0))), (tx, .inl (cB, 256, .inl (tX (cV L xs) 8))), (h, .inr (0, [.ref e, .int 0, .int 0, .ref ky, .ref no, .ref tx, .int (nI (lZ (cV L xs))), .ref ou])), (ky, .inl (cB, 32, .inl (wP (fun _ => 0) 0 (cV L xs 0) (cV L xs 1) (cV L xs 2) (cV L xs 3))))] H := hP
  have hD : va_D A [(e, .inr (1, [.null, .int 0, .int 0, .null, .int 0])), (no, .inl (cB, 16, .inl (fun _ => 0))), (ou, .inl (cB, 0, .inl (fun _ => 0))), (tx, .inl (cB, 256, .inl (tX (cV L xs) 8))), (h, .inr (0, [.ref e, .int 0, .int 0, .ref ky, .ref no, .ref tx, .int (nI (lZ (cV L xs))), .ref ou])), (ky, .inl (cB, 32, .inl (wP (fun _ => 0) 0 (cV L xs 0) (cV L xs 1) (cV L xs 2) (cV L xs 3))))] := hD
  refine hb_Vv (As := [.int (nI 1), .int (cV L xs 4), .int (cV L xs 5), .int (cV L xs 6), .int (cV L xs 7)]) (rest := []) (wc := [(h, .inr (0, [.ref e, .int 0, .int 0, .ref ky, .ref no, .ref tx, .int (nI (lZ (cV L xs))), .ref ou])), (ky, .inl (cB, 32, .inl (wP (fun _ => 0) 0 (cV L xs 0) (cV L xs 1) (cV L xs 2) (cV L xs 3))))]) (wr := [(e, .inr (1, [.null, .int 0, .int 0, .null, .int 0])), (no, .inl (cB, 16, .inl (fun _ => 0))), (ou, .inl (cB, 0, .inl (fun _ => 0))), (tx, .inl (cB, 256, .inl (tX (cV L xs) 8)))]) (k := 6) (k' := 318) ⟨hx, hb, hml, hown, hts⟩ (metX1_key l D cB _ h ky 1 (.ref e) (.int 0) (.int 0) (.ref no) (.ref tx) (.int (nI (lZ (cV L xs)))) (.ref ou) (wP (fun _ => 0) 0 (cV L xs 0) (cV L xs 1) (cV L xs 2) (cV L xs 3)) (cV L xs 4) (cV L xs 5) (cV L xs 6) (cV L xs 7) (by decide)) (cwV 5 hts (lw_V q218 q219 q220 q5 q221) rfl rfl rfl (by decide +kernel) ⟨Nat.le_of_ble_eq_true rfl, Nat.le_of_ble_eq_true rfl⟩) ⟨hK, hP, hD, hS, hA⟩ [4, 5] [0, 1, 2, 3] ⟨rfl, rfl, rfl, rfl, by decide⟩ (va_recv hK hP (ci := 0) (q0 := 4) rfl rfl) hb_bl (fun _ _ _ => trivial) rfl hl.1 rfl (Nat.le_of_ble_eq_true rfl) dX0_made_113 ⟨Nat.le_of_ble_eq_true rfl, Nat.le_of_ble_eq_true rfl⟩ ⟨Nat.le_of_ble_eq_true rfl, Nat.le_of_ble_eq_true rfl⟩ (fun w_1 H locs hw hP hD hS => ?_)
  obtain rfl := hw
  have hP : va_P D vwCl [(e, .inr (1, [.null, .int 0, .int 0, .null, .int 0])), (no, .inl (cB, 16, .inl (fun _ => 0))), (ou, .inl (cB, 0, .inl (fun _ => 0))), (tx, .inl (cB, 256, .inl (tX (cV L xs) 8))), (h, .inr (0, [.ref e, .int 0, .int 0, .ref ky, .ref no, .ref tx, .int (nI (lZ (cV L xs))), .ref ou])), (ky, .inl (cB, 32, .inl (kX (cV L xs))))] H := hP
  have hD : va_D A [(e, .inr (1, [.null, .int 0, .int 0, .null, .int 0])), (no, .inl (cB, 16, .inl (fun _ => 0))), (ou, .inl (cB, 0, .inl (fun _ => 0))), (tx, .inl (cB, 256, .inl (tX (cV L xs) 8))), (h, .inr (0, [.ref e, .int 0, .int 0, .ref ky, .ref no, .ref tx, .int (nI (lZ (cV L xs))), .ref ou])), (ky, .inl (cB, 32, .inl (kX (cV L xs))))] := hD
  refine lv_aload_n hx hb dX0_made_116 rfl (lv_at hl 1 rfl) ?_
  refine lv_aload_n hx hb dX0_made_117 rfl (lv_at hl 0 rfl) ?_
  refine lv_bipush (v := nI 8) hx hb dX0_made_118 (by decide) ?_
  refine hb_Si (As := [.ref b, .int (nI 8)]) (rest := [.ref h]) (wc := []) (wr := [(e, .inr (1, [.null, .int 0, .int 0, .null, .int 0])), (no, .inl (cB, 16, .inl (fun _ => 0))), (ou, .inl (cB, 0, .inl (fun _ => 0))), (tx, .inl (cB, 256, .inl (tX (cV L xs) 8))), (h, .inr (0, [.ref e, .int 0, .int 0, .ref ky, .ref no, .ref tx, .int (nI (lZ (cV L xs))), .ref ou])), (ky, .inl (cB, 32, .inl (kX (cV L xs))))]) (k := 6) (k' := 318) ⟨hx, hb, hml, hown, hts⟩ (metX0_cell l D cB _ b L 8 xs hL (by decide)) (va_cwS 2 hts (lw_S q150 q151 q4 q152) rfl rfl rfl (by decide +kernel) ⟨Nat.le_of_ble_eq_true rfl, Nat.le_of_ble_eq_true rfl⟩) ⟨hK, hP, hD, hS, hA⟩ [] [0, 1, 2, 3, 4, 5] ⟨rfl, rfl, rfl, rfl, by decide⟩ hb_blX (hb_gX hX hbs hbA hS) rfl hl.1 rfl (Nat.le_of_ble_eq_true rfl) dX0_made_120 ⟨Nat.le_of_ble_eq_true rfl, Nat.le_of_ble_eq_true rfl⟩ ⟨Nat.le_of_ble_eq_true rfl, Nat.le_of_ble_eq_true rfl⟩ (fun r_120 w_1 H locs hw hP hD hS => ?_)
  obtain ⟨rfl, rfl⟩ := hw
  have hP : va_P D vwCl [(e, .inr (1, [.null, .int 0, .int 0, .null, .int 0])), (no, .inl (cB, 16, .inl (fun _ => 0))), (ou, .inl (cB, 0, .inl (fun _ => 0))), (tx, .inl (cB, 256, .inl (tX (cV L xs) 8))), (h, .inr (0, [.ref e, .int 0, .int 0, .ref ky, .ref no, .ref tx, .int (nI (lZ (cV L xs))), .ref ou])), (ky, .inl (cB, 32, .inl (kX (cV L xs))))] H := hP
  have hD : va_D A [(e, .inr (1, [.null, .int 0, .int 0, .null, .int 0])), (no, .inl (cB, 16, .inl (fun _ => 0))), (ou, .inl (cB, 0, .inl (fun _ => 0))), (tx, .inl (cB, 256, .inl (tX (cV L xs) 8))), (h, .inr (0, [.ref e, .int 0, .int 0, .ref ky, .ref no, .ref tx, .int (nI (lZ (cV L xs))), .ref ou])), (ky, .inl (cB, 32, .inl (kX (cV L xs))))] := hD
  refine lv_aload_n hx hb dX0_made_123 rfl (lv_at hl 0 rfl) ?_
  refine lv_bipush (v := nI 9) hx hb dX0_made_124 (by decide) ?_
  refine hb_Si (As := [.ref b, .int (nI 9)]) (rest := [.int (cV L xs 8), .ref h]) (wc := []) (wr := [(e, .inr (1, [.null, .int 0, .int 0, .null, .int 0])), (no, .inl (cB, 16, .inl (fun _ => 0))), (ou, .inl (cB, 0, .inl (fun _ => 0))), (tx, .inl (cB, 256, .inl (tX (cV L xs) 8))), (h, .inr (0, [.ref e, .int 0, .int 0, .ref ky, .ref no, .ref tx, .int (nI (lZ (cV L xs))), .ref ou])), (ky, .inl (cB, 32, .inl (kX (cV L xs))))]) (k := 6) (k' := 318) ⟨hx, hb, hml, hown, hts⟩ (metX0_cell l D cB _ b L 9 xs hL (by decide)) (va_cwS 2 hts (lw_S q150 q151 q4 q152) rfl rfl rfl (by decide +kernel) ⟨Nat.le_of_ble_eq_true rfl, Nat.le_of_ble_eq_true rfl⟩) ⟨hK, hP, hD, hS, hA⟩ [] [0, 1, 2, 3, 4, 5] ⟨rfl, rfl, rfl, rfl, by decide⟩ hb_blX (hb_gX hX hbs hbA hS) rfl hl.1 rfl (Nat.le_of_ble_eq_true rfl) dX0_made_126 ⟨Nat.le_of_ble_eq_true rfl, Nat.le_of_ble_eq_true rfl⟩ ⟨Nat.le_of_ble_eq_true rfl, Nat.le_of_ble_eq_true rfl⟩ (fun r_126 w_1 H locs hw hP hD hS => ?_)
  obtain ⟨rfl, rfl⟩ := hw
  have hP : va_P D vwCl [(e, .inr (1, [.null, .int 0, .int 0, .null, .int 0])), (no, .inl (cB, 16, .inl (fun _ => 0))), (ou, .inl (cB, 0, .inl (fun _ => 0))), (tx, .inl (cB, 256, .inl (tX (cV L xs) 8))), (h, .inr (0, [.ref e, .int 0, .int 0, .ref ky, .ref no, .ref tx, .int (nI (lZ (cV L xs))), .ref ou])), (ky, .inl (cB, 32, .inl (kX (cV L xs))))] H := hP
  have hD : va_D A [(e, .inr (1, [.null, .int 0, .int 0, .null, .int 0])), (no, .inl (cB, 16, .inl (fun _ => 0))), (ou, .inl (cB, 0, .inl (fun _ => 0))), (tx, .inl (cB, 256, .inl (tX (cV L xs) 8))), (h, .inr (0, [.ref e, .int 0, .int 0, .ref ky, .ref no, .ref tx, .int (nI (lZ (cV L xs))), .ref ou])), (ky, .inl (cB, 32, .inl (kX (cV L xs))))] := hD
  refine lv_aload_n hx hb dX0_made_129 rfl (lv_at hl 0 rfl) ?_
  refine lv_bipush (v := nI 10) hx hb dX0_made_130 (by decide) ?_
  refine hb_Si (As := [.ref b, .int (nI 10)]) (rest := [.int (cV L xs 9), .int (cV L xs 8), .ref h]) (wc := []) (wr := [(e, .inr (1, [.null, .int 0, .int 0, .null, .int 0])), (no, .inl (cB, 16, .inl (fun _ => 0))), (ou, .inl (cB, 0, .inl (fun _ => 0))), (tx, .inl (cB, 256, .inl (tX (cV L xs) 8))), (h, .inr (0, [.ref e, .int 0, .int 0, .ref ky, .ref no, .ref tx, .int (nI (lZ (cV L xs))), .ref ou])), (ky, .inl (cB, 32, .inl (kX (cV L xs))))]) (k := 6) (k' := 318) ⟨hx, hb, hml, hown, hts⟩ (metX0_cell l D cB _ b L 10 xs hL (by decide)) (va_cwS 2 hts (lw_S q150 q151 q4 q152) rfl rfl rfl (by decide +kernel) ⟨Nat.le_of_ble_eq_true rfl, Nat.le_of_ble_eq_true rfl⟩) ⟨hK, hP, hD, hS, hA⟩ [] [0, 1, 2, 3, 4, 5] ⟨rfl, rfl, rfl, rfl, by decide⟩ hb_blX (hb_gX hX hbs hbA hS) rfl hl.1 rfl (Nat.le_of_ble_eq_true rfl) dX0_made_132 ⟨Nat.le_of_ble_eq_true rfl, Nat.le_of_ble_eq_true rfl⟩ ⟨Nat.le_of_ble_eq_true rfl, Nat.le_of_ble_eq_true rfl⟩ (fun r_132 w_1 H locs hw hP hD hS => ?_)
  obtain ⟨rfl, rfl⟩ := hw
  have hP : va_P D vwCl [(e, .inr (1, [.null, .int 0, .int 0, .null, .int 0])), (no, .inl (cB, 16, .inl (fun _ => 0))), (ou, .inl (cB, 0, .inl (fun _ => 0))), (tx, .inl (cB, 256, .inl (tX (cV L xs) 8))), (h, .inr (0, [.ref e, .int 0, .int 0, .ref ky, .ref no, .ref tx, .int (nI (lZ (cV L xs))), .ref ou])), (ky, .inl (cB, 32, .inl (kX (cV L xs))))] H := hP
  have hD : va_D A [(e, .inr (1, [.null, .int 0, .int 0, .null, .int 0])), (no, .inl (cB, 16, .inl (fun _ => 0))), (ou, .inl (cB, 0, .inl (fun _ => 0))), (tx, .inl (cB, 256, .inl (tX (cV L xs) 8))), (h, .inr (0, [.ref e, .int 0, .int 0, .ref ky, .ref no, .ref tx, .int (nI (lZ (cV L xs))), .ref ou])), (ky, .inl (cB, 32, .inl (kX (cV L xs))))] := hD
  refine lv_aload_n hx hb dX0_made_135 rfl (lv_at hl 0 rfl) ?_
  refine lv_bipush (v := nI 11) hx hb dX0_made_136 (by decide) ?_
  refine hb_Si (As := [.ref b, .int (nI 11)]) (rest := [.int (cV L xs 10), .int (cV L xs 9), .int (cV L xs 8), .ref h]) (wc := []) (wr := [(e, .inr (1, [.null, .int 0, .int 0, .null, .int 0])), (no, .inl (cB, 16, .inl (fun _ => 0))), (ou, .inl (cB, 0, .inl (fun _ => 0))), (tx, .inl (cB, 256, .inl (tX (cV L xs) 8))), (h, .inr (0, [.ref e, .int 0, .int 0, .ref ky, .ref no, .ref tx, .int (nI (lZ (cV L xs))), .ref ou])), (ky, .inl (cB, 32, .inl (kX (cV L xs))))]) (k := 6) (k' := 318) ⟨hx, hb, hml, hown, hts⟩ (metX0_cell l D cB _ b L 11 xs hL (by decide)) (va_cwS 2 hts (lw_S q150 q151 q4 q152) rfl rfl rfl (by decide +kernel) ⟨Nat.le_of_ble_eq_true rfl, Nat.le_of_ble_eq_true rfl⟩) ⟨hK, hP, hD, hS, hA⟩ [] [0, 1, 2, 3, 4, 5] ⟨rfl, rfl, rfl, rfl, by decide⟩ hb_blX (hb_gX hX hbs hbA hS) rfl hl.1 rfl (Nat.le_of_ble_eq_true rfl) dX0_made_138 ⟨Nat.le_of_ble_eq_true rfl, Nat.le_of_ble_eq_true rfl⟩ ⟨Nat.le_of_ble_eq_true rfl, Nat.le_of_ble_eq_true rfl⟩ (fun r_138 w_1 H locs hw hP hD hS => ?_)
  obtain ⟨rfl, rfl⟩ := hw
  have hP : va_P D vwCl [(e, .inr (1, [.null, .int 0, .int 0, .null, .int 0])), (no, .inl (cB, 16, .inl (fun _ => 0))), (ou, .inl (cB, 0, .inl (fun _ => 0))), (tx, .inl (cB, 256, .inl (tX (cV L xs) 8))), (h, .inr (0, [.ref e, .int 0, .int 0, .ref ky, .ref no, .ref tx, .int (nI (lZ (cV L xs))), .ref ou])), (ky, .inl (cB, 32, .inl (kX (cV L xs))))] H := hP
  have hD : va_D A [(e, .inr (1, [.null, .int 0, .int 0, .null, .int 0])), (no, .inl (cB, 16, .inl (fun _ => 0))), (ou, .inl (cB, 0, .inl (fun _ => 0))), (tx, .inl (cB, 256, .inl (tX (cV L xs) 8))), (h, .inr (0, [.ref e, .int 0, .int 0, .ref ky, .ref no, .ref tx, .int (nI (lZ (cV L xs))), .ref ou])), (ky, .inl (cB, 32, .inl (kX (cV L xs))))] := hD
  refine hb_Vv (As := [.int (cV L xs 8), .int (cV L xs 9), .int (cV L xs 10), .int (cV L xs 11)]) (rest := []) (wc := [(h, .inr (0, [.ref e, .int 0, .int 0, .ref ky, .ref no, .ref tx, .int (nI (lZ (cV L xs))), .ref ou])), (no, .inl (cB, 16, .inl (fun _ => 0)))]) (wr := [(e, .inr (1, [.null, .int 0, .int 0, .null, .int 0])), (ou, .inl (cB, 0, .inl (fun _ => 0))), (tx, .inl (cB, 256, .inl (tX (cV L xs) 8))), (ky, .inl (cB, 32, .inl (kX (cV L xs))))]) (k := 6) (k' := 318) ⟨hx, hb, hml, hown, hts⟩ (metX1_nonce l D cB _ h no (.ref e) (.int 0) (.int 0) (.ref ky) (.ref tx) (.int (nI (lZ (cV L xs)))) (.ref ou) (fun _ => 0) (cV L xs 8) (cV L xs 9) (cV L xs 10) (cV L xs 11)) (cwV 4 hts (lw_V q222 q223 q224 q5 q225) rfl rfl rfl (by decide +kernel) ⟨Nat.le_of_ble_eq_true rfl, Nat.le_of_ble_eq_true rfl⟩) ⟨hK, hP, hD, hS, hA⟩ [4, 1] [0, 2, 3, 5] ⟨rfl, rfl, rfl, rfl, by decide⟩ (va_recv hK hP (ci := 0) (q0 := 4) rfl rfl) hb_bl (fun _ _ _ => trivial) rfl hl.1 rfl (Nat.le_of_ble_eq_true rfl) dX0_made_141 ⟨Nat.le_of_ble_eq_true rfl, Nat.le_of_ble_eq_true rfl⟩ ⟨Nat.le_of_ble_eq_true rfl, Nat.le_of_ble_eq_true rfl⟩ (fun w_1 H locs hw hP hD hS => ?_)
  obtain rfl := hw
  have hP : va_P D vwCl [(e, .inr (1, [.null, .int 0, .int 0, .null, .int 0])), (ou, .inl (cB, 0, .inl (fun _ => 0))), (tx, .inl (cB, 256, .inl (tX (cV L xs) 8))), (ky, .inl (cB, 32, .inl (kX (cV L xs)))), (h, .inr (0, [.ref e, .int 0, .int 0, .ref ky, .ref no, .ref tx, .int (nI (lZ (cV L xs))), .ref ou])), (no, .inl (cB, 16, .inl (wP (fun _ => 0) 0 (cV L xs 8) (cV L xs 9) (cV L xs 10) (cV L xs 11))))] H := hP
  have hD : va_D A [(e, .inr (1, [.null, .int 0, .int 0, .null, .int 0])), (ou, .inl (cB, 0, .inl (fun _ => 0))), (tx, .inl (cB, 256, .inl (tX (cV L xs) 8))), (ky, .inl (cB, 32, .inl (kX (cV L xs)))), (h, .inr (0, [.ref e, .int 0, .int 0, .ref ky, .ref no, .ref tx, .int (nI (lZ (cV L xs))), .ref ou])), (no, .inl (cB, 16, .inl (wP (fun _ => 0) 0 (cV L xs 8) (cV L xs 9) (cV L xs 10) (cV L xs 11))))] := hD
  refine lv_aload_n hx hb dX0_made_144 rfl (lv_at hl 1 rfl) ?_
  refine lv_aload_n hx hb dX0_made_145 rfl (lv_at hl 0 rfl) ?_
  refine lv_bipush (v := nI 12) hx hb dX0_made_146 (by decide) ?_
  refine hb_Si (As := [.ref b, .int (nI 12)]) (rest := [.ref h]) (wc := []) (wr := [(e, .inr (1, [.null, .int 0, .int 0, .null, .int 0])), (ou, .inl (cB, 0, .inl (fun _ => 0))), (tx, .inl (cB, 256, .inl (tX (cV L xs) 8))), (ky, .inl (cB, 32, .inl (kX (cV L xs)))), (h, .inr (0, [.ref e, .int 0, .int 0, .ref ky, .ref no, .ref tx, .int (nI (lZ (cV L xs))), .ref ou])), (no, .inl (cB, 16, .inl (wP (fun _ => 0) 0 (cV L xs 8) (cV L xs 9) (cV L xs 10) (cV L xs 11))))]) (k := 6) (k' := 318) ⟨hx, hb, hml, hown, hts⟩ (metX0_cell l D cB _ b L 12 xs hL (by decide)) (va_cwS 2 hts (lw_S q150 q151 q4 q152) rfl rfl rfl (by decide +kernel) ⟨Nat.le_of_ble_eq_true rfl, Nat.le_of_ble_eq_true rfl⟩) ⟨hK, hP, hD, hS, hA⟩ [] [0, 1, 2, 3, 4, 5] ⟨rfl, rfl, rfl, rfl, by decide⟩ hb_blX (hb_gX hX hbs hbA hS) rfl hl.1 rfl (Nat.le_of_ble_eq_true rfl) dX0_made_148 ⟨Nat.le_of_ble_eq_true rfl, Nat.le_of_ble_eq_true rfl⟩ ⟨Nat.le_of_ble_eq_true rfl, Nat.le_of_ble_eq_true rfl⟩ (fun r_148 w_1 H locs hw hP hD hS => ?_)
  obtain ⟨rfl, rfl⟩ := hw
  have hP : va_P D vwCl [(e, .inr (1, [.null, .int 0, .int 0, .null, .int 0])), (ou, .inl (cB, 0, .inl (fun _ => 0))), (tx, .inl (cB, 256, .inl (tX (cV L xs) 8))), (ky, .inl (cB, 32, .inl (kX (cV L xs)))), (h, .inr (0, [.ref e, .int 0, .int 0, .ref ky, .ref no, .ref tx, .int (nI (lZ (cV L xs))), .ref ou])), (no, .inl (cB, 16, .inl (wP (fun _ => 0) 0 (cV L xs 8) (cV L xs 9) (cV L xs 10) (cV L xs 11))))] H := hP
  have hD : va_D A [(e, .inr (1, [.null, .int 0, .int 0, .null, .int 0])), (ou, .inl (cB, 0, .inl (fun _ => 0))), (tx, .inl (cB, 256, .inl (tX (cV L xs) 8))), (ky, .inl (cB, 32, .inl (kX (cV L xs)))), (h, .inr (0, [.ref e, .int 0, .int 0, .ref ky, .ref no, .ref tx, .int (nI (lZ (cV L xs))), .ref ou])), (no, .inl (cB, 16, .inl (wP (fun _ => 0) 0 (cV L xs 8) (cV L xs 9) (cV L xs 10) (cV L xs 11))))] := hD
  refine hb_Vv (As := [.int (cV L xs 12)]) (rest := []) (wc := [(h, .inr (0, [.ref e, .int 0, .int 0, .ref ky, .ref no, .ref tx, .int (nI (lZ (cV L xs))), .ref ou])), (ky, .inl (cB, 32, .inl (kX (cV L xs))))]) (wr := [(e, .inr (1, [.null, .int 0, .int 0, .null, .int 0])), (ou, .inl (cB, 0, .inl (fun _ => 0))), (tx, .inl (cB, 256, .inl (tX (cV L xs) 8))), (no, .inl (cB, 16, .inl (wP (fun _ => 0) 0 (cV L xs 8) (cV L xs 9) (cV L xs 10) (cV L xs 11))))]) (k := 11) (k' := 648) ⟨hx, hb, hml, hown, hts⟩ (metX1_begin l D cB _ h ky (.ref e) (.int 0) (.int 0) (.ref no) (.ref tx) (.int (nI (lZ (cV L xs)))) (.ref ou) (kX (cV L xs)) (cV L xs 12)) (cwV 1 hts (lw_V q226 q227 q228 q5 q229) rfl rfl rfl (by decide +kernel) ⟨Nat.le_of_ble_eq_true rfl, Nat.le_of_ble_eq_true rfl⟩) ⟨hK, hP, hD, hS, hA⟩ [4, 3] [0, 1, 2, 5] ⟨rfl, rfl, rfl, rfl, by decide⟩ (va_recv hK hP (ci := 0) (q0 := 4) rfl rfl) hb_bl (fun _ _ _ => trivial) rfl hl.1 rfl (Nat.le_of_ble_eq_true rfl) dX0_made_151 ⟨Nat.le_of_ble_eq_true rfl, Nat.le_of_ble_eq_true rfl⟩ ⟨Nat.le_of_ble_eq_true rfl, Nat.le_of_ble_eq_true rfl⟩ (fun w_1 H locs hw hP hD hS => ?_)
  obtain ⟨e2, wk, st, rfl⟩ := hw
  have hP : va_P D vwCl [(e, .inr (1, [.null, .int 0, .int 0, .null, .int 0])), (ou, .inl (cB, 0, .inl (fun _ => 0))), (tx, .inl (cB, 256, .inl (tX (cV L xs) 8))), (no, .inl (cB, 16, .inl (wP (fun _ => 0) 0 (cV L xs 8) (cV L xs 9) (cV L xs 10) (cV L xs 11)))), (h, .inr (0, [.ref e2, .int 1, .int (nI 0), .ref ky, .ref no, .ref tx, .int (nI (lZ (cV L xs))), .ref ou])), (ky, .inl (cB, 32, .inl (kX (cV L xs)))), (e2, .inr (1, [.ref st, .int (nI (lS (cV L xs)).1), .int (nI (lS (cV L xs)).2.1), .ref wk, .int 1])), (wk, .inl (cB, kN (cV L xs 12), .inl (fun j => b8 (kX (cV L xs) j)))), (st, .inl (cB, 256, .inl ((lS (cV L xs)).2.2)))] H := hP
  have hD : va_D A [(e, .inr (1, [.null, .int 0, .int 0, .null, .int 0])), (ou, .inl (cB, 0, .inl (fun _ => 0))), (tx, .inl (cB, 256, .inl (tX (cV L xs) 8))), (no, .inl (cB, 16, .inl (wP (fun _ => 0) 0 (cV L xs 8) (cV L xs 9) (cV L xs 10) (cV L xs 11)))), (h, .inr (0, [.ref e2, .int 1, .int (nI 0), .ref ky, .ref no, .ref tx, .int (nI (lZ (cV L xs))), .ref ou])), (ky, .inl (cB, 32, .inl (kX (cV L xs)))), (e2, .inr (1, [.ref st, .int (nI (lS (cV L xs)).1), .int (nI (lS (cV L xs)).2.1), .ref wk, .int 1])), (wk, .inl (cB, kN (cV L xs 12), .inl (fun j => b8 (kX (cV L xs) j)))), (st, .inl (cB, 256, .inl ((lS (cV L xs)).2.2)))] := hD
  refine lv_aload_n hx hb dX0_made_154 rfl (lv_at hl 1 rfl) ?_
  have hP := hb_Psub (ws' := [(h, .inr (0, [.ref e2, .int 1, .int (nI 0), .ref ky, .ref no, .ref tx, .int (nI (lZ (cV L xs))), .ref ou])), (e2, .inr (1, [.ref st, .int (nI (lS (cV L xs)).1), .int (nI (lS (cV L xs)).2.1), .ref wk, .int 1])), (wk, .inl (cB, kN (cV L xs 12), .inl (fun j => b8 (kX (cV L xs) j)))), (st, .inl (cB, 256, .inl ((lS (cV L xs)).2.2))), (tx, .inl (cB, 256, .inl (tX (cV L xs) 8))), (ou, .inl (cB, 0, .inl (fun _ => 0)))]) hP [4, 6, 7, 8, 2, 1] rfl
  have hD := hD.sub (ws' := [(h, .inr (0, [.ref e2, .int 1, .int (nI 0), .ref ky, .ref no, .ref tx, .int (nI (lZ (cV L xs))), .ref ou])), (e2, .inr (1, [.ref st, .int (nI (lS (cV L xs)).1), .int (nI (lS (cV L xs)).2.1), .ref wk, .int 1])), (wk, .inl (cB, kN (cV L xs 12), .inl (fun j => b8 (kX (cV L xs) j)))), (st, .inl (cB, 256, .inl ((lS (cV L xs)).2.2))), (tx, .inl (cB, 256, .inl (tX (cV L xs) 8))), (ou, .inl (cB, 0, .inl (fun _ => 0)))]) [4, 6, 7, 8, 2, 1] (by decide) rfl
  exact hb_retr hx hb hr hlk (Or.inl ⟨_, rfl⟩) hK hP hD hS ⟨e2, ky, no, tx, ou, wk, st, rfl⟩ ⟨Nat.le_of_ble_eq_true rfl, Nat.le_of_ble_eq_true rfl⟩ dX0_made_155
set_option maxHeartbeats 4000000 in
set_option maxRecDepth 100000 in
theorem kn_loop {p : Program} {l : Launch} {e_0 : Env} {s : State} {m : MethodId} {args : Array Value} {below : List Frame} {meth : Method} {c : Code} {Q : State → Prop} {D : va_G} {cB : ClassId} {A : Nat → Prop} (hx : p.tables.exec = Jvm.exec) (hb : c.code = cX0_known) (hts : ∀ w ∈ lw_all, w.before args s = true) (hown : s.vm.findClass RX0 = some m.cls) (hK : va_K D vwCl [(cB, .byte)] s) (hml : c.maxLocals = 3) (hA : ∀ q : Nat, s.heap.size ≤ q → A q) {cI : ClassId} (hK2 : va_K D vwCl [(cB, .byte), (cI, .int)] s) (h ou xo : Nat) (v0 v1 v2 v3 v4 v5 v6 : Value) (o : Nat → Int32) (ho : ∀ i, i < 9 → nI (a8 (o i)) = kX9 i) (kk : ∀ (H : Heap) (locs : List Loc) (ls : Array Slot), va_P D vwCl [(h, .inr (0, [v0, v1, v2, v3, v4, v5, v6, .ref ou])), (ou, .inl (cB, 9, .inl o)), (xo, .inl (cI, 9, .inl kX9))] H → va_D A [(h, .inr (0, [v0, v1, v2, v3, v4, v5, v6, .ref ou])), (ou, .inl (cB, 9, .inl o)), (xo, .inl (cI, 9, .inl kX9))] → va_S A s.heap H locs → lv_has ls 3 [] → W p l e_0 ({ frames := 5, cells := 13, slots := 920, locals := 160 } : Room) s m args below meth c H locs 13 913 Q (F0 m 135 ls [])) :
    ∀ (k i : Nat), i + k = 9 → ∀ (H : Heap) (locs : List Loc) (ls : Array Slot), va_P D vwCl [(h, .inr (0, [v0, v1, v2, v3, v4, v5, v6, .ref ou])), (ou, .inl (cB, 9, .inl o)), (xo, .inl (cI, 9, .inl kX9))] H → va_D A [(h, .inr (0, [v0, v1, v2, v3, v4, v5, v6, .ref ou])), (ou, .inl (cB, 9, .inl o)), (xo, .inl (cI, 9, .inl kX9))] → va_S A s.heap H locs → lv_has ls 3 [(0, .ref h), (1, .ref xo), (2, .int (nI i))] → W p l e_0 ({ frames := 5, cells := 13, slots := 920, locals := 160 } : Room) s m args below meth c H locs 13 913 Q (F0 m 110 ls []) := by
  intro k
  induction k with
  | zero =>
    intro i hi H locs ls hP hD hS hl
    obtain rfl : i = 9 := by omega
    refine lv_iload_n hx hb dX0_known_110 rfl (lv_at hl 2 rfl) ?_
    refine lv_bipush (v := nI 9) hx hb dX0_known_111 (by decide) ?_
    refine lv_icmp_ge (tgt := 135) hx hb dX0_known_113 (by decide) (fun c_113 => ?_) (fun c_113 => absurd (nI_le (Nat.le_refl _) (by decide)) c_113)
    exact kk H locs ls hP hD hS (lv_sub hl [] rfl)
  | succ k ih =>
    intro i hi H locs ls hP hD hS hl
    have hi1 : i < 9 := by omega
    refine lv_iload_n hx hb dX0_known_110 rfl (lv_at hl 2 rfl) ?_
    refine lv_bipush (v := nI 9) hx hb dX0_known_111 (by decide) ?_
    refine lv_icmp_ge (tgt := 135) hx hb dX0_known_113 (by decide) (fun c_113 => absurd c_113 (nI_ge hi1 (by decide))) (fun c_113 => ?_)
    refine lv_aload_n hx hb dX0_known_116 rfl (lv_at hl 0 rfl) ?_
    refine lv_iload_n hx hb dX0_known_117 rfl (lv_at hl 2 rfl) ?_
    refine hb_Vi (As := [.int (nI i)]) (rest := []) (wc := [(h, .inr (0, [v0, v1, v2, v3, v4, v5, v6, .ref ou])), (ou, .inl (cB, 9, .inl o))]) (wr := [(xo, .inl (cI, 9, .inl kX9))]) (k := 13) (k' := 913) ⟨hx, hb, hml, hown, hts⟩ (metX1_out l D cB _ h ou 9 i v0 v1 v2 v3 v4 v5 v6 o hi1 (by decide)) (cwV 1 hts (lw_V q146 q147 q148 q5 q149) rfl rfl rfl (by decide +kernel) ⟨Nat.le_of_ble_eq_true rfl, Nat.le_of_ble_eq_true rfl⟩) ⟨hK, hP, hD, hS, hA⟩ [0, 1] [2] ⟨rfl, rfl, rfl, rfl, by decide⟩ (va_recv hK hP (ci := 0) (q0 := 0) rfl rfl) hb_bl (fun _ _ _ => trivial) rfl hl.1 rfl (Nat.le_of_ble_eq_true rfl) dX0_known_118 ⟨Nat.le_of_ble_eq_true rfl, Nat.le_of_ble_eq_true rfl⟩ ⟨Nat.le_of_ble_eq_true rfl, Nat.le_of_ble_eq_true rfl⟩ (fun r_118 w_1 H locs hw hP hD hS => ?_)
    obtain ⟨rfl, rfl⟩ := hw
    have hP : va_P D vwCl [(xo, .inl (cI, 9, .inl kX9)), (h, .inr (0, [v0, v1, v2, v3, v4, v5, v6, .ref ou])), (ou, .inl (cB, 9, .inl o))] H := hP
    have hD : va_D A [(xo, .inl (cI, 9, .inl kX9)), (h, .inr (0, [v0, v1, v2, v3, v4, v5, v6, .ref ou])), (ou, .inl (cB, 9, .inl o))] := hD
    refine lv_aload_n hx hb dX0_known_121 rfl (lv_at hl 1 rfl) ?_
    refine lv_iload_n hx hb dX0_known_122 rfl (lv_at hl 2 rfl) ?_
    refine hb_iald (j := i) hx hb hK2 hP 0 rfl hi1 (by decide) (kX9 i) rfl dX0_known_123 ?_
    refine lv_icmp_eq (tgt := 129) hx hb dX0_known_124 (by decide) (fun c_124 => ?_) (fun c_124 => absurd (ho i hi1) c_124)
    refine lv_iinc (v := nI (i + 1)) (lv' := [(2, .int (nI (i + 1))), (0, .ref h), (1, .ref xo)]) hx hb dX0_known_129 hl (k := 2) rfl (nI_1 i) (by decide) rfl (fun ls hl => ?_)
    refine lv_goto (tgt := 110) hx hb dX0_known_132 (by decide) ?_
    have hP := hb_Psub (ws' := [(h, .inr (0, [v0, v1, v2, v3, v4, v5, v6, .ref ou])), (ou, .inl (cB, 9, .inl o)), (xo, .inl (cI, 9, .inl kX9))]) hP [1, 2, 0] rfl
    have hD := hD.sub (ws' := [(h, .inr (0, [v0, v1, v2, v3, v4, v5, v6, .ref ou])), (ou, .inl (cB, 9, .inl o)), (xo, .inl (cI, 9, .inl kX9))]) [1, 2, 0] (by decide) rfl
    exact ih (i + 1) (by omega) H locs ls hP hD hS (lv_sub hl [1, 2, 0] rfl)
set_option maxHeartbeats 4000000 in
set_option maxRecDepth 100000 in
/-- known(): the customary example comes out -/
theorem metX0_known (l : Launch) (D : va_G) (cB : ClassId) (sz : Nat)  : hb_Mi l yX0_known (ws_ yX0_known cX0_known 3 (some .boolean)) { frames := 5, cells := 13, slots := 920, locals := 160 } D cB sz [] [] hb_T (fun r w => r = 1 ∧ w = []) := by
  refine hb_startG (Qc := hb_Qi D cB _) (by decide) (Nat.le_of_ble_eq_true rfl) ?_
  intro p e_0 s m args below meth c A hAt hIn hsz hXs ls hl
  obtain ⟨hx, hb, hr, hlk, hml, hown, hts, hin⟩ := hAt
  obtain ⟨hK, hP, hD, hA, hS, hof⟩ := hIn
  have hown : s.vm.findClass RX0 = some m.cls := hown
  have hl : lv_has ls 3 [] := hl
  subst hsz
  refine hb_new1 (k := 1) (k' := 8) hx hb hts hown q156 hK hP hD hS hA ⟨Nat.le_of_ble_eq_true rfl, Nat.le_of_ble_eq_true rfl⟩ ⟨Nat.le_of_ble_eq_true rfl, Nat.le_of_ble_eq_true rfl⟩ dX0_known_0 (fun h H hP hD hS => ?_)
  have hP : va_P D vwCl [(h, .inr (0, [.null, .int 0, .int 0, .null, .null, .null, .int 0, .null]))] H := hP
  have hD : va_D A [(h, .inr (0, [.null, .int 0, .int 0, .null, .null, .null, .int 0, .null]))] := hD
  refine lv_dup hx hb dX0_known_3 rfl ?_
  refine hb_Iv (As := []) (rest := [.ref h]) (wc := [(h, .inr (0, [.null, .int 0, .int 0, .null, .null, .null, .int 0, .null]))]) (wr := []) (k := 6) (k' := 318) ⟨hx, hb, hml, hown, hts⟩ (metX1_init l D cB _ h) (cwI 0 hts (lw_meth q159) rfl rfl rfl (hts _ q5) (hts _ q157) (hts _ q158) rfl (by decide +kernel) ⟨Nat.le_of_ble_eq_true rfl, Nat.le_of_ble_eq_true rfl⟩) ⟨hK, hP, hD, hS, hA⟩ [0] [] ⟨rfl, rfl, rfl, rfl, by decide⟩ hb_bl (fun _ _ _ => trivial) rfl hl.1 rfl (Nat.le_of_ble_eq_true rfl) dX0_known_4 ⟨Nat.le_of_ble_eq_true rfl, Nat.le_of_ble_eq_true rfl⟩ ⟨Nat.le_of_ble_eq_true rfl, Nat.le_of_ble_eq_true rfl⟩ (fun w_1 H locs hw hP hD hS => ?_)
  obtain ⟨e, ky, no, tx, ou, rfl⟩ := hw
  have hP : va_P D vwCl [(h, .inr (0, [.ref e, .int 0, .int 0, .ref ky, .ref no, .ref tx, .int (nI 0), .ref ou])), (e, .inr (1, [.null, .int 0, .int 0, .null, .int 0])), (ky, .inl (cB, 32, .inl (fun _ => 0))), (no, .inl (cB, 16, .inl (fun _ => 0))), (tx, .inl (cB, 256, .inl (fun _ => 0))), (ou, .inl (cB, 0, .inl (fun _ => 0)))] H := hP
  have hD : va_D A [(h, .inr (0, [.ref e, .int 0, .int 0, .ref ky, .ref no, .ref tx, .int (nI 0), .ref ou])), (e, .inr (1, [.null, .int 0, .int 0, .null, .int 0])), (ky, .inl (cB, 32, .inl (fun _ => 0))), (no, .inl (cB, 16, .inl (fun _ => 0))), (tx, .inl (cB, 256, .inl (fun _ => 0))), (ou, .inl (cB, 0, .inl (fun _ => 0)))] := hD
  refine lv_astore_n (lv' := [(0, .ref h)]) hx hb dX0_known_7 rfl hl (by decide) rfl (fun ls hl => ?_)
  refine lv_aload_n hx hb dX0_known_8 rfl (lv_at hl 0 rfl) ?_
  refine lv_ldc hx hb hown (hts _ q277) dX0_known_9 ?_
  refine lv_ldc hx hb hown (hts _ q278) dX0_known_11 ?_
  refine lv_ldc hx hb hown (hts _ q279) dX0_known_13 ?_
  refine lv_iconst (v := 0) hx hb dX0_known_15 (by decide) ?_
  refine hb_Vi (As := [.int 1349280105, .int 1853121912, .int 1946157056, .int 0]) (rest := []) (wc := [(h, .inr (0, [.ref e, .int 0, .int 0, .ref ky, .ref no, .ref tx, .int (nI 0), .ref ou])), (tx, .inl (cB, 256, .inl (fun _ => 0)))]) (wr := [(e, .inr (1, [.null, .int 0, .int 0, .null, .int 0])), (ky, .inl (cB, 32, .inl (fun _ => 0))), (no, .inl (cB, 16, .inl (fun _ => 0))), (ou, .inl (cB, 0, .inl (fun _ => 0)))]) (k := 6) (k' := 318) ⟨hx, hb, hml, hown, hts⟩ (metX1_put l D cB _ h tx 0 (.ref e) (.int 0) (.int 0) (.ref ky) (.ref no) (.ref ou) (fun _ => 0) 1349280105 1853121912 1946157056 0 (by decide)) (cwV 4 hts (lw_V q207 q208 q209 q5 q210) rfl rfl rfl (by decide +kernel) ⟨Nat.le_of_ble_eq_true rfl, Nat.le_of_ble_eq_true rfl⟩) ⟨hK, hP, hD, hS, hA⟩ [0, 4] [1, 2, 3, 5] ⟨rfl, rfl, rfl, rfl, by decide⟩ (va_recv hK hP (ci := 0) (q0 := 0) rfl rfl) hb_bl (fun _ _ _ => trivial) rfl hl.1 rfl (Nat.le_of_ble_eq_true rfl) dX0_known_16 ⟨Nat.le_of_ble_eq_true rfl, Nat.le_of_ble_eq_true rfl⟩ ⟨Nat.le_of_ble_eq_true rfl, Nat.le_of_ble_eq_true rfl⟩ (fun r_16 w_1 H locs hw hP hD hS => ?_)
  obtain ⟨rfl, rfl⟩ := hw
  have hP : va_P D vwCl [(e, .inr (1, [.null, .int 0, .int 0, .null, .int 0])), (ky, .inl (cB, 32, .inl (fun _ => 0))), (no, .inl (cB, 16, .inl (fun _ => 0))), (ou, .inl (cB, 0, .inl (fun _ => 0))), (h, .inr (0, [.ref e, .int 0, .int 0, .ref ky, .ref no, .ref tx, .int (nI 16), .ref ou])), (tx, .inl (cB, 256, .inl kTx))] H := hP
  have hD : va_D A [(e, .inr (1, [.null, .int 0, .int 0, .null, .int 0])), (ky, .inl (cB, 32, .inl (fun _ => 0))), (no, .inl (cB, 16, .inl (fun _ => 0))), (ou, .inl (cB, 0, .inl (fun _ => 0))), (h, .inr (0, [.ref e, .int 0, .int 0, .ref ky, .ref no, .ref tx, .int (nI 16), .ref ou])), (tx, .inl (cB, 256, .inl kTx))] := hD
  refine lv_pop hx hb dX0_known_19 rfl ?_
  refine lv_aload_n hx hb dX0_known_20 rfl (lv_at hl 0 rfl) ?_
  refine lv_bipush (v := nI 9) hx hb dX0_known_21 (by decide) ?_
  refine hb_Vv (As := [.int (nI 9)]) (rest := []) (wc := [(h, .inr (0, [.ref e, .int 0, .int 0, .ref ky, .ref no, .ref tx, .int (nI 16), .ref ou]))]) (wr := [(e, .inr (1, [.null, .int 0, .int 0, .null, .int 0])), (ky, .inl (cB, 32, .inl (fun _ => 0))), (no, .inl (cB, 16, .inl (fun _ => 0))), (ou, .inl (cB, 0, .inl (fun _ => 0))), (tx, .inl (cB, 256, .inl kTx))]) (k := 6) (k' := 318) ⟨hx, hb, hml, hown, hts⟩ (metX1_trim l D cB _ h 16 (.ref e) (.int 0) (.int 0) (.ref ky) (.ref no) (.ref tx) (.ref ou) (nI 9) (by decide)) (cwV 1 hts (lw_V q214 q215 q216 q5 q217) rfl rfl rfl (by decide +kernel) ⟨Nat.le_of_ble_eq_true rfl, Nat.le_of_ble_eq_true rfl⟩) ⟨hK, hP, hD, hS, hA⟩ [4] [0, 1, 2, 3, 5] ⟨rfl, rfl, rfl, rfl, by decide⟩ (va_recv hK hP (ci := 0) (q0 := 4) rfl rfl) hb_bl (fun _ _ _ => trivial) rfl hl.1 rfl (Nat.le_of_ble_eq_true rfl) dX0_known_23 ⟨Nat.le_of_ble_eq_true rfl, Nat.le_of_ble_eq_true rfl⟩ ⟨Nat.le_of_ble_eq_true rfl, Nat.le_of_ble_eq_true rfl⟩ (fun w_1 H locs hw hP hD hS => ?_)
  obtain rfl := hw
  have hP : va_P D vwCl [(e, .inr (1, [.null, .int 0, .int 0, .null, .int 0])), (ky, .inl (cB, 32, .inl (fun _ => 0))), (no, .inl (cB, 16, .inl (fun _ => 0))), (ou, .inl (cB, 0, .inl (fun _ => 0))), (tx, .inl (cB, 256, .inl kTx)), (h, .inr (0, [.ref e, .int 0, .int 0, .ref ky, .ref no, .ref tx, .int (nI (m31 (nI 9) % (16 + 1))), .ref ou]))] H := hP
  have hD : va_D A [(e, .inr (1, [.null, .int 0, .int 0, .null, .int 0])), (ky, .inl (cB, 32, .inl (fun _ => 0))), (no, .inl (cB, 16, .inl (fun _ => 0))), (ou, .inl (cB, 0, .inl (fun _ => 0))), (tx, .inl (cB, 256, .inl kTx)), (h, .inr (0, [.ref e, .int 0, .int 0, .ref ky, .ref no, .ref tx, .int (nI (m31 (nI 9) % (16 + 1))), .ref ou]))] := hD
  rw [show m31 (nI 9) % (16 + 1) = 9 from by decide] at hP hD
  refine lv_aload_n hx hb dX0_known_26 rfl (lv_at hl 0 rfl) ?_
  refine lv_iconst (v := nI 0) hx hb dX0_known_27 (by decide) ?_
  refine lv_ldc hx hb hown (hts _ q280) dX0_known_28 ?_
  refine lv_iconst (v := 0) hx hb dX0_known_30 (by decide) ?_
  refine lv_iconst (v := 0) hx hb dX0_known_31 (by decide) ?_
  refine lv_iconst (v := 0) hx hb dX0_known_32 (by decide) ?_
  refine hb_Vv (As := [.int (nI 0), .int 1264941312, .int 0, .int 0, .int 0]) (rest := []) (wc := [(h, .inr (0, [.ref e, .int 0, .int 0, .ref ky, .ref no, .ref tx, .int (nI (m31 (nI 9) % (16 + 1))), .ref ou])), (ky, .inl (cB, 32, .inl (fun _ => 0)))]) (wr := [(e, .inr (1, [.null, .int 0, .int 0, .null, .int 0])), (no, .inl (cB, 16, .inl (fun _ => 0))), (ou, .inl (cB, 0, .inl (fun _ => 0))), (tx, .inl (cB, 256, .inl kTx))]) (k := 6) (k' := 318) ⟨hx, hb, hml, hown, hts⟩ (metX1_key l D cB _ h ky 0 (.ref e) (.int 0) (.int 0) (.ref no) (.ref tx) (.int (nI 9)) (.ref ou) (fun _ => 0) 1264941312 0 0 0 (by decide)) (cwV 5 hts (lw_V q218 q219 q220 q5 q221) rfl rfl rfl (by decide +kernel) ⟨Nat.le_of_ble_eq_true rfl, Nat.le_of_ble_eq_true rfl⟩) ⟨hK, hP, hD, hS, hA⟩ [5, 1] [0, 2, 3, 4] ⟨rfl, rfl, rfl, rfl, by decide⟩ (va_recv hK hP (ci := 0) (q0 := 5) rfl rfl) hb_bl (fun _ _ _ => trivial) rfl hl.1 rfl (Nat.le_of_ble_eq_true rfl) dX0_known_33 ⟨Nat.le_of_ble_eq_true rfl, Nat.le_of_ble_eq_true rfl⟩ ⟨Nat.le_of_ble_eq_true rfl, Nat.le_of_ble_eq_true rfl⟩ (fun w_1 H locs hw hP hD hS => ?_)
  obtain rfl := hw
  have hP : va_P D vwCl [(e, .inr (1, [.null, .int 0, .int 0, .null, .int 0])), (no, .inl (cB, 16, .inl (fun _ => 0))), (ou, .inl (cB, 0, .inl (fun _ => 0))), (tx, .inl (cB, 256, .inl kTx)), (h, .inr (0, [.ref e, .int 0, .int 0, .ref ky, .ref no, .ref tx, .int (nI 9), .ref ou])), (ky, .inl (cB, 32, .inl kKy))] H := hP
  have hD : va_D A [(e, .inr (1, [.null, .int 0, .int 0, .null, .int 0])), (no, .inl (cB, 16, .inl (fun _ => 0))), (ou, .inl (cB, 0, .inl (fun _ => 0))), (tx, .inl (cB, 256, .inl kTx)), (h, .inr (0, [.ref e, .int 0, .int 0, .ref ky, .ref no, .ref tx, .int (nI 9), .ref ou])), (ky, .inl (cB, 32, .inl kKy))] := hD
  refine lv_aload_n hx hb dX0_known_36 rfl (lv_at hl 0 rfl) ?_
  refine lv_iconst (v := 2) hx hb dX0_known_37 (by decide) ?_
  refine hb_Vv (As := [.int 2]) (rest := []) (wc := [(h, .inr (0, [.ref e, .int 0, .int 0, .ref ky, .ref no, .ref tx, .int (nI 9), .ref ou])), (ky, .inl (cB, 32, .inl kKy))]) (wr := [(e, .inr (1, [.null, .int 0, .int 0, .null, .int 0])), (no, .inl (cB, 16, .inl (fun _ => 0))), (ou, .inl (cB, 0, .inl (fun _ => 0))), (tx, .inl (cB, 256, .inl kTx))]) (k := 11) (k' := 648) ⟨hx, hb, hml, hown, hts⟩ (metX1_begin l D cB _ h ky (.ref e) (.int 0) (.int 0) (.ref no) (.ref tx) (.int (nI 9)) (.ref ou) kKy 2) (cwV 1 hts (lw_V q226 q227 q228 q5 q229) rfl rfl rfl (by decide +kernel) ⟨Nat.le_of_ble_eq_true rfl, Nat.le_of_ble_eq_true rfl⟩) ⟨hK, hP, hD, hS, hA⟩ [4, 5] [0, 1, 2, 3] ⟨rfl, rfl, rfl, rfl, by decide⟩ (va_recv hK hP (ci := 0) (q0 := 4) rfl rfl) hb_bl (fun _ _ _ => trivial) rfl hl.1 rfl (Nat.le_of_ble_eq_true rfl) dX0_known_38 ⟨Nat.le_of_ble_eq_true rfl, Nat.le_of_ble_eq_true rfl⟩ ⟨Nat.le_of_ble_eq_true rfl, Nat.le_of_ble_eq_true rfl⟩ (fun w_1 H locs hw hP hD hS => ?_)
  obtain ⟨e2, wk, st, rfl⟩ := hw
  have hP : va_P D vwCl [(e, .inr (1, [.null, .int 0, .int 0, .null, .int 0])), (no, .inl (cB, 16, .inl (fun _ => 0))), (ou, .inl (cB, 0, .inl (fun _ => 0))), (tx, .inl (cB, 256, .inl kTx)), (h, .inr (0, [.ref e2, .int 1, .int (nI 0), .ref ky, .ref no, .ref tx, .int (nI 9), .ref ou])), (ky, .inl (cB, 32, .inl kKy)), (e2, .inr (1, [.ref st, .int (nI (k0 (kN 2) (fun j => b8 (kKy j))).1), .int (nI (k0 (kN 2) (fun j => b8 (kKy j))).2.1), .ref wk, .int 1])), (wk, .inl (cB, kN 2, .inl (fun j => b8 (kKy j)))), (st, .inl (cB, 256, .inl ((k0 (kN 2) (fun j => b8 (kKy j))).2.2)))] H := hP
  have hD : va_D A [(e, .inr (1, [.null, .int 0, .int 0, .null, .int 0])), (no, .inl (cB, 16, .inl (fun _ => 0))), (ou, .inl (cB, 0, .inl (fun _ => 0))), (tx, .inl (cB, 256, .inl kTx)), (h, .inr (0, [.ref e2, .int 1, .int (nI 0), .ref ky, .ref no, .ref tx, .int (nI 9), .ref ou])), (ky, .inl (cB, 32, .inl kKy)), (e2, .inr (1, [.ref st, .int (nI (k0 (kN 2) (fun j => b8 (kKy j))).1), .int (nI (k0 (kN 2) (fun j => b8 (kKy j))).2.1), .ref wk, .int 1])), (wk, .inl (cB, kN 2, .inl (fun j => b8 (kKy j)))), (st, .inl (cB, 256, .inl ((k0 (kN 2) (fun j => b8 (kKy j))).2.2)))] := hD
  obtain ⟨ks, hks⟩ : ∃ z : rS, z = (k0 (kN 2) (fun j => b8 (kKy j))) := ⟨_, rfl⟩
  rw [← hks] at hP hD
  refine lv_aload_n hx hb dX0_known_41 rfl (lv_at hl 0 rfl) ?_
  refine lv_iconst (v := nI 0) hx hb dX0_known_42 (by decide) ?_
  refine lv_bipush (v := nI 9) hx hb dX0_known_43 (by decide) ?_
  refine hb_Vi (As := [.int (nI 0), .int (nI 9)]) (rest := []) (wc := [(h, .inr (0, [.ref e2, .int 1, .int (nI 0), .ref ky, .ref no, .ref tx, .int (nI 9), .ref ou])), (e2, .inr (1, [.ref st, .int (nI ks.1), .int (nI ks.2.1), .ref wk, .int 1])), (st, .inl (cB, 256, .inl ks.2.2)), (tx, .inl (cB, 256, .inl kTx))]) (wr := [(e, .inr (1, [.null, .int 0, .int 0, .null, .int 0])), (no, .inl (cB, 16, .inl (fun _ => 0))), (ou, .inl (cB, 0, .inl (fun _ => 0))), (ky, .inl (cB, 32, .inl kKy)), (wk, .inl (cB, kN 2, .inl (fun j => b8 (kKy j))))]) (k := 12) (k' := 904) ⟨hx, hb, hml, hown, hts⟩ (metX1_run l D cB _ h e2 st tx 9 0 0 9 (.ref ky) (.ref no) (.ref ou) (.ref wk) (.int 1) ks kTx (by decide) (by decide) (by decide)) (cwV 2 hts (lw_V q16 q17 q18 q5 q19) rfl rfl rfl (by decide +kernel) ⟨Nat.le_of_ble_eq_true rfl, Nat.le_of_ble_eq_true rfl⟩) ⟨hK, hP, hD, hS, hA⟩ [4, 6, 8, 3] [0, 1, 2, 5, 7] ⟨rfl, rfl, rfl, rfl, by decide⟩ (va_recv hK hP (ci := 0) (q0 := 4) rfl rfl) hb_bl (fun _ _ _ => trivial) rfl hl.1 rfl (Nat.le_of_ble_eq_true rfl) dX0_known_45 ⟨Nat.le_of_ble_eq_true rfl, Nat.le_of_ble_eq_true rfl⟩ ⟨Nat.le_of_ble_eq_true rfl, Nat.le_of_ble_eq_true rfl⟩ (fun r_45 w_1 H locs hw hP hD hS => ?_)
  obtain ⟨rfl, o_, rfl⟩ := hw
  have hP : va_P D vwCl [(e, .inr (1, [.null, .int 0, .int 0, .null, .int 0])), (no, .inl (cB, 16, .inl (fun _ => 0))), (ou, .inl (cB, 0, .inl (fun _ => 0))), (ky, .inl (cB, 32, .inl kKy)), (wk, .inl (cB, kN 2, .inl (fun j => b8 (kKy j)))), (h, .inr (0, [.ref e2, .int 1, .int (nI (0 + 9)), .ref ky, .ref no, .ref tx, .int (nI 9), .ref o_])), (e2, .inr (1, [.ref st, .int (nI ((rI 9 ks)).1), .int (nI ((rI 9 ks)).2.1), .ref wk, .int 1])), (st, .inl (cB, 256, .inl (((rI 9 ks)).2.2))), (tx, .inl (cB, 256, .inl kTx)), (o_, .inl (cB, 9, .inl (oB kTx 0 ks)))] H := hP
  have hD : va_D A [(e, .inr (1, [.null, .int 0, .int 0, .null, .int 0])), (no, .inl (cB, 16, .inl (fun _ => 0))), (ou, .inl (cB, 0, .inl (fun _ => 0))), (ky, .inl (cB, 32, .inl kKy)), (wk, .inl (cB, kN 2, .inl (fun j => b8 (kKy j)))), (h, .inr (0, [.ref e2, .int 1, .int (nI (0 + 9)), .ref ky, .ref no, .ref tx, .int (nI 9), .ref o_])), (e2, .inr (1, [.ref st, .int (nI ((rI 9 ks)).1), .int (nI ((rI 9 ks)).2.1), .ref wk, .int 1])), (st, .inl (cB, 256, .inl (((rI 9 ks)).2.2))), (tx, .inl (cB, 256, .inl kTx)), (o_, .inl (cB, 9, .inl (oB kTx 0 ks)))] := hD
  refine lv_pop hx hb dX0_known_48 rfl ?_
  refine lv_bipush (v := nI 9) hx hb dX0_known_49 (by decide) ?_
  refine va_newa (atype := .int) (ty := .int) (a0 := (9, .inl (fun _ => 0))) (N' := 9) hx hb (hts _ q281) rfl hK hP hD hS hA (fun _ => rfl) (nI_pos (by decide)) (nI_clamp (by decide)) (Nat.le_of_ble_eq_true rfl) (Nat.le_of_ble_eq_true rfl) (Nat.le_of_ble_eq_true rfl) dX0_known_51 (fun xo cI H hK2 hP hD hS => ?_)
  refine W.widen (k := 13) (n := 913) (Nat.le_of_ble_eq_true rfl) (Nat.le_of_ble_eq_true rfl) ?_
  have hP : va_P D vwCl [(e, .inr (1, [.null, .int 0, .int 0, .null, .int 0])), (no, .inl (cB, 16, .inl (fun _ => 0))), (ou, .inl (cB, 0, .inl (fun _ => 0))), (ky, .inl (cB, 32, .inl kKy)), (wk, .inl (cB, kN 2, .inl (fun j => b8 (kKy j)))), (h, .inr (0, [.ref e2, .int 1, .int (nI (0 + 9)), .ref ky, .ref no, .ref tx, .int (nI 9), .ref o_])), (e2, .inr (1, [.ref st, .int (nI ((rI 9 ks)).1), .int (nI ((rI 9 ks)).2.1), .ref wk, .int 1])), (st, .inl (cB, 256, .inl (((rI 9 ks)).2.2))), (tx, .inl (cB, 256, .inl kTx)), (o_, .inl (cB, 9, .inl (oB kTx 0 ks))), (xo, .inl (cI, 9, .inl (fun _ => 0)))] H := hP
  have hD : va_D A [(e, .inr (1, [.null, .int 0, .int 0, .null, .int 0])), (no, .inl (cB, 16, .inl (fun _ => 0))), (ou, .inl (cB, 0, .inl (fun _ => 0))), (ky, .inl (cB, 32, .inl kKy)), (wk, .inl (cB, kN 2, .inl (fun j => b8 (kKy j)))), (h, .inr (0, [.ref e2, .int 1, .int (nI (0 + 9)), .ref ky, .ref no, .ref tx, .int (nI 9), .ref o_])), (e2, .inr (1, [.ref st, .int (nI ((rI 9 ks)).1), .int (nI ((rI 9 ks)).2.1), .ref wk, .int 1])), (st, .inl (cB, 256, .inl (((rI 9 ks)).2.2))), (tx, .inl (cB, 256, .inl kTx)), (o_, .inl (cB, 9, .inl (oB kTx 0 ks))), (xo, .inl (cI, 9, .inl (fun _ => 0)))] := hD
  refine lv_dup hx hb dX0_known_53 rfl ?_
  refine lv_iconst (v := nI 0) hx hb dX0_known_54 (by decide) ?_
  refine lv_sipush (v := 187) hx hb dX0_known_55 (by decide) ?_
  refine hb_iast (wn := [(e, .inr (1, [.null, .int 0, .int 0, .null, .int 0])), (no, .inl (cB, 16, .inl (fun _ => 0))), (ou, .inl (cB, 0, .inl (fun _ => 0))), (ky, .inl (cB, 32, .inl kKy)), (wk, .inl (cB, kN 2, .inl (fun j => b8 (kKy j)))), (h, .inr (0, [.ref e2, .int 1, .int (nI (0 + 9)), .ref ky, .ref no, .ref tx, .int (nI 9), .ref o_])), (e2, .inr (1, [.ref st, .int (nI ((rI 9 ks)).1), .int (nI ((rI 9 ks)).2.1), .ref wk, .int 1])), (st, .inl (cB, 256, .inl (((rI 9 ks)).2.2))), (tx, .inl (cB, 256, .inl kTx)), (o_, .inl (cB, 9, .inl (oB kTx 0 ks))), (xo, .inl (cI, 9, .inl (upd (fun _ => 0) 0 187)))]) (j := 0) hx hb hK2 hP hD hS 10 rfl (by decide) (by decide) (upd (fun _ => 0) 0 187) rfl rfl dX0_known_58 (fun H locs hP hD hS => ?_)
  refine lv_dup hx hb dX0_known_59 rfl ?_
  refine lv_iconst (v := nI 1) hx hb dX0_known_60 (by decide) ?_
  refine lv_sipush (v := 243) hx hb dX0_known_61 (by decide) ?_
  refine hb_iast (wn := [(e, .inr (1, [.null, .int 0, .int 0, .null, .int 0])), (no, .inl (cB, 16, .inl (fun _ => 0))), (ou, .inl (cB, 0, .inl (fun _ => 0))), (ky, .inl (cB, 32, .inl kKy)), (wk, .inl (cB, kN 2, .inl (fun j => b8 (kKy j)))), (h, .inr (0, [.ref e2, .int 1, .int (nI (0 + 9)), .ref ky, .ref no, .ref tx, .int (nI 9), .ref o_])), (e2, .inr (1, [.ref st, .int (nI ((rI 9 ks)).1), .int (nI ((rI 9 ks)).2.1), .ref wk, .int 1])), (st, .inl (cB, 256, .inl (((rI 9 ks)).2.2))), (tx, .inl (cB, 256, .inl kTx)), (o_, .inl (cB, 9, .inl (oB kTx 0 ks))), (xo, .inl (cI, 9, .inl (upd (upd (fun _ => 0) 0 187) 1 243)))]) (j := 1) hx hb hK2 hP hD hS 10 rfl (by decide) (by decide) (upd (upd (fun _ => 0) 0 187) 1 243) rfl rfl dX0_known_64 (fun H locs hP hD hS => ?_)
  refine lv_dup hx hb dX0_known_65 rfl ?_
  refine lv_iconst (v := nI 2) hx hb dX0_known_66 (by decide) ?_
  refine lv_bipush (v := 22) hx hb dX0_known_67 (by decide) ?_
  refine hb_iast (wn := [(e, .inr (1, [.null, .int 0, .int 0, .null, .int 0])), (no, .inl (cB, 16, .inl (fun _ => 0))), (ou, .inl (cB, 0, .inl (fun _ => 0))), (ky, .inl (cB, 32, .inl kKy)), (wk, .inl (cB, kN 2, .inl (fun j => b8 (kKy j)))), (h, .inr (0, [.ref e2, .int 1, .int (nI (0 + 9)), .ref ky, .ref no, .ref tx, .int (nI 9), .ref o_])), (e2, .inr (1, [.ref st, .int (nI ((rI 9 ks)).1), .int (nI ((rI 9 ks)).2.1), .ref wk, .int 1])), (st, .inl (cB, 256, .inl (((rI 9 ks)).2.2))), (tx, .inl (cB, 256, .inl kTx)), (o_, .inl (cB, 9, .inl (oB kTx 0 ks))), (xo, .inl (cI, 9, .inl (upd (upd (upd (fun _ => 0) 0 187) 1 243) 2 22)))]) (j := 2) hx hb hK2 hP hD hS 10 rfl (by decide) (by decide) (upd (upd (upd (fun _ => 0) 0 187) 1 243) 2 22) rfl rfl dX0_known_69 (fun H locs hP hD hS => ?_)
  refine lv_dup hx hb dX0_known_70 rfl ?_
  refine lv_iconst (v := nI 3) hx hb dX0_known_71 (by decide) ?_
  refine lv_sipush (v := 232) hx hb dX0_known_72 (by decide) ?_
  refine hb_iast (wn := [(e, .inr (1, [.null, .int 0, .int 0, .null, .int 0])), (no, .inl (cB, 16, .inl (fun _ => 0))), (ou, .inl (cB, 0, .inl (fun _ => 0))), (ky, .inl (cB, 32, .inl kKy)), (wk, .inl (cB, kN 2, .inl (fun j => b8 (kKy j)))), (h, .inr (0, [.ref e2, .int 1, .int (nI (0 + 9)), .ref ky, .ref no, .ref tx, .int (nI 9), .ref o_])), (e2, .inr (1, [.ref st, .int (nI ((rI 9 ks)).1), .int (nI ((rI 9 ks)).2.1), .ref wk, .int 1])), (st, .inl (cB, 256, .inl (((rI 9 ks)).2.2))), (tx, .inl (cB, 256, .inl kTx)), (o_, .inl (cB, 9, .inl (oB kTx 0 ks))), (xo, .inl (cI, 9, .inl (upd (upd (upd (upd (fun _ => 0) 0 187) 1 243) 2 22) 3 232)))]) (j := 3) hx hb hK2 hP hD hS 10 rfl (by decide) (by decide) (upd (upd (upd (upd (fun _ => 0) 0 187) 1 243) 2 22) 3 232) rfl rfl dX0_known_75 (fun H locs hP hD hS => ?_)
  refine lv_dup hx hb dX0_known_76 rfl ?_
  refine lv_iconst (v := nI 4) hx hb dX0_known_77 (by decide) ?_
  refine lv_sipush (v := 217) hx hb dX0_known_78 (by decide) ?_
  refine hb_iast (wn := [(e, .inr (1, [.null, .int 0, .int 0, .null, .int 0])), (no, .inl (cB, 16, .inl (fun _ => 0))), (ou, .inl (cB, 0, .inl (fun _ => 0))), (ky, .inl (cB, 32, .inl kKy)), (wk, .inl (cB, kN 2, .inl (fun j => b8 (kKy j)))), (h, .inr (0, [.ref e2, .int 1, .int (nI (0 + 9)), .ref ky, .ref no, .ref tx, .int (nI 9), .ref o_])), (e2, .inr (1, [.ref st, .int (nI ((rI 9 ks)).1), .int (nI ((rI 9 ks)).2.1), .ref wk, .int 1])), (st, .inl (cB, 256, .inl (((rI 9 ks)).2.2))), (tx, .inl (cB, 256, .inl kTx)), (o_, .inl (cB, 9, .inl (oB kTx 0 ks))), (xo, .inl (cI, 9, .inl (upd (upd (upd (upd (upd (fun _ => 0) 0 187) 1 243) 2 22) 3 232) 4 217)))]) (j := 4) hx hb hK2 hP hD hS 10 rfl (by decide) (by decide) (upd (upd (upd (upd (upd (fun _ => 0) 0 187) 1 243) 2 22) 3 232) 4 217) rfl rfl dX0_known_81 (fun H locs hP hD hS => ?_)
  refine lv_dup hx hb dX0_known_82 rfl ?_
  refine lv_iconst (v := nI 5) hx hb dX0_known_83 (by decide) ?_
  refine lv_bipush (v := 64) hx hb dX0_known_84 (by decide) ?_
  refine hb_iast (wn := [(e, .inr (1, [.null, .int 0, .int 0, .null, .int 0])), (no, .inl (cB, 16, .inl (fun _ => 0))), (ou, .inl (cB, 0, .inl (fun _ => 0))), (ky, .inl (cB, 32, .inl kKy)), (wk, .inl (cB, kN 2, .inl (fun j => b8 (kKy j)))), (h, .inr (0, [.ref e2, .int 1, .int (nI (0 + 9)), .ref ky, .ref no, .ref tx, .int (nI 9), .ref o_])), (e2, .inr (1, [.ref st, .int (nI ((rI 9 ks)).1), .int (nI ((rI 9 ks)).2.1), .ref wk, .int 1])), (st, .inl (cB, 256, .inl (((rI 9 ks)).2.2))), (tx, .inl (cB, 256, .inl kTx)), (o_, .inl (cB, 9, .inl (oB kTx 0 ks))), (xo, .inl (cI, 9, .inl (upd (upd (upd (upd (upd (upd (fun _ => 0) 0 187) 1 243) 2 22) 3 232) 4 217) 5 64)))]) (j := 5) hx hb hK2 hP hD hS 10 rfl (by decide) (by decide) (upd (upd (upd (upd (upd (upd (fun _ => 0) 0 187) 1 243) 2 22) 3 232) 4 217) 5 64) rfl rfl dX0_known_86 (fun H locs hP hD hS => ?_)
  refine lv_dup hx hb dX0_known_87 rfl ?_
  refine lv_bipush (v := nI 6) hx hb dX0_known_88 (by decide) ?_
  refine lv_sipush (v := 175) hx hb dX0_known_90 (by decide) ?_
  refine hb_iast (wn := [(e, .inr (1, [.null, .int 0, .int 0, .null, .int 0])), (no, .inl (cB, 16, .inl (fun _ => 0))), (ou, .inl (cB, 0, .inl (fun _ => 0))), (ky, .inl (cB, 32, .inl kKy)), (wk, .inl (cB, kN 2, .inl (fun j => b8 (kKy j)))), (h, .inr (0, [.ref e2, .int 1, .int (nI (0 + 9)), .ref ky, .ref no, .ref tx, .int (nI 9), .ref o_])), (e2, .inr (1, [.ref st, .int (nI ((rI 9 ks)).1), .int (nI ((rI 9 ks)).2.1), .ref wk, .int 1])), (st, .inl (cB, 256, .inl (((rI 9 ks)).2.2))), (tx, .inl (cB, 256, .inl kTx)), (o_, .inl (cB, 9, .inl (oB kTx 0 ks))), (xo, .inl (cI, 9, .inl (upd (upd (upd (upd (upd (upd (upd (fun _ => 0) 0 187) 1 243) 2 22) 3 232) 4 217) 5 64) 6 175)))]) (j := 6) hx hb hK2 hP hD hS 10 rfl (by decide) (by decide) (upd (upd (upd (upd (upd (upd (upd (fun _ => 0) 0 187) 1 243) 2 22) 3 232) 4 217) 5 64) 6 175) rfl rfl dX0_known_93 (fun H locs hP hD hS => ?_)
  refine lv_dup hx hb dX0_known_94 rfl ?_
  refine lv_bipush (v := nI 7) hx hb dX0_known_95 (by decide) ?_
  refine lv_bipush (v := 10) hx hb dX0_known_97 (by decide) ?_
  refine hb_iast (wn := [(e, .inr (1, [.null, .int 0, .int 0, .null, .int 0])), (no, .inl (cB, 16, .inl (fun _ => 0))), (ou, .inl (cB, 0, .inl (fun _ => 0))), (ky, .inl (cB, 32, .inl kKy)), (wk, .inl (cB, kN 2, .inl (fun j => b8 (kKy j)))), (h, .inr (0, [.ref e2, .int 1, .int (nI (0 + 9)), .ref ky, .ref no, .ref tx, .int (nI 9), .ref o_])), (e2, .inr (1, [.ref st, .int (nI ((rI 9 ks)).1), .int (nI ((rI 9 ks)).2.1), .ref wk, .int 1])), (st, .inl (cB, 256, .inl (((rI 9 ks)).2.2))), (tx, .inl (cB, 256, .inl kTx)), (o_, .inl (cB, 9, .inl (oB kTx 0 ks))), (xo, .inl (cI, 9, .inl (upd (upd (upd (upd (upd (upd (upd (upd (fun _ => 0) 0 187) 1 243) 2 22) 3 232) 4 217) 5 64) 6 175) 7 10)))]) (j := 7) hx hb hK2 hP hD hS 10 rfl (by decide) (by decide) (upd (upd (upd (upd (upd (upd (upd (upd (fun _ => 0) 0 187) 1 243) 2 22) 3 232) 4 217) 5 64) 6 175) 7 10) rfl rfl dX0_known_99 (fun H locs hP hD hS => ?_)
  refine lv_dup hx hb dX0_known_100 rfl ?_
  refine lv_bipush (v := nI 8) hx hb dX0_known_101 (by decide) ?_
  refine lv_sipush (v := 211) hx hb dX0_known_103 (by decide) ?_
  refine hb_iast (wn := [(e, .inr (1, [.null, .int 0, .int 0, .null, .int 0])), (no, .inl (cB, 16, .inl (fun _ => 0))), (ou, .inl (cB, 0, .inl (fun _ => 0))), (ky, .inl (cB, 32, .inl kKy)), (wk, .inl (cB, kN 2, .inl (fun j => b8 (kKy j)))), (h, .inr (0, [.ref e2, .int 1, .int (nI (0 + 9)), .ref ky, .ref no, .ref tx, .int (nI 9), .ref o_])), (e2, .inr (1, [.ref st, .int (nI ((rI 9 ks)).1), .int (nI ((rI 9 ks)).2.1), .ref wk, .int 1])), (st, .inl (cB, 256, .inl (((rI 9 ks)).2.2))), (tx, .inl (cB, 256, .inl kTx)), (o_, .inl (cB, 9, .inl (oB kTx 0 ks))), (xo, .inl (cI, 9, .inl (upd (upd (upd (upd (upd (upd (upd (upd (upd (fun _ => 0) 0 187) 1 243) 2 22) 3 232) 4 217) 5 64) 6 175) 7 10) 8 211)))]) (j := 8) hx hb hK2 hP hD hS 10 rfl (by decide) (by decide) (upd (upd (upd (upd (upd (upd (upd (upd (upd (fun _ => 0) 0 187) 1 243) 2 22) 3 232) 4 217) 5 64) 6 175) 7 10) 8 211) rfl rfl dX0_known_106 (fun H locs hP hD hS => ?_)
  refine lv_astore_n (lv' := [(1, .ref xo), (0, .ref h)]) hx hb dX0_known_107 rfl hl (by decide) rfl (fun ls hl => ?_)
  refine lv_iconst (v := nI 0) hx hb dX0_known_108 (by decide) ?_
  refine lv_istore_n (lv' := [(2, .int (nI 0)), (1, .ref xo), (0, .ref h)]) hx hb dX0_known_109 rfl hl (by decide) rfl (fun ls hl => ?_)
  have hP := hb_Psub (ws' := [(h, .inr (0, [.ref e2, .int 1, .int (nI (0 + 9)), .ref ky, .ref no, .ref tx, .int (nI 9), .ref o_])), (o_, .inl (cB, 9, .inl (oB kTx 0 ks))), (xo, .inl (cI, 9, .inl kX9))]) hP [5, 9, 10] rfl
  have hD := hD.sub (ws' := [(h, .inr (0, [.ref e2, .int 1, .int (nI (0 + 9)), .ref ky, .ref no, .ref tx, .int (nI 9), .ref o_])), (o_, .inl (cB, 9, .inl (oB kTx 0 ks))), (xo, .inl (cI, 9, .inl kX9))]) [5, 9, 10] (by decide) rfl
  refine kn_loop hx hb hts hown hK hml hA hK2 h o_ xo (.ref e2) (.int 1) (.int (nI (0 + 9))) (.ref ky) (.ref no) (.ref tx) (.int (nI 9)) (oB kTx 0 ks) (kat_on hks) (fun H locs ls hP hD hS hl => ?_) 9 0 rfl _ _ _ hP hD hS (lv_sub hl [2, 1, 0] rfl)
  refine lv_iconst (v := 1) hx hb dX0_known_135 (by decide) ?_
  have hP := hb_Psub (ws' := []) hP [] rfl
  have hD := hD.sub (ws' := []) [] (by decide) rfl
  exact hb_reti (v := 1) hx hb hr hlk rfl hK hP hD hS ⟨rfl, rfl⟩ ⟨Nat.le_of_ble_eq_true rfl, Nat.le_of_ble_eq_true rfl⟩ dX0_known_136
end
section
/-! THE LAW'S LOOPS -/
set_option maxRecDepth 100000
set_option maxHeartbeats 4000000 in
set_option maxRecDepth 100000 in
theorem lp_in {p : Program} {l : Launch} {e_0 : Env} {s : State} {m : MethodId} {args : Array Value} {below : List Frame} {meth : Method} {c : Code} {Q : State → Prop} {D : va_G} {cB : ClassId} {A : Nat → Prop} (hx : p.tables.exec = Jvm.exec) (hb : c.code = cL_law) (hts : ∀ w ∈ lw_all, w.before args s = true) (hown : s.vm.findClass RX0 = some m.cls) (hK : va_K D vwCl [(cB, .byte)] s) (hml : c.maxLocals = 10) (hA : ∀ q : Nat, s.heap.size ≤ q → A q) {b L : Nat} {xs : Nat → Int32} (hL : L ≤ 60) (hX : va_X b L xs s s.heap) (hbs : b < s.heap.size) (hbA : ¬ A b) {h1 o1 h2 e2 st2 tx2 h3 e3 wk3 st3 h4 e4 st4 n3 : Nat} {f3 : Nat → Int32} {u0 u1 u2 u3 u4 u5 u6 y3 y4 y8 y9 z3 z4 z5 z6 z7 z9 x3 x4 x5 x6 x7 x8 x9 : Value} (σ : rS) (t : Nat → Int32) (Z : Nat) (hZ : Z ≤ 128) {c0 s0 o2 : Nat} (hcs : c0 ≤ 600120 ∧ s0 ≤ 7301170) (q n j : Nat) (hqn : q + n ≤ Z) (kk : ∀ (H : Heap) (locs : List Loc) (ls : Array Slot), va_P D vwCl [(h1, .inr (0, [u0, u1, u2, u3, u4, u5, u6, .ref o1])), (o1, .inl (cB, Z, .inl (oB t 0 σ))), (h2, .inr (0, [.ref e2, .int 1, .int (nI (q + n)), y3, y4, .ref tx2, .int (nI Z), .ref o2])), (o2, .inl (cB, n, .inl (oB t q (rI q σ)))), (e2, .inr (1, [.ref st2, .int (nI ((rI (q + n) σ)).1), .int (nI ((rI (q + n) σ)).2.1), y8, y9])), (st2, .inl (cB, 256, .inl (((rI (q + n) σ)).2.2))), (tx2, .inl (cB, 256, .inl t)), (h3, .inr (0, [.ref e3, .int 1, .int (nI 0), z3, z4, z5, z6, z7])), (e3, .inr (1, [.ref st3, .int (nI ((rI 0 σ)).1), .int (nI ((rI 0 σ)).2.1), .ref wk3, z9])), (wk3, .inl (cB, n3, .inl f3)), (st3, .inl (cB, 256, .inl (((rI 0 σ)).2.2))), (h4, .inr (0, [.ref e4, .int 1, .int (nI 0), x3, x4, x5, x6, x7])), (e4, .inr (1, [.ref st4, .int (nI ((rI 0 σ)).1), .int (nI ((rI 0 σ)).2.1), x8, x9])), (st4, .inl (cB, 256, .inl (((rI 0 σ)).2.2)))] H → va_D A [(h1, .inr (0, [u0, u1, u2, u3, u4, u5, u6, .ref o1])), (o1, .inl (cB, Z, .inl (oB t 0 σ))), (h2, .inr (0, [.ref e2, .int 1, .int (nI (q + n)), y3, y4, .ref tx2, .int (nI Z), .ref o2])), (o2, .inl (cB, n, .inl (oB t q (rI q σ)))), (e2, .inr (1, [.ref st2, .int (nI ((rI (q + n) σ)).1), .int (nI ((rI (q + n) σ)).2.1), y8, y9])), (st2, .inl (cB, 256, .inl (((rI (q + n) σ)).2.2))), (tx2, .inl (cB, 256, .inl t)), (h3, .inr (0, [.ref e3, .int 1, .int (nI 0), z3, z4, z5, z6, z7])), (e3, .inr (1, [.ref st3, .int (nI ((rI 0 σ)).1), .int (nI ((rI 0 σ)).2.1), .ref wk3, z9])), (wk3, .inl (cB, n3, .inl f3)), (st3, .inl (cB, 256, .inl (((rI 0 σ)).2.2))), (h4, .inr (0, [.ref e4, .int 1, .int (nI 0), x3, x4, x5, x6, x7])), (e4, .inr (1, [.ref st4, .int (nI ((rI 0 σ)).1), .int (nI ((rI 0 σ)).2.1), x8, x9])), (st4, .inl (cB, 256, .inl (((rI 0 σ)).2.2)))] → va_S A s.heap H locs → lv_has ls 10 [(0, .ref b), (1, .ref h1), (2, .ref h2), (3, .ref h3), (4, .ref h4), (5, .int (nI Z)), (6, .int (nI q)), (7, .int (nI j)), (8, .int (nI n)), (9, .int (nI n))] → W p l e_0 room_1 s m args below meth c H locs c0 s0 Q (F0 m 157 ls [])) :
    ∀ (k i : Nat), i + k = n → ∀ (H : Heap) (locs : List Loc) (ls : Array Slot), va_P D vwCl [(h1, .inr (0, [u0, u1, u2, u3, u4, u5, u6, .ref o1])), (o1, .inl (cB, Z, .inl (oB t 0 σ))), (h2, .inr (0, [.ref e2, .int 1, .int (nI (q + n)), y3, y4, .ref tx2, .int (nI Z), .ref o2])), (o2, .inl (cB, n, .inl (oB t q (rI q σ)))), (e2, .inr (1, [.ref st2, .int (nI ((rI (q + n) σ)).1), .int (nI ((rI (q + n) σ)).2.1), y8, y9])), (st2, .inl (cB, 256, .inl (((rI (q + n) σ)).2.2))), (tx2, .inl (cB, 256, .inl t)), (h3, .inr (0, [.ref e3, .int 1, .int (nI 0), z3, z4, z5, z6, z7])), (e3, .inr (1, [.ref st3, .int (nI ((rI 0 σ)).1), .int (nI ((rI 0 σ)).2.1), .ref wk3, z9])), (wk3, .inl (cB, n3, .inl f3)), (st3, .inl (cB, 256, .inl (((rI 0 σ)).2.2))), (h4, .inr (0, [.ref e4, .int 1, .int (nI 0), x3, x4, x5, x6, x7])), (e4, .inr (1, [.ref st4, .int (nI ((rI 0 σ)).1), .int (nI ((rI 0 σ)).2.1), x8, x9])), (st4, .inl (cB, 256, .inl (((rI 0 σ)).2.2)))] H → va_D A [(h1, .inr (0, [u0, u1, u2, u3, u4, u5, u6, .ref o1])), (o1, .inl (cB, Z, .inl (oB t 0 σ))), (h2, .inr (0, [.ref e2, .int 1, .int (nI (q + n)), y3, y4, .ref tx2, .int (nI Z), .ref o2])), (o2, .inl (cB, n, .inl (oB t q (rI q σ)))), (e2, .inr (1, [.ref st2, .int (nI ((rI (q + n) σ)).1), .int (nI ((rI (q + n) σ)).2.1), y8, y9])), (st2, .inl (cB, 256, .inl (((rI (q + n) σ)).2.2))), (tx2, .inl (cB, 256, .inl t)), (h3, .inr (0, [.ref e3, .int 1, .int (nI 0), z3, z4, z5, z6, z7])), (e3, .inr (1, [.ref st3, .int (nI ((rI 0 σ)).1), .int (nI ((rI 0 σ)).2.1), .ref wk3, z9])), (wk3, .inl (cB, n3, .inl f3)), (st3, .inl (cB, 256, .inl (((rI 0 σ)).2.2))), (h4, .inr (0, [.ref e4, .int 1, .int (nI 0), x3, x4, x5, x6, x7])), (e4, .inr (1, [.ref st4, .int (nI ((rI 0 σ)).1), .int (nI ((rI 0 σ)).2.1), x8, x9])), (st4, .inl (cB, 256, .inl (((rI 0 σ)).2.2)))] → va_S A s.heap H locs → lv_has ls 10 [(0, .ref b), (1, .ref h1), (2, .ref h2), (3, .ref h3), (4, .ref h4), (5, .int (nI Z)), (6, .int (nI q)), (7, .int (nI j)), (8, .int (nI n)), (9, .int (nI i))] → W p l e_0 room_1 s m args below meth c H locs c0 s0 Q (F0 m 124 ls []) := by
  intro k
  induction k with
  | zero =>
    intro i hi H locs ls hP hD hS hl
    obtain rfl : i = n := by omega
    refine lv_iload hx hb dL_law_124 (lv_at hl 9 rfl) ?_
    refine lv_iload hx hb dL_law_126 (lv_at hl 8 rfl) ?_
    refine lv_icmp_ge (tgt := 157) hx hb dL_law_128 (by decide) (fun c_128 => ?_) (fun c_128 => absurd (nI_le (Nat.le_refl _) (by omega)) c_128)
    exact kk H locs ls hP hD hS hl
  | succ k ih =>
    intro i hi H locs ls hP hD hS hl
    have hi1 : i < n := by omega
    refine lv_iload hx hb dL_law_124 (lv_at hl 9 rfl) ?_
    refine lv_iload hx hb dL_law_126 (lv_at hl 8 rfl) ?_
    refine lv_icmp_ge (tgt := 157) hx hb dL_law_128 (by decide) (fun c_128 => absurd c_128 (nI_ge hi1 (by omega))) (fun c_128 => ?_)
    refine lv_aload_n hx hb dL_law_131 rfl (lv_at hl 2 rfl) ?_
    refine lv_iload hx hb dL_law_132 (lv_at hl 9 rfl) ?_
    refine hb_Vi (As := [.int (nI i)]) (rest := []) (wc := [(h2, .inr (0, [.ref e2, .int 1, .int (nI (q + n)), y3, y4, .ref tx2, .int (nI Z), .ref o2])), (o2, .inl (cB, n, .inl (oB t q (rI q σ))))]) (wr := [(h1, .inr (0, [u0, u1, u2, u3, u4, u5, u6, .ref o1])), (o1, .inl (cB, Z, .inl (oB t 0 σ))), (e2, .inr (1, [.ref st2, .int (nI ((rI (q + n) σ)).1), .int (nI ((rI (q + n) σ)).2.1), y8, y9])), (st2, .inl (cB, 256, .inl (((rI (q + n) σ)).2.2))), (tx2, .inl (cB, 256, .inl t)), (h3, .inr (0, [.ref e3, .int 1, .int (nI 0), z3, z4, z5, z6, z7])), (e3, .inr (1, [.ref st3, .int (nI ((rI 0 σ)).1), .int (nI ((rI 0 σ)).2.1), .ref wk3, z9])), (wk3, .inl (cB, n3, .inl f3)), (st3, .inl (cB, 256, .inl (((rI 0 σ)).2.2))), (h4, .inr (0, [.ref e4, .int 1, .int (nI 0), x3, x4, x5, x6, x7])), (e4, .inr (1, [.ref st4, .int (nI ((rI 0 σ)).1), .int (nI ((rI 0 σ)).2.1), x8, x9])), (st4, .inl (cB, 256, .inl (((rI 0 σ)).2.2)))]) (k := c0) (k' := s0) ⟨hx, hb, hml, hown, hts⟩ (metX1_out l D cB _ h2 o2 n i (.ref e2) (.int 1) (.int (nI (q + n))) y3 y4 (.ref tx2) (.int (nI Z)) (oB t q (rI q σ)) hi1 (by omega)) (cwV 1 hts (lw_V q146 q147 q148 q5 q149) rfl rfl rfl (by decide +kernel) ⟨Nat.le_of_ble_eq_true rfl, Nat.le_of_ble_eq_true rfl⟩) ⟨hK, hP, hD, hS, hA⟩ [2, 3] [0, 1, 4, 5, 6, 7, 8, 9, 10, 11, 12, 13] ⟨rfl, rfl, rfl, rfl, by decide⟩ (va_recv hK hP (ci := 0) (q0 := 2) rfl rfl) hb_bl (fun _ _ _ => trivial) rfl hl.1 rfl (Nat.le_of_ble_eq_true rfl) dL_law_134 ⟨Nat.le_refl _, Nat.le_refl _⟩ hcs (fun r_134 w_1 H locs hw hP hD hS => ?_)
    obtain ⟨rfl, rfl⟩ := hw
    have hP : va_P D vwCl [(h1, .inr (0, [u0, u1, u2, u3, u4, u5, u6, .ref o1])), (o1, .inl (cB, Z, .inl (oB t 0 σ))), (e2, .inr (1, [.ref st2, .int (nI ((rI (q + n) σ)).1), .int (nI ((rI (q + n) σ)).2.1), y8, y9])), (st2, .inl (cB, 256, .inl (((rI (q + n) σ)).2.2))), (tx2, .inl (cB, 256, .inl t)), (h3, .inr (0, [.ref e3, .int 1, .int (nI 0), z3, z4, z5, z6, z7])), (e3, .inr (1, [.ref st3, .int (nI ((rI 0 σ)).1), .int (nI ((rI 0 σ)).2.1), .ref wk3, z9])), (wk3, .inl (cB, n3, .inl f3)), (st3, .inl (cB, 256, .inl (((rI 0 σ)).2.2))), (h4, .inr (0, [.ref e4, .int 1, .int (nI 0), x3, x4, x5, x6, x7])), (e4, .inr (1, [.ref st4, .int (nI ((rI 0 σ)).1), .int (nI ((rI 0 σ)).2.1), x8, x9])), (st4, .inl (cB, 256, .inl (((rI 0 σ)).2.2))), (h2, .inr (0, [.ref e2, .int 1, .int (nI (q + n)), y3, y4, .ref tx2, .int (nI Z), .ref o2])), (o2, .inl (cB, n, .inl (oB t q (rI q σ))))] H := hP
    have hD : va_D A [(h1, .inr (0, [u0, u1, u2, u3, u4, u5, u6, .ref o1])), (o1, .inl (cB, Z, .inl (oB t 0 σ))), (e2, .inr (1, [.ref st2, .int (nI ((rI (q + n) σ)).1), .int (nI ((rI (q + n) σ)).2.1), y8, y9])), (st2, .inl (cB, 256, .inl (((rI (q + n) σ)).2.2))), (tx2, .inl (cB, 256, .inl t)), (h3, .inr (0, [.ref e3, .int 1, .int (nI 0), z3, z4, z5, z6, z7])), (e3, .inr (1, [.ref st3, .int (nI ((rI 0 σ)).1), .int (nI ((rI 0 σ)).2.1), .ref wk3, z9])), (wk3, .inl (cB, n3, .inl f3)), (st3, .inl (cB, 256, .inl (((rI 0 σ)).2.2))), (h4, .inr (0, [.ref e4, .int 1, .int (nI 0), x3, x4, x5, x6, x7])), (e4, .inr (1, [.ref st4, .int (nI ((rI 0 σ)).1), .int (nI ((rI 0 σ)).2.1), x8, x9])), (st4, .inl (cB, 256, .inl (((rI 0 σ)).2.2))), (h2, .inr (0, [.ref e2, .int 1, .int (nI (q + n)), y3, y4, .ref tx2, .int (nI Z), .ref o2])), (o2, .inl (cB, n, .inl (oB t q (rI q σ))))] := hD
    refine lv_aload_n hx hb dL_law_137 rfl (lv_at hl 1 rfl) ?_
    refine lv_iload hx hb dL_law_138 (lv_at hl 6 rfl) ?_
    refine lv_iload hx hb dL_law_140 (lv_at hl 9 rfl) ?_
    refine lv_iadd hx hb dL_law_142 ?_
    refine hb_top (nI (q + i)) (nI_add q i) ?_
    refine hb_Vi (As := [.int (nI (q + i))]) (rest := [.int (nI (a8 (oB t q (rI q σ) i)))]) (wc := [(h1, .inr (0, [u0, u1, u2, u3, u4, u5, u6, .ref o1])), (o1, .inl (cB, Z, .inl (oB t 0 σ)))]) (wr := [(e2, .inr (1, [.ref st2, .int (nI ((rI (q + n) σ)).1), .int (nI ((rI (q + n) σ)).2.1), y8, y9])), (st2, .inl (cB, 256, .inl (((rI (q + n) σ)).2.2))), (tx2, .inl (cB, 256, .inl t)), (h3, .inr (0, [.ref e3, .int 1, .int (nI 0), z3, z4, z5, z6, z7])), (e3, .inr (1, [.ref st3, .int (nI ((rI 0 σ)).1), .int (nI ((rI 0 σ)).2.1), .ref wk3, z9])), (wk3, .inl (cB, n3, .inl f3)), (st3, .inl (cB, 256, .inl (((rI 0 σ)).2.2))), (h4, .inr (0, [.ref e4, .int 1, .int (nI 0), x3, x4, x5, x6, x7])), (e4, .inr (1, [.ref st4, .int (nI ((rI 0 σ)).1), .int (nI ((rI 0 σ)).2.1), x8, x9])), (st4, .inl (cB, 256, .inl (((rI 0 σ)).2.2))), (h2, .inr (0, [.ref e2, .int 1, .int (nI (q + n)), y3, y4, .ref tx2, .int (nI Z), .ref o2])), (o2, .inl (cB, n, .inl (oB t q (rI q σ))))]) (k := c0) (k' := s0) ⟨hx, hb, hml, hown, hts⟩ (metX1_out l D cB _ h1 o1 Z (q + i) u0 u1 u2 u3 u4 u5 u6 (oB t 0 σ) (by omega) (by omega)) (cwV 1 hts (lw_V q146 q147 q148 q5 q149) rfl rfl rfl (by decide +kernel) ⟨Nat.le_of_ble_eq_true rfl, Nat.le_of_ble_eq_true rfl⟩) ⟨hK, hP, hD, hS, hA⟩ [0, 1] [2, 3, 4, 5, 6, 7, 8, 9, 10, 11, 12, 13] ⟨rfl, rfl, rfl, rfl, by decide⟩ (va_recv hK hP (ci := 0) (q0 := 0) rfl rfl) hb_bl (fun _ _ _ => trivial) rfl hl.1 rfl (Nat.le_of_ble_eq_true rfl) dL_law_143 ⟨Nat.le_refl _, Nat.le_refl _⟩ hcs (fun r_143 w_1 H locs hw hP hD hS => ?_)
    obtain ⟨rfl, rfl⟩ := hw
    have hP : va_P D vwCl [(e2, .inr (1, [.ref st2, .int (nI ((rI (q + n) σ)).1), .int (nI ((rI (q + n) σ)).2.1), y8, y9])), (st2, .inl (cB, 256, .inl (((rI (q + n) σ)).2.2))), (tx2, .inl (cB, 256, .inl t)), (h3, .inr (0, [.ref e3, .int 1, .int (nI 0), z3, z4, z5, z6, z7])), (e3, .inr (1, [.ref st3, .int (nI ((rI 0 σ)).1), .int (nI ((rI 0 σ)).2.1), .ref wk3, z9])), (wk3, .inl (cB, n3, .inl f3)), (st3, .inl (cB, 256, .inl (((rI 0 σ)).2.2))), (h4, .inr (0, [.ref e4, .int 1, .int (nI 0), x3, x4, x5, x6, x7])), (e4, .inr (1, [.ref st4, .int (nI ((rI 0 σ)).1), .int (nI ((rI 0 σ)).2.1), x8, x9])), (st4, .inl (cB, 256, .inl (((rI 0 σ)).2.2))), (h2, .inr (0, [.ref e2, .int 1, .int (nI (q + n)), y3, y4, .ref tx2, .int (nI Z), .ref o2])), (o2, .inl (cB, n, .inl (oB t q (rI q σ)))), (h1, .inr (0, [u0, u1, u2, u3, u4, u5, u6, .ref o1])), (o1, .inl (cB, Z, .inl (oB t 0 σ)))] H := hP
    have hD : va_D A [(e2, .inr (1, [.ref st2, .int (nI ((rI (q + n) σ)).1), .int (nI ((rI (q + n) σ)).2.1), y8, y9])), (st2, .inl (cB, 256, .inl (((rI (q + n) σ)).2.2))), (tx2, .inl (cB, 256, .inl t)), (h3, .inr (0, [.ref e3, .int 1, .int (nI 0), z3, z4, z5, z6, z7])), (e3, .inr (1, [.ref st3, .int (nI ((rI 0 σ)).1), .int (nI ((rI 0 σ)).2.1), .ref wk3, z9])), (wk3, .inl (cB, n3, .inl f3)), (st3, .inl (cB, 256, .inl (((rI 0 σ)).2.2))), (h4, .inr (0, [.ref e4, .int 1, .int (nI 0), x3, x4, x5, x6, x7])), (e4, .inr (1, [.ref st4, .int (nI ((rI 0 σ)).1), .int (nI ((rI 0 σ)).2.1), x8, x9])), (st4, .inl (cB, 256, .inl (((rI 0 σ)).2.2))), (h2, .inr (0, [.ref e2, .int 1, .int (nI (q + n)), y3, y4, .ref tx2, .int (nI Z), .ref o2])), (o2, .inl (cB, n, .inl (oB t q (rI q σ)))), (h1, .inr (0, [u0, u1, u2, u3, u4, u5, u6, .ref o1])), (o1, .inl (cB, Z, .inl (oB t 0 σ)))] := hD
    refine lv_icmp_eq (tgt := 151) hx hb dL_law_146 (by decide) (fun c_146 => ?_) (fun c_146 => absurd (by rw [oB_at]) c_146)
    refine lv_iinc (v := nI (i + 1)) (lv' := [(9, .int (nI (i + 1))), (0, .ref b), (1, .ref h1), (2, .ref h2), (3, .ref h3), (4, .ref h4), (5, .int (nI Z)), (6, .int (nI q)), (7, .int (nI j)), (8, .int (nI n))]) hx hb dL_law_151 hl (k := 9) rfl (nI_1 i) (by decide) rfl (fun ls hl => ?_)
    refine lv_goto (tgt := 124) hx hb dL_law_154 (by decide) ?_
    have hP := hb_Psub (ws' := [(h1, .inr (0, [u0, u1, u2, u3, u4, u5, u6, .ref o1])), (o1, .inl (cB, Z, .inl (oB t 0 σ))), (h2, .inr (0, [.ref e2, .int 1, .int (nI (q + n)), y3, y4, .ref tx2, .int (nI Z), .ref o2])), (o2, .inl (cB, n, .inl (oB t q (rI q σ)))), (e2, .inr (1, [.ref st2, .int (nI ((rI (q + n) σ)).1), .int (nI ((rI (q + n) σ)).2.1), y8, y9])), (st2, .inl (cB, 256, .inl (((rI (q + n) σ)).2.2))), (tx2, .inl (cB, 256, .inl t)), (h3, .inr (0, [.ref e3, .int 1, .int (nI 0), z3, z4, z5, z6, z7])), (e3, .inr (1, [.ref st3, .int (nI ((rI 0 σ)).1), .int (nI ((rI 0 σ)).2.1), .ref wk3, z9])), (wk3, .inl (cB, n3, .inl f3)), (st3, .inl (cB, 256, .inl (((rI 0 σ)).2.2))), (h4, .inr (0, [.ref e4, .int 1, .int (nI 0), x3, x4, x5, x6, x7])), (e4, .inr (1, [.ref st4, .int (nI ((rI 0 σ)).1), .int (nI ((rI 0 σ)).2.1), x8, x9])), (st4, .inl (cB, 256, .inl (((rI 0 σ)).2.2)))]) hP [12, 13, 10, 11, 0, 1, 2, 3, 4, 5, 6, 7, 8, 9] rfl
    have hD := hD.sub (ws' := [(h1, .inr (0, [u0, u1, u2, u3, u4, u5, u6, .ref o1])), (o1, .inl (cB, Z, .inl (oB t 0 σ))), (h2, .inr (0, [.ref e2, .int 1, .int (nI (q + n)), y3, y4, .ref tx2, .int (nI Z), .ref o2])), (o2, .inl (cB, n, .inl (oB t q (rI q σ)))), (e2, .inr (1, [.ref st2, .int (nI ((rI (q + n) σ)).1), .int (nI ((rI (q + n) σ)).2.1), y8, y9])), (st2, .inl (cB, 256, .inl (((rI (q + n) σ)).2.2))), (tx2, .inl (cB, 256, .inl t)), (h3, .inr (0, [.ref e3, .int 1, .int (nI 0), z3, z4, z5, z6, z7])), (e3, .inr (1, [.ref st3, .int (nI ((rI 0 σ)).1), .int (nI ((rI 0 σ)).2.1), .ref wk3, z9])), (wk3, .inl (cB, n3, .inl f3)), (st3, .inl (cB, 256, .inl (((rI 0 σ)).2.2))), (h4, .inr (0, [.ref e4, .int 1, .int (nI 0), x3, x4, x5, x6, x7])), (e4, .inr (1, [.ref st4, .int (nI ((rI 0 σ)).1), .int (nI ((rI 0 σ)).2.1), x8, x9])), (st4, .inl (cB, 256, .inl (((rI 0 σ)).2.2)))]) [12, 13, 10, 11, 0, 1, 2, 3, 4, 5, 6, 7, 8, 9] (by decide) rfl
    exact ih (i + 1) (by omega) H locs ls hP hD hS (lv_sub hl [1, 2, 3, 4, 5, 6, 7, 8, 9, 0] rfl)
set_option maxHeartbeats 4000000 in
set_option maxRecDepth 100000 in
theorem lp_body {p : Program} {l : Launch} {e_0 : Env} {s : State} {m : MethodId} {args : Array Value} {below : List Frame} {meth : Method} {c : Code} {Q : State → Prop} {D : va_G} {cB : ClassId} {A : Nat → Prop} (hx : p.tables.exec = Jvm.exec) (hb : c.code = cL_law) (hts : ∀ w ∈ lw_all, w.before args s = true) (hown : s.vm.findClass RX0 = some m.cls) (hK : va_K D vwCl [(cB, .byte)] s) (hml : c.maxLocals = 10) (hA : ∀ q : Nat, s.heap.size ≤ q → A q) {b L : Nat} {xs : Nat → Int32} (hL : L ≤ 60) (hX : va_X b L xs s s.heap) (hbs : b < s.heap.size) (hbA : ¬ A b) {h1 o1 h2 e2 st2 tx2 h3 e3 wk3 st3 h4 e4 st4 n3 : Nat} {f3 : Nat → Int32} {u0 u1 u2 u3 u4 u5 u6 y3 y4 y8 y9 z3 z4 z5 z6 z7 z9 x3 x4 x5 x6 x7 x8 x9 : Value} (σ : rS) (t : Nat → Int32) (Z : Nat) (hZ : Z ≤ 128) {c0 s0 : Nat} (hcs : c0 + 1 ≤ 600120 ∧ s0 + 256 ≤ 7301170) {y7 : Value} (q n j : Nat) (hqn : q + n ≤ Z) (hj : j < 60) (kk : ∀ (o2 : Nat), ∀ (H : Heap) (locs : List Loc) (ls : Array Slot), va_P D vwCl [(h1, .inr (0, [u0, u1, u2, u3, u4, u5, u6, .ref o1])), (o1, .inl (cB, Z, .inl (oB t 0 σ))), (h2, .inr (0, [.ref e2, .int 1, .int (nI (q + n)), y3, y4, .ref tx2, .int (nI Z), .ref o2])), (e2, .inr (1, [.ref st2, .int (nI ((rI (q + n) σ)).1), .int (nI ((rI (q + n) σ)).2.1), y8, y9])), (st2, .inl (cB, 256, .inl (((rI (q + n) σ)).2.2))), (tx2, .inl (cB, 256, .inl t)), (h3, .inr (0, [.ref e3, .int 1, .int (nI 0), z3, z4, z5, z6, z7])), (e3, .inr (1, [.ref st3, .int (nI ((rI 0 σ)).1), .int (nI ((rI 0 σ)).2.1), .ref wk3, z9])), (wk3, .inl (cB, n3, .inl f3)), (st3, .inl (cB, 256, .inl (((rI 0 σ)).2.2))), (h4, .inr (0, [.ref e4, .int 1, .int (nI 0), x3, x4, x5, x6, x7])), (e4, .inr (1, [.ref st4, .int (nI ((rI 0 σ)).1), .int (nI ((rI 0 σ)).2.1), x8, x9])), (st4, .inl (cB, 256, .inl (((rI 0 σ)).2.2)))] H → va_D A [(h1, .inr (0, [u0, u1, u2, u3, u4, u5, u6, .ref o1])), (o1, .inl (cB, Z, .inl (oB t 0 σ))), (h2, .inr (0, [.ref e2, .int 1, .int (nI (q + n)), y3, y4, .ref tx2, .int (nI Z), .ref o2])), (e2, .inr (1, [.ref st2, .int (nI ((rI (q + n) σ)).1), .int (nI ((rI (q + n) σ)).2.1), y8, y9])), (st2, .inl (cB, 256, .inl (((rI (q + n) σ)).2.2))), (tx2, .inl (cB, 256, .inl t)), (h3, .inr (0, [.ref e3, .int 1, .int (nI 0), z3, z4, z5, z6, z7])), (e3, .inr (1, [.ref st3, .int (nI ((rI 0 σ)).1), .int (nI ((rI 0 σ)).2.1), .ref wk3, z9])), (wk3, .inl (cB, n3, .inl f3)), (st3, .inl (cB, 256, .inl (((rI 0 σ)).2.2))), (h4, .inr (0, [.ref e4, .int 1, .int (nI 0), x3, x4, x5, x6, x7])), (e4, .inr (1, [.ref st4, .int (nI ((rI 0 σ)).1), .int (nI ((rI 0 σ)).2.1), x8, x9])), (st4, .inl (cB, 256, .inl (((rI 0 σ)).2.2)))] → va_S A s.heap H locs → lv_has ls 10 [(0, .ref b), (1, .ref h1), (2, .ref h2), (3, .ref h3), (4, .ref h4), (5, .int (nI Z)), (6, .int (nI (q + n))), (7, .int (nI (j + 1)))] → W p l e_0 room_1 s m args below meth c H locs (c0 + 1) (s0 + 256) Q (F0 m 65 ls [])) :
    ∀ (H : Heap) (locs : List Loc) (ls : Array Slot), va_P D vwCl [(h1, .inr (0, [u0, u1, u2, u3, u4, u5, u6, .ref o1])), (o1, .inl (cB, Z, .inl (oB t 0 σ))), (h2, .inr (0, [.ref e2, .int 1, .int (nI q), y3, y4, .ref tx2, .int (nI Z), y7])), (e2, .inr (1, [.ref st2, .int (nI ((rI q σ)).1), .int (nI ((rI q σ)).2.1), y8, y9])), (st2, .inl (cB, 256, .inl (((rI q σ)).2.2))), (tx2, .inl (cB, 256, .inl t)), (h3, .inr (0, [.ref e3, .int 1, .int (nI 0), z3, z4, z5, z6, z7])), (e3, .inr (1, [.ref st3, .int (nI ((rI 0 σ)).1), .int (nI ((rI 0 σ)).2.1), .ref wk3, z9])), (wk3, .inl (cB, n3, .inl f3)), (st3, .inl (cB, 256, .inl (((rI 0 σ)).2.2))), (h4, .inr (0, [.ref e4, .int 1, .int (nI 0), x3, x4, x5, x6, x7])), (e4, .inr (1, [.ref st4, .int (nI ((rI 0 σ)).1), .int (nI ((rI 0 σ)).2.1), x8, x9])), (st4, .inl (cB, 256, .inl (((rI 0 σ)).2.2)))] H → va_D A [(h1, .inr (0, [u0, u1, u2, u3, u4, u5, u6, .ref o1])), (o1, .inl (cB, Z, .inl (oB t 0 σ))), (h2, .inr (0, [.ref e2, .int 1, .int (nI q), y3, y4, .ref tx2, .int (nI Z), y7])), (e2, .inr (1, [.ref st2, .int (nI ((rI q σ)).1), .int (nI ((rI q σ)).2.1), y8, y9])), (st2, .inl (cB, 256, .inl (((rI q σ)).2.2))), (tx2, .inl (cB, 256, .inl t)), (h3, .inr (0, [.ref e3, .int 1, .int (nI 0), z3, z4, z5, z6, z7])), (e3, .inr (1, [.ref st3, .int (nI ((rI 0 σ)).1), .int (nI ((rI 0 σ)).2.1), .ref wk3, z9])), (wk3, .inl (cB, n3, .inl f3)), (st3, .inl (cB, 256, .inl (((rI 0 σ)).2.2))), (h4, .inr (0, [.ref e4, .int 1, .int (nI 0), x3, x4, x5, x6, x7])), (e4, .inr (1, [.ref st4, .int (nI ((rI 0 σ)).1), .int (nI ((rI 0 σ)).2.1), x8, x9])), (st4, .inl (cB, 256, .inl (((rI 0 σ)).2.2)))] → va_S A s.heap H locs → lv_has ls 10 [(0, .ref b), (1, .ref h1), (2, .ref h2), (3, .ref h3), (4, .ref h4), (5, .int (nI Z)), (6, .int (nI q)), (7, .int (nI j))] → W p l e_0 room_1 s m args below meth c H locs c0 s0 Q (F0 m 104 ls [.int (nI n)]) := by
  intro H locs ls hP hD hS hl
  refine lv_istore (lv' := [(8, .int (nI n)), (0, .ref b), (1, .ref h1), (2, .ref h2), (3, .ref h3), (4, .ref h4), (5, .int (nI Z)), (6, .int (nI q)), (7, .int (nI j))]) hx hb dL_law_104 hl (by decide) rfl (fun ls hl => ?_)
  refine lv_aload_n hx hb dL_law_106 rfl (lv_at hl 3 rfl) ?_
  refine lv_iload hx hb dL_law_107 (lv_at hl 7 rfl) ?_
  refine lv_iload hx hb dL_law_109 (lv_at hl 0 rfl) ?_
  refine hb_Vi (As := [.int (nI q), .int (nI n)]) (rest := []) (wc := [(h2, .inr (0, [.ref e2, .int 1, .int (nI q), y3, y4, .ref tx2, .int (nI Z), y7])), (e2, .inr (1, [.ref st2, .int (nI ((rI q σ)).1), .int (nI ((rI q σ)).2.1), y8, y9])), (st2, .inl (cB, 256, .inl (((rI q σ)).2.2))), (tx2, .inl (cB, 256, .inl t))]) (wr := [(h1, .inr (0, [u0, u1, u2, u3, u4, u5, u6, .ref o1])), (o1, .inl (cB, Z, .inl (oB t 0 σ))), (h3, .inr (0, [.ref e3, .int 1, .int (nI 0), z3, z4, z5, z6, z7])), (e3, .inr (1, [.ref st3, .int (nI ((rI 0 σ)).1), .int (nI ((rI 0 σ)).2.1), .ref wk3, z9])), (wk3, .inl (cB, n3, .inl f3)), (st3, .inl (cB, 256, .inl (((rI 0 σ)).2.2))), (h4, .inr (0, [.ref e4, .int 1, .int (nI 0), x3, x4, x5, x6, x7])), (e4, .inr (1, [.ref st4, .int (nI ((rI 0 σ)).1), .int (nI ((rI 0 σ)).2.1), x8, x9])), (st4, .inl (cB, 256, .inl (((rI 0 σ)).2.2)))]) (k := (c0 + 1)) (k' := (s0 + 256)) ⟨hx, hb, hml, hown, hts⟩ (metX1_run l D cB _ h2 e2 st2 tx2 Z q q n y3 y4 y7 y8 y9 (rI q σ) t hqn (by omega) (by omega)) (cwV 2 hts (lw_V q16 q17 q18 q5 q19) rfl rfl rfl (by decide +kernel) ⟨Nat.le_of_ble_eq_true rfl, Nat.le_of_ble_eq_true rfl⟩) ⟨hK, hP, hD, hS, hA⟩ [2, 3, 4, 5] [0, 1, 6, 7, 8, 9, 10, 11, 12] ⟨rfl, rfl, rfl, rfl, by decide⟩ (va_recv hK hP (ci := 0) (q0 := 2) rfl rfl) hb_bl (fun _ _ _ => trivial) rfl hl.1 rfl (Nat.le_of_ble_eq_true rfl) dL_law_111 ⟨Nat.le_refl _, Nat.le_refl _⟩ hcs (fun r_111 w_1 H locs hw hP hD hS => ?_)
  obtain ⟨rfl, o2, rfl⟩ := hw
  rw [rI_add] at hP hD
  have hP : va_P D vwCl [(h1, .inr (0, [u0, u1, u2, u3, u4, u5, u6, .ref o1])), (o1, .inl (cB, Z, .inl (oB t 0 σ))), (h3, .inr (0, [.ref e3, .int 1, .int (nI 0), z3, z4, z5, z6, z7])), (e3, .inr (1, [.ref st3, .int (nI ((rI 0 σ)).1), .int (nI ((rI 0 σ)).2.1), .ref wk3, z9])), (wk3, .inl (cB, n3, .inl f3)), (st3, .inl (cB, 256, .inl (((rI 0 σ)).2.2))), (h4, .inr (0, [.ref e4, .int 1, .int (nI 0), x3, x4, x5, x6, x7])), (e4, .inr (1, [.ref st4, .int (nI ((rI 0 σ)).1), .int (nI ((rI 0 σ)).2.1), x8, x9])), (st4, .inl (cB, 256, .inl (((rI 0 σ)).2.2))), (h2, .inr (0, [.ref e2, .int 1, .int (nI (q + n)), y3, y4, .ref tx2, .int (nI Z), .ref o2])), (e2, .inr (1, [.ref st2, .int (nI ((rI (q + n) σ)).1), .int (nI ((rI (q + n) σ)).2.1), y8, y9])), (st2, .inl (cB, 256, .inl (((rI (q + n) σ)).2.2))), (tx2, .inl (cB, 256, .inl t)), (o2, .inl (cB, n, .inl (oB t q (rI q σ))))] H := hP
  have hD : va_D A [(h1, .inr (0, [u0, u1, u2, u3, u4, u5, u6, .ref o1])), (o1, .inl (cB, Z, .inl (oB t 0 σ))), (h3, .inr (0, [.ref e3, .int 1, .int (nI 0), z3, z4, z5, z6, z7])), (e3, .inr (1, [.ref st3, .int (nI ((rI 0 σ)).1), .int (nI ((rI 0 σ)).2.1), .ref wk3, z9])), (wk3, .inl (cB, n3, .inl f3)), (st3, .inl (cB, 256, .inl (((rI 0 σ)).2.2))), (h4, .inr (0, [.ref e4, .int 1, .int (nI 0), x3, x4, x5, x6, x7])), (e4, .inr (1, [.ref st4, .int (nI ((rI 0 σ)).1), .int (nI ((rI 0 σ)).2.1), x8, x9])), (st4, .inl (cB, 256, .inl (((rI 0 σ)).2.2))), (h2, .inr (0, [.ref e2, .int 1, .int (nI (q + n)), y3, y4, .ref tx2, .int (nI Z), .ref o2])), (e2, .inr (1, [.ref st2, .int (nI ((rI (q + n) σ)).1), .int (nI ((rI (q + n) σ)).2.1), y8, y9])), (st2, .inl (cB, 256, .inl (((rI (q + n) σ)).2.2))), (tx2, .inl (cB, 256, .inl t)), (o2, .inl (cB, n, .inl (oB t q (rI q σ))))] := hD
  refine lv_iload hx hb dL_law_114 (lv_at hl 0 rfl) ?_
  refine lv_icmp_eq (tgt := 121) hx hb dL_law_116 (by decide) (fun c_116 => ?_) (fun c_116 => absurd rfl c_116)
  refine lv_iconst (v := nI 0) hx hb dL_law_121 (by decide) ?_
  refine lv_istore (lv' := [(9, .int (nI 0)), (8, .int (nI n)), (0, .ref b), (1, .ref h1), (2, .ref h2), (3, .ref h3), (4, .ref h4), (5, .int (nI Z)), (6, .int (nI q)), (7, .int (nI j))]) hx hb dL_law_122 hl (by decide) rfl (fun ls hl => ?_)
  have hP := hb_Psub (ws' := [(h1, .inr (0, [u0, u1, u2, u3, u4, u5, u6, .ref o1])), (o1, .inl (cB, Z, .inl (oB t 0 σ))), (h2, .inr (0, [.ref e2, .int 1, .int (nI (q + n)), y3, y4, .ref tx2, .int (nI Z), .ref o2])), (o2, .inl (cB, n, .inl (oB t q (rI q σ)))), (e2, .inr (1, [.ref st2, .int (nI ((rI (q + n) σ)).1), .int (nI ((rI (q + n) σ)).2.1), y8, y9])), (st2, .inl (cB, 256, .inl (((rI (q + n) σ)).2.2))), (tx2, .inl (cB, 256, .inl t)), (h3, .inr (0, [.ref e3, .int 1, .int (nI 0), z3, z4, z5, z6, z7])), (e3, .inr (1, [.ref st3, .int (nI ((rI 0 σ)).1), .int (nI ((rI 0 σ)).2.1), .ref wk3, z9])), (wk3, .inl (cB, n3, .inl f3)), (st3, .inl (cB, 256, .inl (((rI 0 σ)).2.2))), (h4, .inr (0, [.ref e4, .int 1, .int (nI 0), x3, x4, x5, x6, x7])), (e4, .inr (1, [.ref st4, .int (nI ((rI 0 σ)).1), .int (nI ((rI 0 σ)).2.1), x8, x9])), (st4, .inl (cB, 256, .inl (((rI 0 σ)).2.2)))]) hP [0, 1, 9, 13, 10, 11, 12, 2, 3, 4, 5, 6, 7, 8] rfl
  have hD := hD.sub (ws' := [(h1, .inr (0, [u0, u1, u2, u3, u4, u5, u6, .ref o1])), (o1, .inl (cB, Z, .inl (oB t 0 σ))), (h2, .inr (0, [.ref e2, .int 1, .int (nI (q + n)), y3, y4, .ref tx2, .int (nI Z), .ref o2])), (o2, .inl (cB, n, .inl (oB t q (rI q σ)))), (e2, .inr (1, [.ref st2, .int (nI ((rI (q + n) σ)).1), .int (nI ((rI (q + n) σ)).2.1), y8, y9])), (st2, .inl (cB, 256, .inl (((rI (q + n) σ)).2.2))), (tx2, .inl (cB, 256, .inl t)), (h3, .inr (0, [.ref e3, .int 1, .int (nI 0), z3, z4, z5, z6, z7])), (e3, .inr (1, [.ref st3, .int (nI ((rI 0 σ)).1), .int (nI ((rI 0 σ)).2.1), .ref wk3, z9])), (wk3, .inl (cB, n3, .inl f3)), (st3, .inl (cB, 256, .inl (((rI 0 σ)).2.2))), (h4, .inr (0, [.ref e4, .int 1, .int (nI 0), x3, x4, x5, x6, x7])), (e4, .inr (1, [.ref st4, .int (nI ((rI 0 σ)).1), .int (nI ((rI 0 σ)).2.1), x8, x9])), (st4, .inl (cB, 256, .inl (((rI 0 σ)).2.2)))]) [0, 1, 9, 13, 10, 11, 12, 2, 3, 4, 5, 6, 7, 8] (by decide) rfl
  refine lp_in hx hb hts hown hK hml hA hL hX hbs hbA σ t Z hZ (c0 := c0 + 1) (s0 := s0 + 256) hcs q n j hqn (fun H locs ls hP hD hS hl => ?_) n 0 (by omega) _ _ _ hP hD hS (lv_sub hl [2, 3, 4, 5, 6, 7, 8, 9, 1, 0] rfl)
  refine lv_iload hx hb dL_law_157 (lv_at hl 6 rfl) ?_
  refine lv_iload hx hb dL_law_159 (lv_at hl 8 rfl) ?_
  refine lv_iadd hx hb dL_law_161 ?_
  refine hb_top (nI (q + n)) (nI_add q n) ?_
  refine lv_istore (lv' := [(6, .int (nI (q + n))), (0, .ref b), (1, .ref h1), (2, .ref h2), (3, .ref h3), (4, .ref h4), (5, .int (nI Z)), (7, .int (nI j)), (8, .int (nI n)), (9, .int (nI n))]) hx hb dL_law_162 hl (by decide) rfl (fun ls hl => ?_)
  refine lv_iinc (v := nI (j + 1)) (lv' := [(7, .int (nI (j + 1))), (6, .int (nI (q + n))), (0, .ref b), (1, .ref h1), (2, .ref h2), (3, .ref h3), (4, .ref h4), (5, .int (nI Z)), (8, .int (nI n)), (9, .int (nI n))]) hx hb dL_law_164 hl (k := 7) rfl (nI_1 j) (by decide) rfl (fun ls hl => ?_)
  refine lv_goto (tgt := 65) hx hb dL_law_167 (by decide) ?_
  have hP := hb_Psub (ws' := [(h1, .inr (0, [u0, u1, u2, u3, u4, u5, u6, .ref o1])), (o1, .inl (cB, Z, .inl (oB t 0 σ))), (h2, .inr (0, [.ref e2, .int 1, .int (nI (q + n)), y3, y4, .ref tx2, .int (nI Z), .ref o2])), (e2, .inr (1, [.ref st2, .int (nI ((rI (q + n) σ)).1), .int (nI ((rI (q + n) σ)).2.1), y8, y9])), (st2, .inl (cB, 256, .inl (((rI (q + n) σ)).2.2))), (tx2, .inl (cB, 256, .inl t)), (h3, .inr (0, [.ref e3, .int 1, .int (nI 0), z3, z4, z5, z6, z7])), (e3, .inr (1, [.ref st3, .int (nI ((rI 0 σ)).1), .int (nI ((rI 0 σ)).2.1), .ref wk3, z9])), (wk3, .inl (cB, n3, .inl f3)), (st3, .inl (cB, 256, .inl (((rI 0 σ)).2.2))), (h4, .inr (0, [.ref e4, .int 1, .int (nI 0), x3, x4, x5, x6, x7])), (e4, .inr (1, [.ref st4, .int (nI ((rI 0 σ)).1), .int (nI ((rI 0 σ)).2.1), x8, x9])), (st4, .inl (cB, 256, .inl (((rI 0 σ)).2.2)))]) hP [0, 1, 2, 4, 5, 6, 7, 8, 9, 10, 11, 12, 13] rfl
  have hD := hD.sub (ws' := [(h1, .inr (0, [u0, u1, u2, u3, u4, u5, u6, .ref o1])), (o1, .inl (cB, Z, .inl (oB t 0 σ))), (h2, .inr (0, [.ref e2, .int 1, .int (nI (q + n)), y3, y4, .ref tx2, .int (nI Z), .ref o2])), (e2, .inr (1, [.ref st2, .int (nI ((rI (q + n) σ)).1), .int (nI ((rI (q + n) σ)).2.1), y8, y9])), (st2, .inl (cB, 256, .inl (((rI (q + n) σ)).2.2))), (tx2, .inl (cB, 256, .inl t)), (h3, .inr (0, [.ref e3, .int 1, .int (nI 0), z3, z4, z5, z6, z7])), (e3, .inr (1, [.ref st3, .int (nI ((rI 0 σ)).1), .int (nI ((rI 0 σ)).2.1), .ref wk3, z9])), (wk3, .inl (cB, n3, .inl f3)), (st3, .inl (cB, 256, .inl (((rI 0 σ)).2.2))), (h4, .inr (0, [.ref e4, .int 1, .int (nI 0), x3, x4, x5, x6, x7])), (e4, .inr (1, [.ref st4, .int (nI ((rI 0 σ)).1), .int (nI ((rI 0 σ)).2.1), x8, x9])), (st4, .inl (cB, 256, .inl (((rI 0 σ)).2.2)))]) [0, 1, 2, 4, 5, 6, 7, 8, 9, 10, 11, 12, 13] (by decide) rfl
  exact kk o2 H locs ls hP hD hS (lv_sub hl [2, 3, 4, 5, 6, 7, 1, 0] rfl)
set_option maxHeartbeats 4000000 in
set_option maxRecDepth 100000 in
theorem lp_1 {p : Program} {l : Launch} {e_0 : Env} {s : State} {m : MethodId} {args : Array Value} {below : List Frame} {meth : Method} {c : Code} {Q : State → Prop} {D : va_G} {cB : ClassId} {A : Nat → Prop} (hx : p.tables.exec = Jvm.exec) (hb : c.code = cL_law) (hts : ∀ w ∈ lw_all, w.before args s = true) (hown : s.vm.findClass RX0 = some m.cls) (hK : va_K D vwCl [(cB, .byte)] s) (hml : c.maxLocals = 10) (hA : ∀ q : Nat, s.heap.size ≤ q → A q) {b L : Nat} {xs : Nat → Int32} (hL : L ≤ 60) (hX : va_X b L xs s s.heap) (hbs : b < s.heap.size) (hbA : ¬ A b) {h1 o1 h2 e2 st2 tx2 h3 e3 wk3 st3 h4 e4 st4 n3 : Nat} {f3 : Nat → Int32} {u0 u1 u2 u3 u4 u5 u6 y3 y4 y8 y9 z3 z4 z5 z6 z7 z9 x3 x4 x5 x6 x7 x8 x9 : Value} (σ : rS) (t : Nat → Int32) (Z : Nat) (hZ : Z ≤ 128) (kk : ∀ (H : Heap) (locs : List Loc) (ls : Array Slot), va_P D vwCl [(h1, .inr (0, [u0, u1, u2, u3, u4, u5, u6, .ref o1])), (o1, .inl (cB, Z, .inl (oB t 0 σ))), (h3, .inr (0, [.ref e3, .int 1, .int (nI 0), z3, z4, z5, z6, z7])), (e3, .inr (1, [.ref st3, .int (nI ((rI 0 σ)).1), .int (nI ((rI 0 σ)).2.1), .ref wk3, z9])), (wk3, .inl (cB, n3, .inl f3)), (st3, .inl (cB, 256, .inl (((rI 0 σ)).2.2))), (h4, .inr (0, [.ref e4, .int 1, .int (nI 0), x3, x4, x5, x6, x7])), (e4, .inr (1, [.ref st4, .int (nI ((rI 0 σ)).1), .int (nI ((rI 0 σ)).2.1), x8, x9])), (st4, .inl (cB, 256, .inl (((rI 0 σ)).2.2)))] H → va_D A [(h1, .inr (0, [u0, u1, u2, u3, u4, u5, u6, .ref o1])), (o1, .inl (cB, Z, .inl (oB t 0 σ))), (h3, .inr (0, [.ref e3, .int 1, .int (nI 0), z3, z4, z5, z6, z7])), (e3, .inr (1, [.ref st3, .int (nI ((rI 0 σ)).1), .int (nI ((rI 0 σ)).2.1), .ref wk3, z9])), (wk3, .inl (cB, n3, .inl f3)), (st3, .inl (cB, 256, .inl (((rI 0 σ)).2.2))), (h4, .inr (0, [.ref e4, .int 1, .int (nI 0), x3, x4, x5, x6, x7])), (e4, .inr (1, [.ref st4, .int (nI ((rI 0 σ)).1), .int (nI ((rI 0 σ)).2.1), x8, x9])), (st4, .inl (cB, 256, .inl (((rI 0 σ)).2.2)))] → va_S A s.heap H locs → lv_has ls 10 [(0, .ref b), (1, .ref h1), (2, .ref h2), (3, .ref h3), (4, .ref h4), (5, .int (nI Z))] → W p l e_0 room_1 s m args below meth c H locs 63 5056 Q (F0 m 170 ls [])) :
    ∀ (k i : Nat), i + k = 5 → ∀ (q : Nat) (y7 : Value), q ≤ Z → ∀ (H : Heap) (locs : List Loc) (ls : Array Slot), va_P D vwCl [(h1, .inr (0, [u0, u1, u2, u3, u4, u5, u6, .ref o1])), (o1, .inl (cB, Z, .inl (oB t 0 σ))), (h2, .inr (0, [.ref e2, .int 1, .int (nI q), y3, y4, .ref tx2, .int (nI Z), y7])), (e2, .inr (1, [.ref st2, .int (nI ((rI q σ)).1), .int (nI ((rI q σ)).2.1), y8, y9])), (st2, .inl (cB, 256, .inl (((rI q σ)).2.2))), (tx2, .inl (cB, 256, .inl t)), (h3, .inr (0, [.ref e3, .int 1, .int (nI 0), z3, z4, z5, z6, z7])), (e3, .inr (1, [.ref st3, .int (nI ((rI 0 σ)).1), .int (nI ((rI 0 σ)).2.1), .ref wk3, z9])), (wk3, .inl (cB, n3, .inl f3)), (st3, .inl (cB, 256, .inl (((rI 0 σ)).2.2))), (h4, .inr (0, [.ref e4, .int 1, .int (nI 0), x3, x4, x5, x6, x7])), (e4, .inr (1, [.ref st4, .int (nI ((rI 0 σ)).1), .int (nI ((rI 0 σ)).2.1), x8, x9])), (st4, .inl (cB, 256, .inl (((rI 0 σ)).2.2)))] H → va_D A [(h1, .inr (0, [u0, u1, u2, u3, u4, u5, u6, .ref o1])), (o1, .inl (cB, Z, .inl (oB t 0 σ))), (h2, .inr (0, [.ref e2, .int 1, .int (nI q), y3, y4, .ref tx2, .int (nI Z), y7])), (e2, .inr (1, [.ref st2, .int (nI ((rI q σ)).1), .int (nI ((rI q σ)).2.1), y8, y9])), (st2, .inl (cB, 256, .inl (((rI q σ)).2.2))), (tx2, .inl (cB, 256, .inl t)), (h3, .inr (0, [.ref e3, .int 1, .int (nI 0), z3, z4, z5, z6, z7])), (e3, .inr (1, [.ref st3, .int (nI ((rI 0 σ)).1), .int (nI ((rI 0 σ)).2.1), .ref wk3, z9])), (wk3, .inl (cB, n3, .inl f3)), (st3, .inl (cB, 256, .inl (((rI 0 σ)).2.2))), (h4, .inr (0, [.ref e4, .int 1, .int (nI 0), x3, x4, x5, x6, x7])), (e4, .inr (1, [.ref st4, .int (nI ((rI 0 σ)).1), .int (nI ((rI 0 σ)).2.1), x8, x9])), (st4, .inl (cB, 256, .inl (((rI 0 σ)).2.2)))] → va_S A s.heap H locs → lv_has ls 10 [(0, .ref b), (1, .ref h1), (2, .ref h2), (3, .ref h3), (4, .ref h4), (5, .int (nI Z)), (6, .int (nI q)), (7, .int (nI (14 + i)))] → W p l e_0 room_1 s m args below meth c H locs (58 + i) (3776 + 256 * i) Q (F0 m 65 ls []) := by
  intro k
  induction k with
  | zero =>
    intro i hi q y7 hq H locs ls hP hD hS hl
    obtain rfl : i = 5 := by omega
    refine lv_iload hx hb dL_law_65 (lv_at hl 7 rfl) ?_
    refine lv_bipush (v := nI (14 + 5)) hx hb dL_law_67 (by decide) ?_
    refine lv_icmp_ge (tgt := 170) hx hb dL_law_69 (by decide) (fun c_69 => ?_) (fun c_69 => absurd (nI_le (Nat.le_refl _) (by decide)) c_69)
    have hP := hb_Psub (ws' := [(h1, .inr (0, [u0, u1, u2, u3, u4, u5, u6, .ref o1])), (o1, .inl (cB, Z, .inl (oB t 0 σ))), (h3, .inr (0, [.ref e3, .int 1, .int (nI 0), z3, z4, z5, z6, z7])), (e3, .inr (1, [.ref st3, .int (nI ((rI 0 σ)).1), .int (nI ((rI 0 σ)).2.1), .ref wk3, z9])), (wk3, .inl (cB, n3, .inl f3)), (st3, .inl (cB, 256, .inl (((rI 0 σ)).2.2))), (h4, .inr (0, [.ref e4, .int 1, .int (nI 0), x3, x4, x5, x6, x7])), (e4, .inr (1, [.ref st4, .int (nI ((rI 0 σ)).1), .int (nI ((rI 0 σ)).2.1), x8, x9])), (st4, .inl (cB, 256, .inl (((rI 0 σ)).2.2)))]) hP [0, 1, 6, 7, 8, 9, 10, 11, 12] rfl
    have hD := hD.sub (ws' := [(h1, .inr (0, [u0, u1, u2, u3, u4, u5, u6, .ref o1])), (o1, .inl (cB, Z, .inl (oB t 0 σ))), (h3, .inr (0, [.ref e3, .int 1, .int (nI 0), z3, z4, z5, z6, z7])), (e3, .inr (1, [.ref st3, .int (nI ((rI 0 σ)).1), .int (nI ((rI 0 σ)).2.1), .ref wk3, z9])), (wk3, .inl (cB, n3, .inl f3)), (st3, .inl (cB, 256, .inl (((rI 0 σ)).2.2))), (h4, .inr (0, [.ref e4, .int 1, .int (nI 0), x3, x4, x5, x6, x7])), (e4, .inr (1, [.ref st4, .int (nI ((rI 0 σ)).1), .int (nI ((rI 0 σ)).2.1), x8, x9])), (st4, .inl (cB, 256, .inl (((rI 0 σ)).2.2)))]) [0, 1, 6, 7, 8, 9, 10, 11, 12] (by decide) rfl
    exact kk H locs ls hP hD hS (lv_sub hl [0, 1, 2, 3, 4, 5] rfl)
  | succ k ih =>
    intro i hi q y7 hq H locs ls hP hD hS hl
    have hi1 : i < 5 := by omega
    refine lv_iload hx hb dL_law_65 (lv_at hl 7 rfl) ?_
    refine lv_bipush (v := nI 19) hx hb dL_law_67 (by decide) ?_
    refine lv_icmp_ge (tgt := 170) hx hb dL_law_69 (by decide) (fun c_69 => absurd c_69 (nI_ge (by omega) (by decide))) (fun c_69 => ?_)
    refine lv_iload hx hb dL_law_72 (lv_at hl 7 rfl) ?_
    refine lv_bipush (v := nI 18) hx hb dL_law_74 (by decide) ?_
    refine lv_icmp_ne (tgt := 87) hx hb dL_law_76 (by decide) (fun c_76 => ?_) (fun c_76 => ?_)
    · have hn := Nat.mod_lt (m31 (cV L xs (14 + i))) (show 0 < Z - q + 1 by omega)
      refine lv_aload_n hx hb dL_law_87 rfl (lv_at hl 0 rfl) ?_
      refine lv_iload hx hb dL_law_88 (lv_at hl 7 rfl) ?_
      refine hb_Si (As := [.ref b, .int (nI (14 + i))]) (rest := []) (wc := []) (wr := [(h1, .inr (0, [u0, u1, u2, u3, u4, u5, u6, .ref o1])), (o1, .inl (cB, Z, .inl (oB t 0 σ))), (h2, .inr (0, [.ref e2, .int 1, .int (nI q), y3, y4, .ref tx2, .int (nI Z), y7])), (e2, .inr (1, [.ref st2, .int (nI ((rI q σ)).1), .int (nI ((rI q σ)).2.1), y8, y9])), (st2, .inl (cB, 256, .inl (((rI q σ)).2.2))), (tx2, .inl (cB, 256, .inl t)), (h3, .inr (0, [.ref e3, .int 1, .int (nI 0), z3, z4, z5, z6, z7])), (e3, .inr (1, [.ref st3, .int (nI ((rI 0 σ)).1), .int (nI ((rI 0 σ)).2.1), .ref wk3, z9])), (wk3, .inl (cB, n3, .inl f3)), (st3, .inl (cB, 256, .inl (((rI 0 σ)).2.2))), (h4, .inr (0, [.ref e4, .int 1, .int (nI 0), x3, x4, x5, x6, x7])), (e4, .inr (1, [.ref st4, .int (nI ((rI 0 σ)).1), .int (nI ((rI 0 σ)).2.1), x8, x9])), (st4, .inl (cB, 256, .inl (((rI 0 σ)).2.2)))]) (k := (58 + i)) (k' := (3776 + 256 * i)) ⟨hx, hb, hml, hown, hts⟩ (metX0_cell l D cB _ b L (14 + i) xs hL (by omega)) (va_cwS 2 hts (lw_S q150 q151 q4 q152) rfl rfl rfl (by decide +kernel) ⟨Nat.le_of_ble_eq_true rfl, Nat.le_of_ble_eq_true rfl⟩) ⟨hK, hP, hD, hS, hA⟩ [] [0, 1, 2, 3, 4, 5, 6, 7, 8, 9, 10, 11, 12] ⟨rfl, rfl, rfl, rfl, by decide⟩ hb_blX (hb_gX hX hbs hbA hS) rfl hl.1 rfl (Nat.le_of_ble_eq_true rfl) dL_law_90 ⟨Nat.le_refl _, Nat.le_refl _⟩ ⟨show 58 + i ≤ 600120 by omega, show 3776 + 256 * i ≤ 7301170 by omega⟩ (fun r_90 w_1 H locs hw hP hD hS => ?_)
      obtain ⟨rfl, rfl⟩ := hw
      have hP : va_P D vwCl [(h1, .inr (0, [u0, u1, u2, u3, u4, u5, u6, .ref o1])), (o1, .inl (cB, Z, .inl (oB t 0 σ))), (h2, .inr (0, [.ref e2, .int 1, .int (nI q), y3, y4, .ref tx2, .int (nI Z), y7])), (e2, .inr (1, [.ref st2, .int (nI ((rI q σ)).1), .int (nI ((rI q σ)).2.1), y8, y9])), (st2, .inl (cB, 256, .inl (((rI q σ)).2.2))), (tx2, .inl (cB, 256, .inl t)), (h3, .inr (0, [.ref e3, .int 1, .int (nI 0), z3, z4, z5, z6, z7])), (e3, .inr (1, [.ref st3, .int (nI ((rI 0 σ)).1), .int (nI ((rI 0 σ)).2.1), .ref wk3, z9])), (wk3, .inl (cB, n3, .inl f3)), (st3, .inl (cB, 256, .inl (((rI 0 σ)).2.2))), (h4, .inr (0, [.ref e4, .int 1, .int (nI 0), x3, x4, x5, x6, x7])), (e4, .inr (1, [.ref st4, .int (nI ((rI 0 σ)).1), .int (nI ((rI 0 σ)).2.1), x8, x9])), (st4, .inl (cB, 256, .inl (((rI 0 σ)).2.2)))] H := hP
      have hD : va_D A [(h1, .inr (0, [u0, u1, u2, u3, u4, u5, u6, .ref o1])), (o1, .inl (cB, Z, .inl (oB t 0 σ))), (h2, .inr (0, [.ref e2, .int 1, .int (nI q), y3, y4, .ref tx2, .int (nI Z), y7])), (e2, .inr (1, [.ref st2, .int (nI ((rI q σ)).1), .int (nI ((rI q σ)).2.1), y8, y9])), (st2, .inl (cB, 256, .inl (((rI q σ)).2.2))), (tx2, .inl (cB, 256, .inl t)), (h3, .inr (0, [.ref e3, .int 1, .int (nI 0), z3, z4, z5, z6, z7])), (e3, .inr (1, [.ref st3, .int (nI ((rI 0 σ)).1), .int (nI ((rI 0 σ)).2.1), .ref wk3, z9])), (wk3, .inl (cB, n3, .inl f3)), (st3, .inl (cB, 256, .inl (((rI 0 σ)).2.2))), (h4, .inr (0, [.ref e4, .int 1, .int (nI 0), x3, x4, x5, x6, x7])), (e4, .inr (1, [.ref st4, .int (nI ((rI 0 σ)).1), .int (nI ((rI 0 σ)).2.1), x8, x9])), (st4, .inl (cB, 256, .inl (((rI 0 σ)).2.2)))] := hD
      refine lv_ldc hx hb hown (hts _ q282) dL_law_93 ?_
      refine lv_iand hx hb dL_law_95 ?_
      refine hb_top (nI (m31 (cV L xs (14 + i)))) (m31_and _) ?_
      refine lv_iload hx hb dL_law_96 (lv_at hl 5 rfl) ?_
      refine lv_iload hx hb dL_law_98 (lv_at hl 6 rfl) ?_
      refine lv_isub hx hb dL_law_100 ?_
      refine hb_top (nI (Z - q)) (pk_sub hq) ?_
      refine lv_iconst (v := 1) hx hb dL_law_101 (by decide) ?_
      refine lv_iadd hx hb dL_law_102 ?_
      refine hb_top (nI (Z - q + 1)) (nI_1 _) ?_
      refine lv_irem hx hb dL_law_103 (nI_ne0 (by omega) (by omega)) ?_
      refine hb_top (nI (m31 (cV L xs (14 + i)) % (Z - q + 1))) (rem_nI _ (by omega) (by omega)) ?_
      refine lp_body hx hb hts hown hK hml hA hL hX hbs hbA σ t Z hZ (c0 := 58 + i) (s0 := 3776 + 256 * i) ⟨show 58 + i + 1 ≤ 600120 by omega, show 3776 + 256 * i + 256 ≤ 7301170 by omega⟩ q (m31 (cV L xs (14 + i)) % (Z - q + 1)) (14 + i) (by omega) (by omega) (fun o2 H locs ls hP hD hS hl => ?_) _ _ _ hP hD hS (lv_sub hl [0, 1, 2, 3, 4, 5, 6, 7] rfl)
      exact ih (i + 1) (by omega) (q + (m31 (cV L xs (14 + i)) % (Z - q + 1))) (.ref o2) (by omega) H locs ls hP hD hS hl
    · refine lv_iload hx hb dL_law_79 (lv_at hl 5 rfl) ?_
      refine lv_iload hx hb dL_law_81 (lv_at hl 6 rfl) ?_
      refine lv_isub hx hb dL_law_83 ?_
      refine hb_top (nI (Z - q)) (pk_sub hq) ?_
      refine lv_goto (tgt := 104) hx hb dL_law_84 (by decide) ?_
      refine lp_body hx hb hts hown hK hml hA hL hX hbs hbA σ t Z hZ (c0 := 58 + i) (s0 := 3776 + 256 * i) ⟨show 58 + i + 1 ≤ 600120 by omega, show 3776 + 256 * i + 256 ≤ 7301170 by omega⟩ q (Z - q) (14 + i) (by omega) (by omega) (fun o2 H locs ls hP hD hS hl => ?_) _ _ _ hP hD hS (lv_sub hl [0, 1, 2, 3, 4, 5, 6, 7] rfl)
      exact ih (i + 1) (by omega) (q + (Z - q)) (.ref o2) (by omega) H locs ls hP hD hS hl
set_option maxHeartbeats 4000000 in
set_option maxRecDepth 100000 in
theorem lp_2 {p : Program} {l : Launch} {e_0 : Env} {s : State} {m : MethodId} {args : Array Value} {below : List Frame} {meth : Method} {c : Code} {Q : State → Prop} {D : va_G} {cB : ClassId} {A : Nat → Prop} (hx : p.tables.exec = Jvm.exec) (hb : c.code = cL_law) (hts : ∀ w ∈ lw_all, w.before args s = true) (hown : s.vm.findClass RX0 = some m.cls) (hK : va_K D vwCl [(cB, .byte)] s) (hml : c.maxLocals = 10) (hA : ∀ q : Nat, s.heap.size ≤ q → A q) {b L : Nat} {xs : Nat → Int32} (hL : L ≤ 60) (hX : va_X b L xs s s.heap) (hbs : b < s.heap.size) (hbA : ¬ A b) {h1 o1 h2 h3 e3 wk3 st3 h4 e4 st4 n3 : Nat} {f3 : Nat → Int32} {u0 u1 u2 u3 u4 u5 u6 z3 z4 z5 z6 z7 z9 x3 x4 x5 x6 x7 x8 x9 : Value} (σ : rS) (t : Nat → Int32) (Z : Nat) (hZ : Z ≤ 128) (ht : ∀ i, i < 128 → ((cV L xs (20 + i / 4)).toUInt32 >>> ((nI (24 - 8 * (i % 4))).toUInt32 &&& Int32.toUInt32 31)).toInt32 &&& 255 = nI (a8 (t i))) (kk : ∀ (H : Heap) (locs : List Loc) (ls : Array Slot), va_P D vwCl [(h1, .inr (0, [u0, u1, u2, u3, u4, u5, u6, .ref o1])), (o1, .inl (cB, Z, .inl (oB t 0 σ))), (h3, .inr (0, [.ref e3, .int 1, .int (nI Z), z3, z4, z5, z6, z7])), (e3, .inr (1, [.ref st3, .int (nI ((rI Z σ)).1), .int (nI ((rI Z σ)).2.1), .ref wk3, z9])), (wk3, .inl (cB, n3, .inl f3)), (st3, .inl (cB, 256, .inl (((rI Z σ)).2.2)))] H → va_D A [(h1, .inr (0, [u0, u1, u2, u3, u4, u5, u6, .ref o1])), (o1, .inl (cB, Z, .inl (oB t 0 σ))), (h3, .inr (0, [.ref e3, .int 1, .int (nI Z), z3, z4, z5, z6, z7])), (e3, .inr (1, [.ref st3, .int (nI ((rI Z σ)).1), .int (nI ((rI Z σ)).2.1), .ref wk3, z9])), (wk3, .inl (cB, n3, .inl f3)), (st3, .inl (cB, 256, .inl (((rI Z σ)).2.2)))] → va_S A s.heap H locs → lv_has ls 10 [(0, .ref b), (1, .ref h1), (2, .ref h2), (3, .ref h3), (4, .ref h4), (5, .int (nI Z))] → W p l e_0 room_1 s m args below meth c H locs 63 5056 Q (F0 m 247 ls [])) :
    ∀ (k i : Nat), i + k = Z → ∀ (H : Heap) (locs : List Loc) (ls : Array Slot), va_P D vwCl [(h1, .inr (0, [u0, u1, u2, u3, u4, u5, u6, .ref o1])), (o1, .inl (cB, Z, .inl (oB t 0 σ))), (h3, .inr (0, [.ref e3, .int 1, .int (nI i), z3, z4, z5, z6, z7])), (e3, .inr (1, [.ref st3, .int (nI ((rI i σ)).1), .int (nI ((rI i σ)).2.1), .ref wk3, z9])), (wk3, .inl (cB, n3, .inl f3)), (st3, .inl (cB, 256, .inl (((rI i σ)).2.2))), (h4, .inr (0, [.ref e4, .int 1, .int (nI i), x3, x4, x5, x6, x7])), (e4, .inr (1, [.ref st4, .int (nI ((rI i σ)).1), .int (nI ((rI i σ)).2.1), x8, x9])), (st4, .inl (cB, 256, .inl (((rI i σ)).2.2)))] H → va_D A [(h1, .inr (0, [u0, u1, u2, u3, u4, u5, u6, .ref o1])), (o1, .inl (cB, Z, .inl (oB t 0 σ))), (h3, .inr (0, [.ref e3, .int 1, .int (nI i), z3, z4, z5, z6, z7])), (e3, .inr (1, [.ref st3, .int (nI ((rI i σ)).1), .int (nI ((rI i σ)).2.1), .ref wk3, z9])), (wk3, .inl (cB, n3, .inl f3)), (st3, .inl (cB, 256, .inl (((rI i σ)).2.2))), (h4, .inr (0, [.ref e4, .int 1, .int (nI i), x3, x4, x5, x6, x7])), (e4, .inr (1, [.ref st4, .int (nI ((rI i σ)).1), .int (nI ((rI i σ)).2.1), x8, x9])), (st4, .inl (cB, 256, .inl (((rI i σ)).2.2)))] → va_S A s.heap H locs → lv_has ls 10 [(0, .ref b), (1, .ref h1), (2, .ref h2), (3, .ref h3), (4, .ref h4), (5, .int (nI Z)), (7, .int (nI i))] → W p l e_0 room_1 s m args below meth c H locs 63 5056 Q (F0 m 173 ls []) := by
  intro k
  induction k with
  | zero =>
    intro i hi H locs ls hP hD hS hl
    obtain rfl : i = Z := by omega
    refine lv_iload hx hb dL_law_173 (lv_at hl 6 rfl) ?_
    refine lv_iload hx hb dL_law_175 (lv_at hl 5 rfl) ?_
    refine lv_icmp_ge (tgt := 247) hx hb dL_law_177 (by decide) (fun c_177 => ?_) (fun c_177 => absurd (nI_le (Nat.le_refl _) (by omega)) c_177)
    have hP := hb_Psub (ws' := [(h1, .inr (0, [u0, u1, u2, u3, u4, u5, u6, .ref o1])), (o1, .inl (cB, i, .inl (oB t 0 σ))), (h3, .inr (0, [.ref e3, .int 1, .int (nI i), z3, z4, z5, z6, z7])), (e3, .inr (1, [.ref st3, .int (nI ((rI i σ)).1), .int (nI ((rI i σ)).2.1), .ref wk3, z9])), (wk3, .inl (cB, n3, .inl f3)), (st3, .inl (cB, 256, .inl (((rI i σ)).2.2)))]) hP [0, 1, 2, 3, 4, 5] rfl
    have hD := hD.sub (ws' := [(h1, .inr (0, [u0, u1, u2, u3, u4, u5, u6, .ref o1])), (o1, .inl (cB, i, .inl (oB t 0 σ))), (h3, .inr (0, [.ref e3, .int 1, .int (nI i), z3, z4, z5, z6, z7])), (e3, .inr (1, [.ref st3, .int (nI ((rI i σ)).1), .int (nI ((rI i σ)).2.1), .ref wk3, z9])), (wk3, .inl (cB, n3, .inl f3)), (st3, .inl (cB, 256, .inl (((rI i σ)).2.2)))]) [0, 1, 2, 3, 4, 5] (by decide) rfl
    exact kk H locs ls hP hD hS (lv_sub hl [0, 1, 2, 3, 4, 5] rfl)
  | succ k ih =>
    intro i hi H locs ls hP hD hS hl
    have hi1 : i < Z := by omega
    refine lv_iload hx hb dL_law_173 (lv_at hl 6 rfl) ?_
    refine lv_iload hx hb dL_law_175 (lv_at hl 5 rfl) ?_
    refine lv_icmp_ge (tgt := 247) hx hb dL_law_177 (by decide) (fun c_177 => absurd c_177 (nI_ge hi1 (by omega))) (fun c_177 => ?_)
    refine lv_aload_n hx hb dL_law_180 rfl (lv_at hl 0 rfl) ?_
    refine lv_bipush (v := nI 20) hx hb dL_law_181 (by decide) ?_
    refine lv_iload hx hb dL_law_183 (lv_at hl 6 rfl) ?_
    refine lv_iconst (v := nI 4) hx hb dL_law_185 (by decide) ?_
    refine lv_idiv hx hb dL_law_186 (nI_ne0 (by decide) (by decide)) ?_
    refine hb_top (nI (i / 4)) (pk_div (by omega) (by decide) (by decide)) ?_
    refine lv_iadd hx hb dL_law_187 ?_
    refine hb_top (nI (20 + i / 4)) (nI_add 20 _) ?_
    refine hb_Si (As := [.ref b, .int (nI (20 + i / 4))]) (rest := []) (wc := []) (wr := [(h1, .inr (0, [u0, u1, u2, u3, u4, u5, u6, .ref o1])), (o1, .inl (cB, Z, .inl (oB t 0 σ))), (h3, .inr (0, [.ref e3, .int 1, .int (nI i), z3, z4, z5, z6, z7])), (e3, .inr (1, [.ref st3, .int (nI ((rI i σ)).1), .int (nI ((rI i σ)).2.1), .ref wk3, z9])), (wk3, .inl (cB, n3, .inl f3)), (st3, .inl (cB, 256, .inl (((rI i σ)).2.2))), (h4, .inr (0, [.ref e4, .int 1, .int (nI i), x3, x4, x5, x6, x7])), (e4, .inr (1, [.ref st4, .int (nI ((rI i σ)).1), .int (nI ((rI i σ)).2.1), x8, x9])), (st4, .inl (cB, 256, .inl (((rI i σ)).2.2)))]) (k := 63) (k' := 5056) ⟨hx, hb, hml, hown, hts⟩ (metX0_cell l D cB _ b L (20 + i / 4) xs hL (by omega)) (va_cwS 2 hts (lw_S q150 q151 q4 q152) rfl rfl rfl (by decide +kernel) ⟨Nat.le_of_ble_eq_true rfl, Nat.le_of_ble_eq_true rfl⟩) ⟨hK, hP, hD, hS, hA⟩ [] [0, 1, 2, 3, 4, 5, 6, 7, 8] ⟨rfl, rfl, rfl, rfl, by decide⟩ hb_blX (hb_gX hX hbs hbA hS) rfl hl.1 rfl (Nat.le_of_ble_eq_true rfl) dL_law_188 ⟨Nat.le_of_ble_eq_true rfl, Nat.le_of_ble_eq_true rfl⟩ ⟨Nat.le_of_ble_eq_true rfl, Nat.le_of_ble_eq_true rfl⟩ (fun r_188 w_1 H locs hw hP hD hS => ?_)
    obtain ⟨rfl, rfl⟩ := hw
    have hP : va_P D vwCl [(h1, .inr (0, [u0, u1, u2, u3, u4, u5, u6, .ref o1])), (o1, .inl (cB, Z, .inl (oB t 0 σ))), (h3, .inr (0, [.ref e3, .int 1, .int (nI i), z3, z4, z5, z6, z7])), (e3, .inr (1, [.ref st3, .int (nI ((rI i σ)).1), .int (nI ((rI i σ)).2.1), .ref wk3, z9])), (wk3, .inl (cB, n3, .inl f3)), (st3, .inl (cB, 256, .inl (((rI i σ)).2.2))), (h4, .inr (0, [.ref e4, .int 1, .int (nI i), x3, x4, x5, x6, x7])), (e4, .inr (1, [.ref st4, .int (nI ((rI i σ)).1), .int (nI ((rI i σ)).2.1), x8, x9])), (st4, .inl (cB, 256, .inl (((rI i σ)).2.2)))] H := hP
    have hD : va_D A [(h1, .inr (0, [u0, u1, u2, u3, u4, u5, u6, .ref o1])), (o1, .inl (cB, Z, .inl (oB t 0 σ))), (h3, .inr (0, [.ref e3, .int 1, .int (nI i), z3, z4, z5, z6, z7])), (e3, .inr (1, [.ref st3, .int (nI ((rI i σ)).1), .int (nI ((rI i σ)).2.1), .ref wk3, z9])), (wk3, .inl (cB, n3, .inl f3)), (st3, .inl (cB, 256, .inl (((rI i σ)).2.2))), (h4, .inr (0, [.ref e4, .int 1, .int (nI i), x3, x4, x5, x6, x7])), (e4, .inr (1, [.ref st4, .int (nI ((rI i σ)).1), .int (nI ((rI i σ)).2.1), x8, x9])), (st4, .inl (cB, 256, .inl (((rI i σ)).2.2)))] := hD
    refine lv_bipush (v := nI 24) hx hb dL_law_191 (by decide) ?_
    refine lv_bipush (v := nI 8) hx hb dL_law_193 (by decide) ?_
    refine lv_iload hx hb dL_law_195 (lv_at hl 6 rfl) ?_
    refine lv_iconst (v := nI 4) hx hb dL_law_197 (by decide) ?_
    refine lv_irem hx hb dL_law_198 (nI_ne0 (by decide) (by decide)) ?_
    refine hb_top (nI (i % 4)) (pk_rem (by omega) (by decide) (by decide)) ?_
    refine lv_imul hx hb dL_law_199 ?_
    refine hb_top (nI (8 * (i % 4))) (pk_mul 8 _) ?_
    refine lv_isub hx hb dL_law_200 ?_
    refine hb_top (nI (24 - 8 * (i % 4))) (pk_sub (by omega)) ?_
    refine lv_iushr (v := ((cV L xs (20 + i / 4)).toUInt32 >>> ((nI (24 - 8 * (i % 4))).toUInt32 &&& Int32.toUInt32 31)).toInt32) hx hb dL_law_201 rfl ?_
    refine lv_sipush (v := 255) hx hb dL_law_202 (by decide) ?_
    refine lv_iand hx hb dL_law_205 ?_
    refine hb_top (nI (a8 (t i))) (ht i (by omega)) ?_
    refine lv_istore (lv' := [(8, .int (nI (a8 (t i)))), (0, .ref b), (1, .ref h1), (2, .ref h2), (3, .ref h3), (4, .ref h4), (5, .int (nI Z)), (7, .int (nI i))]) hx hb dL_law_206 hl (by decide) rfl (fun ls hl => ?_)
    refine lv_aload_n hx hb dL_law_208 rfl (lv_at hl 4 rfl) ?_
    refine lv_iload hx hb dL_law_209 (lv_at hl 0 rfl) ?_
    refine hb_Vi (As := [.int (nI (a8 (t i)))]) (rest := []) (wc := [(h3, .inr (0, [.ref e3, .int 1, .int (nI i), z3, z4, z5, z6, z7])), (e3, .inr (1, [.ref st3, .int (nI ((rI i σ)).1), .int (nI ((rI i σ)).2.1), .ref wk3, z9])), (st3, .inl (cB, 256, .inl (((rI i σ)).2.2)))]) (wr := [(h1, .inr (0, [u0, u1, u2, u3, u4, u5, u6, .ref o1])), (o1, .inl (cB, Z, .inl (oB t 0 σ))), (wk3, .inl (cB, n3, .inl f3)), (h4, .inr (0, [.ref e4, .int 1, .int (nI i), x3, x4, x5, x6, x7])), (e4, .inr (1, [.ref st4, .int (nI ((rI i σ)).1), .int (nI ((rI i σ)).2.1), x8, x9])), (st4, .inl (cB, 256, .inl (((rI i σ)).2.2)))]) (k := 63) (k' := 5056) ⟨hx, hb, hml, hown, hts⟩ (metX1_one l D cB _ h3 e3 st3 i z3 z4 z5 z6 z7 (.ref wk3) z9 (rI i σ) (nI (a8 (t i))) (by omega)) (cwV 1 hts (lw_V q125 q126 q127 q5 q128) rfl rfl rfl (by decide +kernel) ⟨Nat.le_of_ble_eq_true rfl, Nat.le_of_ble_eq_true rfl⟩) ⟨hK, hP, hD, hS, hA⟩ [2, 3, 5] [0, 1, 4, 6, 7, 8] ⟨rfl, rfl, rfl, rfl, by decide⟩ (va_recv hK hP (ci := 0) (q0 := 2) rfl rfl) hb_bl (fun _ _ _ => trivial) rfl hl.1 rfl (Nat.le_of_ble_eq_true rfl) dL_law_211 ⟨Nat.le_of_ble_eq_true rfl, Nat.le_of_ble_eq_true rfl⟩ ⟨Nat.le_of_ble_eq_true rfl, Nat.le_of_ble_eq_true rfl⟩ (fun r_211 w_1 H locs hw hP hD hS => ?_)
    obtain ⟨rfl, rfl⟩ := hw
    have hP : va_P D vwCl [(h1, .inr (0, [u0, u1, u2, u3, u4, u5, u6, .ref o1])), (o1, .inl (cB, Z, .inl (oB t 0 σ))), (wk3, .inl (cB, n3, .inl f3)), (h4, .inr (0, [.ref e4, .int 1, .int (nI i), x3, x4, x5, x6, x7])), (e4, .inr (1, [.ref st4, .int (nI ((rI i σ)).1), .int (nI ((rI i σ)).2.1), x8, x9])), (st4, .inl (cB, 256, .inl (((rI i σ)).2.2))), (h3, .inr (0, [.ref e3, .int 1, .int (nI (i + 1)), z3, z4, z5, z6, z7])), (e3, .inr (1, [.ref st3, .int (nI ((rI (i + 1) σ)).1), .int (nI ((rI (i + 1) σ)).2.1), .ref wk3, z9])), (st3, .inl (cB, 256, .inl (((rI (i + 1) σ)).2.2)))] H := hP
    have hD : va_D A [(h1, .inr (0, [u0, u1, u2, u3, u4, u5, u6, .ref o1])), (o1, .inl (cB, Z, .inl (oB t 0 σ))), (wk3, .inl (cB, n3, .inl f3)), (h4, .inr (0, [.ref e4, .int 1, .int (nI i), x3, x4, x5, x6, x7])), (e4, .inr (1, [.ref st4, .int (nI ((rI i σ)).1), .int (nI ((rI i σ)).2.1), x8, x9])), (st4, .inl (cB, 256, .inl (((rI i σ)).2.2))), (h3, .inr (0, [.ref e3, .int 1, .int (nI (i + 1)), z3, z4, z5, z6, z7])), (e3, .inr (1, [.ref st3, .int (nI ((rI (i + 1) σ)).1), .int (nI ((rI (i + 1) σ)).2.1), .ref wk3, z9])), (st3, .inl (cB, 256, .inl (((rI (i + 1) σ)).2.2)))] := hD
    refine hb_top (nI (a8 (t i) ^^^ a8 (rK (rI i σ)))) (by rw [a8_one]) ?_
    refine lv_istore (lv' := [(9, .int (nI (a8 (t i) ^^^ a8 (rK (rI i σ))))), (8, .int (nI (a8 (t i)))), (0, .ref b), (1, .ref h1), (2, .ref h2), (3, .ref h3), (4, .ref h4), (5, .int (nI Z)), (7, .int (nI i))]) hx hb dL_law_214 hl (by decide) rfl (fun ls hl => ?_)
    refine lv_iload hx hb dL_law_216 (lv_at hl 0 rfl) ?_
    refine lv_aload_n hx hb dL_law_218 rfl (lv_at hl 3 rfl) ?_
    refine lv_iload hx hb dL_law_219 (lv_at hl 8 rfl) ?_
    refine hb_Vi (As := [.int (nI i)]) (rest := [.int (nI (a8 (t i) ^^^ a8 (rK (rI i σ))))]) (wc := [(h1, .inr (0, [u0, u1, u2, u3, u4, u5, u6, .ref o1])), (o1, .inl (cB, Z, .inl (oB t 0 σ)))]) (wr := [(wk3, .inl (cB, n3, .inl f3)), (h4, .inr (0, [.ref e4, .int 1, .int (nI i), x3, x4, x5, x6, x7])), (e4, .inr (1, [.ref st4, .int (nI ((rI i σ)).1), .int (nI ((rI i σ)).2.1), x8, x9])), (st4, .inl (cB, 256, .inl (((rI i σ)).2.2))), (h3, .inr (0, [.ref e3, .int 1, .int (nI (i + 1)), z3, z4, z5, z6, z7])), (e3, .inr (1, [.ref st3, .int (nI ((rI (i + 1) σ)).1), .int (nI ((rI (i + 1) σ)).2.1), .ref wk3, z9])), (st3, .inl (cB, 256, .inl (((rI (i + 1) σ)).2.2)))]) (k := 63) (k' := 5056) ⟨hx, hb, hml, hown, hts⟩ (metX1_out l D cB _ h1 o1 Z i u0 u1 u2 u3 u4 u5 u6 (oB t 0 σ) hi1 (by omega)) (cwV 1 hts (lw_V q146 q147 q148 q5 q149) rfl rfl rfl (by decide +kernel) ⟨Nat.le_of_ble_eq_true rfl, Nat.le_of_ble_eq_true rfl⟩) ⟨hK, hP, hD, hS, hA⟩ [0, 1] [2, 3, 4, 5, 6, 7, 8] ⟨rfl, rfl, rfl, rfl, by decide⟩ (va_recv hK hP (ci := 0) (q0 := 0) rfl rfl) hb_bl (fun _ _ _ => trivial) rfl hl.1 rfl (Nat.le_of_ble_eq_true rfl) dL_law_221 ⟨Nat.le_refl _, Nat.le_refl _⟩ ⟨Nat.le_of_ble_eq_true rfl, Nat.le_of_ble_eq_true rfl⟩ (fun r_221 w_1 H locs hw hP hD hS => ?_)
    obtain ⟨rfl, rfl⟩ := hw
    have hP : va_P D vwCl [(wk3, .inl (cB, n3, .inl f3)), (h4, .inr (0, [.ref e4, .int 1, .int (nI i), x3, x4, x5, x6, x7])), (e4, .inr (1, [.ref st4, .int (nI ((rI i σ)).1), .int (nI ((rI i σ)).2.1), x8, x9])), (st4, .inl (cB, 256, .inl (((rI i σ)).2.2))), (h3, .inr (0, [.ref e3, .int 1, .int (nI (i + 1)), z3, z4, z5, z6, z7])), (e3, .inr (1, [.ref st3, .int (nI ((rI (i + 1) σ)).1), .int (nI ((rI (i + 1) σ)).2.1), .ref wk3, z9])), (st3, .inl (cB, 256, .inl (((rI (i + 1) σ)).2.2))), (h1, .inr (0, [u0, u1, u2, u3, u4, u5, u6, .ref o1])), (o1, .inl (cB, Z, .inl (oB t 0 σ)))] H := hP
    have hD : va_D A [(wk3, .inl (cB, n3, .inl f3)), (h4, .inr (0, [.ref e4, .int 1, .int (nI i), x3, x4, x5, x6, x7])), (e4, .inr (1, [.ref st4, .int (nI ((rI i σ)).1), .int (nI ((rI i σ)).2.1), x8, x9])), (st4, .inl (cB, 256, .inl (((rI i σ)).2.2))), (h3, .inr (0, [.ref e3, .int 1, .int (nI (i + 1)), z3, z4, z5, z6, z7])), (e3, .inr (1, [.ref st3, .int (nI ((rI (i + 1) σ)).1), .int (nI ((rI (i + 1) σ)).2.1), .ref wk3, z9])), (st3, .inl (cB, 256, .inl (((rI (i + 1) σ)).2.2))), (h1, .inr (0, [u0, u1, u2, u3, u4, u5, u6, .ref o1])), (o1, .inl (cB, Z, .inl (oB t 0 σ)))] := hD
    refine hb_top (nI (a8 (t i) ^^^ a8 (rK (rI i σ)))) (by rw [a8_out]) ?_
    refine lv_icmp_ne (tgt := 239) hx hb dL_law_224 (by decide) (fun c_224 => absurd rfl c_224) (fun c_224 => ?_)
    refine lv_aload hx hb dL_law_227 (lv_at hl 6 rfl) ?_
    refine lv_iload hx hb dL_law_229 (lv_at hl 0 rfl) ?_
    refine hb_Vi (As := [.int (nI (a8 (t i) ^^^ a8 (rK (rI i σ))))]) (rest := []) (wc := [(h4, .inr (0, [.ref e4, .int 1, .int (nI i), x3, x4, x5, x6, x7])), (e4, .inr (1, [.ref st4, .int (nI ((rI i σ)).1), .int (nI ((rI i σ)).2.1), x8, x9])), (st4, .inl (cB, 256, .inl (((rI i σ)).2.2)))]) (wr := [(wk3, .inl (cB, n3, .inl f3)), (h3, .inr (0, [.ref e3, .int 1, .int (nI (i + 1)), z3, z4, z5, z6, z7])), (e3, .inr (1, [.ref st3, .int (nI ((rI (i + 1) σ)).1), .int (nI ((rI (i + 1) σ)).2.1), .ref wk3, z9])), (st3, .inl (cB, 256, .inl (((rI (i + 1) σ)).2.2))), (h1, .inr (0, [u0, u1, u2, u3, u4, u5, u6, .ref o1])), (o1, .inl (cB, Z, .inl (oB t 0 σ)))]) (k := 63) (k' := 5056) ⟨hx, hb, hml, hown, hts⟩ (metX1_one l D cB _ h4 e4 st4 i x3 x4 x5 x6 x7 x8 x9 (rI i σ) (nI (a8 (t i) ^^^ a8 (rK (rI i σ)))) (by omega)) (cwV 1 hts (lw_V q125 q126 q127 q5 q128) rfl rfl rfl (by decide +kernel) ⟨Nat.le_of_ble_eq_true rfl, Nat.le_of_ble_eq_true rfl⟩) ⟨hK, hP, hD, hS, hA⟩ [1, 2, 3] [0, 4, 5, 6, 7, 8] ⟨rfl, rfl, rfl, rfl, by decide⟩ (va_recv hK hP (ci := 0) (q0 := 1) rfl rfl) hb_bl (fun _ _ _ => trivial) rfl hl.1 rfl (Nat.le_of_ble_eq_true rfl) dL_law_231 ⟨Nat.le_of_ble_eq_true rfl, Nat.le_of_ble_eq_true rfl⟩ ⟨Nat.le_of_ble_eq_true rfl, Nat.le_of_ble_eq_true rfl⟩ (fun r_231 w_1 H locs hw hP hD hS => ?_)
    obtain ⟨rfl, rfl⟩ := hw
    have hP : va_P D vwCl [(wk3, .inl (cB, n3, .inl f3)), (h3, .inr (0, [.ref e3, .int 1, .int (nI (i + 1)), z3, z4, z5, z6, z7])), (e3, .inr (1, [.ref st3, .int (nI ((rI (i + 1) σ)).1), .int (nI ((rI (i + 1) σ)).2.1), .ref wk3, z9])), (st3, .inl (cB, 256, .inl (((rI (i + 1) σ)).2.2))), (h1, .inr (0, [u0, u1, u2, u3, u4, u5, u6, .ref o1])), (o1, .inl (cB, Z, .inl (oB t 0 σ))), (h4, .inr (0, [.ref e4, .int 1, .int (nI (i + 1)), x3, x4, x5, x6, x7])), (e4, .inr (1, [.ref st4, .int (nI ((rI (i + 1) σ)).1), .int (nI ((rI (i + 1) σ)).2.1), x8, x9])), (st4, .inl (cB, 256, .inl (((rI (i + 1) σ)).2.2)))] H := hP
    have hD : va_D A [(wk3, .inl (cB, n3, .inl f3)), (h3, .inr (0, [.ref e3, .int 1, .int (nI (i + 1)), z3, z4, z5, z6, z7])), (e3, .inr (1, [.ref st3, .int (nI ((rI (i + 1) σ)).1), .int (nI ((rI (i + 1) σ)).2.1), .ref wk3, z9])), (st3, .inl (cB, 256, .inl (((rI (i + 1) σ)).2.2))), (h1, .inr (0, [u0, u1, u2, u3, u4, u5, u6, .ref o1])), (o1, .inl (cB, Z, .inl (oB t 0 σ))), (h4, .inr (0, [.ref e4, .int 1, .int (nI (i + 1)), x3, x4, x5, x6, x7])), (e4, .inr (1, [.ref st4, .int (nI ((rI (i + 1) σ)).1), .int (nI ((rI (i + 1) σ)).2.1), x8, x9])), (st4, .inl (cB, 256, .inl (((rI (i + 1) σ)).2.2)))] := hD
    refine hb_top (nI (a8 (t i))) (by rw [a8_two]) ?_
    refine lv_iload hx hb dL_law_234 (lv_at hl 1 rfl) ?_
    refine lv_icmp_eq (tgt := 241) hx hb dL_law_236 (by decide) (fun c_236 => ?_) (fun c_236 => absurd rfl c_236)
    refine lv_iinc (v := nI (i + 1)) (lv' := [(7, .int (nI (i + 1))), (9, .int (nI (a8 (t i) ^^^ a8 (rK (rI i σ))))), (8, .int (nI (a8 (t i)))), (0, .ref b), (1, .ref h1), (2, .ref h2), (3, .ref h3), (4, .ref h4), (5, .int (nI Z))]) hx hb dL_law_241 hl (k := 8) rfl (nI_1 i) (by decide) rfl (fun ls hl => ?_)
    refine lv_goto (tgt := 173) hx hb dL_law_244 (by decide) ?_
    have hP := hb_Psub (ws' := [(h1, .inr (0, [u0, u1, u2, u3, u4, u5, u6, .ref o1])), (o1, .inl (cB, Z, .inl (oB t 0 σ))), (h3, .inr (0, [.ref e3, .int 1, .int (nI (i + 1)), z3, z4, z5, z6, z7])), (e3, .inr (1, [.ref st3, .int (nI ((rI (i + 1) σ)).1), .int (nI ((rI (i + 1) σ)).2.1), .ref wk3, z9])), (wk3, .inl (cB, n3, .inl f3)), (st3, .inl (cB, 256, .inl (((rI (i + 1) σ)).2.2))), (h4, .inr (0, [.ref e4, .int 1, .int (nI (i + 1)), x3, x4, x5, x6, x7])), (e4, .inr (1, [.ref st4, .int (nI ((rI (i + 1) σ)).1), .int (nI ((rI (i + 1) σ)).2.1), x8, x9])), (st4, .inl (cB, 256, .inl (((rI (i + 1) σ)).2.2)))]) hP [4, 5, 1, 2, 0, 3, 6, 7, 8] rfl
    have hD := hD.sub (ws' := [(h1, .inr (0, [u0, u1, u2, u3, u4, u5, u6, .ref o1])), (o1, .inl (cB, Z, .inl (oB t 0 σ))), (h3, .inr (0, [.ref e3, .int 1, .int (nI (i + 1)), z3, z4, z5, z6, z7])), (e3, .inr (1, [.ref st3, .int (nI ((rI (i + 1) σ)).1), .int (nI ((rI (i + 1) σ)).2.1), .ref wk3, z9])), (wk3, .inl (cB, n3, .inl f3)), (st3, .inl (cB, 256, .inl (((rI (i + 1) σ)).2.2))), (h4, .inr (0, [.ref e4, .int 1, .int (nI (i + 1)), x3, x4, x5, x6, x7])), (e4, .inr (1, [.ref st4, .int (nI ((rI (i + 1) σ)).1), .int (nI ((rI (i + 1) σ)).2.1), x8, x9])), (st4, .inl (cB, 256, .inl (((rI (i + 1) σ)).2.2)))]) [4, 5, 1, 2, 0, 3, 6, 7, 8] (by decide) rfl
    exact ih (i + 1) (by omega) H locs ls hP hD hS (lv_sub hl [3, 4, 5, 6, 7, 8, 0] rfl)
set_option maxHeartbeats 4000000 in
set_option maxRecDepth 100000 in
theorem lp_3 {p : Program} {l : Launch} {e_0 : Env} {s : State} {m : MethodId} {args : Array Value} {below : List Frame} {meth : Method} {c : Code} {Q : State → Prop} {D : va_G} {cB : ClassId} {A : Nat → Prop} (hx : p.tables.exec = Jvm.exec) (hb : c.code = cL_law) (hts : ∀ w ∈ lw_all, w.before args s = true) (hown : s.vm.findClass RX0 = some m.cls) (hK : va_K D vwCl [(cB, .byte)] s) (hml : c.maxLocals = 10) (hA : ∀ q : Nat, s.heap.size ≤ q → A q) {b L : Nat} {xs : Nat → Int32} (hL : L ≤ 60) (hX : va_X b L xs s s.heap) (hbs : b < s.heap.size) (hbA : ¬ A b) {h1 o1 h2 h3 e3 wk3 st3 h4 n3 : Nat} {f3 : Nat → Int32} {u0 u1 u2 u3 u4 u5 u6 z3 z4 z5 z6 z7 z9 : Value} (σ : rS) (t : Nat → Int32) (Z : Nat) (hZ : Z ≤ 128) (ht : ∀ i, i < 128 → ((cV L xs (20 + i / 4)).toUInt32 >>> ((nI (24 - 8 * (i % 4))).toUInt32 &&& Int32.toUInt32 31)).toInt32 &&& 255 = nI (a8 (t i))) (kk : ∀ (H : Heap) (locs : List Loc) (ls : Array Slot), va_P D vwCl [(h1, .inr (0, [u0, u1, u2, u3, u4, u5, u6, .ref o1])), (o1, .inl (cB, Z, .inl (oB t 0 σ))), (h3, .inr (0, [.ref e3, .int 1, .int (nI Z), z3, z4, z5, z6, z7])), (e3, .inr (1, [.ref st3, .int (nI ((rI Z σ)).1), .int (nI ((rI Z σ)).2.1), .ref wk3, z9])), (wk3, .inl (cB, n3, .inl f3)), (st3, .inl (cB, 256, .inl (((rI Z σ)).2.2)))] H → va_D A [(h1, .inr (0, [u0, u1, u2, u3, u4, u5, u6, .ref o1])), (o1, .inl (cB, Z, .inl (oB t 0 σ))), (h3, .inr (0, [.ref e3, .int 1, .int (nI Z), z3, z4, z5, z6, z7])), (e3, .inr (1, [.ref st3, .int (nI ((rI Z σ)).1), .int (nI ((rI Z σ)).2.1), .ref wk3, z9])), (wk3, .inl (cB, n3, .inl f3)), (st3, .inl (cB, 256, .inl (((rI Z σ)).2.2)))] → va_S A s.heap H locs → lv_has ls 10 [] → W p l e_0 room_1 s m args below meth c H locs 63 5056 Q (F0 m 308 ls [])) :
    ∀ (k i : Nat), i + k = Z → ∀ (H : Heap) (locs : List Loc) (ls : Array Slot), va_P D vwCl [(h1, .inr (0, [u0, u1, u2, u3, u4, u5, u6, .ref o1])), (o1, .inl (cB, Z, .inl (oB t 0 σ))), (h3, .inr (0, [.ref e3, .int 1, .int (nI i), z3, z4, z5, z6, z7])), (e3, .inr (1, [.ref st3, .int (nI ((rI i σ)).1), .int (nI ((rI i σ)).2.1), .ref wk3, z9])), (wk3, .inl (cB, n3, .inl f3)), (st3, .inl (cB, 256, .inl (((rI i σ)).2.2)))] H → va_D A [(h1, .inr (0, [u0, u1, u2, u3, u4, u5, u6, .ref o1])), (o1, .inl (cB, Z, .inl (oB t 0 σ))), (h3, .inr (0, [.ref e3, .int 1, .int (nI i), z3, z4, z5, z6, z7])), (e3, .inr (1, [.ref st3, .int (nI ((rI i σ)).1), .int (nI ((rI i σ)).2.1), .ref wk3, z9])), (wk3, .inl (cB, n3, .inl f3)), (st3, .inl (cB, 256, .inl (((rI i σ)).2.2)))] → va_S A s.heap H locs → lv_has ls 10 [(0, .ref b), (1, .ref h1), (2, .ref h2), (3, .ref h3), (4, .ref h4), (5, .int (nI Z)), (7, .int (nI i))] → W p l e_0 room_1 s m args below meth c H locs 63 5056 Q (F0 m 254 ls []) := by
  intro k
  induction k with
  | zero =>
    intro i hi H locs ls hP hD hS hl
    obtain rfl : i = Z := by omega
    refine lv_iload hx hb dL_law_254 (lv_at hl 6 rfl) ?_
    refine lv_iload hx hb dL_law_256 (lv_at hl 5 rfl) ?_
    refine lv_icmp_ge (tgt := 308) hx hb dL_law_258 (by decide) (fun c_258 => ?_) (fun c_258 => absurd (nI_le (Nat.le_refl _) (by omega)) c_258)
    exact kk H locs ls hP hD hS (lv_sub hl [] rfl)
  | succ k ih =>
    intro i hi H locs ls hP hD hS hl
    have hi1 : i < Z := by omega
    refine lv_iload hx hb dL_law_254 (lv_at hl 6 rfl) ?_
    refine lv_iload hx hb dL_law_256 (lv_at hl 5 rfl) ?_
    refine lv_icmp_ge (tgt := 308) hx hb dL_law_258 (by decide) (fun c_258 => absurd c_258 (nI_ge hi1 (by omega))) (fun c_258 => ?_)
    refine lv_aload_n hx hb dL_law_261 rfl (lv_at hl 3 rfl) ?_
    refine lv_aload_n hx hb dL_law_262 rfl (lv_at hl 1 rfl) ?_
    refine lv_iload hx hb dL_law_263 (lv_at hl 6 rfl) ?_
    refine hb_Vi (As := [.int (nI i)]) (rest := [.ref h3]) (wc := [(h1, .inr (0, [u0, u1, u2, u3, u4, u5, u6, .ref o1])), (o1, .inl (cB, Z, .inl (oB t 0 σ)))]) (wr := [(h3, .inr (0, [.ref e3, .int 1, .int (nI i), z3, z4, z5, z6, z7])), (e3, .inr (1, [.ref st3, .int (nI ((rI i σ)).1), .int (nI ((rI i σ)).2.1), .ref wk3, z9])), (wk3, .inl (cB, n3, .inl f3)), (st3, .inl (cB, 256, .inl (((rI i σ)).2.2)))]) (k := 63) (k' := 5056) ⟨hx, hb, hml, hown, hts⟩ (metX1_out l D cB _ h1 o1 Z i u0 u1 u2 u3 u4 u5 u6 (oB t 0 σ) hi1 (by omega)) (cwV 1 hts (lw_V q146 q147 q148 q5 q149) rfl rfl rfl (by decide +kernel) ⟨Nat.le_of_ble_eq_true rfl, Nat.le_of_ble_eq_true rfl⟩) ⟨hK, hP, hD, hS, hA⟩ [0, 1] [2, 3, 4, 5] ⟨rfl, rfl, rfl, rfl, by decide⟩ (va_recv hK hP (ci := 0) (q0 := 0) rfl rfl) hb_bl (fun _ _ _ => trivial) rfl hl.1 rfl (Nat.le_of_ble_eq_true rfl) dL_law_265 ⟨Nat.le_refl _, Nat.le_refl _⟩ ⟨Nat.le_of_ble_eq_true rfl, Nat.le_of_ble_eq_true rfl⟩ (fun r_265 w_1 H locs hw hP hD hS => ?_)
    obtain ⟨rfl, rfl⟩ := hw
    have hP : va_P D vwCl [(h3, .inr (0, [.ref e3, .int 1, .int (nI i), z3, z4, z5, z6, z7])), (e3, .inr (1, [.ref st3, .int (nI ((rI i σ)).1), .int (nI ((rI i σ)).2.1), .ref wk3, z9])), (wk3, .inl (cB, n3, .inl f3)), (st3, .inl (cB, 256, .inl (((rI i σ)).2.2))), (h1, .inr (0, [u0, u1, u2, u3, u4, u5, u6, .ref o1])), (o1, .inl (cB, Z, .inl (oB t 0 σ)))] H := hP
    have hD : va_D A [(h3, .inr (0, [.ref e3, .int 1, .int (nI i), z3, z4, z5, z6, z7])), (e3, .inr (1, [.ref st3, .int (nI ((rI i σ)).1), .int (nI ((rI i σ)).2.1), .ref wk3, z9])), (wk3, .inl (cB, n3, .inl f3)), (st3, .inl (cB, 256, .inl (((rI i σ)).2.2))), (h1, .inr (0, [u0, u1, u2, u3, u4, u5, u6, .ref o1])), (o1, .inl (cB, Z, .inl (oB t 0 σ)))] := hD
    refine hb_top (nI (a8 (t i) ^^^ a8 (rK (rI i σ)))) (by rw [a8_out]) ?_
    refine hb_Vi (As := [.int (nI (a8 (t i) ^^^ a8 (rK (rI i σ))))]) (rest := []) (wc := [(h3, .inr (0, [.ref e3, .int 1, .int (nI i), z3, z4, z5, z6, z7])), (e3, .inr (1, [.ref st3, .int (nI ((rI i σ)).1), .int (nI ((rI i σ)).2.1), .ref wk3, z9])), (st3, .inl (cB, 256, .inl (((rI i σ)).2.2)))]) (wr := [(wk3, .inl (cB, n3, .inl f3)), (h1, .inr (0, [u0, u1, u2, u3, u4, u5, u6, .ref o1])), (o1, .inl (cB, Z, .inl (oB t 0 σ)))]) (k := 63) (k' := 5056) ⟨hx, hb, hml, hown, hts⟩ (metX1_one l D cB _ h3 e3 st3 i z3 z4 z5 z6 z7 (.ref wk3) z9 (rI i σ) (nI (a8 (t i) ^^^ a8 (rK (rI i σ)))) (by omega)) (cwV 1 hts (lw_V q125 q126 q127 q5 q128) rfl rfl rfl (by decide +kernel) ⟨Nat.le_of_ble_eq_true rfl, Nat.le_of_ble_eq_true rfl⟩) ⟨hK, hP, hD, hS, hA⟩ [0, 1, 3] [2, 4, 5] ⟨rfl, rfl, rfl, rfl, by decide⟩ (va_recv hK hP (ci := 0) (q0 := 0) rfl rfl) hb_bl (fun _ _ _ => trivial) rfl hl.1 rfl (Nat.le_of_ble_eq_true rfl) dL_law_268 ⟨Nat.le_of_ble_eq_true rfl, Nat.le_of_ble_eq_true rfl⟩ ⟨Nat.le_of_ble_eq_true rfl, Nat.le_of_ble_eq_true rfl⟩ (fun r_268 w_1 H locs hw hP hD hS => ?_)
    obtain ⟨rfl, rfl⟩ := hw
    have hP : va_P D vwCl [(wk3, .inl (cB, n3, .inl f3)), (h1, .inr (0, [u0, u1, u2, u3, u4, u5, u6, .ref o1])), (o1, .inl (cB, Z, .inl (oB t 0 σ))), (h3, .inr (0, [.ref e3, .int 1, .int (nI (i + 1)), z3, z4, z5, z6, z7])), (e3, .inr (1, [.ref st3, .int (nI ((rI (i + 1) σ)).1), .int (nI ((rI (i + 1) σ)).2.1), .ref wk3, z9])), (st3, .inl (cB, 256, .inl (((rI (i + 1) σ)).2.2)))] H := hP
    have hD : va_D A [(wk3, .inl (cB, n3, .inl f3)), (h1, .inr (0, [u0, u1, u2, u3, u4, u5, u6, .ref o1])), (o1, .inl (cB, Z, .inl (oB t 0 σ))), (h3, .inr (0, [.ref e3, .int 1, .int (nI (i + 1)), z3, z4, z5, z6, z7])), (e3, .inr (1, [.ref st3, .int (nI ((rI (i + 1) σ)).1), .int (nI ((rI (i + 1) σ)).2.1), .ref wk3, z9])), (st3, .inl (cB, 256, .inl (((rI (i + 1) σ)).2.2)))] := hD
    refine hb_top (nI (a8 (t i))) (by rw [a8_two]) ?_
    refine lv_aload_n hx hb dL_law_271 rfl (lv_at hl 0 rfl) ?_
    refine lv_bipush (v := nI 20) hx hb dL_law_272 (by decide) ?_
    refine lv_iload hx hb dL_law_274 (lv_at hl 6 rfl) ?_
    refine lv_iconst (v := nI 4) hx hb dL_law_276 (by decide) ?_
    refine lv_idiv hx hb dL_law_277 (nI_ne0 (by decide) (by decide)) ?_
    refine hb_top (nI (i / 4)) (pk_div (by omega) (by decide) (by decide)) ?_
    refine lv_iadd hx hb dL_law_278 ?_
    refine hb_top (nI (20 + i / 4)) (nI_add 20 _) ?_
    refine hb_Si (As := [.ref b, .int (nI (20 + i / 4))]) (rest := [.int (nI (a8 (t i)))]) (wc := []) (wr := [(wk3, .inl (cB, n3, .inl f3)), (h1, .inr (0, [u0, u1, u2, u3, u4, u5, u6, .ref o1])), (o1, .inl (cB, Z, .inl (oB t 0 σ))), (h3, .inr (0, [.ref e3, .int 1, .int (nI (i + 1)), z3, z4, z5, z6, z7])), (e3, .inr (1, [.ref st3, .int (nI ((rI (i + 1) σ)).1), .int (nI ((rI (i + 1) σ)).2.1), .ref wk3, z9])), (st3, .inl (cB, 256, .inl (((rI (i + 1) σ)).2.2)))]) (k := 63) (k' := 5056) ⟨hx, hb, hml, hown, hts⟩ (metX0_cell l D cB _ b L (20 + i / 4) xs hL (by omega)) (va_cwS 2 hts (lw_S q150 q151 q4 q152) rfl rfl rfl (by decide +kernel) ⟨Nat.le_of_ble_eq_true rfl, Nat.le_of_ble_eq_true rfl⟩) ⟨hK, hP, hD, hS, hA⟩ [] [0, 1, 2, 3, 4, 5] ⟨rfl, rfl, rfl, rfl, by decide⟩ hb_blX (hb_gX hX hbs hbA hS) rfl hl.1 rfl (Nat.le_of_ble_eq_true rfl) dL_law_279 ⟨Nat.le_of_ble_eq_true rfl, Nat.le_of_ble_eq_true rfl⟩ ⟨Nat.le_of_ble_eq_true rfl, Nat.le_of_ble_eq_true rfl⟩ (fun r_279 w_1 H locs hw hP hD hS => ?_)
    obtain ⟨rfl, rfl⟩ := hw
    have hP : va_P D vwCl [(wk3, .inl (cB, n3, .inl f3)), (h1, .inr (0, [u0, u1, u2, u3, u4, u5, u6, .ref o1])), (o1, .inl (cB, Z, .inl (oB t 0 σ))), (h3, .inr (0, [.ref e3, .int 1, .int (nI (i + 1)), z3, z4, z5, z6, z7])), (e3, .inr (1, [.ref st3, .int (nI ((rI (i + 1) σ)).1), .int (nI ((rI (i + 1) σ)).2.1), .ref wk3, z9])), (st3, .inl (cB, 256, .inl (((rI (i + 1) σ)).2.2)))] H := hP
    have hD : va_D A [(wk3, .inl (cB, n3, .inl f3)), (h1, .inr (0, [u0, u1, u2, u3, u4, u5, u6, .ref o1])), (o1, .inl (cB, Z, .inl (oB t 0 σ))), (h3, .inr (0, [.ref e3, .int 1, .int (nI (i + 1)), z3, z4, z5, z6, z7])), (e3, .inr (1, [.ref st3, .int (nI ((rI (i + 1) σ)).1), .int (nI ((rI (i + 1) σ)).2.1), .ref wk3, z9])), (st3, .inl (cB, 256, .inl (((rI (i + 1) σ)).2.2)))] := hD
    refine lv_bipush (v := nI 24) hx hb dL_law_282 (by decide) ?_
    refine lv_bipush (v := nI 8) hx hb dL_law_284 (by decide) ?_
    refine lv_iload hx hb dL_law_286 (lv_at hl 6 rfl) ?_
    refine lv_iconst (v := nI 4) hx hb dL_law_288 (by decide) ?_
    refine lv_irem hx hb dL_law_289 (nI_ne0 (by decide) (by decide)) ?_
    refine hb_top (nI (i % 4)) (pk_rem (by omega) (by decide) (by decide)) ?_
    refine lv_imul hx hb dL_law_290 ?_
    refine hb_top (nI (8 * (i % 4))) (pk_mul 8 _) ?_
    refine lv_isub hx hb dL_law_291 ?_
    refine hb_top (nI (24 - 8 * (i % 4))) (pk_sub (by omega)) ?_
    refine lv_iushr (v := ((cV L xs (20 + i / 4)).toUInt32 >>> ((nI (24 - 8 * (i % 4))).toUInt32 &&& Int32.toUInt32 31)).toInt32) hx hb dL_law_292 rfl ?_
    refine lv_sipush (v := 255) hx hb dL_law_293 (by decide) ?_
    refine lv_iand hx hb dL_law_296 ?_
    refine hb_top (nI (a8 (t i))) (ht i (by omega)) ?_
    refine lv_icmp_eq (tgt := 302) hx hb dL_law_297 (by decide) (fun c_297 => ?_) (fun c_297 => absurd rfl c_297)
    refine lv_iinc (v := nI (i + 1)) (lv' := [(7, .int (nI (i + 1))), (0, .ref b), (1, .ref h1), (2, .ref h2), (3, .ref h3), (4, .ref h4), (5, .int (nI Z))]) hx hb dL_law_302 hl (k := 6) rfl (nI_1 i) (by decide) rfl (fun ls hl => ?_)
    refine lv_goto (tgt := 254) hx hb dL_law_305 (by decide) ?_
    have hP := hb_Psub (ws' := [(h1, .inr (0, [u0, u1, u2, u3, u4, u5, u6, .ref o1])), (o1, .inl (cB, Z, .inl (oB t 0 σ))), (h3, .inr (0, [.ref e3, .int 1, .int (nI (i + 1)), z3, z4, z5, z6, z7])), (e3, .inr (1, [.ref st3, .int (nI ((rI (i + 1) σ)).1), .int (nI ((rI (i + 1) σ)).2.1), .ref wk3, z9])), (wk3, .inl (cB, n3, .inl f3)), (st3, .inl (cB, 256, .inl (((rI (i + 1) σ)).2.2)))]) hP [1, 2, 3, 4, 0, 5] rfl
    have hD := hD.sub (ws' := [(h1, .inr (0, [u0, u1, u2, u3, u4, u5, u6, .ref o1])), (o1, .inl (cB, Z, .inl (oB t 0 σ))), (h3, .inr (0, [.ref e3, .int 1, .int (nI (i + 1)), z3, z4, z5, z6, z7])), (e3, .inr (1, [.ref st3, .int (nI ((rI (i + 1) σ)).1), .int (nI ((rI (i + 1) σ)).2.1), .ref wk3, z9])), (wk3, .inl (cB, n3, .inl f3)), (st3, .inl (cB, 256, .inl (((rI (i + 1) σ)).2.2)))]) [1, 2, 3, 4, 0, 5] (by decide) rfl
    exact ih (i + 1) (by omega) H locs ls hP hD hS (lv_sub hl [1, 2, 3, 4, 5, 6, 0] rfl)
end
section
set_option maxRecDepth 100000
/-! THE CLAIM OUT OF ONE WALK OF THE LAW'S BODY. Your part is whole_start (and what it stands on); all else here is the same for every law, but numbers. -/
def R_law : String := "RcFourDeskLaw"
def lw_P (b : Addr) (xs : List Int32) (args : Array Value) (s : State) : Prop := args = #[.ref b] ∧ s.IntsAt b xs ∧ xs.length ≤ 60 ∧ (Jvm.Cond.and given_1 narrow_1).before args s = true
def lw_Q (_ : Array Value) (s : State) (o : Outcome) (t : State) : Prop := o = .returned (some (.int 1)) ∧ Framed s o t [] 600120 7301170
def lw_Z (below : List Frame) (a : Array Value) (s : State) : State → Prop := fun t => ∃ o, t.status = .running ∧ Ended t below o ∧ lw_Q a s o t
/-- the law's own end, with 1 on the stack, nothing written that was there before, its room as the claim has it -/
theorem lw_ret {p : Program} {l : Launch} {e : Env} {s : State} {m : MethodId} {below : List Frame} {meth : Method} {c : Code} {b : Nat} (hx : p.tables.exec = Jvm.exec) (hb : c.code = code) (hr : meth.sig.returnType = ret) (hlocks : meth.locks = false) {pc : Nat} {H : Heap} {ls : Array Slot} (hdg : decode code pc = .ok (.ireturn, 1)) : W p l e room_1 s m #[Value.ref b] below meth c H [] 600120 7301170 (lw_Z below #[Value.ref b] s) (F0 m pc ls [.int 1]) := by
  intro T hT X
  obtain ⟨fs, hret, hrun, hended, hW, hframe⟩ := X.leave (v := some (.int 1)) (hlocks := hlocks) (fun h => by rw [hr] at h; cases h)
  have hmeth' : T.vm.method? m = some meth := X.method'
  refine ⟨T.setFrames fs, ?_, .returned (some (.int 1)), hrun, hended, rfl, ⟨_, rfl⟩, hW, hframe⟩
  jvm_step X.here [X.here.top, hx, hb, hdg, hmeth', hr, ret, narrow_b1]
  (try refine ⟨rfl, ?_⟩); (try refine ⟨rfl, ?_⟩)
  first | (intro acts; rw [hret _ acts rfl rfl rfl]) | rw [hret _ _ rfl rfl rfl]
  exact Steps.refl _
/-- what holds at the law's entry: the machine, the code, the tables' words (any of lw_tbl by 'hts w (by decide +kernel)'), the script of L ints xs at the cell b, what the Statement gives of the start (any of its parts by flat_of_before) -/
def lw_At (p : Program) (s : State) (m : MethodId) (meth : Method) (c : Code) (b L : Nat) (xs : Nat → Int32) : Prop :=
  p.tables.exec = Jvm.exec ∧ c.code = code ∧ meth.sig.returnType = ret ∧ c.maxLocals = 10 ∧ s.vm.findClass R_law = some m.cls ∧ (∀ w ∈ lw_tbl, w.before #[Value.ref b] s = true) ∧ va_X b L xs s s.heap ∧ b < s.heap.size ∧ meth.locks = false ∧ (Jvm.Cond.and given_1 narrow_1).before #[Value.ref b] s = true
-- ===== YOUR PART BEGINS =====
theorem rI_0 (σ : rS) : rI 0 σ = σ := rfl
set_option maxHeartbeats 4000000 in
set_option maxRecDepth 100000 in
theorem whole_start {p : Program} {e : Env} {s : State} {m : MethodId} {below : List Frame} {meth : Method} {c : Code} (l : Launch) (hflags : l.flags = flags0) {b L : Nat} {xs : Nat → Int32} (hL : L ≤ 60) (C0 : lw_At p s m meth c b L xs) : W p l e room_1 s m #[Value.ref b] below meth c s.heap [] 0 0 (lw_Z below #[Value.ref b] s) (entryFrame m ([Value.ref b] : List Value).toArray 10) := by
  obtain ⟨hx, hb, hr, hml, hown0, hts0, hX, hbl, hlk, hgv⟩ := id C0
  have hown : s.vm.findClass RX0 = some m.cls := hown0
  have hts : ∀ w ∈ lw_all, w.before #[Value.ref b] s = true := fun w h => hts0 w (lw_all_tbl h)
  obtain ⟨c1, iS1, hKn1⟩ := u_known (C := RX1) (T := TX1) (N := 8) (n := 8) hts in_X1 (hts _ q23)
  obtain ⟨c2, iS2, hKn2⟩ := u_known (C := RX2) (T := TX2) (N := 5) (n := 5) hts in_X2 (hts _ q144)
  obtain ⟨c3, iS3, hKn3⟩ := u_known (C := RX3) (T := TX3) (N := 1) (n := 1) hts in_X3 (hts _ q231)
  obtain ⟨D, hKc⟩ : ∃ D : va_G, ∀ (k : Nat) (q : vw_C), vwCl[k]? = some q → u_Kn s q.1 q.2.1 q.2.2 (D.1 k) (D.2 k) := by
    refine ⟨(fun k => if k = 0 then c1 else if k = 1 then c2 else c3, fun k => if k = 0 then iS1 else if k = 1 then iS2 else iS3), ?_⟩
    intro k q hq
    match k, hq with
    | 0, hq => cases hq; exact hKn1
    | 1, hq => cases hq; exact hKn2
    | 2, hq => cases hq; exact hKn3
    | k + 3, hq => simp [vwCl] at hq
  obtain ⟨cB, kA, comp, hfB, hkB, hkindB⟩ := Cond.arrayClass_spec (hts _ q107)
  have hK : va_K D vwCl [(cB, .byte)] s := by
    refine ⟨hKc, fun k q h => ?_⟩
    match k, h with
    | 0, h => cases h; exact ⟨fun n z => ⟨fun k h => (by cases h), kA, hkB, comp, hkindB⟩, hfB⟩
    | k + 1, h => simp at h
  obtain ⟨A, hA, hAf⟩ : ∃ A : Nat → Prop, (∀ q : Nat, s.heap.size ≤ q → A q) ∧ ∀ q : Nat, A q → s.heap.size ≤ q := ⟨fun q => s.heap.size ≤ q, fun _ h => h, fun _ h => h⟩
  have hbA : ¬ A b := fun h => absurd (hAf b h) (Nat.not_le.mpr hbl)
  have hS : va_S A s.heap s.heap [] := va_S.rf
  have hP : va_P D vwCl [] s.heap := fun k q h => by simp at h
  have hD : va_D A [] := ⟨fun i j p q h => by simp at h, fun k q h => by simp at h⟩
  have hl := lv_entry ([.ref b]) (n := 10) (Nat.le_of_ble_eq_true rfl)
  rw [lg_entry_eq]
  generalize (lg_sl ([.ref b]) ++ List.replicate (10 - (lg_sl ([.ref b])).length) Slot.unset).toArray = ls at hl ⊢
  have hl : lv_has ls 10 [(0, .ref b)] := hl
  have hZ : lZ (cV L xs) ≤ 128 := by have := lZ_lt (cV L xs); omega
  refine hb_Si (As := []) (rest := []) (wc := []) (wr := []) (k := 13) (k' := 920) ⟨hx, hb, hml, hown, hts⟩ (metX0_known l D cB _) (va_cwS 0 hts (lw_S q274 q275 q4 q276) rfl rfl rfl (by decide +kernel) ⟨Nat.le_of_ble_eq_true rfl, Nat.le_of_ble_eq_true rfl⟩) ⟨hK, hP, hD, hS, hA⟩ [] [] ⟨rfl, rfl, rfl, rfl, by decide⟩ hb_bl (fun _ _ _ => trivial) rfl hl.1 rfl (Nat.le_of_ble_eq_true rfl) dL_law_0 ⟨Nat.le_of_ble_eq_true rfl, Nat.le_of_ble_eq_true rfl⟩ ⟨Nat.le_of_ble_eq_true rfl, Nat.le_of_ble_eq_true rfl⟩ (fun r_0 w_1 H locs hw hP hD hS => ?_)
  obtain ⟨rfl, rfl⟩ := hw
  have hP : va_P D vwCl [] H := hP
  have hD : va_D A [] := hD
  refine lv_if_ne (tgt := 8) hx hb dL_law_3 (by decide) (fun c_3 => ?_) (fun c_3 => absurd c_3 (by decide))
  refine lv_aload_n hx hb dL_law_8 rfl (lv_at hl 0 rfl) ?_
  refine hb_Sr (As := [.ref b]) (rest := []) (wc := []) (wr := []) (k := 24) (k' := 1570) ⟨hx, hb, hml, hown, hts⟩ (metX0_made l D cB _ b L xs hL) (va_cwS 1 hts (lw_S q153 q154 q4 q155) rfl rfl rfl (by decide +kernel) ⟨Nat.le_of_ble_eq_true rfl, Nat.le_of_ble_eq_true rfl⟩) ⟨hK, hP, hD, hS, hA⟩ [] [] ⟨rfl, rfl, rfl, rfl, by decide⟩ hb_blX (hb_gX hX hbl hbA hS) rfl hl.1 rfl (Nat.le_of_ble_eq_true rfl) dL_law_9 ⟨Nat.le_of_ble_eq_true rfl, Nat.le_of_ble_eq_true rfl⟩ ⟨Nat.le_of_ble_eq_true rfl, Nat.le_of_ble_eq_true rfl⟩ (fun h1 w_1 H locs hw hP hD hS => ?_)
  obtain ⟨e1, ky1, no1, tx1, ou1, wk1, st1, rfl⟩ := hw
  have hP : va_P D vwCl [(h1, .inr (0, [.ref e1, .int 1, .int (nI 0), .ref ky1, .ref no1, .ref tx1, .int (nI (lZ (cV L xs))), .ref ou1])), (e1, .inr (1, [.ref st1, .int (nI (lS (cV L xs)).1), .int (nI (lS (cV L xs)).2.1), .ref wk1, .int 1])), (wk1, .inl (cB, kN (cV L xs 12), .inl (fun j => b8 (kX (cV L xs) j)))), (st1, .inl (cB, 256, .inl ((lS (cV L xs)).2.2))), (tx1, .inl (cB, 256, .inl (tX (cV L xs) 8))), (ou1, .inl (cB, 0, .inl (fun _ => 0)))] H := hP
  have hD : va_D A [(h1, .inr (0, [.ref e1, .int 1, .int (nI 0), .ref ky1, .ref no1, .ref tx1, .int (nI (lZ (cV L xs))), .ref ou1])), (e1, .inr (1, [.ref st1, .int (nI (lS (cV L xs)).1), .int (nI (lS (cV L xs)).2.1), .ref wk1, .int 1])), (wk1, .inl (cB, kN (cV L xs 12), .inl (fun j => b8 (kX (cV L xs) j)))), (st1, .inl (cB, 256, .inl ((lS (cV L xs)).2.2))), (tx1, .inl (cB, 256, .inl (tX (cV L xs) 8))), (ou1, .inl (cB, 0, .inl (fun _ => 0)))] := hD
  refine lv_astore_n (lv' := [(1, .ref h1), (0, .ref b)]) hx hb dL_law_12 rfl hl (by decide) rfl (fun ls hl => ?_)
  have hP := hb_Psub (ws' := [(h1, .inr (0, [.ref e1, .int 1, .int (nI 0), .ref ky1, .ref no1, .ref tx1, .int (nI (lZ (cV L xs))), .ref ou1])), (e1, .inr (1, [.ref st1, .int (nI (lS (cV L xs)).1), .int (nI (lS (cV L xs)).2.1), .ref wk1, .int 1])), (st1, .inl (cB, 256, .inl ((lS (cV L xs)).2.2))), (tx1, .inl (cB, 256, .inl (tX (cV L xs) 8)))]) hP [0, 1, 3, 4] rfl
  have hD := hD.sub (ws' := [(h1, .inr (0, [.ref e1, .int 1, .int (nI 0), .ref ky1, .ref no1, .ref tx1, .int (nI (lZ (cV L xs))), .ref ou1])), (e1, .inr (1, [.ref st1, .int (nI (lS (cV L xs)).1), .int (nI (lS (cV L xs)).2.1), .ref wk1, .int 1])), (st1, .inl (cB, 256, .inl ((lS (cV L xs)).2.2))), (tx1, .inl (cB, 256, .inl (tX (cV L xs) 8)))]) [0, 1, 3, 4] (by decide) rfl
  refine lv_aload_n hx hb dL_law_13 rfl (lv_at hl 1 rfl) ?_
  refine hb_Sr (As := [.ref b]) (rest := []) (wc := []) (wr := [(h1, .inr (0, [.ref e1, .int 1, .int (nI 0), .ref ky1, .ref no1, .ref tx1, .int (nI (lZ (cV L xs))), .ref ou1])), (e1, .inr (1, [.ref st1, .int (nI (lS (cV L xs)).1), .int (nI (lS (cV L xs)).2.1), .ref wk1, .int 1])), (st1, .inl (cB, 256, .inl ((lS (cV L xs)).2.2))), (tx1, .inl (cB, 256, .inl (tX (cV L xs) 8)))]) (k := 35) (k' := 2220) ⟨hx, hb, hml, hown, hts⟩ (metX0_made l D cB _ b L xs hL) (va_cwS 1 hts (lw_S q153 q154 q4 q155) rfl rfl rfl (by decide +kernel) ⟨Nat.le_of_ble_eq_true rfl, Nat.le_of_ble_eq_true rfl⟩) ⟨hK, hP, hD, hS, hA⟩ [] [0, 1, 2, 3] ⟨rfl, rfl, rfl, rfl, by decide⟩ hb_blX (hb_gX hX hbl hbA hS) rfl hl.1 rfl (Nat.le_of_ble_eq_true rfl) dL_law_14 ⟨Nat.le_of_ble_eq_true rfl, Nat.le_of_ble_eq_true rfl⟩ ⟨Nat.le_of_ble_eq_true rfl, Nat.le_of_ble_eq_true rfl⟩ (fun h2 w_1 H locs hw hP hD hS => ?_)
  obtain ⟨e2, ky2, no2, tx2, ou2, wk2, st2, rfl⟩ := hw
  have hP : va_P D vwCl [(h1, .inr (0, [.ref e1, .int 1, .int (nI 0), .ref ky1, .ref no1, .ref tx1, .int (nI (lZ (cV L xs))), .ref ou1])), (e1, .inr (1, [.ref st1, .int (nI (lS (cV L xs)).1), .int (nI (lS (cV L xs)).2.1), .ref wk1, .int 1])), (st1, .inl (cB, 256, .inl ((lS (cV L xs)).2.2))), (tx1, .inl (cB, 256, .inl (tX (cV L xs) 8))), (h2, .inr (0, [.ref e2, .int 1, .int (nI 0), .ref ky2, .ref no2, .ref tx2, .int (nI (lZ (cV L xs))), .ref ou2])), (e2, .inr (1, [.ref st2, .int (nI (lS (cV L xs)).1), .int (nI (lS (cV L xs)).2.1), .ref wk2, .int 1])), (wk2, .inl (cB, kN (cV L xs 12), .inl (fun j => b8 (kX (cV L xs) j)))), (st2, .inl (cB, 256, .inl ((lS (cV L xs)).2.2))), (tx2, .inl (cB, 256, .inl (tX (cV L xs) 8))), (ou2, .inl (cB, 0, .inl (fun _ => 0)))] H := hP
  have hD : va_D A [(h1, .inr (0, [.ref e1, .int 1, .int (nI 0), .ref ky1, .ref no1, .ref tx1, .int (nI (lZ (cV L xs))), .ref ou1])), (e1, .inr (1, [.ref st1, .int (nI (lS (cV L xs)).1), .int (nI (lS (cV L xs)).2.1), .ref wk1, .int 1])), (st1, .inl (cB, 256, .inl ((lS (cV L xs)).2.2))), (tx1, .inl (cB, 256, .inl (tX (cV L xs) 8))), (h2, .inr (0, [.ref e2, .int 1, .int (nI 0), .ref ky2, .ref no2, .ref tx2, .int (nI (lZ (cV L xs))), .ref ou2])), (e2, .inr (1, [.ref st2, .int (nI (lS (cV L xs)).1), .int (nI (lS (cV L xs)).2.1), .ref wk2, .int 1])), (wk2, .inl (cB, kN (cV L xs 12), .inl (fun j => b8 (kX (cV L xs) j)))), (st2, .inl (cB, 256, .inl ((lS (cV L xs)).2.2))), (tx2, .inl (cB, 256, .inl (tX (cV L xs) 8))), (ou2, .inl (cB, 0, .inl (fun _ => 0)))] := hD
  refine lv_astore_n (lv' := [(2, .ref h2), (1, .ref h1), (0, .ref b)]) hx hb dL_law_17 rfl hl (by decide) rfl (fun ls hl => ?_)
  have hP := hb_Psub (ws' := [(h1, .inr (0, [.ref e1, .int 1, .int (nI 0), .ref ky1, .ref no1, .ref tx1, .int (nI (lZ (cV L xs))), .ref ou1])), (e1, .inr (1, [.ref st1, .int (nI (lS (cV L xs)).1), .int (nI (lS (cV L xs)).2.1), .ref wk1, .int 1])), (st1, .inl (cB, 256, .inl ((lS (cV L xs)).2.2))), (tx1, .inl (cB, 256, .inl (tX (cV L xs) 8))), (h2, .inr (0, [.ref e2, .int 1, .int (nI 0), .ref ky2, .ref no2, .ref tx2, .int (nI (lZ (cV L xs))), .ref ou2])), (e2, .inr (1, [.ref st2, .int (nI (lS (cV L xs)).1), .int (nI (lS (cV L xs)).2.1), .ref wk2, .int 1])), (st2, .inl (cB, 256, .inl ((lS (cV L xs)).2.2))), (tx2, .inl (cB, 256, .inl (tX (cV L xs) 8)))]) hP [0, 1, 2, 3, 4, 5, 7, 8] rfl
  have hD := hD.sub (ws' := [(h1, .inr (0, [.ref e1, .int 1, .int (nI 0), .ref ky1, .ref no1, .ref tx1, .int (nI (lZ (cV L xs))), .ref ou1])), (e1, .inr (1, [.ref st1, .int (nI (lS (cV L xs)).1), .int (nI (lS (cV L xs)).2.1), .ref wk1, .int 1])), (st1, .inl (cB, 256, .inl ((lS (cV L xs)).2.2))), (tx1, .inl (cB, 256, .inl (tX (cV L xs) 8))), (h2, .inr (0, [.ref e2, .int 1, .int (nI 0), .ref ky2, .ref no2, .ref tx2, .int (nI (lZ (cV L xs))), .ref ou2])), (e2, .inr (1, [.ref st2, .int (nI (lS (cV L xs)).1), .int (nI (lS (cV L xs)).2.1), .ref wk2, .int 1])), (st2, .inl (cB, 256, .inl ((lS (cV L xs)).2.2))), (tx2, .inl (cB, 256, .inl (tX (cV L xs) 8)))]) [0, 1, 2, 3, 4, 5, 7, 8] (by decide) rfl
  refine lv_aload_n hx hb dL_law_18 rfl (lv_at hl 2 rfl) ?_
  refine hb_Sr (As := [.ref b]) (rest := []) (wc := []) (wr := [(h1, .inr (0, [.ref e1, .int 1, .int (nI 0), .ref ky1, .ref no1, .ref tx1, .int (nI (lZ (cV L xs))), .ref ou1])), (e1, .inr (1, [.ref st1, .int (nI (lS (cV L xs)).1), .int (nI (lS (cV L xs)).2.1), .ref wk1, .int 1])), (st1, .inl (cB, 256, .inl ((lS (cV L xs)).2.2))), (tx1, .inl (cB, 256, .inl (tX (cV L xs) 8))), (h2, .inr (0, [.ref e2, .int 1, .int (nI 0), .ref ky2, .ref no2, .ref tx2, .int (nI (lZ (cV L xs))), .ref ou2])), (e2, .inr (1, [.ref st2, .int (nI (lS (cV L xs)).1), .int (nI (lS (cV L xs)).2.1), .ref wk2, .int 1])), (st2, .inl (cB, 256, .inl ((lS (cV L xs)).2.2))), (tx2, .inl (cB, 256, .inl (tX (cV L xs) 8)))]) (k := 46) (k' := 2870) ⟨hx, hb, hml, hown, hts⟩ (metX0_made l D cB _ b L xs hL) (va_cwS 1 hts (lw_S q153 q154 q4 q155) rfl rfl rfl (by decide +kernel) ⟨Nat.le_of_ble_eq_true rfl, Nat.le_of_ble_eq_true rfl⟩) ⟨hK, hP, hD, hS, hA⟩ [] [0, 1, 2, 3, 4, 5, 6, 7] ⟨rfl, rfl, rfl, rfl, by decide⟩ hb_blX (hb_gX hX hbl hbA hS) rfl hl.1 rfl (Nat.le_of_ble_eq_true rfl) dL_law_19 ⟨Nat.le_of_ble_eq_true rfl, Nat.le_of_ble_eq_true rfl⟩ ⟨Nat.le_of_ble_eq_true rfl, Nat.le_of_ble_eq_true rfl⟩ (fun h3 w_1 H locs hw hP hD hS => ?_)
  obtain ⟨e3, ky3, no3, tx3, ou3, wk3, st3, rfl⟩ := hw
  have hP : va_P D vwCl [(h1, .inr (0, [.ref e1, .int 1, .int (nI 0), .ref ky1, .ref no1, .ref tx1, .int (nI (lZ (cV L xs))), .ref ou1])), (e1, .inr (1, [.ref st1, .int (nI (lS (cV L xs)).1), .int (nI (lS (cV L xs)).2.1), .ref wk1, .int 1])), (st1, .inl (cB, 256, .inl ((lS (cV L xs)).2.2))), (tx1, .inl (cB, 256, .inl (tX (cV L xs) 8))), (h2, .inr (0, [.ref e2, .int 1, .int (nI 0), .ref ky2, .ref no2, .ref tx2, .int (nI (lZ (cV L xs))), .ref ou2])), (e2, .inr (1, [.ref st2, .int (nI (lS (cV L xs)).1), .int (nI (lS (cV L xs)).2.1), .ref wk2, .int 1])), (st2, .inl (cB, 256, .inl ((lS (cV L xs)).2.2))), (tx2, .inl (cB, 256, .inl (tX (cV L xs) 8))), (h3, .inr (0, [.ref e3, .int 1, .int (nI 0), .ref ky3, .ref no3, .ref tx3, .int (nI (lZ (cV L xs))), .ref ou3])), (e3, .inr (1, [.ref st3, .int (nI (lS (cV L xs)).1), .int (nI (lS (cV L xs)).2.1), .ref wk3, .int 1])), (wk3, .inl (cB, kN (cV L xs 12), .inl (fun j => b8 (kX (cV L xs) j)))), (st3, .inl (cB, 256, .inl ((lS (cV L xs)).2.2))), (tx3, .inl (cB, 256, .inl (tX (cV L xs) 8))), (ou3, .inl (cB, 0, .inl (fun _ => 0)))] H := hP
  have hD : va_D A [(h1, .inr (0, [.ref e1, .int 1, .int (nI 0), .ref ky1, .ref no1, .ref tx1, .int (nI (lZ (cV L xs))), .ref ou1])), (e1, .inr (1, [.ref st1, .int (nI (lS (cV L xs)).1), .int (nI (lS (cV L xs)).2.1), .ref wk1, .int 1])), (st1, .inl (cB, 256, .inl ((lS (cV L xs)).2.2))), (tx1, .inl (cB, 256, .inl (tX (cV L xs) 8))), (h2, .inr (0, [.ref e2, .int 1, .int (nI 0), .ref ky2, .ref no2, .ref tx2, .int (nI (lZ (cV L xs))), .ref ou2])), (e2, .inr (1, [.ref st2, .int (nI (lS (cV L xs)).1), .int (nI (lS (cV L xs)).2.1), .ref wk2, .int 1])), (st2, .inl (cB, 256, .inl ((lS (cV L xs)).2.2))), (tx2, .inl (cB, 256, .inl (tX (cV L xs) 8))), (h3, .inr (0, [.ref e3, .int 1, .int (nI 0), .ref ky3, .ref no3, .ref tx3, .int (nI (lZ (cV L xs))), .ref ou3])), (e3, .inr (1, [.ref st3, .int (nI (lS (cV L xs)).1), .int (nI (lS (cV L xs)).2.1), .ref wk3, .int 1])), (wk3, .inl (cB, kN (cV L xs 12), .inl (fun j => b8 (kX (cV L xs) j)))), (st3, .inl (cB, 256, .inl ((lS (cV L xs)).2.2))), (tx3, .inl (cB, 256, .inl (tX (cV L xs) 8))), (ou3, .inl (cB, 0, .inl (fun _ => 0)))] := hD
  refine lv_astore_n (lv' := [(3, .ref h3), (2, .ref h2), (1, .ref h1), (0, .ref b)]) hx hb dL_law_22 rfl hl (by decide) rfl (fun ls hl => ?_)
  have hP := hb_Psub (ws' := [(h1, .inr (0, [.ref e1, .int 1, .int (nI 0), .ref ky1, .ref no1, .ref tx1, .int (nI (lZ (cV L xs))), .ref ou1])), (e1, .inr (1, [.ref st1, .int (nI (lS (cV L xs)).1), .int (nI (lS (cV L xs)).2.1), .ref wk1, .int 1])), (st1, .inl (cB, 256, .inl ((lS (cV L xs)).2.2))), (tx1, .inl (cB, 256, .inl (tX (cV L xs) 8))), (h2, .inr (0, [.ref e2, .int 1, .int (nI 0), .ref ky2, .ref no2, .ref tx2, .int (nI (lZ (cV L xs))), .ref ou2])), (e2, .inr (1, [.ref st2, .int (nI (lS (cV L xs)).1), .int (nI (lS (cV L xs)).2.1), .ref wk2, .int 1])), (st2, .inl (cB, 256, .inl ((lS (cV L xs)).2.2))), (tx2, .inl (cB, 256, .inl (tX (cV L xs) 8))), (h3, .inr (0, [.ref e3, .int 1, .int (nI 0), .ref ky3, .ref no3, .ref tx3, .int (nI (lZ (cV L xs))), .ref ou3])), (e3, .inr (1, [.ref st3, .int (nI (lS (cV L xs)).1), .int (nI (lS (cV L xs)).2.1), .ref wk3, .int 1])), (wk3, .inl (cB, kN (cV L xs 12), .inl (fun j => b8 (kX (cV L xs) j)))), (st3, .inl (cB, 256, .inl ((lS (cV L xs)).2.2)))]) hP [0, 1, 2, 3, 4, 5, 6, 7, 8, 9, 10, 11] rfl
  have hD := hD.sub (ws' := [(h1, .inr (0, [.ref e1, .int 1, .int (nI 0), .ref ky1, .ref no1, .ref tx1, .int (nI (lZ (cV L xs))), .ref ou1])), (e1, .inr (1, [.ref st1, .int (nI (lS (cV L xs)).1), .int (nI (lS (cV L xs)).2.1), .ref wk1, .int 1])), (st1, .inl (cB, 256, .inl ((lS (cV L xs)).2.2))), (tx1, .inl (cB, 256, .inl (tX (cV L xs) 8))), (h2, .inr (0, [.ref e2, .int 1, .int (nI 0), .ref ky2, .ref no2, .ref tx2, .int (nI (lZ (cV L xs))), .ref ou2])), (e2, .inr (1, [.ref st2, .int (nI (lS (cV L xs)).1), .int (nI (lS (cV L xs)).2.1), .ref wk2, .int 1])), (st2, .inl (cB, 256, .inl ((lS (cV L xs)).2.2))), (tx2, .inl (cB, 256, .inl (tX (cV L xs) 8))), (h3, .inr (0, [.ref e3, .int 1, .int (nI 0), .ref ky3, .ref no3, .ref tx3, .int (nI (lZ (cV L xs))), .ref ou3])), (e3, .inr (1, [.ref st3, .int (nI (lS (cV L xs)).1), .int (nI (lS (cV L xs)).2.1), .ref wk3, .int 1])), (wk3, .inl (cB, kN (cV L xs 12), .inl (fun j => b8 (kX (cV L xs) j)))), (st3, .inl (cB, 256, .inl ((lS (cV L xs)).2.2)))]) [0, 1, 2, 3, 4, 5, 6, 7, 8, 9, 10, 11] (by decide) rfl
  refine lv_aload_n hx hb dL_law_23 rfl (lv_at hl 3 rfl) ?_
  refine hb_Sr (As := [.ref b]) (rest := []) (wc := []) (wr := [(h1, .inr (0, [.ref e1, .int 1, .int (nI 0), .ref ky1, .ref no1, .ref tx1, .int (nI (lZ (cV L xs))), .ref ou1])), (e1, .inr (1, [.ref st1, .int (nI (lS (cV L xs)).1), .int (nI (lS (cV L xs)).2.1), .ref wk1, .int 1])), (st1, .inl (cB, 256, .inl ((lS (cV L xs)).2.2))), (tx1, .inl (cB, 256, .inl (tX (cV L xs) 8))), (h2, .inr (0, [.ref e2, .int 1, .int (nI 0), .ref ky2, .ref no2, .ref tx2, .int (nI (lZ (cV L xs))), .ref ou2])), (e2, .inr (1, [.ref st2, .int (nI (lS (cV L xs)).1), .int (nI (lS (cV L xs)).2.1), .ref wk2, .int 1])), (st2, .inl (cB, 256, .inl ((lS (cV L xs)).2.2))), (tx2, .inl (cB, 256, .inl (tX (cV L xs) 8))), (h3, .inr (0, [.ref e3, .int 1, .int (nI 0), .ref ky3, .ref no3, .ref tx3, .int (nI (lZ (cV L xs))), .ref ou3])), (e3, .inr (1, [.ref st3, .int (nI (lS (cV L xs)).1), .int (nI (lS (cV L xs)).2.1), .ref wk3, .int 1])), (wk3, .inl (cB, kN (cV L xs 12), .inl (fun j => b8 (kX (cV L xs) j)))), (st3, .inl (cB, 256, .inl ((lS (cV L xs)).2.2)))]) (k := 57) (k' := 3520) ⟨hx, hb, hml, hown, hts⟩ (metX0_made l D cB _ b L xs hL) (va_cwS 1 hts (lw_S q153 q154 q4 q155) rfl rfl rfl (by decide +kernel) ⟨Nat.le_of_ble_eq_true rfl, Nat.le_of_ble_eq_true rfl⟩) ⟨hK, hP, hD, hS, hA⟩ [] [0, 1, 2, 3, 4, 5, 6, 7, 8, 9, 10, 11] ⟨rfl, rfl, rfl, rfl, by decide⟩ hb_blX (hb_gX hX hbl hbA hS) rfl hl.1 rfl (Nat.le_of_ble_eq_true rfl) dL_law_24 ⟨Nat.le_of_ble_eq_true rfl, Nat.le_of_ble_eq_true rfl⟩ ⟨Nat.le_of_ble_eq_true rfl, Nat.le_of_ble_eq_true rfl⟩ (fun h4 w_1 H locs hw hP hD hS => ?_)
  obtain ⟨e4, ky4, no4, tx4, ou4, wk4, st4, rfl⟩ := hw
  have hP : va_P D vwCl [(h1, .inr (0, [.ref e1, .int 1, .int (nI 0), .ref ky1, .ref no1, .ref tx1, .int (nI (lZ (cV L xs))), .ref ou1])), (e1, .inr (1, [.ref st1, .int (nI (lS (cV L xs)).1), .int (nI (lS (cV L xs)).2.1), .ref wk1, .int 1])), (st1, .inl (cB, 256, .inl ((lS (cV L xs)).2.2))), (tx1, .inl (cB, 256, .inl (tX (cV L xs) 8))), (h2, .inr (0, [.ref e2, .int 1, .int (nI 0), .ref ky2, .ref no2, .ref tx2, .int (nI (lZ (cV L xs))), .ref ou2])), (e2, .inr (1, [.ref st2, .int (nI (lS (cV L xs)).1), .int (nI (lS (cV L xs)).2.1), .ref wk2, .int 1])), (st2, .inl (cB, 256, .inl ((lS (cV L xs)).2.2))), (tx2, .inl (cB, 256, .inl (tX (cV L xs) 8))), (h3, .inr (0, [.ref e3, .int 1, .int (nI 0), .ref ky3, .ref no3, .ref tx3, .int (nI (lZ (cV L xs))), .ref ou3])), (e3, .inr (1, [.ref st3, .int (nI (lS (cV L xs)).1), .int (nI (lS (cV L xs)).2.1), .ref wk3, .int 1])), (wk3, .inl (cB, kN (cV L xs 12), .inl (fun j => b8 (kX (cV L xs) j)))), (st3, .inl (cB, 256, .inl ((lS (cV L xs)).2.2))), (h4, .inr (0, [.ref e4, .int 1, .int (nI 0), .ref ky4, .ref no4, .ref tx4, .int (nI (lZ (cV L xs))), .ref ou4])), (e4, .inr (1, [.ref st4, .int (nI (lS (cV L xs)).1), .int (nI (lS (cV L xs)).2.1), .ref wk4, .int 1])), (wk4, .inl (cB, kN (cV L xs 12), .inl (fun j => b8 (kX (cV L xs) j)))), (st4, .inl (cB, 256, .inl ((lS (cV L xs)).2.2))), (tx4, .inl (cB, 256, .inl (tX (cV L xs) 8))), (ou4, .inl (cB, 0, .inl (fun _ => 0)))] H := hP
  have hD : va_D A [(h1, .inr (0, [.ref e1, .int 1, .int (nI 0), .ref ky1, .ref no1, .ref tx1, .int (nI (lZ (cV L xs))), .ref ou1])), (e1, .inr (1, [.ref st1, .int (nI (lS (cV L xs)).1), .int (nI (lS (cV L xs)).2.1), .ref wk1, .int 1])), (st1, .inl (cB, 256, .inl ((lS (cV L xs)).2.2))), (tx1, .inl (cB, 256, .inl (tX (cV L xs) 8))), (h2, .inr (0, [.ref e2, .int 1, .int (nI 0), .ref ky2, .ref no2, .ref tx2, .int (nI (lZ (cV L xs))), .ref ou2])), (e2, .inr (1, [.ref st2, .int (nI (lS (cV L xs)).1), .int (nI (lS (cV L xs)).2.1), .ref wk2, .int 1])), (st2, .inl (cB, 256, .inl ((lS (cV L xs)).2.2))), (tx2, .inl (cB, 256, .inl (tX (cV L xs) 8))), (h3, .inr (0, [.ref e3, .int 1, .int (nI 0), .ref ky3, .ref no3, .ref tx3, .int (nI (lZ (cV L xs))), .ref ou3])), (e3, .inr (1, [.ref st3, .int (nI (lS (cV L xs)).1), .int (nI (lS (cV L xs)).2.1), .ref wk3, .int 1])), (wk3, .inl (cB, kN (cV L xs 12), .inl (fun j => b8 (kX (cV L xs) j)))), (st3, .inl (cB, 256, .inl ((lS (cV L xs)).2.2))), (h4, .inr (0, [.ref e4, .int 1, .int (nI 0), .ref ky4, .ref no4, .ref tx4, .int (nI (lZ (cV L xs))), .ref ou4])), (e4, .inr (1, [.ref st4, .int (nI (lS (cV L xs)).1), .int (nI (lS (cV L xs)).2.1), .ref wk4, .int 1])), (wk4, .inl (cB, kN (cV L xs 12), .inl (fun j => b8 (kX (cV L xs) j)))), (st4, .inl (cB, 256, .inl ((lS (cV L xs)).2.2))), (tx4, .inl (cB, 256, .inl (tX (cV L xs) 8))), (ou4, .inl (cB, 0, .inl (fun _ => 0)))] := hD
  refine lv_astore (lv' := [(4, .ref h4), (3, .ref h3), (2, .ref h2), (1, .ref h1), (0, .ref b)]) hx hb dL_law_27 hl (by decide) rfl (fun ls hl => ?_)
  have hP := hb_Psub (ws' := [(h1, .inr (0, [.ref e1, .int 1, .int (nI 0), .ref ky1, .ref no1, .ref tx1, .int (nI (lZ (cV L xs))), .ref ou1])), (e1, .inr (1, [.ref st1, .int (nI (lS (cV L xs)).1), .int (nI (lS (cV L xs)).2.1), .ref wk1, .int 1])), (st1, .inl (cB, 256, .inl ((lS (cV L xs)).2.2))), (tx1, .inl (cB, 256, .inl (tX (cV L xs) 8))), (h2, .inr (0, [.ref e2, .int 1, .int (nI 0), .ref ky2, .ref no2, .ref tx2, .int (nI (lZ (cV L xs))), .ref ou2])), (e2, .inr (1, [.ref st2, .int (nI (lS (cV L xs)).1), .int (nI (lS (cV L xs)).2.1), .ref wk2, .int 1])), (st2, .inl (cB, 256, .inl ((lS (cV L xs)).2.2))), (tx2, .inl (cB, 256, .inl (tX (cV L xs) 8))), (h3, .inr (0, [.ref e3, .int 1, .int (nI 0), .ref ky3, .ref no3, .ref tx3, .int (nI (lZ (cV L xs))), .ref ou3])), (e3, .inr (1, [.ref st3, .int (nI (lS (cV L xs)).1), .int (nI (lS (cV L xs)).2.1), .ref wk3, .int 1])), (wk3, .inl (cB, kN (cV L xs 12), .inl (fun j => b8 (kX (cV L xs) j)))), (st3, .inl (cB, 256, .inl ((lS (cV L xs)).2.2))), (h4, .inr (0, [.ref e4, .int 1, .int (nI 0), .ref ky4, .ref no4, .ref tx4, .int (nI (lZ (cV L xs))), .ref ou4])), (e4, .inr (1, [.ref st4, .int (nI (lS (cV L xs)).1), .int (nI (lS (cV L xs)).2.1), .ref wk4, .int 1])), (st4, .inl (cB, 256, .inl ((lS (cV L xs)).2.2)))]) hP [0, 1, 2, 3, 4, 5, 6, 7, 8, 9, 10, 11, 12, 13, 15] rfl
  have hD := hD.sub (ws' := [(h1, .inr (0, [.ref e1, .int 1, .int (nI 0), .ref ky1, .ref no1, .ref tx1, .int (nI (lZ (cV L xs))), .ref ou1])), (e1, .inr (1, [.ref st1, .int (nI (lS (cV L xs)).1), .int (nI (lS (cV L xs)).2.1), .ref wk1, .int 1])), (st1, .inl (cB, 256, .inl ((lS (cV L xs)).2.2))), (tx1, .inl (cB, 256, .inl (tX (cV L xs) 8))), (h2, .inr (0, [.ref e2, .int 1, .int (nI 0), .ref ky2, .ref no2, .ref tx2, .int (nI (lZ (cV L xs))), .ref ou2])), (e2, .inr (1, [.ref st2, .int (nI (lS (cV L xs)).1), .int (nI (lS (cV L xs)).2.1), .ref wk2, .int 1])), (st2, .inl (cB, 256, .inl ((lS (cV L xs)).2.2))), (tx2, .inl (cB, 256, .inl (tX (cV L xs) 8))), (h3, .inr (0, [.ref e3, .int 1, .int (nI 0), .ref ky3, .ref no3, .ref tx3, .int (nI (lZ (cV L xs))), .ref ou3])), (e3, .inr (1, [.ref st3, .int (nI (lS (cV L xs)).1), .int (nI (lS (cV L xs)).2.1), .ref wk3, .int 1])), (wk3, .inl (cB, kN (cV L xs 12), .inl (fun j => b8 (kX (cV L xs) j)))), (st3, .inl (cB, 256, .inl ((lS (cV L xs)).2.2))), (h4, .inr (0, [.ref e4, .int 1, .int (nI 0), .ref ky4, .ref no4, .ref tx4, .int (nI (lZ (cV L xs))), .ref ou4])), (e4, .inr (1, [.ref st4, .int (nI (lS (cV L xs)).1), .int (nI (lS (cV L xs)).2.1), .ref wk4, .int 1])), (st4, .inl (cB, 256, .inl ((lS (cV L xs)).2.2)))]) [0, 1, 2, 3, 4, 5, 6, 7, 8, 9, 10, 11, 12, 13, 15] (by decide) rfl
  refine lv_aload_n hx hb dL_law_29 rfl (lv_at hl 4 rfl) ?_
  refine lv_bipush (v := nI 13) hx hb dL_law_30 (by decide) ?_
  refine hb_Si (As := [.ref b, .int (nI 13)]) (rest := []) (wc := []) (wr := [(h1, .inr (0, [.ref e1, .int 1, .int (nI 0), .ref ky1, .ref no1, .ref tx1, .int (nI (lZ (cV L xs))), .ref ou1])), (e1, .inr (1, [.ref st1, .int (nI (lS (cV L xs)).1), .int (nI (lS (cV L xs)).2.1), .ref wk1, .int 1])), (st1, .inl (cB, 256, .inl ((lS (cV L xs)).2.2))), (tx1, .inl (cB, 256, .inl (tX (cV L xs) 8))), (h2, .inr (0, [.ref e2, .int 1, .int (nI 0), .ref ky2, .ref no2, .ref tx2, .int (nI (lZ (cV L xs))), .ref ou2])), (e2, .inr (1, [.ref st2, .int (nI (lS (cV L xs)).1), .int (nI (lS (cV L xs)).2.1), .ref wk2, .int 1])), (st2, .inl (cB, 256, .inl ((lS (cV L xs)).2.2))), (tx2, .inl (cB, 256, .inl (tX (cV L xs) 8))), (h3, .inr (0, [.ref e3, .int 1, .int (nI 0), .ref ky3, .ref no3, .ref tx3, .int (nI (lZ (cV L xs))), .ref ou3])), (e3, .inr (1, [.ref st3, .int (nI (lS (cV L xs)).1), .int (nI (lS (cV L xs)).2.1), .ref wk3, .int 1])), (wk3, .inl (cB, kN (cV L xs 12), .inl (fun j => b8 (kX (cV L xs) j)))), (st3, .inl (cB, 256, .inl ((lS (cV L xs)).2.2))), (h4, .inr (0, [.ref e4, .int 1, .int (nI 0), .ref ky4, .ref no4, .ref tx4, .int (nI (lZ (cV L xs))), .ref ou4])), (e4, .inr (1, [.ref st4, .int (nI (lS (cV L xs)).1), .int (nI (lS (cV L xs)).2.1), .ref wk4, .int 1])), (st4, .inl (cB, 256, .inl ((lS (cV L xs)).2.2)))]) (k := 57) (k' := 3520) ⟨hx, hb, hml, hown, hts⟩ (metX0_cell l D cB _ b L 13 xs hL (by decide)) (va_cwS 2 hts (lw_S q150 q151 q4 q152) rfl rfl rfl (by decide +kernel) ⟨Nat.le_of_ble_eq_true rfl, Nat.le_of_ble_eq_true rfl⟩) ⟨hK, hP, hD, hS, hA⟩ [] [0, 1, 2, 3, 4, 5, 6, 7, 8, 9, 10, 11, 12, 13, 14] ⟨rfl, rfl, rfl, rfl, by decide⟩ hb_blX (hb_gX hX hbl hbA hS) rfl hl.1 rfl (Nat.le_of_ble_eq_true rfl) dL_law_32 ⟨Nat.le_of_ble_eq_true rfl, Nat.le_of_ble_eq_true rfl⟩ ⟨Nat.le_of_ble_eq_true rfl, Nat.le_of_ble_eq_true rfl⟩ (fun r_32 w_1 H locs hw hP hD hS => ?_)
  obtain ⟨rfl, rfl⟩ := hw
  have hP : va_P D vwCl [(h1, .inr (0, [.ref e1, .int 1, .int (nI 0), .ref ky1, .ref no1, .ref tx1, .int (nI (lZ (cV L xs))), .ref ou1])), (e1, .inr (1, [.ref st1, .int (nI (lS (cV L xs)).1), .int (nI (lS (cV L xs)).2.1), .ref wk1, .int 1])), (st1, .inl (cB, 256, .inl ((lS (cV L xs)).2.2))), (tx1, .inl (cB, 256, .inl (tX (cV L xs) 8))), (h2, .inr (0, [.ref e2, .int 1, .int (nI 0), .ref ky2, .ref no2, .ref tx2, .int (nI (lZ (cV L xs))), .ref ou2])), (e2, .inr (1, [.ref st2, .int (nI (lS (cV L xs)).1), .int (nI (lS (cV L xs)).2.1), .ref wk2, .int 1])), (st2, .inl (cB, 256, .inl ((lS (cV L xs)).2.2))), (tx2, .inl (cB, 256, .inl (tX (cV L xs) 8))), (h3, .inr (0, [.ref e3, .int 1, .int (nI 0), .ref ky3, .ref no3, .ref tx3, .int (nI (lZ (cV L xs))), .ref ou3])), (e3, .inr (1, [.ref st3, .int (nI (lS (cV L xs)).1), .int (nI (lS (cV L xs)).2.1), .ref wk3, .int 1])), (wk3, .inl (cB, kN (cV L xs 12), .inl (fun j => b8 (kX (cV L xs) j)))), (st3, .inl (cB, 256, .inl ((lS (cV L xs)).2.2))), (h4, .inr (0, [.ref e4, .int 1, .int (nI 0), .ref ky4, .ref no4, .ref tx4, .int (nI (lZ (cV L xs))), .ref ou4])), (e4, .inr (1, [.ref st4, .int (nI (lS (cV L xs)).1), .int (nI (lS (cV L xs)).2.1), .ref wk4, .int 1])), (st4, .inl (cB, 256, .inl ((lS (cV L xs)).2.2)))] H := hP
  have hD : va_D A [(h1, .inr (0, [.ref e1, .int 1, .int (nI 0), .ref ky1, .ref no1, .ref tx1, .int (nI (lZ (cV L xs))), .ref ou1])), (e1, .inr (1, [.ref st1, .int (nI (lS (cV L xs)).1), .int (nI (lS (cV L xs)).2.1), .ref wk1, .int 1])), (st1, .inl (cB, 256, .inl ((lS (cV L xs)).2.2))), (tx1, .inl (cB, 256, .inl (tX (cV L xs) 8))), (h2, .inr (0, [.ref e2, .int 1, .int (nI 0), .ref ky2, .ref no2, .ref tx2, .int (nI (lZ (cV L xs))), .ref ou2])), (e2, .inr (1, [.ref st2, .int (nI (lS (cV L xs)).1), .int (nI (lS (cV L xs)).2.1), .ref wk2, .int 1])), (st2, .inl (cB, 256, .inl ((lS (cV L xs)).2.2))), (tx2, .inl (cB, 256, .inl (tX (cV L xs) 8))), (h3, .inr (0, [.ref e3, .int 1, .int (nI 0), .ref ky3, .ref no3, .ref tx3, .int (nI (lZ (cV L xs))), .ref ou3])), (e3, .inr (1, [.ref st3, .int (nI (lS (cV L xs)).1), .int (nI (lS (cV L xs)).2.1), .ref wk3, .int 1])), (wk3, .inl (cB, kN (cV L xs 12), .inl (fun j => b8 (kX (cV L xs) j)))), (st3, .inl (cB, 256, .inl ((lS (cV L xs)).2.2))), (h4, .inr (0, [.ref e4, .int 1, .int (nI 0), .ref ky4, .ref no4, .ref tx4, .int (nI (lZ (cV L xs))), .ref ou4])), (e4, .inr (1, [.ref st4, .int (nI (lS (cV L xs)).1), .int (nI (lS (cV L xs)).2.1), .ref wk4, .int 1])), (st4, .inl (cB, 256, .inl ((lS (cV L xs)).2.2)))] := hD
  refine lv_ldc hx hb hown (hts _ q282) dL_law_35 ?_
  refine lv_iand hx hb dL_law_37 ?_
  refine hb_top (nI (m31 (cV L xs 13))) (m31_and _) ?_
  refine lv_sipush (v := nI 129) hx hb dL_law_38 (by decide) ?_
  refine lv_irem hx hb dL_law_41 (nI_ne0 (by decide) (by decide)) ?_
  refine hb_top (nI (lZ (cV L xs))) (rem_nI _ (by decide) (by decide)) ?_
  refine lv_istore (lv' := [(5, .int (nI (lZ (cV L xs)))), (4, .ref h4), (3, .ref h3), (2, .ref h2), (1, .ref h1), (0, .ref b)]) hx hb dL_law_42 hl (by decide) rfl (fun ls hl => ?_)
  refine lv_aload_n hx hb dL_law_44 rfl (lv_at hl 4 rfl) ?_
  refine lv_iconst (v := nI 0) hx hb dL_law_45 (by decide) ?_
  refine lv_iload hx hb dL_law_46 (lv_at hl 0 rfl) ?_
  refine hb_Vi (As := [.int (nI 0), .int (nI (lZ (cV L xs)))]) (rest := []) (wc := [(h1, .inr (0, [.ref e1, .int 1, .int (nI 0), .ref ky1, .ref no1, .ref tx1, .int (nI (lZ (cV L xs))), .ref ou1])), (e1, .inr (1, [.ref st1, .int (nI (lS (cV L xs)).1), .int (nI (lS (cV L xs)).2.1), .ref wk1, .int 1])), (st1, .inl (cB, 256, .inl ((lS (cV L xs)).2.2))), (tx1, .inl (cB, 256, .inl (tX (cV L xs) 8)))]) (wr := [(h2, .inr (0, [.ref e2, .int 1, .int (nI 0), .ref ky2, .ref no2, .ref tx2, .int (nI (lZ (cV L xs))), .ref ou2])), (e2, .inr (1, [.ref st2, .int (nI (lS (cV L xs)).1), .int (nI (lS (cV L xs)).2.1), .ref wk2, .int 1])), (st2, .inl (cB, 256, .inl ((lS (cV L xs)).2.2))), (tx2, .inl (cB, 256, .inl (tX (cV L xs) 8))), (h3, .inr (0, [.ref e3, .int 1, .int (nI 0), .ref ky3, .ref no3, .ref tx3, .int (nI (lZ (cV L xs))), .ref ou3])), (e3, .inr (1, [.ref st3, .int (nI (lS (cV L xs)).1), .int (nI (lS (cV L xs)).2.1), .ref wk3, .int 1])), (wk3, .inl (cB, kN (cV L xs 12), .inl (fun j => b8 (kX (cV L xs) j)))), (st3, .inl (cB, 256, .inl ((lS (cV L xs)).2.2))), (h4, .inr (0, [.ref e4, .int 1, .int (nI 0), .ref ky4, .ref no4, .ref tx4, .int (nI (lZ (cV L xs))), .ref ou4])), (e4, .inr (1, [.ref st4, .int (nI (lS (cV L xs)).1), .int (nI (lS (cV L xs)).2.1), .ref wk4, .int 1])), (st4, .inl (cB, 256, .inl ((lS (cV L xs)).2.2)))]) (k := 58) (k' := 3776) ⟨hx, hb, hml, hown, hts⟩ (metX1_run l D cB _ h1 e1 st1 tx1 (lZ (cV L xs)) 0 0 (lZ (cV L xs)) (.ref ky1) (.ref no1) (.ref ou1) (.ref wk1) (.int 1) (lS (cV L xs)) (tX (cV L xs) 8) (by omega) (by omega) (by omega)) (cwV 2 hts (lw_V q16 q17 q18 q5 q19) rfl rfl rfl (by decide +kernel) ⟨Nat.le_of_ble_eq_true rfl, Nat.le_of_ble_eq_true rfl⟩) ⟨hK, hP, hD, hS, hA⟩ [0, 1, 2, 3] [4, 5, 6, 7, 8, 9, 10, 11, 12, 13, 14] ⟨rfl, rfl, rfl, rfl, by decide⟩ (va_recv hK hP (ci := 0) (q0 := 0) rfl rfl) hb_bl (fun _ _ _ => trivial) rfl hl.1 rfl (Nat.le_of_ble_eq_true rfl) dL_law_48 ⟨Nat.le_of_ble_eq_true rfl, Nat.le_of_ble_eq_true rfl⟩ ⟨Nat.le_of_ble_eq_true rfl, Nat.le_of_ble_eq_true rfl⟩ (fun r_48 w_1 H locs hw hP hD hS => ?_)
  obtain ⟨rfl, o1, rfl⟩ := hw
  have hP : va_P D vwCl [(h2, .inr (0, [.ref e2, .int 1, .int (nI 0), .ref ky2, .ref no2, .ref tx2, .int (nI (lZ (cV L xs))), .ref ou2])), (e2, .inr (1, [.ref st2, .int (nI (lS (cV L xs)).1), .int (nI (lS (cV L xs)).2.1), .ref wk2, .int 1])), (st2, .inl (cB, 256, .inl ((lS (cV L xs)).2.2))), (tx2, .inl (cB, 256, .inl (tX (cV L xs) 8))), (h3, .inr (0, [.ref e3, .int 1, .int (nI 0), .ref ky3, .ref no3, .ref tx3, .int (nI (lZ (cV L xs))), .ref ou3])), (e3, .inr (1, [.ref st3, .int (nI (lS (cV L xs)).1), .int (nI (lS (cV L xs)).2.1), .ref wk3, .int 1])), (wk3, .inl (cB, kN (cV L xs 12), .inl (fun j => b8 (kX (cV L xs) j)))), (st3, .inl (cB, 256, .inl ((lS (cV L xs)).2.2))), (h4, .inr (0, [.ref e4, .int 1, .int (nI 0), .ref ky4, .ref no4, .ref tx4, .int (nI (lZ (cV L xs))), .ref ou4])), (e4, .inr (1, [.ref st4, .int (nI (lS (cV L xs)).1), .int (nI (lS (cV L xs)).2.1), .ref wk4, .int 1])), (st4, .inl (cB, 256, .inl ((lS (cV L xs)).2.2))), (h1, .inr (0, [.ref e1, .int 1, .int (nI (0 + lZ (cV L xs))), .ref ky1, .ref no1, .ref tx1, .int (nI (lZ (cV L xs))), .ref o1])), (e1, .inr (1, [.ref st1, .int (nI ((rI (lZ (cV L xs)) (lS (cV L xs)))).1), .int (nI ((rI (lZ (cV L xs)) (lS (cV L xs)))).2.1), .ref wk1, .int 1])), (st1, .inl (cB, 256, .inl (((rI (lZ (cV L xs)) (lS (cV L xs)))).2.2))), (tx1, .inl (cB, 256, .inl (tX (cV L xs) 8))), (o1, .inl (cB, lZ (cV L xs), .inl (oB (tX (cV L xs) 8) 0 (lS (cV L xs)))))] H := hP
  have hD : va_D A [(h2, .inr (0, [.ref e2, .int 1, .int (nI 0), .ref ky2, .ref no2, .ref tx2, .int (nI (lZ (cV L xs))), .ref ou2])), (e2, .inr (1, [.ref st2, .int (nI (lS (cV L xs)).1), .int (nI (lS (cV L xs)).2.1), .ref wk2, .int 1])), (st2, .inl (cB, 256, .inl ((lS (cV L xs)).2.2))), (tx2, .inl (cB, 256, .inl (tX (cV L xs) 8))), (h3, .inr (0, [.ref e3, .int 1, .int (nI 0), .ref ky3, .ref no3, .ref tx3, .int (nI (lZ (cV L xs))), .ref ou3])), (e3, .inr (1, [.ref st3, .int (nI (lS (cV L xs)).1), .int (nI (lS (cV L xs)).2.1), .ref wk3, .int 1])), (wk3, .inl (cB, kN (cV L xs 12), .inl (fun j => b8 (kX (cV L xs) j)))), (st3, .inl (cB, 256, .inl ((lS (cV L xs)).2.2))), (h4, .inr (0, [.ref e4, .int 1, .int (nI 0), .ref ky4, .ref no4, .ref tx4, .int (nI (lZ (cV L xs))), .ref ou4])), (e4, .inr (1, [.ref st4, .int (nI (lS (cV L xs)).1), .int (nI (lS (cV L xs)).2.1), .ref wk4, .int 1])), (st4, .inl (cB, 256, .inl ((lS (cV L xs)).2.2))), (h1, .inr (0, [.ref e1, .int 1, .int (nI (0 + lZ (cV L xs))), .ref ky1, .ref no1, .ref tx1, .int (nI (lZ (cV L xs))), .ref o1])), (e1, .inr (1, [.ref st1, .int (nI ((rI (lZ (cV L xs)) (lS (cV L xs)))).1), .int (nI ((rI (lZ (cV L xs)) (lS (cV L xs)))).2.1), .ref wk1, .int 1])), (st1, .inl (cB, 256, .inl (((rI (lZ (cV L xs)) (lS (cV L xs)))).2.2))), (tx1, .inl (cB, 256, .inl (tX (cV L xs) 8))), (o1, .inl (cB, lZ (cV L xs), .inl (oB (tX (cV L xs) 8) 0 (lS (cV L xs)))))] := hD
  refine lv_iload hx hb dL_law_51 (lv_at hl 0 rfl) ?_
  refine lv_icmp_eq (tgt := 58) hx hb dL_law_53 (by decide) (fun c_53 => ?_) (fun c_53 => absurd rfl c_53)
  refine lv_iconst (v := nI 0) hx hb dL_law_58 (by decide) ?_
  refine lv_istore (lv' := [(6, .int (nI 0)), (5, .int (nI (lZ (cV L xs)))), (4, .ref h4), (3, .ref h3), (2, .ref h2), (1, .ref h1), (0, .ref b)]) hx hb dL_law_59 hl (by decide) rfl (fun ls hl => ?_)
  refine lv_bipush (v := nI (14 + 0)) hx hb dL_law_61 (by decide) ?_
  refine lv_istore (lv' := [(7, .int (nI (14 + 0))), (6, .int (nI 0)), (5, .int (nI (lZ (cV L xs)))), (4, .ref h4), (3, .ref h3), (2, .ref h2), (1, .ref h1), (0, .ref b)]) hx hb dL_law_63 hl (by decide) rfl (fun ls hl => ?_)
  have hP := hb_Psub (ws' := [(h1, .inr (0, [.ref e1, .int 1, .int (nI (0 + lZ (cV L xs))), .ref ky1, .ref no1, .ref tx1, .int (nI (lZ (cV L xs))), .ref o1])), (o1, .inl (cB, lZ (cV L xs), .inl (oB (tX (cV L xs) 8) 0 (lS (cV L xs))))), (h2, .inr (0, [.ref e2, .int 1, .int (nI 0), .ref ky2, .ref no2, .ref tx2, .int (nI (lZ (cV L xs))), .ref ou2])), (e2, .inr (1, [.ref st2, .int (nI (lS (cV L xs)).1), .int (nI (lS (cV L xs)).2.1), .ref wk2, .int 1])), (st2, .inl (cB, 256, .inl ((lS (cV L xs)).2.2))), (tx2, .inl (cB, 256, .inl (tX (cV L xs) 8))), (h3, .inr (0, [.ref e3, .int 1, .int (nI 0), .ref ky3, .ref no3, .ref tx3, .int (nI (lZ (cV L xs))), .ref ou3])), (e3, .inr (1, [.ref st3, .int (nI (lS (cV L xs)).1), .int (nI (lS (cV L xs)).2.1), .ref wk3, .int 1])), (wk3, .inl (cB, kN (cV L xs 12), .inl (fun j => b8 (kX (cV L xs) j)))), (st3, .inl (cB, 256, .inl ((lS (cV L xs)).2.2))), (h4, .inr (0, [.ref e4, .int 1, .int (nI 0), .ref ky4, .ref no4, .ref tx4, .int (nI (lZ (cV L xs))), .ref ou4])), (e4, .inr (1, [.ref st4, .int (nI (lS (cV L xs)).1), .int (nI (lS (cV L xs)).2.1), .ref wk4, .int 1])), (st4, .inl (cB, 256, .inl ((lS (cV L xs)).2.2)))]) hP [11, 15, 0, 1, 2, 3, 4, 5, 6, 7, 8, 9, 10] rfl
  have hD := hD.sub (ws' := [(h1, .inr (0, [.ref e1, .int 1, .int (nI (0 + lZ (cV L xs))), .ref ky1, .ref no1, .ref tx1, .int (nI (lZ (cV L xs))), .ref o1])), (o1, .inl (cB, lZ (cV L xs), .inl (oB (tX (cV L xs) 8) 0 (lS (cV L xs))))), (h2, .inr (0, [.ref e2, .int 1, .int (nI 0), .ref ky2, .ref no2, .ref tx2, .int (nI (lZ (cV L xs))), .ref ou2])), (e2, .inr (1, [.ref st2, .int (nI (lS (cV L xs)).1), .int (nI (lS (cV L xs)).2.1), .ref wk2, .int 1])), (st2, .inl (cB, 256, .inl ((lS (cV L xs)).2.2))), (tx2, .inl (cB, 256, .inl (tX (cV L xs) 8))), (h3, .inr (0, [.ref e3, .int 1, .int (nI 0), .ref ky3, .ref no3, .ref tx3, .int (nI (lZ (cV L xs))), .ref ou3])), (e3, .inr (1, [.ref st3, .int (nI (lS (cV L xs)).1), .int (nI (lS (cV L xs)).2.1), .ref wk3, .int 1])), (wk3, .inl (cB, kN (cV L xs 12), .inl (fun j => b8 (kX (cV L xs) j)))), (st3, .inl (cB, 256, .inl ((lS (cV L xs)).2.2))), (h4, .inr (0, [.ref e4, .int 1, .int (nI 0), .ref ky4, .ref no4, .ref tx4, .int (nI (lZ (cV L xs))), .ref ou4])), (e4, .inr (1, [.ref st4, .int (nI (lS (cV L xs)).1), .int (nI (lS (cV L xs)).2.1), .ref wk4, .int 1])), (st4, .inl (cB, 256, .inl ((lS (cV L xs)).2.2)))]) [11, 15, 0, 1, 2, 3, 4, 5, 6, 7, 8, 9, 10] (by decide) rfl
  have hP : va_P D vwCl [(h1, .inr (0, [.ref e1, .int 1, .int (nI (0 + lZ (cV L xs))), .ref ky1, .ref no1, .ref tx1, .int (nI (lZ (cV L xs))), .ref o1])), (o1, .inl (cB, lZ (cV L xs), .inl (oB (tX (cV L xs) 8) 0 (lS (cV L xs))))), (h2, .inr (0, [.ref e2, .int 1, .int (nI 0), .ref ky2, .ref no2, .ref tx2, .int (nI (lZ (cV L xs))), .ref ou2])), (e2, .inr (1, [.ref st2, .int (nI (rI 0 (lS (cV L xs))).1), .int (nI (rI 0 (lS (cV L xs))).2.1), .ref wk2, .int 1])), (st2, .inl (cB, 256, .inl ((rI 0 (lS (cV L xs))).2.2))), (tx2, .inl (cB, 256, .inl (tX (cV L xs) 8))), (h3, .inr (0, [.ref e3, .int 1, .int (nI 0), .ref ky3, .ref no3, .ref tx3, .int (nI (lZ (cV L xs))), .ref ou3])), (e3, .inr (1, [.ref st3, .int (nI (rI 0 (lS (cV L xs))).1), .int (nI (rI 0 (lS (cV L xs))).2.1), .ref wk3, .int 1])), (wk3, .inl (cB, kN (cV L xs 12), .inl (fun j => b8 (kX (cV L xs) j)))), (st3, .inl (cB, 256, .inl ((rI 0 (lS (cV L xs))).2.2))), (h4, .inr (0, [.ref e4, .int 1, .int (nI 0), .ref ky4, .ref no4, .ref tx4, .int (nI (lZ (cV L xs))), .ref ou4])), (e4, .inr (1, [.ref st4, .int (nI (rI 0 (lS (cV L xs))).1), .int (nI (rI 0 (lS (cV L xs))).2.1), .ref wk4, .int 1])), (st4, .inl (cB, 256, .inl ((rI 0 (lS (cV L xs))).2.2)))] H := by rw [rI_0]; exact hP
  have hD : va_D A [(h1, .inr (0, [.ref e1, .int 1, .int (nI (0 + lZ (cV L xs))), .ref ky1, .ref no1, .ref tx1, .int (nI (lZ (cV L xs))), .ref o1])), (o1, .inl (cB, lZ (cV L xs), .inl (oB (tX (cV L xs) 8) 0 (lS (cV L xs))))), (h2, .inr (0, [.ref e2, .int 1, .int (nI 0), .ref ky2, .ref no2, .ref tx2, .int (nI (lZ (cV L xs))), .ref ou2])), (e2, .inr (1, [.ref st2, .int (nI (rI 0 (lS (cV L xs))).1), .int (nI (rI 0 (lS (cV L xs))).2.1), .ref wk2, .int 1])), (st2, .inl (cB, 256, .inl ((rI 0 (lS (cV L xs))).2.2))), (tx2, .inl (cB, 256, .inl (tX (cV L xs) 8))), (h3, .inr (0, [.ref e3, .int 1, .int (nI 0), .ref ky3, .ref no3, .ref tx3, .int (nI (lZ (cV L xs))), .ref ou3])), (e3, .inr (1, [.ref st3, .int (nI (rI 0 (lS (cV L xs))).1), .int (nI (rI 0 (lS (cV L xs))).2.1), .ref wk3, .int 1])), (wk3, .inl (cB, kN (cV L xs 12), .inl (fun j => b8 (kX (cV L xs) j)))), (st3, .inl (cB, 256, .inl ((rI 0 (lS (cV L xs))).2.2))), (h4, .inr (0, [.ref e4, .int 1, .int (nI 0), .ref ky4, .ref no4, .ref tx4, .int (nI (lZ (cV L xs))), .ref ou4])), (e4, .inr (1, [.ref st4, .int (nI (rI 0 (lS (cV L xs))).1), .int (nI (rI 0 (lS (cV L xs))).2.1), .ref wk4, .int 1])), (st4, .inl (cB, 256, .inl ((rI 0 (lS (cV L xs))).2.2)))] := by rw [rI_0]; exact hD
  refine lp_1 hx hb hts hown hK hml hA hL hX hbl hbA (lS (cV L xs)) (tX (cV L xs) 8) (lZ (cV L xs)) hZ (fun H locs ls hP hD hS hl => ?_) 5 0 rfl 0 (.ref ou2) (Nat.zero_le _) _ _ _ hP hD hS (lv_sub hl [7, 6, 5, 4, 3, 2, 1, 0] rfl)
  refine lv_iconst (v := nI 0) hx hb dL_law_170 (by decide) ?_
  refine lv_istore (lv' := [(7, .int (nI 0)), (0, .ref b), (1, .ref h1), (2, .ref h2), (3, .ref h3), (4, .ref h4), (5, .int (nI (lZ (cV L xs))))]) hx hb dL_law_171 hl (by decide) rfl (fun ls hl => ?_)
  refine lp_2 hx hb hts hown hK hml hA hL hX hbl hbA (lS (cV L xs)) (tX (cV L xs) 8) (lZ (cV L xs)) hZ (fun i hi => tx_byte _ hi) (fun H locs ls hP hD hS hl => ?_) (lZ (cV L xs)) 0 (Nat.zero_add _) _ _ _ hP hD hS (lv_sub hl [1, 2, 3, 4, 5, 6, 0] rfl)
  refine lv_aload_n hx hb dL_law_247 rfl (lv_at hl 3 rfl) ?_
  refine hb_Vv (As := []) (rest := []) (wc := [(h3, .inr (0, [.ref e3, .int 1, .int (nI (lZ (cV L xs))), .ref ky3, .ref no3, .ref tx3, .int (nI (lZ (cV L xs))), .ref ou3])), (e3, .inr (1, [.ref st3, .int (nI (rI (lZ (cV L xs)) (lS (cV L xs))).1), .int (nI (rI (lZ (cV L xs)) (lS (cV L xs))).2.1), .ref wk3, .int 1])), (wk3, .inl (cB, kN (cV L xs 12), .inl (fun j => b8 (kX (cV L xs) j)))), (st3, .inl (cB, 256, .inl ((rI (lZ (cV L xs)) (lS (cV L xs))).2.2)))]) (wr := [(h1, .inr (0, [.ref e1, .int 1, .int (nI (0 + lZ (cV L xs))), .ref ky1, .ref no1, .ref tx1, .int (nI (lZ (cV L xs))), .ref o1])), (o1, .inl (cB, lZ (cV L xs), .inl (oB (tX (cV L xs) 8) 0 (lS (cV L xs)))))]) (k := 63) (k' := 5056) ⟨hx, hb, hml, hown, hts⟩ (metX1_again l D cB _ h3 e3 st3 wk3 (kN (cV L xs 12)) (.int (nI (lZ (cV L xs)))) (.ref ky3) (.ref no3) (.ref tx3) (.int (nI (lZ (cV L xs)))) (.ref ou3) (.int (nI (rI (lZ (cV L xs)) (lS (cV L xs))).1)) (.int (nI (rI (lZ (cV L xs)) (lS (cV L xs))).2.1)) (.int 1) (fun j => b8 (kX (cV L xs) j)) (rI (lZ (cV L xs)) (lS (cV L xs))).2.2 (kN_in _)) (cwV 0 hts (lw_V q133 q134 q135 q5 q136) rfl rfl rfl (by decide +kernel) ⟨Nat.le_of_ble_eq_true rfl, Nat.le_of_ble_eq_true rfl⟩) ⟨hK, hP, hD, hS, hA⟩ [2, 3, 4, 5] [0, 1] ⟨rfl, rfl, rfl, rfl, by decide⟩ (va_recv hK hP (ci := 0) (q0 := 2) rfl rfl) hb_bl (fun _ _ _ => trivial) rfl hl.1 rfl (Nat.le_of_ble_eq_true rfl) dL_law_248 ⟨Nat.le_of_ble_eq_true rfl, Nat.le_of_ble_eq_true rfl⟩ ⟨Nat.le_of_ble_eq_true rfl, Nat.le_of_ble_eq_true rfl⟩ (fun w_1 H locs hw hP hD hS => ?_)
  obtain rfl := hw
  rw [show k0 (kN (cV L xs 12)) (fun j => b8 (kX (cV L xs) j)) = lS (cV L xs) from rfl] at hP hD
  have hP : va_P D vwCl [(h1, .inr (0, [.ref e1, .int 1, .int (nI (0 + lZ (cV L xs))), .ref ky1, .ref no1, .ref tx1, .int (nI (lZ (cV L xs))), .ref o1])), (o1, .inl (cB, lZ (cV L xs), .inl (oB (tX (cV L xs) 8) 0 (lS (cV L xs))))), (h3, .inr (0, [.ref e3, .int 1, .int (nI 0), .ref ky3, .ref no3, .ref tx3, .int (nI (lZ (cV L xs))), .ref ou3])), (e3, .inr (1, [.ref st3, .int (nI (lS (cV L xs)).1), .int (nI (lS (cV L xs)).2.1), .ref wk3, .int 1])), (wk3, .inl (cB, kN (cV L xs 12), .inl (fun j => b8 (kX (cV L xs) j)))), (st3, .inl (cB, 256, .inl ((lS (cV L xs)).2.2)))] H := hP
  have hD : va_D A [(h1, .inr (0, [.ref e1, .int 1, .int (nI (0 + lZ (cV L xs))), .ref ky1, .ref no1, .ref tx1, .int (nI (lZ (cV L xs))), .ref o1])), (o1, .inl (cB, lZ (cV L xs), .inl (oB (tX (cV L xs) 8) 0 (lS (cV L xs))))), (h3, .inr (0, [.ref e3, .int 1, .int (nI 0), .ref ky3, .ref no3, .ref tx3, .int (nI (lZ (cV L xs))), .ref ou3])), (e3, .inr (1, [.ref st3, .int (nI (lS (cV L xs)).1), .int (nI (lS (cV L xs)).2.1), .ref wk3, .int 1])), (wk3, .inl (cB, kN (cV L xs 12), .inl (fun j => b8 (kX (cV L xs) j)))), (st3, .inl (cB, 256, .inl ((lS (cV L xs)).2.2)))] := hD
  refine lv_iconst (v := nI 0) hx hb dL_law_251 (by decide) ?_
  refine lv_istore (lv' := [(7, .int (nI 0)), (0, .ref b), (1, .ref h1), (2, .ref h2), (3, .ref h3), (4, .ref h4), (5, .int (nI (lZ (cV L xs))))]) hx hb dL_law_252 hl (by decide) rfl (fun ls hl => ?_)
  have hP : va_P D vwCl [(h1, .inr (0, [.ref e1, .int 1, .int (nI (0 + lZ (cV L xs))), .ref ky1, .ref no1, .ref tx1, .int (nI (lZ (cV L xs))), .ref o1])), (o1, .inl (cB, lZ (cV L xs), .inl (oB (tX (cV L xs) 8) 0 (lS (cV L xs))))), (h3, .inr (0, [.ref e3, .int 1, .int (nI 0), .ref ky3, .ref no3, .ref tx3, .int (nI (lZ (cV L xs))), .ref ou3])), (e3, .inr (1, [.ref st3, .int (nI (rI 0 (lS (cV L xs))).1), .int (nI (rI 0 (lS (cV L xs))).2.1), .ref wk3, .int 1])), (wk3, .inl (cB, kN (cV L xs 12), .inl (fun j => b8 (kX (cV L xs) j)))), (st3, .inl (cB, 256, .inl ((rI 0 (lS (cV L xs))).2.2)))] H := by rw [rI_0]; exact hP
  have hD : va_D A [(h1, .inr (0, [.ref e1, .int 1, .int (nI (0 + lZ (cV L xs))), .ref ky1, .ref no1, .ref tx1, .int (nI (lZ (cV L xs))), .ref o1])), (o1, .inl (cB, lZ (cV L xs), .inl (oB (tX (cV L xs) 8) 0 (lS (cV L xs))))), (h3, .inr (0, [.ref e3, .int 1, .int (nI 0), .ref ky3, .ref no3, .ref tx3, .int (nI (lZ (cV L xs))), .ref ou3])), (e3, .inr (1, [.ref st3, .int (nI (rI 0 (lS (cV L xs))).1), .int (nI (rI 0 (lS (cV L xs))).2.1), .ref wk3, .int 1])), (wk3, .inl (cB, kN (cV L xs 12), .inl (fun j => b8 (kX (cV L xs) j)))), (st3, .inl (cB, 256, .inl ((rI 0 (lS (cV L xs))).2.2)))] := by rw [rI_0]; exact hD
  refine lp_3 hx hb hts hown hK hml hA hL hX hbl hbA (lS (cV L xs)) (tX (cV L xs) 8) (lZ (cV L xs)) hZ (fun i hi => tx_byte _ hi) (fun H locs ls hP hD hS hl => ?_) (lZ (cV L xs)) 0 (Nat.zero_add _) _ _ _ hP hD hS (lv_sub hl [1, 2, 3, 4, 5, 6, 0] rfl)
  refine lv_iconst (v := 1) hx hb dL_law_308 (by decide) ?_
  refine va_forget (fun q hq => hAf _ (hS.2.2 q hq)) ?_
  refine W.widen (k := 600120) (n := 7301170) (Nat.le_of_ble_eq_true rfl) (Nat.le_of_ble_eq_true rfl) ?_
  exact lw_ret hx hb hr hlk dL_law_309
-- ===== YOUR PART ENDS =====
set_option maxHeartbeats 4000000 in
theorem lw_walk (l : Launch) (hflags : l.flags = flags0) (b : Addr) (xs : List Int32) : MetFree l x (headSpec (Jvm.Cond.code x code maxLocals ret :: tables_1) room_1) (lw_P b xs) (fun _ _ _ _ _ => True) lw_Q := by
  refine MetFree.of_bodyS (code := code) (maxLocals := maxLocals) (ret := ret) (by decide) ?_ ?_
  · intro args s m h hn
    obtain ⟨meth, c, h1, h2, h3, h4, h5, h6, -, -⟩ := Cond.code_spec hn (atoms_spec (ws := Jvm.Cond.code x code maxLocals ret :: tables_1) h _ List.mem_cons_self)
    exact ⟨meth, c, h1, h2, h3, h4, h5, h6⟩
  · intro p e s m args below meth c s₁ B hml0 hP _
    obtain ⟨rfl, hx, hbd, hgv⟩ := hP
    obtain ⟨scr, harrAt, hlist, hof, hsmall⟩ := hx
    obtain ⟨hcb, hkn, -, -⟩ := State.arrayAt?_spec harrAt
    have hown : s.vm.findClass R_law = some m.cls := findClass_of_methodNamed B.named
    have hts0 : ∀ c ∈ (Jvm.Cond.code x code maxLocals ret :: tables_1), c.before #[Value.ref b] s = true := atoms_spec (ws := Jvm.Cond.code x code maxLocals ret :: tables_1) B.pre
    have hts : ∀ w ∈ lw_tbl, w.before #[Value.ref b] s = true := k2_hts_sels lw_privs (fun w hw => hts0 w (List.mem_cons_of_mem _ hw)) lw_privs_ok
    have hml : c.maxLocals = 10 := B.maxLocals_eq (hts0 _ List.mem_cons_self)
    have X₀ : Stand p l e room_1 s m #[Value.ref b] below meth c s₁ [] 0 0 := Stand.of_body B
    have hh0 : s₁.heap = s.heap := by rw [B.state]; rfl
    have hsz : scr.slots.size = xs.length := by rw [← Array.length_toList, hlist, List.length_map]
    have hval : ∀ j : Nat, j < xs.length → scr.slots[j]? = some (.int (xs.getD j 0)) := fun j hj => by
      rw [← Array.getElem?_toList, hlist]
      simp [hj]
    have hbl : b < s.heap.size := (Array.getElem?_eq_some_iff.mp hcb).1
    have hX : va_X b xs.length (fun j => xs.getD j 0) s s.heap := ⟨scr, hcb, hof, hkn, hsz, hval⟩
    have K : W p l e room_1 s m #[Value.ref b] below meth c s₁.heap [] 0 0 (lw_Z below #[Value.ref b] s) (entryFrame m ([Value.ref b] : List Value).toArray 10) := by
      rw [hh0]
      exact whole_start l hflags hbd ⟨B.exec, B.bytes, B.returns, hml, hown, hts, hX, hbl, B.notSynchronized, hgv⟩
    obtain ⟨t, a1, o, b1, b2, b3⟩ := K s₁ rfl X₀
    exact ⟨t, o, a1, b1, b2, b3⟩
theorem lw_pre_spec {args : Array Value} {s : State} (h : (Jvm.Cond.and given_1 narrow_1).before args s = true) (hr : rest_1_c.before args s = true) : ∃ (b : Addr) (xs : List Int32), lw_P b xs args s := by
  have hs := flat_of_before _ h
  have hq := flat_of_before _ hr
  have hc : (Cond.count 1).before args s = true := hs _ (by decide +kernel)
  have harr : (Cond.arrayOf (.arg 0) .int).before args s = true := hs _ (by decide +kernel)
  have hle : (Cond.le (.length (.arg 0)) (.int 60)).before args s = true := hs _ (by decide +kernel)
  have hlen : (Cond.isInt (.length (.arg 0))).before args s = true := hq _ (by decide +kernel)
  have hall : (Cond.all (.arg 0) (.isInt (.elem (.arg 0) (.index 0)))).before args s = true := hq _ (by decide +kernel)
  obtain ⟨b, xs, hb, hx⟩ := State.ints_of_pre rfl harr hlen hall
  have hsm : xs.length < 2 ^ 31 := hx.choose_spec.2.2.2
  have hev : (Term.length (.arg 0)).eval args s none [] s = some (.int xs.length.toInt32) := hx.length_eval hb
  have hv := Cond.le_ints hev (show (Term.int 60).eval args s none [] s = some (.int 60) from rfl)
  have hd : xs.length.toInt32 ≤ 60 := by
    simpa [Cond.before, Cond.holds, hv] using hle
  have hN : xs.length ≤ 60 := (Int32.ofNat_le_ofNat hsm (by decide)).mp (show Int32.ofNat xs.length ≤ Int32.ofNat 60 from hd)
  exact ⟨b, xs, Cond.one_arg hc (show args[0]? = some (.ref b) from hb), hx, hN, h⟩
theorem lw_comes (l : Launch) (hflags : l.flags = flags0) : Comes l x (Jvm.Cond.code x code maxLocals ret :: tables_1) room_1 (fun tb e args s => Calls_1 tb e args s ∧ rest_1 tb e args s ∧ Pre_1 tb e args s)
    (fun _ _ args s o t => lw_Q args s o t) := by
  intro p e ha hc hk s m args below hf hfit hheap happ hpre
  obtain ⟨b, xs, hP⟩ := lw_pre_spec hpre.2.2 hpre.2.1
  obtain ⟨k, o, h1, h2, h3, hQ⟩ := lw_walk l hflags b xs p e ha hc hk s m args below hf ((Spec.applies_iff_loose hf).mp happ).1 hP trivial
  exact ⟨k, o, h1, h2, h3, hQ⟩
theorem lw_frame {s t : State} {o : Outcome} {args : Array Value} (h : Framed s o t [] 600120 7301170) :
    Framed s o t (fieldLocs frame_1_writes args s ++ arrayLocs frame_1_arrays args s ++ staticLocs frame_1_statics s) 600120 7301170 := h
theorem lw_limb (L : Cond) (hL : ∀ (args : Array Value) (s t : State), L.after args s (.returned (some (.int 1))) t = true) :
    ArmFor flags0 classFile x code maxLocals ret World_1 tables_1 room_1 Calls_1 rest_1 Pre_1
      (fun tb e a s o t => postC L tb e a s o t ∧ Framed s o t (fieldLocs frame_1_writes a s ++ arrayLocs frame_1_arrays a s ++ staticLocs frame_1_statics s) 600120 7301170) := by
  intro l hflags _ _ p e ha hc hk s m args below hf hfit hheap happ hpre
  obtain ⟨k, o, h1, h2, h3, rfl, hF⟩ := lw_comes l hflags p e ha hc hk s m args below hf hfit hheap happ hpre
  exact ⟨k, _, h1, h2, h3, hL args s _, lw_frame hF⟩
theorem i_vc : Claimed_1_1 ∧ Claimed_1_2 := ⟨lw_limb limb_1_1 (fun args s t => by simp [limb_1_1, Cond.after, Cond.holds, Cond.value]), lw_limb limb_1_2 (fun args s t => Cond.after_iff.mpr (by
  first | (rw [show limb_1_2 = Cond.eq .result (.int 1) from rfl, Cond.eq_ints (x := 1) (y := 1) rfl rfl]; simp; done) | (simp [limb_1_2, Cond.value, Term.eval]; done)))⟩
end
