section
-- ===== PART A: goes FIRST, ahead of the names: the tables' words, and 'selects' of the private methods out of them =====
/-- a private method of a class that the tables say can be made, by its rows of tables_1 -/
def lw_okq (q : MethodName × Nat) : Prop := (q.1.cls ≠ "java/lang/invoke/MethodHandle" ∧ q.1.cls ≠ "java/lang/invoke/VarHandle") ∧ Cond.instantiable q.1.cls q.2 ∈ tables_1 ∧ Cond.privateMethod q.1 ∈ tables_1 ∧ Cond.instanceMethod q.1 ∈ tables_1
set_option maxRecDepth 100000
theorem lw_t1 {w : Cond} (h : w ∈ tables_1_1) : w ∈ tables_1 := List.mem_append_left _ h
theorem lw_t2 {w : Cond} (h : w ∈ tables_1_2) : w ∈ tables_1 := List.mem_append_right _ h
theorem lw_p0 : lw_okq (⟨"java/lang/Throwable", "fillInStackTrace", "(I)Ljava/lang/Throwable;"⟩, 6) := ⟨⟨by decide +kernel, by decide +kernel⟩, lw_t1 (List.mem_of_getElem? (i := 165) rfl), lw_t1 (List.mem_of_getElem? (i := 163) rfl), lw_t1 (List.mem_of_getElem? (i := 164) rfl)⟩
def lw_privs_1 : List (MethodName × Nat) := [(⟨"java/lang/Throwable", "fillInStackTrace", "(I)Ljava/lang/Throwable;"⟩, 6)]
theorem lw_r1 : ∀ q ∈ lw_privs_1, lw_okq q := List.forall_mem_cons.mpr ⟨lw_p0, fun _ h => absurd h List.not_mem_nil⟩
def lw_privs : List (MethodName × Nat) := lw_privs_1
/-- two words more: a private method of the superclass is selected on a StringBuilder (proved where the law starts) -/
def lw_sb : List Cond := [Cond.selects "java/lang/StringBuilder" ⟨"java/lang/AbstractStringBuilder", "ensureCapacityInternal", "(I)V"⟩ ⟨"java/lang/AbstractStringBuilder", "ensureCapacityInternal", "(I)V"⟩, Cond.selects "java/lang/StringBuilder" ⟨"java/lang/AbstractStringBuilder", "inflate", "()V"⟩ ⟨"java/lang/AbstractStringBuilder", "inflate", "()V"⟩]
def lw_tbl : List Cond := k2_sels lw_privs ++ (tables_1 ++ lw_sb)
theorem lw_privs_ok : ∀ q ∈ lw_privs, lw_okq q := lw_r1
-- ===== ONE list of words for every method: the tables' words that hold all through a run =====
def lw_all : List Cond := lw_tbl.filter goodWord
/-- a word of the tables by its place: claim/WORDS.tsv -/
theorem lw_w {w : Cond} (i : Nat) (h : lw_tbl[i]? = some w) (g : goodWord w = true) : w ∈ lw_all := List.mem_filter.mpr ⟨List.mem_of_getElem? h, g⟩
theorem lw_all_tbl {w : Cond} (h : w ∈ lw_all) : w ∈ lw_tbl := (List.mem_filter.mp h).1
theorem lw_self : GoodIn lw_all lw_all := fun w h => ⟨h, good_of_word (List.mem_filter.mp h).2⟩
/-- a class's field words, by their places -/
theorem lw_in (ws : List Cond) (ps : List Nat) (hp : ws = ps.filterMap (fun i => lw_tbl[i]?)) (hg : ws.all goodWord = true) : ∀ w ∈ ws, w ∈ lw_all := by
  intro w h
  have h1 := List.all_eq_true.mp hg w h
  rw [hp] at h
  obtain ⟨i, -, hi⟩ := List.mem_filterMap.mp h
  exact lw_w i hi h1
/-- the words of a contract for the method y with code b, L locals, answer r -/
abbrev ws_ (y : MethodName) (b : ByteArray) (L : Nat) (r : Option FieldType) : List Cond := Cond.code y b L r :: lw_all
theorem lw_meth {y : MethodName} {b : ByteArray} {L : Nat} {r : Option FieldType} (h : Cond.code y b L r ∈ lw_all) : GoodIn lw_all (ws_ y b L r) := by
  intro w hw
  rcases List.mem_cons.mp hw with e | e
  · rw [e]
    exact lw_self _ h
  · exact lw_self _ e
theorem lw_app {a c : List Cond} (ha : ∀ w ∈ a, w ∈ lw_all) (hc : GoodIn lw_all c) : GoodIn lw_all (a ++ c) := by
  intro w hw
  rcases List.mem_append.mp hw with e | e
  · exact lw_self w (ha w e)
  · exact hc w e
/-- what a call through an object asks: cwV n hts (lw_V ..) -/
theorem lw_V {own : String} {idx : Nat} {C : String} {y : MethodName} {b : ByteArray} {L : Nat} {r : Option FieldType} (h1 : Cond.methodLink own idx y ∈ lw_all) (h2 : Cond.instanceMethod y ∈ lw_all) (h3 : Cond.selects C y y ∈ lw_all) (h4 : Cond.initialized C ∈ lw_all) (h5 : Cond.code y b L r ∈ lw_all) : GoodIn lw_all (wsV own idx C y (ws_ y b L r)) := by
  refine lw_app ?_ (lw_meth h5)
  intro w hw
  simp only [List.mem_cons, List.not_mem_nil, or_false] at hw
  rcases hw with e | e | e | e
  · rw [e]; exact h1
  · rw [e]; exact h2
  · rw [e]; exact h3
  · rw [e]; exact h4
/-- what a static call asks: va_cwS n hts (lw_S ..) -/
theorem lw_S {own : String} {idx : Nat} {y : MethodName} {b : ByteArray} {L : Nat} {r : Option FieldType} (h1 : Cond.methodLink own idx y ∈ lw_all) (h2 : Cond.static y ∈ lw_all) (h3 : Cond.initialized y.cls ∈ lw_all) (h4 : Cond.code y b L r ∈ lw_all) : GoodIn lw_all (va_wsS own idx y (ws_ y b L r)) := by
  refine lw_app ?_ (lw_meth h4)
  intro w hw
  simp only [List.mem_cons, List.not_mem_nil, or_false] at hw
  rcases hw with e | e | e
  · rw [e]; exact h1
  · rw [e]; exact h2
  · rw [e]; exact h3
/-- the words of a contract for a method WITH HANDLERS (hh: its table) -/
abbrev wsW_ (y : MethodName) (b : ByteArray) (L : Nat) (r : Option FieldType) (hh : List (Nat × Nat × Nat × Nat)) : List Cond := Cond.codeWith y b L r hh :: lw_all
theorem lw_methW {y : MethodName} {b : ByteArray} {L : Nat} {r : Option FieldType} {hh : List (Nat × Nat × Nat × Nat)} (h : Cond.codeWith y b L r hh ∈ lw_all) : GoodIn lw_all (wsW_ y b L r hh) := by
  intro w hw
  rcases List.mem_cons.mp hw with e | e
  · rw [e]
    exact lw_self _ h
  · exact lw_self _ e
/-- any list of words by their places (lw_in), good -/
theorem lw_good {ws : List Cond} (h : ∀ w ∈ ws, w ∈ lw_all) : GoodIn lw_all ws := fun w hw => lw_self w (h w hw)
/-- what a call of a method with handlers asks: vx_cwVW n hts (lw_VW ..), vx_cwSW n hts (lw_SW ..) -/
theorem lw_VW {own : String} {idx : Nat} {C : String} {y : MethodName} {b : ByteArray} {L : Nat} {r : Option FieldType} {hh : List (Nat × Nat × Nat × Nat)} (h1 : Cond.methodLink own idx y ∈ lw_all) (h2 : Cond.instanceMethod y ∈ lw_all) (h3 : Cond.selects C y y ∈ lw_all) (h4 : Cond.initialized C ∈ lw_all) (h5 : Cond.codeWith y b L r hh ∈ lw_all) : GoodIn lw_all (wsV own idx C y (wsW_ y b L r hh)) := by
  refine lw_app ?_ (lw_methW h5)
  intro w hw
  simp only [List.mem_cons, List.not_mem_nil, or_false] at hw
  rcases hw with e | e | e | e
  · rw [e]; exact h1
  · rw [e]; exact h2
  · rw [e]; exact h3
  · rw [e]; exact h4
theorem lw_SW {own : String} {idx : Nat} {y : MethodName} {b : ByteArray} {L : Nat} {r : Option FieldType} {hh : List (Nat × Nat × Nat × Nat)} (h1 : Cond.methodLink own idx y ∈ lw_all) (h2 : Cond.static y ∈ lw_all) (h3 : Cond.initialized y.cls ∈ lw_all) (h4 : Cond.codeWith y b L r hh ∈ lw_all) : GoodIn lw_all (va_wsS own idx y (wsW_ y b L r hh)) := by
  refine lw_app ?_ (lw_methW h4)
  intro w hw
  simp only [List.mem_cons, List.not_mem_nil, or_false] at hw
  rcases hw with e | e | e
  · rw [e]; exact h1
  · rw [e]; exact h2
  · rw [e]; exact h3
/-- a word by its place in its run of the tables -/
theorem lw_at {r : List Cond} (hr : ∀ w ∈ r, w ∈ lw_tbl) {w : Cond} (i : Nat) (h : r[i]? = some w) : w ∈ lw_tbl := hr w (List.mem_of_getElem? h)
theorem lw_g {w : Cond} (h : w ∈ lw_tbl) (g : goodWord w = true) : w ∈ lw_all := List.mem_filter.mpr ⟨h, g⟩
theorem lw_ms : ∀ w ∈ k2_sels lw_privs, w ∈ lw_tbl := fun w h => show w ∈ k2_sels lw_privs ++ (tables_1 ++ lw_sb) from List.mem_append_left _ h
theorem lw_m1 : ∀ w ∈ tables_1_1, w ∈ lw_tbl := fun w h => show w ∈ k2_sels lw_privs ++ (tables_1 ++ lw_sb) from List.mem_append_right (k2_sels lw_privs) (List.mem_append_left lw_sb (show w ∈ tables_1 from List.mem_append_left _ h))
theorem lw_m2 : ∀ w ∈ tables_1_2, w ∈ lw_tbl := fun w h => show w ∈ k2_sels lw_privs ++ (tables_1 ++ lw_sb) from List.mem_append_right (k2_sels lw_privs) (List.mem_append_left lw_sb (show w ∈ tables_1 from List.mem_append_right _ h))
theorem qs0 : (Cond.selects "java/lang/Throwable" ⟨"java/lang/Throwable", "fillInStackTrace", "(I)Ljava/lang/Throwable;"⟩ ⟨"java/lang/Throwable", "fillInStackTrace", "(I)Ljava/lang/Throwable;"⟩) ∈ lw_all := lw_g (lw_at lw_ms 0 rfl) rfl
theorem lw_msb : ∀ w ∈ lw_sb, w ∈ lw_tbl := fun w h => show w ∈ k2_sels lw_privs ++ (tables_1 ++ lw_sb) from List.mem_append_right (k2_sels lw_privs) (List.mem_append_right _ h)
theorem qs1 : (Cond.selects "java/lang/StringBuilder" ⟨"java/lang/AbstractStringBuilder", "ensureCapacityInternal", "(I)V"⟩ ⟨"java/lang/AbstractStringBuilder", "ensureCapacityInternal", "(I)V"⟩) ∈ lw_all := lw_g (lw_at lw_msb 0 rfl) rfl
theorem qs2 : (Cond.selects "java/lang/StringBuilder" ⟨"java/lang/AbstractStringBuilder", "inflate", "()V"⟩ ⟨"java/lang/AbstractStringBuilder", "inflate", "()V"⟩) ∈ lw_all := lw_g (lw_at lw_msb 1 rfl) rfl
/-! DECODE ROWS BY BYTES: one lemma an opcode; a method's code is cut into short pieces once, and a row reads its own piece alone. -/
set_option maxRecDepth 100000
/-- the code has just these bytes from pc on -/
def DkAt (code : ByteArray) (pc : Nat) (bs : List UInt8) : Prop := ∀ (j : Nat) (b : UInt8), bs[j]? = some b → code.data.toList[pc + j]? = some b
/-- the piece W has the bytes bs from its place j on -/
def dkIn (W : List UInt8) (j : Nat) (bs : List UInt8) : Bool := decide ((W.drop j).take bs.length = bs)
theorem dk_seg {l W T : List UInt8} {o o2 : Nat} (h : l.drop o = W ++ T) (n : Nat) (hn : W.length = n) (ho : o + n = o2) : l.drop o2 = T := by
  subst ho
  rw [← List.drop_drop, h, List.drop_left' hn]
theorem dk_at {code : ByteArray} {W T bs : List UInt8} {o pc : Nat} (h : code.data.toList.drop o = W ++ T) (j : Nat) (hp : o + j = pc) (hw : dkIn W j bs = true) : DkAt code pc bs := by
  subst hp
  intro i b e
  have h1 := of_decide_eq_true hw
  have h2 : i < bs.length := (List.getElem?_eq_some_iff.mp e).1
  have h3 : W[j + i]? = some b := by
    rw [← h1, List.getElem?_take, if_pos h2, List.getElem?_drop] at e
    exact e
  have h4 : j + i < W.length := (List.getElem?_eq_some_iff.mp h3).1
  have h5 : (code.data.toList.drop o)[j + i]? = some b := by
    rw [h, List.getElem?_append_left h4]
    exact h3
  rw [List.getElem?_drop, ← Nat.add_assoc] at h5
  exact h5
theorem dk_u1 {A : ByteArray} {p : Nat} {b : UInt8} (h : A.data.toList[p]? = some b) : (Reader.u1 : Reader DecodeError Nat) A p = .ok (b.toNat, p + 1) := by
  obtain ⟨h1, h2⟩ := List.getElem?_eq_some_iff.mp h
  have h3 : p < A.size := by simpa using h1
  have h4 : A[p]'h3 = b := h2
  have e : (Reader.u1 : Reader DecodeError Nat) A p = (if h : p < A.size then .ok (A[p].toNat, p + 1) else .error (HasTruncated.truncated p)) := by
    show (do if h : p < A.size then do set (p + 1); Pure.pure A[p].toNat else MonadExcept.throw (HasTruncated.truncated p) : Reader DecodeError Nat) A p = _
    by_cases hi : p < A.size
    · rw [dif_pos hi, dif_pos hi]; rfl
    · rw [dif_neg hi, dif_neg hi]; rfl
  rw [e, dif_pos h3, h4]
theorem dk_bind {α β : Type} {r : Reader DecodeError α} {f : α → Reader DecodeError β} {A : ByteArray} {p s : Nat} {a : α} (h : r A p = .ok (a, s)) : (r >>= f) A p = f a A s := by
  show (do let (a, s) ← r A p; f a A s : Except DecodeError (β × Nat)) = _
  rw [h]
  rfl
theorem dk_map {α β : Type} {r : Reader DecodeError α} {g : α → β} {A : ByteArray} {p s : Nat} {a : α} (h : r A p = .ok (a, s)) : (g <$> r) A p = .ok (g a, s) := by
  show (do let (a, s) ← r A p; .ok (g a, s) : Except DecodeError (β × Nat)) = _
  rw [h]
  rfl
theorem dk_u2 {A : ByteArray} {p : Nat} {a b : UInt8} (h : A.data.toList[p]? = some a) (h2 : A.data.toList[p + 1]? = some b) : (Reader.u2 : Reader DecodeError Nat) A p = .ok (a.toNat * 256 + b.toNat, p + 2) := by
  show (Reader.u1 >>= fun hi => Reader.u1 >>= fun lo => Pure.pure (hi * 256 + lo) : Reader DecodeError Nat) A p = _
  rw [dk_bind (dk_u1 h), dk_bind (dk_u1 h2)]
  rfl
theorem dk_of {code : ByteArray} {pc n : Nat} {i : Instr} (h : Decoder.instr pc code pc = .ok (i, pc + n)) : decode code pc = .ok (i, n) := by
  have e : decode code pc = (match Decoder.instr pc code pc with | .error x => .error x | .ok (j, s) => .ok (j, s - pc)) := by
    show (do let (j, s) ← Decoder.instr pc code pc; Pure.pure (j, s - pc) : Except DecodeError (Instr × Nat)) = _
    cases Decoder.instr pc code pc <;> rfl
  rw [e, h]
  show Except.ok (i, pc + n - pc) = _
  rw [Nat.add_sub_cancel_left]
theorem dk_1 {code : ByteArray} {pc : Nat} (h : DkAt code pc [1]) : decode code pc = .ok (.aconst_null, 1) := dk_of ((dk_bind (dk_u1 (h 0 _ rfl))).trans rfl)
theorem dk_2 {code : ByteArray} {pc : Nat} (h : DkAt code pc [2]) : decode code pc = .ok (.iconst (-1), 1) := dk_of ((dk_bind (dk_u1 (h 0 _ rfl))).trans rfl)
theorem dk_3 {code : ByteArray} {pc : Nat} (h : DkAt code pc [3]) : decode code pc = .ok (.iconst 0, 1) := dk_of ((dk_bind (dk_u1 (h 0 _ rfl))).trans rfl)
theorem dk_4 {code : ByteArray} {pc : Nat} (h : DkAt code pc [4]) : decode code pc = .ok (.iconst 1, 1) := dk_of ((dk_bind (dk_u1 (h 0 _ rfl))).trans rfl)
theorem dk_5 {code : ByteArray} {pc : Nat} (h : DkAt code pc [5]) : decode code pc = .ok (.iconst 2, 1) := dk_of ((dk_bind (dk_u1 (h 0 _ rfl))).trans rfl)
theorem dk_6 {code : ByteArray} {pc : Nat} (h : DkAt code pc [6]) : decode code pc = .ok (.iconst 3, 1) := dk_of ((dk_bind (dk_u1 (h 0 _ rfl))).trans rfl)
theorem dk_7 {code : ByteArray} {pc : Nat} (h : DkAt code pc [7]) : decode code pc = .ok (.iconst 4, 1) := dk_of ((dk_bind (dk_u1 (h 0 _ rfl))).trans rfl)
theorem dk_16 {code : ByteArray} {pc : Nat} (a : UInt8) (h : DkAt code pc [16, a]) : decode code pc = .ok (.bipush (Reader.signed 8 a.toNat), 2) := dk_of ((dk_bind (dk_u1 (h 0 _ rfl))).trans ((dk_bind (dk_map (dk_u1 (h 1 _ rfl)))).trans rfl))
theorem dk_17 {code : ByteArray} {pc : Nat} (a b : UInt8) (h : DkAt code pc [17, a, b]) : decode code pc = .ok (.sipush (Reader.signed 16 (a.toNat * 256 + b.toNat)), 3) := dk_of ((dk_bind (dk_u1 (h 0 _ rfl))).trans ((dk_bind (dk_map (dk_u2 (h 1 _ rfl) (h 2 _ rfl)))).trans rfl))
theorem dk_18 {code : ByteArray} {pc : Nat} (a : UInt8) (h : DkAt code pc [18, a]) : decode code pc = .ok (.ldc a.toNat, 2) := dk_of ((dk_bind (dk_u1 (h 0 _ rfl))).trans ((dk_bind (dk_u1 (h 1 _ rfl))).trans rfl))
theorem dk_19 {code : ByteArray} {pc : Nat} (a b : UInt8) (h : DkAt code pc [19, a, b]) : decode code pc = .ok (.ldc_w (a.toNat * 256 + b.toNat), 3) := dk_of ((dk_bind (dk_u1 (h 0 _ rfl))).trans ((dk_bind (dk_u2 (h 1 _ rfl) (h 2 _ rfl))).trans rfl))
theorem dk_21 {code : ByteArray} {pc : Nat} (a : UInt8) (h : DkAt code pc [21, a]) : decode code pc = .ok (.iload a.toNat, 2) := dk_of ((dk_bind (dk_u1 (h 0 _ rfl))).trans ((dk_bind (dk_u1 (h 1 _ rfl))).trans rfl))
theorem dk_25 {code : ByteArray} {pc : Nat} (a : UInt8) (h : DkAt code pc [25, a]) : decode code pc = .ok (.aload a.toNat, 2) := dk_of ((dk_bind (dk_u1 (h 0 _ rfl))).trans ((dk_bind (dk_u1 (h 1 _ rfl))).trans rfl))
theorem dk_26 {code : ByteArray} {pc : Nat} (h : DkAt code pc [26]) : decode code pc = .ok (.iload_n 0, 1) := dk_of ((dk_bind (dk_u1 (h 0 _ rfl))).trans rfl)
theorem dk_27 {code : ByteArray} {pc : Nat} (h : DkAt code pc [27]) : decode code pc = .ok (.iload_n 1, 1) := dk_of ((dk_bind (dk_u1 (h 0 _ rfl))).trans rfl)
theorem dk_28 {code : ByteArray} {pc : Nat} (h : DkAt code pc [28]) : decode code pc = .ok (.iload_n 2, 1) := dk_of ((dk_bind (dk_u1 (h 0 _ rfl))).trans rfl)
theorem dk_29 {code : ByteArray} {pc : Nat} (h : DkAt code pc [29]) : decode code pc = .ok (.iload_n 3, 1) := dk_of ((dk_bind (dk_u1 (h 0 _ rfl))).trans rfl)
theorem dk_42 {code : ByteArray} {pc : Nat} (h : DkAt code pc [42]) : decode code pc = .ok (.aload_n 0, 1) := dk_of ((dk_bind (dk_u1 (h 0 _ rfl))).trans rfl)
theorem dk_43 {code : ByteArray} {pc : Nat} (h : DkAt code pc [43]) : decode code pc = .ok (.aload_n 1, 1) := dk_of ((dk_bind (dk_u1 (h 0 _ rfl))).trans rfl)
theorem dk_44 {code : ByteArray} {pc : Nat} (h : DkAt code pc [44]) : decode code pc = .ok (.aload_n 2, 1) := dk_of ((dk_bind (dk_u1 (h 0 _ rfl))).trans rfl)
theorem dk_45 {code : ByteArray} {pc : Nat} (h : DkAt code pc [45]) : decode code pc = .ok (.aload_n 3, 1) := dk_of ((dk_bind (dk_u1 (h 0 _ rfl))).trans rfl)
theorem dk_46 {code : ByteArray} {pc : Nat} (h : DkAt code pc [46]) : decode code pc = .ok (.iaload, 1) := dk_of ((dk_bind (dk_u1 (h 0 _ rfl))).trans rfl)
theorem dk_50 {code : ByteArray} {pc : Nat} (h : DkAt code pc [50]) : decode code pc = .ok (.aaload, 1) := dk_of ((dk_bind (dk_u1 (h 0 _ rfl))).trans rfl)
theorem dk_51 {code : ByteArray} {pc : Nat} (h : DkAt code pc [51]) : decode code pc = .ok (.baload, 1) := dk_of ((dk_bind (dk_u1 (h 0 _ rfl))).trans rfl)
theorem dk_52 {code : ByteArray} {pc : Nat} (h : DkAt code pc [52]) : decode code pc = .ok (.caload, 1) := dk_of ((dk_bind (dk_u1 (h 0 _ rfl))).trans rfl)
theorem dk_54 {code : ByteArray} {pc : Nat} (a : UInt8) (h : DkAt code pc [54, a]) : decode code pc = .ok (.istore a.toNat, 2) := dk_of ((dk_bind (dk_u1 (h 0 _ rfl))).trans ((dk_bind (dk_u1 (h 1 _ rfl))).trans rfl))
theorem dk_58 {code : ByteArray} {pc : Nat} (a : UInt8) (h : DkAt code pc [58, a]) : decode code pc = .ok (.astore a.toNat, 2) := dk_of ((dk_bind (dk_u1 (h 0 _ rfl))).trans ((dk_bind (dk_u1 (h 1 _ rfl))).trans rfl))
theorem dk_60 {code : ByteArray} {pc : Nat} (h : DkAt code pc [60]) : decode code pc = .ok (.istore_n 1, 1) := dk_of ((dk_bind (dk_u1 (h 0 _ rfl))).trans rfl)
theorem dk_61 {code : ByteArray} {pc : Nat} (h : DkAt code pc [61]) : decode code pc = .ok (.istore_n 2, 1) := dk_of ((dk_bind (dk_u1 (h 0 _ rfl))).trans rfl)
theorem dk_62 {code : ByteArray} {pc : Nat} (h : DkAt code pc [62]) : decode code pc = .ok (.istore_n 3, 1) := dk_of ((dk_bind (dk_u1 (h 0 _ rfl))).trans rfl)
theorem dk_76 {code : ByteArray} {pc : Nat} (h : DkAt code pc [76]) : decode code pc = .ok (.astore_n 1, 1) := dk_of ((dk_bind (dk_u1 (h 0 _ rfl))).trans rfl)
theorem dk_77 {code : ByteArray} {pc : Nat} (h : DkAt code pc [77]) : decode code pc = .ok (.astore_n 2, 1) := dk_of ((dk_bind (dk_u1 (h 0 _ rfl))).trans rfl)
theorem dk_78 {code : ByteArray} {pc : Nat} (h : DkAt code pc [78]) : decode code pc = .ok (.astore_n 3, 1) := dk_of ((dk_bind (dk_u1 (h 0 _ rfl))).trans rfl)
theorem dk_79 {code : ByteArray} {pc : Nat} (h : DkAt code pc [79]) : decode code pc = .ok (.iastore, 1) := dk_of ((dk_bind (dk_u1 (h 0 _ rfl))).trans rfl)
theorem dk_84 {code : ByteArray} {pc : Nat} (h : DkAt code pc [84]) : decode code pc = .ok (.bastore, 1) := dk_of ((dk_bind (dk_u1 (h 0 _ rfl))).trans rfl)
theorem dk_85 {code : ByteArray} {pc : Nat} (h : DkAt code pc [85]) : decode code pc = .ok (.castore, 1) := dk_of ((dk_bind (dk_u1 (h 0 _ rfl))).trans rfl)
theorem dk_87 {code : ByteArray} {pc : Nat} (h : DkAt code pc [87]) : decode code pc = .ok (.pop, 1) := dk_of ((dk_bind (dk_u1 (h 0 _ rfl))).trans rfl)
theorem dk_89 {code : ByteArray} {pc : Nat} (h : DkAt code pc [89]) : decode code pc = .ok (.dup, 1) := dk_of ((dk_bind (dk_u1 (h 0 _ rfl))).trans rfl)
theorem dk_90 {code : ByteArray} {pc : Nat} (h : DkAt code pc [90]) : decode code pc = .ok (.dup_x1, 1) := dk_of ((dk_bind (dk_u1 (h 0 _ rfl))).trans rfl)
theorem dk_96 {code : ByteArray} {pc : Nat} (h : DkAt code pc [96]) : decode code pc = .ok (.iadd, 1) := dk_of ((dk_bind (dk_u1 (h 0 _ rfl))).trans rfl)
theorem dk_100 {code : ByteArray} {pc : Nat} (h : DkAt code pc [100]) : decode code pc = .ok (.isub, 1) := dk_of ((dk_bind (dk_u1 (h 0 _ rfl))).trans rfl)
theorem dk_104 {code : ByteArray} {pc : Nat} (h : DkAt code pc [104]) : decode code pc = .ok (.imul, 1) := dk_of ((dk_bind (dk_u1 (h 0 _ rfl))).trans rfl)
theorem dk_112 {code : ByteArray} {pc : Nat} (h : DkAt code pc [112]) : decode code pc = .ok (.irem, 1) := dk_of ((dk_bind (dk_u1 (h 0 _ rfl))).trans rfl)
theorem dk_120 {code : ByteArray} {pc : Nat} (h : DkAt code pc [120]) : decode code pc = .ok (.ishl, 1) := dk_of ((dk_bind (dk_u1 (h 0 _ rfl))).trans rfl)
theorem dk_122 {code : ByteArray} {pc : Nat} (h : DkAt code pc [122]) : decode code pc = .ok (.ishr, 1) := dk_of ((dk_bind (dk_u1 (h 0 _ rfl))).trans rfl)
theorem dk_124 {code : ByteArray} {pc : Nat} (h : DkAt code pc [124]) : decode code pc = .ok (.iushr, 1) := dk_of ((dk_bind (dk_u1 (h 0 _ rfl))).trans rfl)
theorem dk_126 {code : ByteArray} {pc : Nat} (h : DkAt code pc [126]) : decode code pc = .ok (.iand, 1) := dk_of ((dk_bind (dk_u1 (h 0 _ rfl))).trans rfl)
theorem dk_128 {code : ByteArray} {pc : Nat} (h : DkAt code pc [128]) : decode code pc = .ok (.ior, 1) := dk_of ((dk_bind (dk_u1 (h 0 _ rfl))).trans rfl)
theorem dk_132 {code : ByteArray} {pc : Nat} (a b : UInt8) (h : DkAt code pc [132, a, b]) : decode code pc = .ok (.iinc a.toNat (Reader.signed 8 b.toNat), 3) := dk_of ((dk_bind (dk_u1 (h 0 _ rfl))).trans ((dk_bind (dk_u1 (h 1 _ rfl))).trans ((dk_bind (dk_map (dk_u1 (h 2 _ rfl)))).trans rfl)))
theorem dk_145 {code : ByteArray} {pc : Nat} (h : DkAt code pc [145]) : decode code pc = .ok (.i2b, 1) := dk_of ((dk_bind (dk_u1 (h 0 _ rfl))).trans rfl)
theorem dk_146 {code : ByteArray} {pc : Nat} (h : DkAt code pc [146]) : decode code pc = .ok (.i2c, 1) := dk_of ((dk_bind (dk_u1 (h 0 _ rfl))).trans rfl)
theorem dk_153 {code : ByteArray} {pc : Nat} (a b : UInt8) (h : DkAt code pc [153, a, b]) : decode code pc = .ok (.ifCond .eq (Reader.signed 16 (a.toNat * 256 + b.toNat)), 3) := dk_of ((dk_bind (dk_u1 (h 0 _ rfl))).trans ((dk_bind (dk_map (dk_u2 (h 1 _ rfl) (h 2 _ rfl)))).trans rfl))
theorem dk_154 {code : ByteArray} {pc : Nat} (a b : UInt8) (h : DkAt code pc [154, a, b]) : decode code pc = .ok (.ifCond .ne (Reader.signed 16 (a.toNat * 256 + b.toNat)), 3) := dk_of ((dk_bind (dk_u1 (h 0 _ rfl))).trans ((dk_bind (dk_map (dk_u2 (h 1 _ rfl) (h 2 _ rfl)))).trans rfl))
theorem dk_155 {code : ByteArray} {pc : Nat} (a b : UInt8) (h : DkAt code pc [155, a, b]) : decode code pc = .ok (.ifCond .lt (Reader.signed 16 (a.toNat * 256 + b.toNat)), 3) := dk_of ((dk_bind (dk_u1 (h 0 _ rfl))).trans ((dk_bind (dk_map (dk_u2 (h 1 _ rfl) (h 2 _ rfl)))).trans rfl))
theorem dk_156 {code : ByteArray} {pc : Nat} (a b : UInt8) (h : DkAt code pc [156, a, b]) : decode code pc = .ok (.ifCond .ge (Reader.signed 16 (a.toNat * 256 + b.toNat)), 3) := dk_of ((dk_bind (dk_u1 (h 0 _ rfl))).trans ((dk_bind (dk_map (dk_u2 (h 1 _ rfl) (h 2 _ rfl)))).trans rfl))
theorem dk_158 {code : ByteArray} {pc : Nat} (a b : UInt8) (h : DkAt code pc [158, a, b]) : decode code pc = .ok (.ifCond .le (Reader.signed 16 (a.toNat * 256 + b.toNat)), 3) := dk_of ((dk_bind (dk_u1 (h 0 _ rfl))).trans ((dk_bind (dk_map (dk_u2 (h 1 _ rfl) (h 2 _ rfl)))).trans rfl))
theorem dk_159 {code : ByteArray} {pc : Nat} (a b : UInt8) (h : DkAt code pc [159, a, b]) : decode code pc = .ok (.if_icmp .eq (Reader.signed 16 (a.toNat * 256 + b.toNat)), 3) := dk_of ((dk_bind (dk_u1 (h 0 _ rfl))).trans ((dk_bind (dk_map (dk_u2 (h 1 _ rfl) (h 2 _ rfl)))).trans rfl))
theorem dk_160 {code : ByteArray} {pc : Nat} (a b : UInt8) (h : DkAt code pc [160, a, b]) : decode code pc = .ok (.if_icmp .ne (Reader.signed 16 (a.toNat * 256 + b.toNat)), 3) := dk_of ((dk_bind (dk_u1 (h 0 _ rfl))).trans ((dk_bind (dk_map (dk_u2 (h 1 _ rfl) (h 2 _ rfl)))).trans rfl))
theorem dk_161 {code : ByteArray} {pc : Nat} (a b : UInt8) (h : DkAt code pc [161, a, b]) : decode code pc = .ok (.if_icmp .lt (Reader.signed 16 (a.toNat * 256 + b.toNat)), 3) := dk_of ((dk_bind (dk_u1 (h 0 _ rfl))).trans ((dk_bind (dk_map (dk_u2 (h 1 _ rfl) (h 2 _ rfl)))).trans rfl))
theorem dk_162 {code : ByteArray} {pc : Nat} (a b : UInt8) (h : DkAt code pc [162, a, b]) : decode code pc = .ok (.if_icmp .ge (Reader.signed 16 (a.toNat * 256 + b.toNat)), 3) := dk_of ((dk_bind (dk_u1 (h 0 _ rfl))).trans ((dk_bind (dk_map (dk_u2 (h 1 _ rfl) (h 2 _ rfl)))).trans rfl))
theorem dk_163 {code : ByteArray} {pc : Nat} (a b : UInt8) (h : DkAt code pc [163, a, b]) : decode code pc = .ok (.if_icmp .gt (Reader.signed 16 (a.toNat * 256 + b.toNat)), 3) := dk_of ((dk_bind (dk_u1 (h 0 _ rfl))).trans ((dk_bind (dk_map (dk_u2 (h 1 _ rfl) (h 2 _ rfl)))).trans rfl))
theorem dk_164 {code : ByteArray} {pc : Nat} (a b : UInt8) (h : DkAt code pc [164, a, b]) : decode code pc = .ok (.if_icmp .le (Reader.signed 16 (a.toNat * 256 + b.toNat)), 3) := dk_of ((dk_bind (dk_u1 (h 0 _ rfl))).trans ((dk_bind (dk_map (dk_u2 (h 1 _ rfl) (h 2 _ rfl)))).trans rfl))
theorem dk_167 {code : ByteArray} {pc : Nat} (a b : UInt8) (h : DkAt code pc [167, a, b]) : decode code pc = .ok (.goto (Reader.signed 16 (a.toNat * 256 + b.toNat)), 3) := dk_of ((dk_bind (dk_u1 (h 0 _ rfl))).trans ((dk_bind (dk_map (dk_u2 (h 1 _ rfl) (h 2 _ rfl)))).trans rfl))
theorem dk_172 {code : ByteArray} {pc : Nat} (h : DkAt code pc [172]) : decode code pc = .ok (.ireturn, 1) := dk_of ((dk_bind (dk_u1 (h 0 _ rfl))).trans rfl)
theorem dk_176 {code : ByteArray} {pc : Nat} (h : DkAt code pc [176]) : decode code pc = .ok (.areturn, 1) := dk_of ((dk_bind (dk_u1 (h 0 _ rfl))).trans rfl)
theorem dk_177 {code : ByteArray} {pc : Nat} (h : DkAt code pc [177]) : decode code pc = .ok (.return_, 1) := dk_of ((dk_bind (dk_u1 (h 0 _ rfl))).trans rfl)
theorem dk_178 {code : ByteArray} {pc : Nat} (a b : UInt8) (h : DkAt code pc [178, a, b]) : decode code pc = .ok (.getstatic (a.toNat * 256 + b.toNat), 3) := dk_of ((dk_bind (dk_u1 (h 0 _ rfl))).trans ((dk_bind (dk_u2 (h 1 _ rfl) (h 2 _ rfl))).trans rfl))
theorem dk_180 {code : ByteArray} {pc : Nat} (a b : UInt8) (h : DkAt code pc [180, a, b]) : decode code pc = .ok (.getfield (a.toNat * 256 + b.toNat), 3) := dk_of ((dk_bind (dk_u1 (h 0 _ rfl))).trans ((dk_bind (dk_u2 (h 1 _ rfl) (h 2 _ rfl))).trans rfl))
theorem dk_181 {code : ByteArray} {pc : Nat} (a b : UInt8) (h : DkAt code pc [181, a, b]) : decode code pc = .ok (.putfield (a.toNat * 256 + b.toNat), 3) := dk_of ((dk_bind (dk_u1 (h 0 _ rfl))).trans ((dk_bind (dk_u2 (h 1 _ rfl) (h 2 _ rfl))).trans rfl))
theorem dk_182 {code : ByteArray} {pc : Nat} (a b : UInt8) (h : DkAt code pc [182, a, b]) : decode code pc = .ok (.invokevirtual (a.toNat * 256 + b.toNat), 3) := dk_of ((dk_bind (dk_u1 (h 0 _ rfl))).trans ((dk_bind (dk_u2 (h 1 _ rfl) (h 2 _ rfl))).trans rfl))
theorem dk_183 {code : ByteArray} {pc : Nat} (a b : UInt8) (h : DkAt code pc [183, a, b]) : decode code pc = .ok (.invokespecial (a.toNat * 256 + b.toNat), 3) := dk_of ((dk_bind (dk_u1 (h 0 _ rfl))).trans ((dk_bind (dk_u2 (h 1 _ rfl) (h 2 _ rfl))).trans rfl))
theorem dk_184 {code : ByteArray} {pc : Nat} (a b : UInt8) (h : DkAt code pc [184, a, b]) : decode code pc = .ok (.invokestatic (a.toNat * 256 + b.toNat), 3) := dk_of ((dk_bind (dk_u1 (h 0 _ rfl))).trans ((dk_bind (dk_u2 (h 1 _ rfl) (h 2 _ rfl))).trans rfl))
theorem dk_187 {code : ByteArray} {pc : Nat} (a b : UInt8) (h : DkAt code pc [187, a, b]) : decode code pc = .ok (.new (a.toNat * 256 + b.toNat), 3) := dk_of ((dk_bind (dk_u1 (h 0 _ rfl))).trans ((dk_bind (dk_u2 (h 1 _ rfl) (h 2 _ rfl))).trans rfl))
theorem dk_188_5 {code : ByteArray} {pc : Nat} (h : DkAt code pc [188, 5]) : decode code pc = .ok (.newarray .char, 2) := dk_of ((dk_bind (dk_u1 (h 0 _ rfl))).trans ((dk_bind (dk_u1 (h 1 _ rfl))).trans rfl))
theorem dk_188_8 {code : ByteArray} {pc : Nat} (h : DkAt code pc [188, 8]) : decode code pc = .ok (.newarray .byte, 2) := dk_of ((dk_bind (dk_u1 (h 0 _ rfl))).trans ((dk_bind (dk_u1 (h 1 _ rfl))).trans rfl))
theorem dk_188_10 {code : ByteArray} {pc : Nat} (h : DkAt code pc [188, 10]) : decode code pc = .ok (.newarray .int, 2) := dk_of ((dk_bind (dk_u1 (h 0 _ rfl))).trans ((dk_bind (dk_u1 (h 1 _ rfl))).trans rfl))
theorem dk_190 {code : ByteArray} {pc : Nat} (h : DkAt code pc [190]) : decode code pc = .ok (.arraylength, 1) := dk_of ((dk_bind (dk_u1 (h 0 _ rfl))).trans rfl)
theorem dk_191 {code : ByteArray} {pc : Nat} (h : DkAt code pc [191]) : decode code pc = .ok (.athrow, 1) := dk_of ((dk_bind (dk_u1 (h 0 _ rfl))).trans rfl)
theorem dk_192 {code : ByteArray} {pc : Nat} (a b : UInt8) (h : DkAt code pc [192, a, b]) : decode code pc = .ok (.checkcast (a.toNat * 256 + b.toNat), 3) := dk_of ((dk_bind (dk_u1 (h 0 _ rfl))).trans ((dk_bind (dk_u2 (h 1 _ rfl) (h 2 _ rfl))).trans rfl))
end
section
/-! java/lang/String -/
set_option maxRecDepth 100000
def RJ0 : String := "java/lang/String"
def TJ0 : u_T := fun k => match k with
  | 0 => ("java/lang/String", "value", "[B", true)
  | 1 => ("java/lang/String", "coder", "B", true)
  | 2 => ("java/lang/String", "hash", "I", false)
  | _ => ("java/lang/String", "hashIsZero", "Z", false)
def tyJ0 : Nat → FieldType := fun k => match k with
  | 0 => .array .byte
  | 1 => .byte
  | 2 => .int
  | _ => .boolean
abbrev wsJ00 : List Cond := u_ws RJ0 TJ0 4
theorem nmJ0 : ∀ a, a < 4 → ∀ b, b < 4 → a ≠ b → (TJ0 a).2.1 ≠ (TJ0 b).2.1 := by decide +kernel
theorem tyJ0_ok : ∀ k, k < 4 → parseFieldDescriptor (TJ0 k).2.2.1 = some (tyJ0 k) := by decide +kernel
abbrev cJ0_length : ByteArray := prog_12_method_54_code
def yJ0_length : MethodName := ⟨RJ0, "length", "()I"⟩
def dkwJ0_length_0 : List UInt8 := [42, 180, 0, 9, 190, 42, 182, 1, 79, 122, 172]
abbrev dktJ0_length_0 : List UInt8 := dkwJ0_length_0 ++ []
theorem dksJ0_length_0 : cJ0_length.data.toList.drop 0 = dktJ0_length_0 := by decide +kernel
theorem dJ0_length_0 : decode cJ0_length 0 = .ok (.aload_n 0, 1) := dk_42 (dk_at dksJ0_length_0 0 rfl rfl)
theorem dJ0_length_1 : decode cJ0_length 1 = .ok (.getfield 9, 3) := dk_180 0 9 (dk_at dksJ0_length_0 1 rfl rfl)
theorem dJ0_length_4 : decode cJ0_length 4 = .ok (.arraylength, 1) := dk_190 (dk_at dksJ0_length_0 4 rfl rfl)
theorem dJ0_length_5 : decode cJ0_length 5 = .ok (.aload_n 0, 1) := dk_42 (dk_at dksJ0_length_0 5 rfl rfl)
theorem dJ0_length_6 : decode cJ0_length 6 = .ok (.invokevirtual 335, 3) := dk_182 1 79 (dk_at dksJ0_length_0 6 rfl rfl)
theorem dJ0_length_9 : decode cJ0_length 9 = .ok (.ishr, 1) := dk_122 (dk_at dksJ0_length_0 9 rfl rfl)
theorem dJ0_length_10 : decode cJ0_length 10 = .ok (.ireturn, 1) := dk_172 (dk_at dksJ0_length_0 10 rfl rfl)
abbrev cJ0_coder : ByteArray := prog_12_method_152_code
def yJ0_coder : MethodName := ⟨RJ0, "coder", "()B"⟩
def dkwJ0_coder_0 : List UInt8 := [178, 0, 38, 153, 0, 10, 42, 180, 0, 15, 167, 0, 4, 4, 172]
abbrev dktJ0_coder_0 : List UInt8 := dkwJ0_coder_0 ++ []
theorem dksJ0_coder_0 : cJ0_coder.data.toList.drop 0 = dktJ0_coder_0 := by decide +kernel
theorem dJ0_coder_0 : decode cJ0_coder 0 = .ok (.getstatic 38, 3) := dk_178 0 38 (dk_at dksJ0_coder_0 0 rfl rfl)
theorem dJ0_coder_3 : decode cJ0_coder 3 = .ok (.ifCond .eq 10, 3) := dk_153 0 10 (dk_at dksJ0_coder_0 3 rfl rfl)
theorem dJ0_coder_6 : decode cJ0_coder 6 = .ok (.aload_n 0, 1) := dk_42 (dk_at dksJ0_coder_0 6 rfl rfl)
theorem dJ0_coder_7 : decode cJ0_coder 7 = .ok (.getfield 15, 3) := dk_180 0 15 (dk_at dksJ0_coder_0 7 rfl rfl)
theorem dJ0_coder_10 : decode cJ0_coder 10 = .ok (.goto 4, 3) := dk_167 0 4 (dk_at dksJ0_coder_0 10 rfl rfl)
theorem dJ0_coder_13 : decode cJ0_coder 13 = .ok (.iconst 1, 1) := dk_4 (dk_at dksJ0_coder_0 13 rfl rfl)
theorem dJ0_coder_14 : decode cJ0_coder 14 = .ok (.ireturn, 1) := dk_172 (dk_at dksJ0_coder_0 14 rfl rfl)
abbrev cJ0_charAt : ByteArray := prog_12_method_56_code
def yJ0_charAt : MethodName := ⟨RJ0, "charAt", "(I)C"⟩
def dkwJ0_charAt_1 : List UInt8 := [172]
abbrev dktJ0_charAt_1 : List UInt8 := dkwJ0_charAt_1 ++ []
def dkwJ0_charAt_0 : List UInt8 := [42, 182, 1, 236, 153, 0, 12, 42, 180, 0, 9, 27, 184, 1, 239, 172, 42, 180, 0, 9, 27, 184, 1, 242]
abbrev dktJ0_charAt_0 : List UInt8 := dkwJ0_charAt_0 ++ dktJ0_charAt_1
theorem dksJ0_charAt_0 : cJ0_charAt.data.toList.drop 0 = dktJ0_charAt_0 := by decide +kernel
theorem dksJ0_charAt_1 : cJ0_charAt.data.toList.drop 24 = dktJ0_charAt_1 := dk_seg dksJ0_charAt_0 24 rfl rfl
theorem dJ0_charAt_0 : decode cJ0_charAt 0 = .ok (.aload_n 0, 1) := dk_42 (dk_at dksJ0_charAt_0 0 rfl rfl)
theorem dJ0_charAt_1 : decode cJ0_charAt 1 = .ok (.invokevirtual 492, 3) := dk_182 1 236 (dk_at dksJ0_charAt_0 1 rfl rfl)
theorem dJ0_charAt_4 : decode cJ0_charAt 4 = .ok (.ifCond .eq 12, 3) := dk_153 0 12 (dk_at dksJ0_charAt_0 4 rfl rfl)
theorem dJ0_charAt_7 : decode cJ0_charAt 7 = .ok (.aload_n 0, 1) := dk_42 (dk_at dksJ0_charAt_0 7 rfl rfl)
theorem dJ0_charAt_8 : decode cJ0_charAt 8 = .ok (.getfield 9, 3) := dk_180 0 9 (dk_at dksJ0_charAt_0 8 rfl rfl)
theorem dJ0_charAt_11 : decode cJ0_charAt 11 = .ok (.iload_n 1, 1) := dk_27 (dk_at dksJ0_charAt_0 11 rfl rfl)
theorem dJ0_charAt_12 : decode cJ0_charAt 12 = .ok (.invokestatic 495, 3) := dk_184 1 239 (dk_at dksJ0_charAt_0 12 rfl rfl)
theorem dJ0_charAt_15 : decode cJ0_charAt 15 = .ok (.ireturn, 1) := dk_172 (dk_at dksJ0_charAt_0 15 rfl rfl)
theorem dJ0_charAt_16 : decode cJ0_charAt 16 = .ok (.aload_n 0, 1) := dk_42 (dk_at dksJ0_charAt_0 16 rfl rfl)
theorem dJ0_charAt_17 : decode cJ0_charAt 17 = .ok (.getfield 9, 3) := dk_180 0 9 (dk_at dksJ0_charAt_0 17 rfl rfl)
theorem dJ0_charAt_20 : decode cJ0_charAt 20 = .ok (.iload_n 1, 1) := dk_27 (dk_at dksJ0_charAt_0 20 rfl rfl)
theorem dJ0_charAt_21 : decode cJ0_charAt 21 = .ok (.invokestatic 498, 3) := dk_184 1 242 (dk_at dksJ0_charAt_0 21 rfl rfl)
theorem dJ0_charAt_24 : decode cJ0_charAt 24 = .ok (.ireturn, 1) := dk_172 (dk_at dksJ0_charAt_1 0 rfl rfl)
abbrev cJ0_isLatin1 : ByteArray := prog_12_method_154_code
def yJ0_isLatin1 : MethodName := ⟨RJ0, "isLatin1", "()Z"⟩
def dkwJ0_isLatin1_0 : List UInt8 := [178, 0, 38, 153, 0, 14, 42, 180, 0, 15, 154, 0, 7, 4, 167, 0, 4, 3, 172]
abbrev dktJ0_isLatin1_0 : List UInt8 := dkwJ0_isLatin1_0 ++ []
theorem dksJ0_isLatin1_0 : cJ0_isLatin1.data.toList.drop 0 = dktJ0_isLatin1_0 := by decide +kernel
theorem dJ0_isLatin1_0 : decode cJ0_isLatin1 0 = .ok (.getstatic 38, 3) := dk_178 0 38 (dk_at dksJ0_isLatin1_0 0 rfl rfl)
theorem dJ0_isLatin1_3 : decode cJ0_isLatin1 3 = .ok (.ifCond .eq 14, 3) := dk_153 0 14 (dk_at dksJ0_isLatin1_0 3 rfl rfl)
theorem dJ0_isLatin1_6 : decode cJ0_isLatin1 6 = .ok (.aload_n 0, 1) := dk_42 (dk_at dksJ0_isLatin1_0 6 rfl rfl)
theorem dJ0_isLatin1_7 : decode cJ0_isLatin1 7 = .ok (.getfield 15, 3) := dk_180 0 15 (dk_at dksJ0_isLatin1_0 7 rfl rfl)
theorem dJ0_isLatin1_10 : decode cJ0_isLatin1 10 = .ok (.ifCond .ne 7, 3) := dk_154 0 7 (dk_at dksJ0_isLatin1_0 10 rfl rfl)
theorem dJ0_isLatin1_13 : decode cJ0_isLatin1 13 = .ok (.iconst 1, 1) := dk_4 (dk_at dksJ0_isLatin1_0 13 rfl rfl)
theorem dJ0_isLatin1_14 : decode cJ0_isLatin1 14 = .ok (.goto 4, 3) := dk_167 0 4 (dk_at dksJ0_isLatin1_0 14 rfl rfl)
theorem dJ0_isLatin1_17 : decode cJ0_isLatin1 17 = .ok (.iconst 0, 1) := dk_3 (dk_at dksJ0_isLatin1_0 17 rfl rfl)
theorem dJ0_isLatin1_18 : decode cJ0_isLatin1 18 = .ok (.ireturn, 1) := dk_172 (dk_at dksJ0_isLatin1_0 18 rfl rfl)
abbrev cJ0_checkIndex : ByteArray := prog_12_method_155_code
def yJ0_checkIndex : MethodName := ⟨RJ0, "checkIndex", "(II)V"⟩
def dkwJ0_checkIndex_0 : List UInt8 := [26, 27, 178, 4, 29, 184, 4, 35, 87, 177]
abbrev dktJ0_checkIndex_0 : List UInt8 := dkwJ0_checkIndex_0 ++ []
theorem dksJ0_checkIndex_0 : cJ0_checkIndex.data.toList.drop 0 = dktJ0_checkIndex_0 := by decide +kernel
theorem dJ0_checkIndex_0 : decode cJ0_checkIndex 0 = .ok (.iload_n 0, 1) := dk_26 (dk_at dksJ0_checkIndex_0 0 rfl rfl)
theorem dJ0_checkIndex_1 : decode cJ0_checkIndex 1 = .ok (.iload_n 1, 1) := dk_27 (dk_at dksJ0_checkIndex_0 1 rfl rfl)
theorem dJ0_checkIndex_2 : decode cJ0_checkIndex 2 = .ok (.getstatic 1053, 3) := dk_178 4 29 (dk_at dksJ0_checkIndex_0 2 rfl rfl)
theorem dJ0_checkIndex_5 : decode cJ0_checkIndex 5 = .ok (.invokestatic 1059, 3) := dk_184 4 35 (dk_at dksJ0_checkIndex_0 5 rfl rfl)
theorem dJ0_checkIndex_8 : decode cJ0_checkIndex 8 = .ok (.pop, 1) := dk_87 (dk_at dksJ0_checkIndex_0 8 rfl rfl)
theorem dJ0_checkIndex_9 : decode cJ0_checkIndex 9 = .ok (.return_, 1) := dk_177 (dk_at dksJ0_checkIndex_0 9 rfl rfl)
abbrev cJ0_init : ByteArray := prog_12_method_4_code
def yJ0_init : MethodName := ⟨RJ0, "<init>", "([CII)V"⟩
def dkwJ0_init_0 : List UInt8 := [42, 43, 28, 29, 43, 28, 29, 184, 0, 30, 183, 0, 27, 177]
abbrev dktJ0_init_0 : List UInt8 := dkwJ0_init_0 ++ []
theorem dksJ0_init_0 : cJ0_init.data.toList.drop 0 = dktJ0_init_0 := by decide +kernel
theorem dJ0_init_0 : decode cJ0_init 0 = .ok (.aload_n 0, 1) := dk_42 (dk_at dksJ0_init_0 0 rfl rfl)
theorem dJ0_init_1 : decode cJ0_init 1 = .ok (.aload_n 1, 1) := dk_43 (dk_at dksJ0_init_0 1 rfl rfl)
theorem dJ0_init_2 : decode cJ0_init 2 = .ok (.iload_n 2, 1) := dk_28 (dk_at dksJ0_init_0 2 rfl rfl)
theorem dJ0_init_3 : decode cJ0_init 3 = .ok (.iload_n 3, 1) := dk_29 (dk_at dksJ0_init_0 3 rfl rfl)
theorem dJ0_init_4 : decode cJ0_init 4 = .ok (.aload_n 1, 1) := dk_43 (dk_at dksJ0_init_0 4 rfl rfl)
theorem dJ0_init_5 : decode cJ0_init 5 = .ok (.iload_n 2, 1) := dk_28 (dk_at dksJ0_init_0 5 rfl rfl)
theorem dJ0_init_6 : decode cJ0_init 6 = .ok (.iload_n 3, 1) := dk_29 (dk_at dksJ0_init_0 6 rfl rfl)
theorem dJ0_init_7 : decode cJ0_init 7 = .ok (.invokestatic 30, 3) := dk_184 0 30 (dk_at dksJ0_init_0 7 rfl rfl)
theorem dJ0_init_10 : decode cJ0_init 10 = .ok (.invokespecial 27, 3) := dk_183 0 27 (dk_at dksJ0_init_0 10 rfl rfl)
theorem dJ0_init_13 : decode cJ0_init 13 = .ok (.return_, 1) := dk_177 (dk_at dksJ0_init_0 13 rfl rfl)
abbrev cJ0_rangeCheck : ByteArray := prog_12_method_5_code
def yJ0_rangeCheck : MethodName := ⟨RJ0, "rangeCheck", "([CII)Ljava/lang/Void;"⟩
def dkwJ0_rangeCheck_0 : List UInt8 := [27, 28, 42, 190, 184, 0, 34, 87, 1, 176]
abbrev dktJ0_rangeCheck_0 : List UInt8 := dkwJ0_rangeCheck_0 ++ []
theorem dksJ0_rangeCheck_0 : cJ0_rangeCheck.data.toList.drop 0 = dktJ0_rangeCheck_0 := by decide +kernel
theorem dJ0_rangeCheck_0 : decode cJ0_rangeCheck 0 = .ok (.iload_n 1, 1) := dk_27 (dk_at dksJ0_rangeCheck_0 0 rfl rfl)
theorem dJ0_rangeCheck_1 : decode cJ0_rangeCheck 1 = .ok (.iload_n 2, 1) := dk_28 (dk_at dksJ0_rangeCheck_0 1 rfl rfl)
theorem dJ0_rangeCheck_2 : decode cJ0_rangeCheck 2 = .ok (.aload_n 0, 1) := dk_42 (dk_at dksJ0_rangeCheck_0 2 rfl rfl)
theorem dJ0_rangeCheck_3 : decode cJ0_rangeCheck 3 = .ok (.arraylength, 1) := dk_190 (dk_at dksJ0_rangeCheck_0 3 rfl rfl)
theorem dJ0_rangeCheck_4 : decode cJ0_rangeCheck 4 = .ok (.invokestatic 34, 3) := dk_184 0 34 (dk_at dksJ0_rangeCheck_0 4 rfl rfl)
theorem dJ0_rangeCheck_7 : decode cJ0_rangeCheck 7 = .ok (.pop, 1) := dk_87 (dk_at dksJ0_rangeCheck_0 7 rfl rfl)
theorem dJ0_rangeCheck_8 : decode cJ0_rangeCheck 8 = .ok (.aconst_null, 1) := dk_1 (dk_at dksJ0_rangeCheck_0 8 rfl rfl)
theorem dJ0_rangeCheck_9 : decode cJ0_rangeCheck 9 = .ok (.areturn, 1) := dk_176 (dk_at dksJ0_rangeCheck_0 9 rfl rfl)
abbrev cJ0_checkBoundsOffCount : ByteArray := prog_12_method_157_code
def yJ0_checkBoundsOffCount : MethodName := ⟨RJ0, "checkBoundsOffCount", "(III)I"⟩
def dkwJ0_checkBoundsOffCount_0 : List UInt8 := [26, 27, 28, 178, 4, 29, 184, 4, 41, 172]
abbrev dktJ0_checkBoundsOffCount_0 : List UInt8 := dkwJ0_checkBoundsOffCount_0 ++ []
theorem dksJ0_checkBoundsOffCount_0 : cJ0_checkBoundsOffCount.data.toList.drop 0 = dktJ0_checkBoundsOffCount_0 := by decide +kernel
theorem dJ0_checkBoundsOffCount_0 : decode cJ0_checkBoundsOffCount 0 = .ok (.iload_n 0, 1) := dk_26 (dk_at dksJ0_checkBoundsOffCount_0 0 rfl rfl)
theorem dJ0_checkBoundsOffCount_1 : decode cJ0_checkBoundsOffCount 1 = .ok (.iload_n 1, 1) := dk_27 (dk_at dksJ0_checkBoundsOffCount_0 1 rfl rfl)
theorem dJ0_checkBoundsOffCount_2 : decode cJ0_checkBoundsOffCount 2 = .ok (.iload_n 2, 1) := dk_28 (dk_at dksJ0_checkBoundsOffCount_0 2 rfl rfl)
theorem dJ0_checkBoundsOffCount_3 : decode cJ0_checkBoundsOffCount 3 = .ok (.getstatic 1053, 3) := dk_178 4 29 (dk_at dksJ0_checkBoundsOffCount_0 3 rfl rfl)
theorem dJ0_checkBoundsOffCount_6 : decode cJ0_checkBoundsOffCount 6 = .ok (.invokestatic 1065, 3) := dk_184 4 41 (dk_at dksJ0_checkBoundsOffCount_0 6 rfl rfl)
theorem dJ0_checkBoundsOffCount_9 : decode cJ0_checkBoundsOffCount 9 = .ok (.ireturn, 1) := dk_172 (dk_at dksJ0_checkBoundsOffCount_0 9 rfl rfl)
abbrev cJ0_init_2 : ByteArray := prog_12_method_149_code
def yJ0_init_2 : MethodName := ⟨RJ0, "<init>", "([CIILjava/lang/Void;)V"⟩
def dkwJ0_init_2_3 : List UInt8 := [184, 0, 180, 181, 0, 9, 177]
abbrev dktJ0_init_2_3 : List UInt8 := dkwJ0_init_2_3 ++ []
def dkwJ0_init_2_2 : List UInt8 := [184, 0, 47, 181, 0, 15, 42, 25, 5, 181, 0, 9, 177, 42, 4, 181, 0, 15, 42, 43, 28, 29]
abbrev dktJ0_init_2_2 : List UInt8 := dkwJ0_init_2_2 ++ dktJ0_init_2_3
def dkwJ0_init_2_1 : List UInt8 := [181, 0, 15, 177, 178, 0, 38, 153, 0, 28, 43, 28, 29, 184, 0, 177, 58, 5, 42, 25, 5, 29]
abbrev dktJ0_init_2_1 : List UInt8 := dkwJ0_init_2_1 ++ dktJ0_init_2_2
def dkwJ0_init_2_0 : List UInt8 := [42, 183, 0, 1, 29, 154, 0, 22, 42, 18, 7, 180, 0, 9, 181, 0, 9, 42, 18, 7, 180, 0, 15]
abbrev dktJ0_init_2_0 : List UInt8 := dkwJ0_init_2_0 ++ dktJ0_init_2_1
theorem dksJ0_init_2_0 : cJ0_init_2.data.toList.drop 0 = dktJ0_init_2_0 := by decide +kernel
theorem dksJ0_init_2_1 : cJ0_init_2.data.toList.drop 23 = dktJ0_init_2_1 := dk_seg dksJ0_init_2_0 23 rfl rfl
theorem dksJ0_init_2_2 : cJ0_init_2.data.toList.drop 45 = dktJ0_init_2_2 := dk_seg dksJ0_init_2_1 22 rfl rfl
theorem dksJ0_init_2_3 : cJ0_init_2.data.toList.drop 67 = dktJ0_init_2_3 := dk_seg dksJ0_init_2_2 22 rfl rfl
theorem dJ0_init_2_0 : decode cJ0_init_2 0 = .ok (.aload_n 0, 1) := dk_42 (dk_at dksJ0_init_2_0 0 rfl rfl)
theorem dJ0_init_2_1 : decode cJ0_init_2 1 = .ok (.invokespecial 1, 3) := dk_183 0 1 (dk_at dksJ0_init_2_0 1 rfl rfl)
theorem dJ0_init_2_4 : decode cJ0_init_2 4 = .ok (.iload_n 3, 1) := dk_29 (dk_at dksJ0_init_2_0 4 rfl rfl)
theorem dJ0_init_2_5 : decode cJ0_init_2 5 = .ok (.ifCond .ne 22, 3) := dk_154 0 22 (dk_at dksJ0_init_2_0 5 rfl rfl)
theorem dJ0_init_2_8 : decode cJ0_init_2 8 = .ok (.aload_n 0, 1) := dk_42 (dk_at dksJ0_init_2_0 8 rfl rfl)
theorem dJ0_init_2_9 : decode cJ0_init_2 9 = .ok (.ldc 7, 2) := dk_18 7 (dk_at dksJ0_init_2_0 9 rfl rfl)
theorem dJ0_init_2_11 : decode cJ0_init_2 11 = .ok (.getfield 9, 3) := dk_180 0 9 (dk_at dksJ0_init_2_0 11 rfl rfl)
theorem dJ0_init_2_14 : decode cJ0_init_2 14 = .ok (.putfield 9, 3) := dk_181 0 9 (dk_at dksJ0_init_2_0 14 rfl rfl)
theorem dJ0_init_2_17 : decode cJ0_init_2 17 = .ok (.aload_n 0, 1) := dk_42 (dk_at dksJ0_init_2_0 17 rfl rfl)
theorem dJ0_init_2_18 : decode cJ0_init_2 18 = .ok (.ldc 7, 2) := dk_18 7 (dk_at dksJ0_init_2_0 18 rfl rfl)
theorem dJ0_init_2_20 : decode cJ0_init_2 20 = .ok (.getfield 15, 3) := dk_180 0 15 (dk_at dksJ0_init_2_0 20 rfl rfl)
theorem dJ0_init_2_23 : decode cJ0_init_2 23 = .ok (.putfield 15, 3) := dk_181 0 15 (dk_at dksJ0_init_2_1 0 rfl rfl)
theorem dJ0_init_2_26 : decode cJ0_init_2 26 = .ok (.return_, 1) := dk_177 (dk_at dksJ0_init_2_1 3 rfl rfl)
theorem dJ0_init_2_27 : decode cJ0_init_2 27 = .ok (.getstatic 38, 3) := dk_178 0 38 (dk_at dksJ0_init_2_1 4 rfl rfl)
theorem dJ0_init_2_30 : decode cJ0_init_2 30 = .ok (.ifCond .eq 28, 3) := dk_153 0 28 (dk_at dksJ0_init_2_1 7 rfl rfl)
theorem dJ0_init_2_33 : decode cJ0_init_2 33 = .ok (.aload_n 1, 1) := dk_43 (dk_at dksJ0_init_2_1 10 rfl rfl)
theorem dJ0_init_2_34 : decode cJ0_init_2 34 = .ok (.iload_n 2, 1) := dk_28 (dk_at dksJ0_init_2_1 11 rfl rfl)
theorem dJ0_init_2_35 : decode cJ0_init_2 35 = .ok (.iload_n 3, 1) := dk_29 (dk_at dksJ0_init_2_1 12 rfl rfl)
theorem dJ0_init_2_36 : decode cJ0_init_2 36 = .ok (.invokestatic 177, 3) := dk_184 0 177 (dk_at dksJ0_init_2_1 13 rfl rfl)
theorem dJ0_init_2_39 : decode cJ0_init_2 39 = .ok (.astore 5, 2) := dk_58 5 (dk_at dksJ0_init_2_1 16 rfl rfl)
theorem dJ0_init_2_41 : decode cJ0_init_2 41 = .ok (.aload_n 0, 1) := dk_42 (dk_at dksJ0_init_2_1 18 rfl rfl)
theorem dJ0_init_2_42 : decode cJ0_init_2 42 = .ok (.aload 5, 2) := dk_25 5 (dk_at dksJ0_init_2_1 19 rfl rfl)
theorem dJ0_init_2_44 : decode cJ0_init_2 44 = .ok (.iload_n 3, 1) := dk_29 (dk_at dksJ0_init_2_1 21 rfl rfl)
theorem dJ0_init_2_45 : decode cJ0_init_2 45 = .ok (.invokestatic 47, 3) := dk_184 0 47 (dk_at dksJ0_init_2_2 0 rfl rfl)
theorem dJ0_init_2_48 : decode cJ0_init_2 48 = .ok (.putfield 15, 3) := dk_181 0 15 (dk_at dksJ0_init_2_2 3 rfl rfl)
theorem dJ0_init_2_51 : decode cJ0_init_2 51 = .ok (.aload_n 0, 1) := dk_42 (dk_at dksJ0_init_2_2 6 rfl rfl)
theorem dJ0_init_2_52 : decode cJ0_init_2 52 = .ok (.aload 5, 2) := dk_25 5 (dk_at dksJ0_init_2_2 7 rfl rfl)
theorem dJ0_init_2_54 : decode cJ0_init_2 54 = .ok (.putfield 9, 3) := dk_181 0 9 (dk_at dksJ0_init_2_2 9 rfl rfl)
theorem dJ0_init_2_57 : decode cJ0_init_2 57 = .ok (.return_, 1) := dk_177 (dk_at dksJ0_init_2_2 12 rfl rfl)
theorem dJ0_init_2_58 : decode cJ0_init_2 58 = .ok (.aload_n 0, 1) := dk_42 (dk_at dksJ0_init_2_2 13 rfl rfl)
theorem dJ0_init_2_59 : decode cJ0_init_2 59 = .ok (.iconst 1, 1) := dk_4 (dk_at dksJ0_init_2_2 14 rfl rfl)
theorem dJ0_init_2_60 : decode cJ0_init_2 60 = .ok (.putfield 15, 3) := dk_181 0 15 (dk_at dksJ0_init_2_2 15 rfl rfl)
theorem dJ0_init_2_63 : decode cJ0_init_2 63 = .ok (.aload_n 0, 1) := dk_42 (dk_at dksJ0_init_2_2 18 rfl rfl)
theorem dJ0_init_2_64 : decode cJ0_init_2 64 = .ok (.aload_n 1, 1) := dk_43 (dk_at dksJ0_init_2_2 19 rfl rfl)
theorem dJ0_init_2_65 : decode cJ0_init_2 65 = .ok (.iload_n 2, 1) := dk_28 (dk_at dksJ0_init_2_2 20 rfl rfl)
theorem dJ0_init_2_66 : decode cJ0_init_2 66 = .ok (.iload_n 3, 1) := dk_29 (dk_at dksJ0_init_2_2 21 rfl rfl)
theorem dJ0_init_2_67 : decode cJ0_init_2 67 = .ok (.invokestatic 180, 3) := dk_184 0 180 (dk_at dksJ0_init_2_3 0 rfl rfl)
theorem dJ0_init_2_70 : decode cJ0_init_2 70 = .ok (.putfield 9, 3) := dk_181 0 9 (dk_at dksJ0_init_2_3 3 rfl rfl)
theorem dJ0_init_2_73 : decode cJ0_init_2 73 = .ok (.return_, 1) := dk_177 (dk_at dksJ0_init_2_3 6 rfl rfl)
abbrev cJ0_init_3 : ByteArray := prog_12_method_53_code
def yJ0_init_3 : MethodName := ⟨RJ0, "<init>", "(Ljava/lang/StringBuilder;)V"⟩
def dkwJ0_init_3_0 : List UInt8 := [42, 43, 1, 183, 1, 233, 177]
abbrev dktJ0_init_3_0 : List UInt8 := dkwJ0_init_3_0 ++ []
theorem dksJ0_init_3_0 : cJ0_init_3.data.toList.drop 0 = dktJ0_init_3_0 := by decide +kernel
theorem dJ0_init_3_0 : decode cJ0_init_3 0 = .ok (.aload_n 0, 1) := dk_42 (dk_at dksJ0_init_3_0 0 rfl rfl)
theorem dJ0_init_3_1 : decode cJ0_init_3 1 = .ok (.aload_n 1, 1) := dk_43 (dk_at dksJ0_init_3_0 1 rfl rfl)
theorem dJ0_init_3_2 : decode cJ0_init_3 2 = .ok (.aconst_null, 1) := dk_1 (dk_at dksJ0_init_3_0 2 rfl rfl)
theorem dJ0_init_3_3 : decode cJ0_init_3 3 = .ok (.invokespecial 489, 3) := dk_183 1 233 (dk_at dksJ0_init_3_0 3 rfl rfl)
theorem dJ0_init_3_6 : decode cJ0_init_3 6 = .ok (.return_, 1) := dk_177 (dk_at dksJ0_init_3_0 6 rfl rfl)
abbrev cJ0_init_4 : ByteArray := prog_12_method_150_code
def yJ0_init_4 : MethodName := ⟨RJ0, "<init>", "(Ljava/lang/AbstractStringBuilder;Ljava/lang/Void;)V"⟩
def dkwJ0_init_4_4 : List UInt8 := [181, 0, 9, 177]
abbrev dktJ0_init_4_4 : List UInt8 := dkwJ0_init_4_4 ++ []
def dkwJ0_init_4_3 : List UInt8 := [184, 0, 47, 181, 0, 15, 177, 42, 4, 181, 0, 15, 42, 45, 3, 21, 4, 4, 120, 184, 0, 54]
abbrev dktJ0_init_4_3 : List UInt8 := dkwJ0_init_4_3 ++ dktJ0_init_4_4
def dkwJ0_init_4_2 : List UInt8 := [180, 4, 24, 153, 0, 28, 42, 45, 3, 21, 4, 184, 4, 27, 181, 0, 9, 42, 42, 180, 0, 9, 21, 4]
abbrev dktJ0_init_4_2 : List UInt8 := dkwJ0_init_4_2 ++ dktJ0_init_4_3
def dkwJ0_init_4_1 : List UInt8 := [181, 0, 15, 42, 45, 3, 21, 4, 184, 0, 54, 181, 0, 9, 167, 0, 59, 178, 0, 38, 153, 0, 35, 43]
abbrev dktJ0_init_4_1 : List UInt8 := dkwJ0_init_4_1 ++ dktJ0_init_4_2
def dkwJ0_init_4_0 : List UInt8 := [42, 183, 0, 1, 43, 182, 2, 40, 78, 43, 182, 2, 37, 54, 4, 43, 182, 4, 23, 153, 0, 22, 42, 3]
abbrev dktJ0_init_4_0 : List UInt8 := dkwJ0_init_4_0 ++ dktJ0_init_4_1
theorem dksJ0_init_4_0 : cJ0_init_4.data.toList.drop 0 = dktJ0_init_4_0 := by decide +kernel
theorem dksJ0_init_4_1 : cJ0_init_4.data.toList.drop 24 = dktJ0_init_4_1 := dk_seg dksJ0_init_4_0 24 rfl rfl
theorem dksJ0_init_4_2 : cJ0_init_4.data.toList.drop 48 = dktJ0_init_4_2 := dk_seg dksJ0_init_4_1 24 rfl rfl
theorem dksJ0_init_4_3 : cJ0_init_4.data.toList.drop 72 = dktJ0_init_4_3 := dk_seg dksJ0_init_4_2 24 rfl rfl
theorem dksJ0_init_4_4 : cJ0_init_4.data.toList.drop 94 = dktJ0_init_4_4 := dk_seg dksJ0_init_4_3 22 rfl rfl
theorem dJ0_init_4_0 : decode cJ0_init_4 0 = .ok (.aload_n 0, 1) := dk_42 (dk_at dksJ0_init_4_0 0 rfl rfl)
theorem dJ0_init_4_1 : decode cJ0_init_4 1 = .ok (.invokespecial 1, 3) := dk_183 0 1 (dk_at dksJ0_init_4_0 1 rfl rfl)
theorem dJ0_init_4_4 : decode cJ0_init_4 4 = .ok (.aload_n 1, 1) := dk_43 (dk_at dksJ0_init_4_0 4 rfl rfl)
theorem dJ0_init_4_5 : decode cJ0_init_4 5 = .ok (.invokevirtual 552, 3) := dk_182 2 40 (dk_at dksJ0_init_4_0 5 rfl rfl)
theorem dJ0_init_4_8 : decode cJ0_init_4 8 = .ok (.astore_n 3, 1) := dk_78 (dk_at dksJ0_init_4_0 8 rfl rfl)
theorem dJ0_init_4_9 : decode cJ0_init_4 9 = .ok (.aload_n 1, 1) := dk_43 (dk_at dksJ0_init_4_0 9 rfl rfl)
theorem dJ0_init_4_10 : decode cJ0_init_4 10 = .ok (.invokevirtual 549, 3) := dk_182 2 37 (dk_at dksJ0_init_4_0 10 rfl rfl)
theorem dJ0_init_4_13 : decode cJ0_init_4 13 = .ok (.istore 4, 2) := dk_54 4 (dk_at dksJ0_init_4_0 13 rfl rfl)
theorem dJ0_init_4_15 : decode cJ0_init_4 15 = .ok (.aload_n 1, 1) := dk_43 (dk_at dksJ0_init_4_0 15 rfl rfl)
theorem dJ0_init_4_16 : decode cJ0_init_4 16 = .ok (.invokevirtual 1047, 3) := dk_182 4 23 (dk_at dksJ0_init_4_0 16 rfl rfl)
theorem dJ0_init_4_19 : decode cJ0_init_4 19 = .ok (.ifCond .eq 22, 3) := dk_153 0 22 (dk_at dksJ0_init_4_0 19 rfl rfl)
theorem dJ0_init_4_22 : decode cJ0_init_4 22 = .ok (.aload_n 0, 1) := dk_42 (dk_at dksJ0_init_4_0 22 rfl rfl)
theorem dJ0_init_4_23 : decode cJ0_init_4 23 = .ok (.iconst 0, 1) := dk_3 (dk_at dksJ0_init_4_0 23 rfl rfl)
theorem dJ0_init_4_24 : decode cJ0_init_4 24 = .ok (.putfield 15, 3) := dk_181 0 15 (dk_at dksJ0_init_4_1 0 rfl rfl)
theorem dJ0_init_4_27 : decode cJ0_init_4 27 = .ok (.aload_n 0, 1) := dk_42 (dk_at dksJ0_init_4_1 3 rfl rfl)
theorem dJ0_init_4_28 : decode cJ0_init_4 28 = .ok (.aload_n 3, 1) := dk_45 (dk_at dksJ0_init_4_1 4 rfl rfl)
theorem dJ0_init_4_29 : decode cJ0_init_4 29 = .ok (.iconst 0, 1) := dk_3 (dk_at dksJ0_init_4_1 5 rfl rfl)
theorem dJ0_init_4_30 : decode cJ0_init_4 30 = .ok (.iload 4, 2) := dk_21 4 (dk_at dksJ0_init_4_1 6 rfl rfl)
theorem dJ0_init_4_32 : decode cJ0_init_4 32 = .ok (.invokestatic 54, 3) := dk_184 0 54 (dk_at dksJ0_init_4_1 8 rfl rfl)
theorem dJ0_init_4_35 : decode cJ0_init_4 35 = .ok (.putfield 9, 3) := dk_181 0 9 (dk_at dksJ0_init_4_1 11 rfl rfl)
theorem dJ0_init_4_38 : decode cJ0_init_4 38 = .ok (.goto 59, 3) := dk_167 0 59 (dk_at dksJ0_init_4_1 14 rfl rfl)
theorem dJ0_init_4_41 : decode cJ0_init_4 41 = .ok (.getstatic 38, 3) := dk_178 0 38 (dk_at dksJ0_init_4_1 17 rfl rfl)
theorem dJ0_init_4_44 : decode cJ0_init_4 44 = .ok (.ifCond .eq 35, 3) := dk_153 0 35 (dk_at dksJ0_init_4_1 20 rfl rfl)
theorem dJ0_init_4_47 : decode cJ0_init_4 47 = .ok (.aload_n 1, 1) := dk_43 (dk_at dksJ0_init_4_1 23 rfl rfl)
theorem dJ0_init_4_48 : decode cJ0_init_4 48 = .ok (.getfield 1048, 3) := dk_180 4 24 (dk_at dksJ0_init_4_2 0 rfl rfl)
theorem dJ0_init_4_51 : decode cJ0_init_4 51 = .ok (.ifCond .eq 28, 3) := dk_153 0 28 (dk_at dksJ0_init_4_2 3 rfl rfl)
theorem dJ0_init_4_54 : decode cJ0_init_4 54 = .ok (.aload_n 0, 1) := dk_42 (dk_at dksJ0_init_4_2 6 rfl rfl)
theorem dJ0_init_4_55 : decode cJ0_init_4 55 = .ok (.aload_n 3, 1) := dk_45 (dk_at dksJ0_init_4_2 7 rfl rfl)
theorem dJ0_init_4_56 : decode cJ0_init_4 56 = .ok (.iconst 0, 1) := dk_3 (dk_at dksJ0_init_4_2 8 rfl rfl)
theorem dJ0_init_4_57 : decode cJ0_init_4 57 = .ok (.iload 4, 2) := dk_21 4 (dk_at dksJ0_init_4_2 9 rfl rfl)
theorem dJ0_init_4_59 : decode cJ0_init_4 59 = .ok (.invokestatic 1051, 3) := dk_184 4 27 (dk_at dksJ0_init_4_2 11 rfl rfl)
theorem dJ0_init_4_62 : decode cJ0_init_4 62 = .ok (.putfield 9, 3) := dk_181 0 9 (dk_at dksJ0_init_4_2 14 rfl rfl)
theorem dJ0_init_4_65 : decode cJ0_init_4 65 = .ok (.aload_n 0, 1) := dk_42 (dk_at dksJ0_init_4_2 17 rfl rfl)
theorem dJ0_init_4_66 : decode cJ0_init_4 66 = .ok (.aload_n 0, 1) := dk_42 (dk_at dksJ0_init_4_2 18 rfl rfl)
theorem dJ0_init_4_67 : decode cJ0_init_4 67 = .ok (.getfield 9, 3) := dk_180 0 9 (dk_at dksJ0_init_4_2 19 rfl rfl)
theorem dJ0_init_4_70 : decode cJ0_init_4 70 = .ok (.iload 4, 2) := dk_21 4 (dk_at dksJ0_init_4_2 22 rfl rfl)
theorem dJ0_init_4_72 : decode cJ0_init_4 72 = .ok (.invokestatic 47, 3) := dk_184 0 47 (dk_at dksJ0_init_4_3 0 rfl rfl)
theorem dJ0_init_4_75 : decode cJ0_init_4 75 = .ok (.putfield 15, 3) := dk_181 0 15 (dk_at dksJ0_init_4_3 3 rfl rfl)
theorem dJ0_init_4_78 : decode cJ0_init_4 78 = .ok (.return_, 1) := dk_177 (dk_at dksJ0_init_4_3 6 rfl rfl)
theorem dJ0_init_4_79 : decode cJ0_init_4 79 = .ok (.aload_n 0, 1) := dk_42 (dk_at dksJ0_init_4_3 7 rfl rfl)
theorem dJ0_init_4_80 : decode cJ0_init_4 80 = .ok (.iconst 1, 1) := dk_4 (dk_at dksJ0_init_4_3 8 rfl rfl)
theorem dJ0_init_4_81 : decode cJ0_init_4 81 = .ok (.putfield 15, 3) := dk_181 0 15 (dk_at dksJ0_init_4_3 9 rfl rfl)
theorem dJ0_init_4_84 : decode cJ0_init_4 84 = .ok (.aload_n 0, 1) := dk_42 (dk_at dksJ0_init_4_3 12 rfl rfl)
theorem dJ0_init_4_85 : decode cJ0_init_4 85 = .ok (.aload_n 3, 1) := dk_45 (dk_at dksJ0_init_4_3 13 rfl rfl)
theorem dJ0_init_4_86 : decode cJ0_init_4 86 = .ok (.iconst 0, 1) := dk_3 (dk_at dksJ0_init_4_3 14 rfl rfl)
theorem dJ0_init_4_87 : decode cJ0_init_4 87 = .ok (.iload 4, 2) := dk_21 4 (dk_at dksJ0_init_4_3 15 rfl rfl)
theorem dJ0_init_4_89 : decode cJ0_init_4 89 = .ok (.iconst 1, 1) := dk_4 (dk_at dksJ0_init_4_3 17 rfl rfl)
theorem dJ0_init_4_90 : decode cJ0_init_4 90 = .ok (.ishl, 1) := dk_120 (dk_at dksJ0_init_4_3 18 rfl rfl)
theorem dJ0_init_4_91 : decode cJ0_init_4 91 = .ok (.invokestatic 54, 3) := dk_184 0 54 (dk_at dksJ0_init_4_3 19 rfl rfl)
theorem dJ0_init_4_94 : decode cJ0_init_4 94 = .ok (.putfield 9, 3) := dk_181 0 9 (dk_at dksJ0_init_4_4 0 rfl rfl)
theorem dJ0_init_4_97 : decode cJ0_init_4 97 = .ok (.return_, 1) := dk_177 (dk_at dksJ0_init_4_4 3 rfl rfl)
theorem q4 : (Jvm.Cond.initialized "java/lang/String") ∈ lw_all := lw_g (lw_at lw_m1 3 rfl) rfl
theorem q50 : (Jvm.Cond.instanceMethod ({ cls := "java/lang/String", name := "length", desc := "()I" } : Jvm.MethodName)) ∈ lw_all := lw_g (lw_at lw_m1 49 rfl) rfl
theorem q51 : (Jvm.Cond.selects "java/lang/String" ({ cls := "java/lang/String", name := "length", desc := "()I" } : Jvm.MethodName) ({ cls := "java/lang/String", name := "length", desc := "()I" } : Jvm.MethodName)) ∈ lw_all := lw_g (lw_at lw_m1 50 rfl) rfl
theorem q52 : (Jvm.Cond.code ({ cls := "java/lang/String", name := "length", desc := "()I" } : Jvm.MethodName) prog_12_method_54_code (1 : Nat) (Option.some Jvm.ClassFile.FieldType.int)) ∈ lw_all := lw_g (lw_at lw_m1 51 rfl) rfl
theorem q53 : (Jvm.Cond.methodLink "java/lang/String" (335 : Nat) ({ cls := "java/lang/String", name := "coder", desc := "()B" } : Jvm.MethodName)) ∈ lw_all := lw_g (lw_at lw_m1 52 rfl) rfl
theorem q54 : (Jvm.Cond.instanceMethod ({ cls := "java/lang/String", name := "coder", desc := "()B" } : Jvm.MethodName)) ∈ lw_all := lw_g (lw_at lw_m1 53 rfl) rfl
theorem q55 : (Jvm.Cond.selects "java/lang/String" ({ cls := "java/lang/String", name := "coder", desc := "()B" } : Jvm.MethodName) ({ cls := "java/lang/String", name := "coder", desc := "()B" } : Jvm.MethodName)) ∈ lw_all := lw_g (lw_at lw_m1 54 rfl) rfl
theorem q56 : (Jvm.Cond.code ({ cls := "java/lang/String", name := "coder", desc := "()B" } : Jvm.MethodName) prog_12_method_152_code (1 : Nat) (Option.some Jvm.ClassFile.FieldType.byte)) ∈ lw_all := lw_g (lw_at lw_m1 55 rfl) rfl
theorem q57 : (Jvm.Cond.fieldLink "java/lang/String" (38 : Nat) "java/lang/String" "COMPACT_STRINGS" "Z") ∈ lw_all := lw_g (lw_at lw_m1 56 rfl) rfl
theorem q58 : (Jvm.Cond.laysStatic "java/lang/String" "COMPACT_STRINGS" "Z") ∈ lw_tbl := lw_at lw_m1 57 rfl
theorem q60 : (Jvm.Cond.instanceMethod ({ cls := "java/lang/String", name := "charAt", desc := "(I)C" } : Jvm.MethodName)) ∈ lw_all := lw_g (lw_at lw_m1 59 rfl) rfl
theorem q61 : (Jvm.Cond.selects "java/lang/String" ({ cls := "java/lang/String", name := "charAt", desc := "(I)C" } : Jvm.MethodName) ({ cls := "java/lang/String", name := "charAt", desc := "(I)C" } : Jvm.MethodName)) ∈ lw_all := lw_g (lw_at lw_m1 60 rfl) rfl
theorem q62 : (Jvm.Cond.code ({ cls := "java/lang/String", name := "charAt", desc := "(I)C" } : Jvm.MethodName) prog_12_method_56_code (2 : Nat) (Option.some Jvm.ClassFile.FieldType.char)) ∈ lw_all := lw_g (lw_at lw_m1 61 rfl) rfl
theorem q63 : (Jvm.Cond.methodLink "java/lang/String" (492 : Nat) ({ cls := "java/lang/String", name := "isLatin1", desc := "()Z" } : Jvm.MethodName)) ∈ lw_all := lw_g (lw_at lw_m1 62 rfl) rfl
theorem q64 : (Jvm.Cond.instanceMethod ({ cls := "java/lang/String", name := "isLatin1", desc := "()Z" } : Jvm.MethodName)) ∈ lw_all := lw_g (lw_at lw_m1 63 rfl) rfl
theorem q65 : (Jvm.Cond.selects "java/lang/String" ({ cls := "java/lang/String", name := "isLatin1", desc := "()Z" } : Jvm.MethodName) ({ cls := "java/lang/String", name := "isLatin1", desc := "()Z" } : Jvm.MethodName)) ∈ lw_all := lw_g (lw_at lw_m1 64 rfl) rfl
theorem q66 : (Jvm.Cond.code ({ cls := "java/lang/String", name := "isLatin1", desc := "()Z" } : Jvm.MethodName) prog_12_method_154_code (1 : Nat) (Option.some Jvm.ClassFile.FieldType.boolean)) ∈ lw_all := lw_g (lw_at lw_m1 65 rfl) rfl
theorem q67 : (Jvm.Cond.methodLink "java/lang/String" (495 : Nat) ({ cls := "java/lang/StringLatin1", name := "charAt", desc := "([BI)C" } : Jvm.MethodName)) ∈ lw_all := lw_g (lw_at lw_m1 66 rfl) rfl
theorem q71 : (Jvm.Cond.static ({ cls := "java/lang/String", name := "checkIndex", desc := "(II)V" } : Jvm.MethodName)) ∈ lw_all := lw_g (lw_at lw_m1 70 rfl) rfl
theorem q72 : (Jvm.Cond.code ({ cls := "java/lang/String", name := "checkIndex", desc := "(II)V" } : Jvm.MethodName) prog_12_method_155_code (2 : Nat) (Option.none : Option Jvm.ClassFile.FieldType)) ∈ lw_all := lw_g (lw_at lw_m1 71 rfl) rfl
theorem q73 : (Jvm.Cond.fieldLink "java/lang/String" (1053 : Nat) "jdk/internal/util/Preconditions" "SIOOBE_FORMATTER" "Ljava/util/function/BiFunction;") ∈ lw_all := lw_g (lw_at lw_m1 72 rfl) rfl
theorem q75 : (Jvm.Cond.methodLink "java/lang/String" (1059 : Nat) ({ cls := "jdk/internal/util/Preconditions", name := "checkIndex", desc := "(IILjava/util/function/BiFunction;)I" } : Jvm.MethodName)) ∈ lw_all := lw_g (lw_at lw_m1 74 rfl) rfl
theorem q78 : (Jvm.Cond.methodLink "java/lang/String" (498 : Nat) ({ cls := "java/lang/StringUTF16", name := "charAt", desc := "([BI)C" } : Jvm.MethodName)) ∈ lw_all := lw_g (lw_at lw_m1 77 rfl) rfl
theorem q199 : (Jvm.Cond.instantiable "java/lang/String" (4 : Nat)) ∈ lw_all := lw_g (lw_at lw_m1 198 rfl) rfl
theorem q201 : (Jvm.Cond.instanceMethod ({ cls := "java/lang/String", name := "<init>", desc := "([CII)V" } : Jvm.MethodName)) ∈ lw_all := lw_g (lw_at lw_m1 200 rfl) rfl
theorem q202 : (Jvm.Cond.code ({ cls := "java/lang/String", name := "<init>", desc := "([CII)V" } : Jvm.MethodName) prog_12_method_4_code (4 : Nat) (Option.none : Option Jvm.ClassFile.FieldType)) ∈ lw_all := lw_g (lw_at lw_m1 201 rfl) rfl
theorem q203 : (Jvm.Cond.methodLink "java/lang/String" (30 : Nat) ({ cls := "java/lang/String", name := "rangeCheck", desc := "([CII)Ljava/lang/Void;" } : Jvm.MethodName)) ∈ lw_all := lw_g (lw_at lw_m1 202 rfl) rfl
theorem q204 : (Jvm.Cond.static ({ cls := "java/lang/String", name := "rangeCheck", desc := "([CII)Ljava/lang/Void;" } : Jvm.MethodName)) ∈ lw_all := lw_g (lw_at lw_m1 203 rfl) rfl
theorem q205 : (Jvm.Cond.code ({ cls := "java/lang/String", name := "rangeCheck", desc := "([CII)Ljava/lang/Void;" } : Jvm.MethodName) prog_12_method_5_code (3 : Nat) (Option.some (Jvm.ClassFile.FieldType.object "java/lang/Void"))) ∈ lw_all := lw_g (lw_at lw_m1 204 rfl) rfl
theorem q206 : (Jvm.Cond.methodLink "java/lang/String" (34 : Nat) ({ cls := "java/lang/String", name := "checkBoundsOffCount", desc := "(III)I" } : Jvm.MethodName)) ∈ lw_all := lw_g (lw_at lw_m1 205 rfl) rfl
theorem q207 : (Jvm.Cond.static ({ cls := "java/lang/String", name := "checkBoundsOffCount", desc := "(III)I" } : Jvm.MethodName)) ∈ lw_all := lw_g (lw_at lw_m1 206 rfl) rfl
theorem q208 : (Jvm.Cond.code ({ cls := "java/lang/String", name := "checkBoundsOffCount", desc := "(III)I" } : Jvm.MethodName) prog_12_method_157_code (3 : Nat) (Option.some Jvm.ClassFile.FieldType.int)) ∈ lw_all := lw_g (lw_at lw_m1 207 rfl) rfl
theorem q209 : (Jvm.Cond.methodLink "java/lang/String" (1065 : Nat) ({ cls := "jdk/internal/util/Preconditions", name := "checkFromIndexSize", desc := "(IIILjava/util/function/BiFunction;)I" } : Jvm.MethodName)) ∈ lw_all := lw_g (lw_at lw_m1 208 rfl) rfl
theorem q212 : (Jvm.Cond.methodLink "java/lang/String" (27 : Nat) ({ cls := "java/lang/String", name := "<init>", desc := "([CIILjava/lang/Void;)V" } : Jvm.MethodName)) ∈ lw_all := lw_g (lw_at lw_m1 211 rfl) rfl
theorem q213 : (Jvm.Cond.instanceMethod ({ cls := "java/lang/String", name := "<init>", desc := "([CIILjava/lang/Void;)V" } : Jvm.MethodName)) ∈ lw_all := lw_g (lw_at lw_m1 212 rfl) rfl
theorem q214 : (Jvm.Cond.code ({ cls := "java/lang/String", name := "<init>", desc := "([CIILjava/lang/Void;)V" } : Jvm.MethodName) prog_12_method_149_code (6 : Nat) (Option.none : Option Jvm.ClassFile.FieldType)) ∈ lw_all := lw_g (lw_at lw_m1 213 rfl) rfl
theorem q215 : (Jvm.Cond.methodLink "java/lang/String" (1 : Nat) ({ cls := "java/lang/Object", name := "<init>", desc := "()V" } : Jvm.MethodName)) ∈ lw_all := lw_g (lw_at lw_m1 214 rfl) rfl
theorem q216 : (Jvm.Cond.stringRef "java/lang/String" (7 : Nat) "") ∈ lw_tbl := lw_at lw_m1 215 rfl
theorem q217 : (Jvm.Cond.methodLink "java/lang/String" (177 : Nat) ({ cls := "java/lang/StringUTF16", name := "compress", desc := "([CII)[B" } : Jvm.MethodName)) ∈ lw_all := lw_g (lw_at lw_m1 216 rfl) rfl
theorem q243 : (Jvm.Cond.methodLink "java/lang/String" (47 : Nat) ({ cls := "java/lang/StringUTF16", name := "coderFromArrayLen", desc := "([BI)B" } : Jvm.MethodName)) ∈ lw_all := lw_g (lw_at lw_m2 2 rfl) rfl
theorem q246 : (Jvm.Cond.methodLink "java/lang/String" (180 : Nat) ({ cls := "java/lang/StringUTF16", name := "toBytes", desc := "([CII)[B" } : Jvm.MethodName)) ∈ lw_all := lw_g (lw_at lw_m2 5 rfl) rfl
theorem q247 : (Jvm.Cond.fieldLink "java/lang/String" (9 : Nat) "java/lang/String" "value" "[B") ∈ lw_all := lw_g (lw_at lw_m2 6 rfl) rfl
theorem q248 : (Jvm.Cond.fieldLink "java/lang/String" (15 : Nat) "java/lang/String" "coder" "B") ∈ lw_all := lw_g (lw_at lw_m2 7 rfl) rfl
theorem q249 : (Jvm.Cond.laysFinal "java/lang/String" "java/lang/String" "value" "[B") ∈ lw_all := lw_g (lw_at lw_m2 8 rfl) rfl
theorem q250 : (Jvm.Cond.soleField "java/lang/String" "value") ∈ lw_all := lw_g (lw_at lw_m2 9 rfl) rfl
theorem q251 : (Jvm.Cond.laysFinal "java/lang/String" "java/lang/String" "coder" "B") ∈ lw_all := lw_g (lw_at lw_m2 10 rfl) rfl
theorem q252 : (Jvm.Cond.soleField "java/lang/String" "coder") ∈ lw_all := lw_g (lw_at lw_m2 11 rfl) rfl
theorem q253 : (Jvm.Cond.lays "java/lang/String" "java/lang/String" "hash" "I") ∈ lw_all := lw_g (lw_at lw_m2 12 rfl) rfl
theorem q254 : (Jvm.Cond.soleField "java/lang/String" "hash") ∈ lw_all := lw_g (lw_at lw_m2 13 rfl) rfl
theorem q255 : (Jvm.Cond.lays "java/lang/String" "java/lang/String" "hashIsZero" "Z") ∈ lw_all := lw_g (lw_at lw_m2 14 rfl) rfl
theorem q256 : (Jvm.Cond.soleField "java/lang/String" "hashIsZero") ∈ lw_all := lw_g (lw_at lw_m2 15 rfl) rfl
theorem q257 : (Jvm.Cond.superclass "java/lang/String" "java/lang/Object") ∈ lw_all := lw_g (lw_at lw_m2 16 rfl) rfl
theorem q266 : (Jvm.Cond.castable "java/lang/String" "java/lang/CharSequence") ∈ lw_tbl := lw_at lw_m2 25 rfl
theorem q267 : (Jvm.Cond.selects "java/lang/String" ({ cls := "java/lang/CharSequence", name := "length", desc := "()I" } : Jvm.MethodName) ({ cls := "java/lang/String", name := "length", desc := "()I" } : Jvm.MethodName)) ∈ lw_all := lw_g (lw_at lw_m2 26 rfl) rfl
theorem q268 : (Jvm.Cond.unhidden "java/lang/String" "length" "()I") ∈ lw_tbl := lw_at lw_m2 27 rfl
theorem q269 : (Jvm.Cond.publicMethod ({ cls := "java/lang/String", name := "length", desc := "()I" } : Jvm.MethodName)) ∈ lw_tbl := lw_at lw_m2 28 rfl
theorem q284 : (Jvm.Cond.selects "java/lang/String" ({ cls := "java/lang/CharSequence", name := "charAt", desc := "(I)C" } : Jvm.MethodName) ({ cls := "java/lang/String", name := "charAt", desc := "(I)C" } : Jvm.MethodName)) ∈ lw_all := lw_g (lw_at lw_m2 43 rfl) rfl
theorem q285 : (Jvm.Cond.unhidden "java/lang/String" "charAt" "(I)C") ∈ lw_tbl := lw_at lw_m2 44 rfl
theorem q286 : (Jvm.Cond.publicMethod ({ cls := "java/lang/String", name := "charAt", desc := "(I)C" } : Jvm.MethodName)) ∈ lw_tbl := lw_at lw_m2 45 rfl
theorem q315 : (Jvm.Cond.fieldLink "java/lang/String" (1048 : Nat) "java/lang/AbstractStringBuilder" "maybeLatin1" "Z") ∈ lw_all := lw_g (lw_at lw_m2 74 rfl) rfl
theorem q392 : (Jvm.Cond.instanceMethod ({ cls := "java/lang/String", name := "<init>", desc := "(Ljava/lang/StringBuilder;)V" } : Jvm.MethodName)) ∈ lw_all := lw_g (lw_at lw_m2 151 rfl) rfl
theorem q393 : (Jvm.Cond.code ({ cls := "java/lang/String", name := "<init>", desc := "(Ljava/lang/StringBuilder;)V" } : Jvm.MethodName) prog_12_method_53_code (2 : Nat) (Option.none : Option Jvm.ClassFile.FieldType)) ∈ lw_all := lw_g (lw_at lw_m2 152 rfl) rfl
theorem q394 : (Jvm.Cond.methodLink "java/lang/String" (489 : Nat) ({ cls := "java/lang/String", name := "<init>", desc := "(Ljava/lang/AbstractStringBuilder;Ljava/lang/Void;)V" } : Jvm.MethodName)) ∈ lw_all := lw_g (lw_at lw_m2 153 rfl) rfl
theorem q395 : (Jvm.Cond.instanceMethod ({ cls := "java/lang/String", name := "<init>", desc := "(Ljava/lang/AbstractStringBuilder;Ljava/lang/Void;)V" } : Jvm.MethodName)) ∈ lw_all := lw_g (lw_at lw_m2 154 rfl) rfl
theorem q396 : (Jvm.Cond.code ({ cls := "java/lang/String", name := "<init>", desc := "(Ljava/lang/AbstractStringBuilder;Ljava/lang/Void;)V" } : Jvm.MethodName) prog_12_method_150_code (5 : Nat) (Option.none : Option Jvm.ClassFile.FieldType)) ∈ lw_all := lw_g (lw_at lw_m2 155 rfl) rfl
theorem q397 : (Jvm.Cond.methodLink "java/lang/String" (552 : Nat) ({ cls := "java/lang/AbstractStringBuilder", name := "getValue", desc := "()[B" } : Jvm.MethodName)) ∈ lw_all := lw_g (lw_at lw_m2 156 rfl) rfl
theorem q402 : (Jvm.Cond.methodLink "java/lang/String" (549 : Nat) ({ cls := "java/lang/AbstractStringBuilder", name := "length", desc := "()I" } : Jvm.MethodName)) ∈ lw_all := lw_g (lw_at lw_m2 161 rfl) rfl
theorem q403 : (Jvm.Cond.methodLink "java/lang/String" (1047 : Nat) ({ cls := "java/lang/AbstractStringBuilder", name := "isLatin1", desc := "()Z" } : Jvm.MethodName)) ∈ lw_all := lw_g (lw_at lw_m2 162 rfl) rfl
theorem q404 : (Jvm.Cond.methodLink "java/lang/String" (54 : Nat) ({ cls := "java/util/Arrays", name := "copyOfRange", desc := "([BII)[B" } : Jvm.MethodName)) ∈ lw_all := lw_g (lw_at lw_m2 163 rfl) rfl
theorem q413 : (Jvm.Cond.methodLink "java/lang/String" (1051 : Nat) ({ cls := "java/lang/StringUTF16", name := "compress", desc := "([BII)[B" } : Jvm.MethodName)) ∈ lw_all := lw_g (lw_at lw_m2 172 rfl) rfl
theorem in_J0 : ∀ w ∈ wsJ00, w ∈ lw_all := lw_in wsJ00 [249, 251, 253, 255] (by decide +kernel) (by decide +kernel)

/-! java/lang/StringLatin1 -/
set_option maxRecDepth 100000
def RJ1 : String := "java/lang/StringLatin1"
abbrev cJ1_charAt : ByteArray := prog_14_method_2_code
def yJ1_charAt : MethodName := ⟨RJ1, "charAt", "([BI)C"⟩
def dkwJ1_charAt_0 : List UInt8 := [27, 42, 190, 184, 0, 9, 42, 27, 51, 17, 0, 255, 126, 146, 172]
abbrev dktJ1_charAt_0 : List UInt8 := dkwJ1_charAt_0 ++ []
theorem dksJ1_charAt_0 : cJ1_charAt.data.toList.drop 0 = dktJ1_charAt_0 := by decide +kernel
theorem dJ1_charAt_0 : decode cJ1_charAt 0 = .ok (.iload_n 1, 1) := dk_27 (dk_at dksJ1_charAt_0 0 rfl rfl)
theorem dJ1_charAt_1 : decode cJ1_charAt 1 = .ok (.aload_n 0, 1) := dk_42 (dk_at dksJ1_charAt_0 1 rfl rfl)
theorem dJ1_charAt_2 : decode cJ1_charAt 2 = .ok (.arraylength, 1) := dk_190 (dk_at dksJ1_charAt_0 2 rfl rfl)
theorem dJ1_charAt_3 : decode cJ1_charAt 3 = .ok (.invokestatic 9, 3) := dk_184 0 9 (dk_at dksJ1_charAt_0 3 rfl rfl)
theorem dJ1_charAt_6 : decode cJ1_charAt 6 = .ok (.aload_n 0, 1) := dk_42 (dk_at dksJ1_charAt_0 6 rfl rfl)
theorem dJ1_charAt_7 : decode cJ1_charAt 7 = .ok (.iload_n 1, 1) := dk_27 (dk_at dksJ1_charAt_0 7 rfl rfl)
theorem dJ1_charAt_8 : decode cJ1_charAt 8 = .ok (.baload, 1) := dk_51 (dk_at dksJ1_charAt_0 8 rfl rfl)
theorem dJ1_charAt_9 : decode cJ1_charAt 9 = .ok (.sipush 255, 3) := dk_17 0 255 (dk_at dksJ1_charAt_0 9 rfl rfl)
theorem dJ1_charAt_12 : decode cJ1_charAt 12 = .ok (.iand, 1) := dk_126 (dk_at dksJ1_charAt_0 12 rfl rfl)
theorem dJ1_charAt_13 : decode cJ1_charAt 13 = .ok (.i2c, 1) := dk_146 (dk_at dksJ1_charAt_0 13 rfl rfl)
theorem dJ1_charAt_14 : decode cJ1_charAt 14 = .ok (.ireturn, 1) := dk_172 (dk_at dksJ1_charAt_0 14 rfl rfl)
abbrev cJ1_canEncode : ByteArray := prog_14_method_3_code
def yJ1_canEncode : MethodName := ⟨RJ1, "canEncode", "(C)Z"⟩
def dkwJ1_canEncode_0 : List UInt8 := [26, 17, 0, 255, 163, 0, 7, 4, 167, 0, 4, 3, 172]
abbrev dktJ1_canEncode_0 : List UInt8 := dkwJ1_canEncode_0 ++ []
theorem dksJ1_canEncode_0 : cJ1_canEncode.data.toList.drop 0 = dktJ1_canEncode_0 := by decide +kernel
theorem dJ1_canEncode_0 : decode cJ1_canEncode 0 = .ok (.iload_n 0, 1) := dk_26 (dk_at dksJ1_canEncode_0 0 rfl rfl)
theorem dJ1_canEncode_1 : decode cJ1_canEncode 1 = .ok (.sipush 255, 3) := dk_17 0 255 (dk_at dksJ1_canEncode_0 1 rfl rfl)
theorem dJ1_canEncode_4 : decode cJ1_canEncode 4 = .ok (.if_icmp .gt 7, 3) := dk_163 0 7 (dk_at dksJ1_canEncode_0 4 rfl rfl)
theorem dJ1_canEncode_7 : decode cJ1_canEncode 7 = .ok (.iconst 1, 1) := dk_4 (dk_at dksJ1_canEncode_0 7 rfl rfl)
theorem dJ1_canEncode_8 : decode cJ1_canEncode 8 = .ok (.goto 4, 3) := dk_167 0 4 (dk_at dksJ1_canEncode_0 8 rfl rfl)
theorem dJ1_canEncode_11 : decode cJ1_canEncode 11 = .ok (.iconst 0, 1) := dk_3 (dk_at dksJ1_canEncode_0 11 rfl rfl)
theorem dJ1_canEncode_12 : decode cJ1_canEncode 12 = .ok (.ireturn, 1) := dk_172 (dk_at dksJ1_canEncode_0 12 rfl rfl)
abbrev cJ1_inflate : ByteArray := prog_14_method_50_code
def yJ1_inflate : MethodName := ⟨RJ1, "inflate", "([BI[BII)V"⟩
def dkwJ1_inflate_0 : List UInt8 := [42, 27, 44, 29, 21, 4, 184, 0, 240, 177]
abbrev dktJ1_inflate_0 : List UInt8 := dkwJ1_inflate_0 ++ []
theorem dksJ1_inflate_0 : cJ1_inflate.data.toList.drop 0 = dktJ1_inflate_0 := by decide +kernel
theorem dJ1_inflate_0 : decode cJ1_inflate 0 = .ok (.aload_n 0, 1) := dk_42 (dk_at dksJ1_inflate_0 0 rfl rfl)
theorem dJ1_inflate_1 : decode cJ1_inflate 1 = .ok (.iload_n 1, 1) := dk_27 (dk_at dksJ1_inflate_0 1 rfl rfl)
theorem dJ1_inflate_2 : decode cJ1_inflate 2 = .ok (.aload_n 2, 1) := dk_44 (dk_at dksJ1_inflate_0 2 rfl rfl)
theorem dJ1_inflate_3 : decode cJ1_inflate 3 = .ok (.iload_n 3, 1) := dk_29 (dk_at dksJ1_inflate_0 3 rfl rfl)
theorem dJ1_inflate_4 : decode cJ1_inflate 4 = .ok (.iload 4, 2) := dk_21 4 (dk_at dksJ1_inflate_0 4 rfl rfl)
theorem dJ1_inflate_6 : decode cJ1_inflate 6 = .ok (.invokestatic 240, 3) := dk_184 0 240 (dk_at dksJ1_inflate_0 6 rfl rfl)
theorem dJ1_inflate_9 : decode cJ1_inflate 9 = .ok (.return_, 1) := dk_177 (dk_at dksJ1_inflate_0 9 rfl rfl)
theorem q5 : (Jvm.Cond.initialized "java/lang/StringLatin1") ∈ lw_all := lw_g (lw_at lw_m1 4 rfl) rfl
theorem q68 : (Jvm.Cond.static ({ cls := "java/lang/StringLatin1", name := "charAt", desc := "([BI)C" } : Jvm.MethodName)) ∈ lw_all := lw_g (lw_at lw_m1 67 rfl) rfl
theorem q69 : (Jvm.Cond.code ({ cls := "java/lang/StringLatin1", name := "charAt", desc := "([BI)C" } : Jvm.MethodName) prog_14_method_2_code (2 : Nat) (Option.some Jvm.ClassFile.FieldType.char)) ∈ lw_all := lw_g (lw_at lw_m1 68 rfl) rfl
theorem q70 : (Jvm.Cond.methodLink "java/lang/StringLatin1" (9 : Nat) ({ cls := "java/lang/String", name := "checkIndex", desc := "(II)V" } : Jvm.MethodName)) ∈ lw_all := lw_g (lw_at lw_m1 69 rfl) rfl
theorem q371 : (Jvm.Cond.static ({ cls := "java/lang/StringLatin1", name := "canEncode", desc := "(C)Z" } : Jvm.MethodName)) ∈ lw_all := lw_g (lw_at lw_m2 130 rfl) rfl
theorem q372 : (Jvm.Cond.code ({ cls := "java/lang/StringLatin1", name := "canEncode", desc := "(C)Z" } : Jvm.MethodName) prog_14_method_3_code (1 : Nat) (Option.some Jvm.ClassFile.FieldType.boolean)) ∈ lw_all := lw_g (lw_at lw_m2 131 rfl) rfl
theorem q378 : (Jvm.Cond.static ({ cls := "java/lang/StringLatin1", name := "inflate", desc := "([BI[BII)V" } : Jvm.MethodName)) ∈ lw_all := lw_g (lw_at lw_m2 137 rfl) rfl
theorem q379 : (Jvm.Cond.code ({ cls := "java/lang/StringLatin1", name := "inflate", desc := "([BI[BII)V" } : Jvm.MethodName) prog_14_method_50_code (5 : Nat) (Option.none : Option Jvm.ClassFile.FieldType)) ∈ lw_all := lw_g (lw_at lw_m2 138 rfl) rfl
theorem q380 : (Jvm.Cond.methodLink "java/lang/StringLatin1" (240 : Nat) ({ cls := "java/lang/StringUTF16", name := "inflate", desc := "([BI[BII)V" } : Jvm.MethodName)) ∈ lw_all := lw_g (lw_at lw_m2 139 rfl) rfl

/-! jdk/internal/util/Preconditions -/
set_option maxRecDepth 100000
def RJ2 : String := "jdk/internal/util/Preconditions"
abbrev cJ2_checkIndex : ByteArray := prog_20_method_11_code
def yJ2_checkIndex : MethodName := ⟨RJ2, "checkIndex", "(IILjava/util/function/BiFunction;)I"⟩
def dkwJ2_checkIndex_0 : List UInt8 := [26, 155, 0, 8, 26, 27, 161, 0, 10, 44, 26, 27, 184, 0, 95, 191, 26, 172]
abbrev dktJ2_checkIndex_0 : List UInt8 := dkwJ2_checkIndex_0 ++ []
theorem dksJ2_checkIndex_0 : cJ2_checkIndex.data.toList.drop 0 = dktJ2_checkIndex_0 := by decide +kernel
theorem dJ2_checkIndex_0 : decode cJ2_checkIndex 0 = .ok (.iload_n 0, 1) := dk_26 (dk_at dksJ2_checkIndex_0 0 rfl rfl)
theorem dJ2_checkIndex_1 : decode cJ2_checkIndex 1 = .ok (.ifCond .lt 8, 3) := dk_155 0 8 (dk_at dksJ2_checkIndex_0 1 rfl rfl)
theorem dJ2_checkIndex_4 : decode cJ2_checkIndex 4 = .ok (.iload_n 0, 1) := dk_26 (dk_at dksJ2_checkIndex_0 4 rfl rfl)
theorem dJ2_checkIndex_5 : decode cJ2_checkIndex 5 = .ok (.iload_n 1, 1) := dk_27 (dk_at dksJ2_checkIndex_0 5 rfl rfl)
theorem dJ2_checkIndex_6 : decode cJ2_checkIndex 6 = .ok (.if_icmp .lt 10, 3) := dk_161 0 10 (dk_at dksJ2_checkIndex_0 6 rfl rfl)
theorem dJ2_checkIndex_9 : decode cJ2_checkIndex 9 = .ok (.aload_n 2, 1) := dk_44 (dk_at dksJ2_checkIndex_0 9 rfl rfl)
theorem dJ2_checkIndex_10 : decode cJ2_checkIndex 10 = .ok (.iload_n 0, 1) := dk_26 (dk_at dksJ2_checkIndex_0 10 rfl rfl)
theorem dJ2_checkIndex_11 : decode cJ2_checkIndex 11 = .ok (.iload_n 1, 1) := dk_27 (dk_at dksJ2_checkIndex_0 11 rfl rfl)
theorem dJ2_checkIndex_12 : decode cJ2_checkIndex 12 = .ok (.invokestatic 95, 3) := dk_184 0 95 (dk_at dksJ2_checkIndex_0 12 rfl rfl)
theorem dJ2_checkIndex_15 : decode cJ2_checkIndex 15 = .ok (.athrow, 1) := dk_191 (dk_at dksJ2_checkIndex_0 15 rfl rfl)
theorem dJ2_checkIndex_16 : decode cJ2_checkIndex 16 = .ok (.iload_n 0, 1) := dk_26 (dk_at dksJ2_checkIndex_0 16 rfl rfl)
theorem dJ2_checkIndex_17 : decode cJ2_checkIndex 17 = .ok (.ireturn, 1) := dk_172 (dk_at dksJ2_checkIndex_0 17 rfl rfl)
abbrev cJ2_checkFromIndexSize : ByteArray := prog_20_method_13_code
def yJ2_checkFromIndexSize : MethodName := ⟨RJ2, "checkFromIndexSize", "(IIILjava/util/function/BiFunction;)I"⟩
def dkwJ2_checkFromIndexSize_1 : List UInt8 := [172]
abbrev dktJ2_checkFromIndexSize_1 : List UInt8 := dkwJ2_checkFromIndexSize_1 ++ []
def dkwJ2_checkFromIndexSize_0 : List UInt8 := [28, 26, 128, 27, 128, 155, 0, 10, 27, 28, 26, 100, 164, 0, 11, 45, 26, 27, 28, 184, 0, 103, 191, 26]
abbrev dktJ2_checkFromIndexSize_0 : List UInt8 := dkwJ2_checkFromIndexSize_0 ++ dktJ2_checkFromIndexSize_1
theorem dksJ2_checkFromIndexSize_0 : cJ2_checkFromIndexSize.data.toList.drop 0 = dktJ2_checkFromIndexSize_0 := by decide +kernel
theorem dksJ2_checkFromIndexSize_1 : cJ2_checkFromIndexSize.data.toList.drop 24 = dktJ2_checkFromIndexSize_1 := dk_seg dksJ2_checkFromIndexSize_0 24 rfl rfl
theorem dJ2_checkFromIndexSize_0 : decode cJ2_checkFromIndexSize 0 = .ok (.iload_n 2, 1) := dk_28 (dk_at dksJ2_checkFromIndexSize_0 0 rfl rfl)
theorem dJ2_checkFromIndexSize_1 : decode cJ2_checkFromIndexSize 1 = .ok (.iload_n 0, 1) := dk_26 (dk_at dksJ2_checkFromIndexSize_0 1 rfl rfl)
theorem dJ2_checkFromIndexSize_2 : decode cJ2_checkFromIndexSize 2 = .ok (.ior, 1) := dk_128 (dk_at dksJ2_checkFromIndexSize_0 2 rfl rfl)
theorem dJ2_checkFromIndexSize_3 : decode cJ2_checkFromIndexSize 3 = .ok (.iload_n 1, 1) := dk_27 (dk_at dksJ2_checkFromIndexSize_0 3 rfl rfl)
theorem dJ2_checkFromIndexSize_4 : decode cJ2_checkFromIndexSize 4 = .ok (.ior, 1) := dk_128 (dk_at dksJ2_checkFromIndexSize_0 4 rfl rfl)
theorem dJ2_checkFromIndexSize_5 : decode cJ2_checkFromIndexSize 5 = .ok (.ifCond .lt 10, 3) := dk_155 0 10 (dk_at dksJ2_checkFromIndexSize_0 5 rfl rfl)
theorem dJ2_checkFromIndexSize_8 : decode cJ2_checkFromIndexSize 8 = .ok (.iload_n 1, 1) := dk_27 (dk_at dksJ2_checkFromIndexSize_0 8 rfl rfl)
theorem dJ2_checkFromIndexSize_9 : decode cJ2_checkFromIndexSize 9 = .ok (.iload_n 2, 1) := dk_28 (dk_at dksJ2_checkFromIndexSize_0 9 rfl rfl)
theorem dJ2_checkFromIndexSize_10 : decode cJ2_checkFromIndexSize 10 = .ok (.iload_n 0, 1) := dk_26 (dk_at dksJ2_checkFromIndexSize_0 10 rfl rfl)
theorem dJ2_checkFromIndexSize_11 : decode cJ2_checkFromIndexSize 11 = .ok (.isub, 1) := dk_100 (dk_at dksJ2_checkFromIndexSize_0 11 rfl rfl)
theorem dJ2_checkFromIndexSize_12 : decode cJ2_checkFromIndexSize 12 = .ok (.if_icmp .le 11, 3) := dk_164 0 11 (dk_at dksJ2_checkFromIndexSize_0 12 rfl rfl)
theorem dJ2_checkFromIndexSize_15 : decode cJ2_checkFromIndexSize 15 = .ok (.aload_n 3, 1) := dk_45 (dk_at dksJ2_checkFromIndexSize_0 15 rfl rfl)
theorem dJ2_checkFromIndexSize_16 : decode cJ2_checkFromIndexSize 16 = .ok (.iload_n 0, 1) := dk_26 (dk_at dksJ2_checkFromIndexSize_0 16 rfl rfl)
theorem dJ2_checkFromIndexSize_17 : decode cJ2_checkFromIndexSize 17 = .ok (.iload_n 1, 1) := dk_27 (dk_at dksJ2_checkFromIndexSize_0 17 rfl rfl)
theorem dJ2_checkFromIndexSize_18 : decode cJ2_checkFromIndexSize 18 = .ok (.iload_n 2, 1) := dk_28 (dk_at dksJ2_checkFromIndexSize_0 18 rfl rfl)
theorem dJ2_checkFromIndexSize_19 : decode cJ2_checkFromIndexSize 19 = .ok (.invokestatic 103, 3) := dk_184 0 103 (dk_at dksJ2_checkFromIndexSize_0 19 rfl rfl)
theorem dJ2_checkFromIndexSize_22 : decode cJ2_checkFromIndexSize 22 = .ok (.athrow, 1) := dk_191 (dk_at dksJ2_checkFromIndexSize_0 22 rfl rfl)
theorem dJ2_checkFromIndexSize_23 : decode cJ2_checkFromIndexSize 23 = .ok (.iload_n 0, 1) := dk_26 (dk_at dksJ2_checkFromIndexSize_0 23 rfl rfl)
theorem dJ2_checkFromIndexSize_24 : decode cJ2_checkFromIndexSize 24 = .ok (.ireturn, 1) := dk_172 (dk_at dksJ2_checkFromIndexSize_1 0 rfl rfl)
theorem q6 : (Jvm.Cond.initialized "jdk/internal/util/Preconditions") ∈ lw_all := lw_g (lw_at lw_m1 5 rfl) rfl
theorem q74 : (Jvm.Cond.laysStatic "jdk/internal/util/Preconditions" "SIOOBE_FORMATTER" "Ljava/util/function/BiFunction;") ∈ lw_tbl := lw_at lw_m1 73 rfl
theorem q76 : (Jvm.Cond.static ({ cls := "jdk/internal/util/Preconditions", name := "checkIndex", desc := "(IILjava/util/function/BiFunction;)I" } : Jvm.MethodName)) ∈ lw_all := lw_g (lw_at lw_m1 75 rfl) rfl
theorem q77 : (Jvm.Cond.code ({ cls := "jdk/internal/util/Preconditions", name := "checkIndex", desc := "(IILjava/util/function/BiFunction;)I" } : Jvm.MethodName) prog_20_method_11_code (3 : Nat) (Option.some Jvm.ClassFile.FieldType.int)) ∈ lw_all := lw_g (lw_at lw_m1 76 rfl) rfl
theorem q210 : (Jvm.Cond.static ({ cls := "jdk/internal/util/Preconditions", name := "checkFromIndexSize", desc := "(IIILjava/util/function/BiFunction;)I" } : Jvm.MethodName)) ∈ lw_all := lw_g (lw_at lw_m1 209 rfl) rfl
theorem q211 : (Jvm.Cond.code ({ cls := "jdk/internal/util/Preconditions", name := "checkFromIndexSize", desc := "(IIILjava/util/function/BiFunction;)I" } : Jvm.MethodName) prog_20_method_13_code (4 : Nat) (Option.some Jvm.ClassFile.FieldType.int)) ∈ lw_all := lw_g (lw_at lw_m1 210 rfl) rfl

/-! java/lang/StringUTF16 -/
set_option maxRecDepth 100000
def RJ3 : String := "java/lang/StringUTF16"
abbrev cJ3_charAt : ByteArray := prog_15_method_83_code
def yJ3_charAt : MethodName := ⟨RJ3, "charAt", "([BI)C"⟩
def dkwJ3_charAt_0 : List UInt8 := [27, 42, 184, 0, 67, 42, 27, 184, 0, 71, 172]
abbrev dktJ3_charAt_0 : List UInt8 := dkwJ3_charAt_0 ++ []
theorem dksJ3_charAt_0 : cJ3_charAt.data.toList.drop 0 = dktJ3_charAt_0 := by decide +kernel
theorem dJ3_charAt_0 : decode cJ3_charAt 0 = .ok (.iload_n 1, 1) := dk_27 (dk_at dksJ3_charAt_0 0 rfl rfl)
theorem dJ3_charAt_1 : decode cJ3_charAt 1 = .ok (.aload_n 0, 1) := dk_42 (dk_at dksJ3_charAt_0 1 rfl rfl)
theorem dJ3_charAt_2 : decode cJ3_charAt 2 = .ok (.invokestatic 67, 3) := dk_184 0 67 (dk_at dksJ3_charAt_0 2 rfl rfl)
theorem dJ3_charAt_5 : decode cJ3_charAt 5 = .ok (.aload_n 0, 1) := dk_42 (dk_at dksJ3_charAt_0 5 rfl rfl)
theorem dJ3_charAt_6 : decode cJ3_charAt 6 = .ok (.iload_n 1, 1) := dk_27 (dk_at dksJ3_charAt_0 6 rfl rfl)
theorem dJ3_charAt_7 : decode cJ3_charAt 7 = .ok (.invokestatic 71, 3) := dk_184 0 71 (dk_at dksJ3_charAt_0 7 rfl rfl)
theorem dJ3_charAt_10 : decode cJ3_charAt 10 = .ok (.ireturn, 1) := dk_172 (dk_at dksJ3_charAt_0 10 rfl rfl)
abbrev cJ3_checkIndex : ByteArray := prog_15_method_91_code
def yJ3_checkIndex : MethodName := ⟨RJ3, "checkIndex", "(I[B)V"⟩
def dkwJ3_checkIndex_0 : List UInt8 := [26, 43, 184, 0, 48, 184, 1, 158, 177]
abbrev dktJ3_checkIndex_0 : List UInt8 := dkwJ3_checkIndex_0 ++ []
theorem dksJ3_checkIndex_0 : cJ3_checkIndex.data.toList.drop 0 = dktJ3_checkIndex_0 := by decide +kernel
theorem dJ3_checkIndex_0 : decode cJ3_checkIndex 0 = .ok (.iload_n 0, 1) := dk_26 (dk_at dksJ3_checkIndex_0 0 rfl rfl)
theorem dJ3_checkIndex_1 : decode cJ3_checkIndex 1 = .ok (.aload_n 1, 1) := dk_43 (dk_at dksJ3_checkIndex_0 1 rfl rfl)
theorem dJ3_checkIndex_2 : decode cJ3_checkIndex 2 = .ok (.invokestatic 48, 3) := dk_184 0 48 (dk_at dksJ3_checkIndex_0 2 rfl rfl)
theorem dJ3_checkIndex_5 : decode cJ3_checkIndex 5 = .ok (.invokestatic 414, 3) := dk_184 1 158 (dk_at dksJ3_checkIndex_0 5 rfl rfl)
theorem dJ3_checkIndex_8 : decode cJ3_checkIndex 8 = .ok (.return_, 1) := dk_177 (dk_at dksJ3_checkIndex_0 8 rfl rfl)
abbrev cJ3_length : ByteArray := prog_15_method_6_code
def yJ3_length : MethodName := ⟨RJ3, "length", "([B)I"⟩
def dkwJ3_length_0 : List UInt8 := [42, 190, 4, 122, 172]
abbrev dktJ3_length_0 : List UInt8 := dkwJ3_length_0 ++ []
theorem dksJ3_length_0 : cJ3_length.data.toList.drop 0 = dktJ3_length_0 := by decide +kernel
theorem dJ3_length_0 : decode cJ3_length 0 = .ok (.aload_n 0, 1) := dk_42 (dk_at dksJ3_length_0 0 rfl rfl)
theorem dJ3_length_1 : decode cJ3_length 1 = .ok (.arraylength, 1) := dk_190 (dk_at dksJ3_length_0 1 rfl rfl)
theorem dJ3_length_2 : decode cJ3_length 2 = .ok (.iconst 1, 1) := dk_4 (dk_at dksJ3_length_0 2 rfl rfl)
theorem dJ3_length_3 : decode cJ3_length 3 = .ok (.ishr, 1) := dk_122 (dk_at dksJ3_length_0 3 rfl rfl)
theorem dJ3_length_4 : decode cJ3_length 4 = .ok (.ireturn, 1) := dk_172 (dk_at dksJ3_length_0 4 rfl rfl)
abbrev cJ3_getChar : ByteArray := prog_15_method_5_code
def yJ3_getChar : MethodName := ⟨RJ3, "getChar", "([BI)C"⟩
def dkwJ3_getChar_2 : List UInt8 := [51, 17, 0, 255, 126, 178, 0, 63, 120, 128, 146, 172]
abbrev dktJ3_getChar_2 : List UInt8 := dkwJ3_getChar_2 ++ []
def dkwJ3_getChar_1 : List UInt8 := [183, 0, 56, 191, 27, 4, 120, 60, 42, 27, 132, 1, 1, 51, 17, 0, 255, 126, 178, 0, 59, 120, 42, 27]
abbrev dktJ3_getChar_1 : List UInt8 := dkwJ3_getChar_1 ++ dktJ3_getChar_2
def dkwJ3_getChar_0 : List UInt8 := [178, 0, 44, 154, 0, 25, 27, 155, 0, 11, 27, 42, 184, 0, 48, 161, 0, 13, 187, 0, 52, 89, 18, 54]
abbrev dktJ3_getChar_0 : List UInt8 := dkwJ3_getChar_0 ++ dktJ3_getChar_1
theorem dksJ3_getChar_0 : cJ3_getChar.data.toList.drop 0 = dktJ3_getChar_0 := by decide +kernel
theorem dksJ3_getChar_1 : cJ3_getChar.data.toList.drop 24 = dktJ3_getChar_1 := dk_seg dksJ3_getChar_0 24 rfl rfl
theorem dksJ3_getChar_2 : cJ3_getChar.data.toList.drop 48 = dktJ3_getChar_2 := dk_seg dksJ3_getChar_1 24 rfl rfl
theorem dJ3_getChar_0 : decode cJ3_getChar 0 = .ok (.getstatic 44, 3) := dk_178 0 44 (dk_at dksJ3_getChar_0 0 rfl rfl)
theorem dJ3_getChar_3 : decode cJ3_getChar 3 = .ok (.ifCond .ne 25, 3) := dk_154 0 25 (dk_at dksJ3_getChar_0 3 rfl rfl)
theorem dJ3_getChar_6 : decode cJ3_getChar 6 = .ok (.iload_n 1, 1) := dk_27 (dk_at dksJ3_getChar_0 6 rfl rfl)
theorem dJ3_getChar_7 : decode cJ3_getChar 7 = .ok (.ifCond .lt 11, 3) := dk_155 0 11 (dk_at dksJ3_getChar_0 7 rfl rfl)
theorem dJ3_getChar_10 : decode cJ3_getChar 10 = .ok (.iload_n 1, 1) := dk_27 (dk_at dksJ3_getChar_0 10 rfl rfl)
theorem dJ3_getChar_11 : decode cJ3_getChar 11 = .ok (.aload_n 0, 1) := dk_42 (dk_at dksJ3_getChar_0 11 rfl rfl)
theorem dJ3_getChar_12 : decode cJ3_getChar 12 = .ok (.invokestatic 48, 3) := dk_184 0 48 (dk_at dksJ3_getChar_0 12 rfl rfl)
theorem dJ3_getChar_15 : decode cJ3_getChar 15 = .ok (.if_icmp .lt 13, 3) := dk_161 0 13 (dk_at dksJ3_getChar_0 15 rfl rfl)
theorem dJ3_getChar_18 : decode cJ3_getChar 18 = .ok (.new 52, 3) := dk_187 0 52 (dk_at dksJ3_getChar_0 18 rfl rfl)
theorem dJ3_getChar_21 : decode cJ3_getChar 21 = .ok (.dup, 1) := dk_89 (dk_at dksJ3_getChar_0 21 rfl rfl)
theorem dJ3_getChar_22 : decode cJ3_getChar 22 = .ok (.ldc 54, 2) := dk_18 54 (dk_at dksJ3_getChar_0 22 rfl rfl)
theorem dJ3_getChar_24 : decode cJ3_getChar 24 = .ok (.invokespecial 56, 3) := dk_183 0 56 (dk_at dksJ3_getChar_1 0 rfl rfl)
theorem dJ3_getChar_27 : decode cJ3_getChar 27 = .ok (.athrow, 1) := dk_191 (dk_at dksJ3_getChar_1 3 rfl rfl)
theorem dJ3_getChar_28 : decode cJ3_getChar 28 = .ok (.iload_n 1, 1) := dk_27 (dk_at dksJ3_getChar_1 4 rfl rfl)
theorem dJ3_getChar_29 : decode cJ3_getChar 29 = .ok (.iconst 1, 1) := dk_4 (dk_at dksJ3_getChar_1 5 rfl rfl)
theorem dJ3_getChar_30 : decode cJ3_getChar 30 = .ok (.ishl, 1) := dk_120 (dk_at dksJ3_getChar_1 6 rfl rfl)
theorem dJ3_getChar_31 : decode cJ3_getChar 31 = .ok (.istore_n 1, 1) := dk_60 (dk_at dksJ3_getChar_1 7 rfl rfl)
theorem dJ3_getChar_32 : decode cJ3_getChar 32 = .ok (.aload_n 0, 1) := dk_42 (dk_at dksJ3_getChar_1 8 rfl rfl)
theorem dJ3_getChar_33 : decode cJ3_getChar 33 = .ok (.iload_n 1, 1) := dk_27 (dk_at dksJ3_getChar_1 9 rfl rfl)
theorem dJ3_getChar_34 : decode cJ3_getChar 34 = .ok (.iinc 1 1, 3) := dk_132 1 1 (dk_at dksJ3_getChar_1 10 rfl rfl)
theorem dJ3_getChar_37 : decode cJ3_getChar 37 = .ok (.baload, 1) := dk_51 (dk_at dksJ3_getChar_1 13 rfl rfl)
theorem dJ3_getChar_38 : decode cJ3_getChar 38 = .ok (.sipush 255, 3) := dk_17 0 255 (dk_at dksJ3_getChar_1 14 rfl rfl)
theorem dJ3_getChar_41 : decode cJ3_getChar 41 = .ok (.iand, 1) := dk_126 (dk_at dksJ3_getChar_1 17 rfl rfl)
theorem dJ3_getChar_42 : decode cJ3_getChar 42 = .ok (.getstatic 59, 3) := dk_178 0 59 (dk_at dksJ3_getChar_1 18 rfl rfl)
theorem dJ3_getChar_45 : decode cJ3_getChar 45 = .ok (.ishl, 1) := dk_120 (dk_at dksJ3_getChar_1 21 rfl rfl)
theorem dJ3_getChar_46 : decode cJ3_getChar 46 = .ok (.aload_n 0, 1) := dk_42 (dk_at dksJ3_getChar_1 22 rfl rfl)
theorem dJ3_getChar_47 : decode cJ3_getChar 47 = .ok (.iload_n 1, 1) := dk_27 (dk_at dksJ3_getChar_1 23 rfl rfl)
theorem dJ3_getChar_48 : decode cJ3_getChar 48 = .ok (.baload, 1) := dk_51 (dk_at dksJ3_getChar_2 0 rfl rfl)
theorem dJ3_getChar_49 : decode cJ3_getChar 49 = .ok (.sipush 255, 3) := dk_17 0 255 (dk_at dksJ3_getChar_2 1 rfl rfl)
theorem dJ3_getChar_52 : decode cJ3_getChar 52 = .ok (.iand, 1) := dk_126 (dk_at dksJ3_getChar_2 4 rfl rfl)
theorem dJ3_getChar_53 : decode cJ3_getChar 53 = .ok (.getstatic 63, 3) := dk_178 0 63 (dk_at dksJ3_getChar_2 5 rfl rfl)
theorem dJ3_getChar_56 : decode cJ3_getChar 56 = .ok (.ishl, 1) := dk_120 (dk_at dksJ3_getChar_2 8 rfl rfl)
theorem dJ3_getChar_57 : decode cJ3_getChar 57 = .ok (.ior, 1) := dk_128 (dk_at dksJ3_getChar_2 9 rfl rfl)
theorem dJ3_getChar_58 : decode cJ3_getChar 58 = .ok (.i2c, 1) := dk_146 (dk_at dksJ3_getChar_2 10 rfl rfl)
theorem dJ3_getChar_59 : decode cJ3_getChar 59 = .ok (.ireturn, 1) := dk_172 (dk_at dksJ3_getChar_2 11 rfl rfl)
abbrev cJ3_compress : ByteArray := prog_15_method_16_code
def yJ3_compress : MethodName := ⟨RJ3, "compress", "([CII)[B"⟩
def dkwJ3_compress_2 : List UInt8 := [184, 0, 123, 28, 159, 0, 6, 25, 5, 176, 45, 176]
abbrev dktJ3_compress_2 : List UInt8 := dkwJ3_compress_2 ++ []
def dkwJ3_compress_1 : List UInt8 := [184, 0, 119, 58, 5, 25, 5, 21, 4, 184, 0, 71, 17, 0, 255, 163, 0, 16, 25, 5, 3, 45, 3, 28]
abbrev dktJ3_compress_1 : List UInt8 := dkwJ3_compress_1 ++ dktJ3_compress_2
def dkwJ3_compress_0 : List UInt8 := [28, 188, 8, 78, 42, 27, 45, 3, 28, 184, 0, 115, 54, 4, 21, 4, 28, 159, 0, 40, 42, 27, 28]
abbrev dktJ3_compress_0 : List UInt8 := dkwJ3_compress_0 ++ dktJ3_compress_1
theorem dksJ3_compress_0 : cJ3_compress.data.toList.drop 0 = dktJ3_compress_0 := by decide +kernel
theorem dksJ3_compress_1 : cJ3_compress.data.toList.drop 23 = dktJ3_compress_1 := dk_seg dksJ3_compress_0 23 rfl rfl
theorem dksJ3_compress_2 : cJ3_compress.data.toList.drop 47 = dktJ3_compress_2 := dk_seg dksJ3_compress_1 24 rfl rfl
theorem dJ3_compress_0 : decode cJ3_compress 0 = .ok (.iload_n 2, 1) := dk_28 (dk_at dksJ3_compress_0 0 rfl rfl)
theorem dJ3_compress_1 : decode cJ3_compress 1 = .ok (.newarray .byte, 2) := dk_188_8 (dk_at dksJ3_compress_0 1 rfl rfl)
theorem dJ3_compress_3 : decode cJ3_compress 3 = .ok (.astore_n 3, 1) := dk_78 (dk_at dksJ3_compress_0 3 rfl rfl)
theorem dJ3_compress_4 : decode cJ3_compress 4 = .ok (.aload_n 0, 1) := dk_42 (dk_at dksJ3_compress_0 4 rfl rfl)
theorem dJ3_compress_5 : decode cJ3_compress 5 = .ok (.iload_n 1, 1) := dk_27 (dk_at dksJ3_compress_0 5 rfl rfl)
theorem dJ3_compress_6 : decode cJ3_compress 6 = .ok (.aload_n 3, 1) := dk_45 (dk_at dksJ3_compress_0 6 rfl rfl)
theorem dJ3_compress_7 : decode cJ3_compress 7 = .ok (.iconst 0, 1) := dk_3 (dk_at dksJ3_compress_0 7 rfl rfl)
theorem dJ3_compress_8 : decode cJ3_compress 8 = .ok (.iload_n 2, 1) := dk_28 (dk_at dksJ3_compress_0 8 rfl rfl)
theorem dJ3_compress_9 : decode cJ3_compress 9 = .ok (.invokestatic 115, 3) := dk_184 0 115 (dk_at dksJ3_compress_0 9 rfl rfl)
theorem dJ3_compress_12 : decode cJ3_compress 12 = .ok (.istore 4, 2) := dk_54 4 (dk_at dksJ3_compress_0 12 rfl rfl)
theorem dJ3_compress_14 : decode cJ3_compress 14 = .ok (.iload 4, 2) := dk_21 4 (dk_at dksJ3_compress_0 14 rfl rfl)
theorem dJ3_compress_16 : decode cJ3_compress 16 = .ok (.iload_n 2, 1) := dk_28 (dk_at dksJ3_compress_0 16 rfl rfl)
theorem dJ3_compress_17 : decode cJ3_compress 17 = .ok (.if_icmp .eq 40, 3) := dk_159 0 40 (dk_at dksJ3_compress_0 17 rfl rfl)
theorem dJ3_compress_20 : decode cJ3_compress 20 = .ok (.aload_n 0, 1) := dk_42 (dk_at dksJ3_compress_0 20 rfl rfl)
theorem dJ3_compress_21 : decode cJ3_compress 21 = .ok (.iload_n 1, 1) := dk_27 (dk_at dksJ3_compress_0 21 rfl rfl)
theorem dJ3_compress_22 : decode cJ3_compress 22 = .ok (.iload_n 2, 1) := dk_28 (dk_at dksJ3_compress_0 22 rfl rfl)
theorem dJ3_compress_23 : decode cJ3_compress 23 = .ok (.invokestatic 119, 3) := dk_184 0 119 (dk_at dksJ3_compress_1 0 rfl rfl)
theorem dJ3_compress_26 : decode cJ3_compress 26 = .ok (.astore 5, 2) := dk_58 5 (dk_at dksJ3_compress_1 3 rfl rfl)
theorem dJ3_compress_28 : decode cJ3_compress 28 = .ok (.aload 5, 2) := dk_25 5 (dk_at dksJ3_compress_1 5 rfl rfl)
theorem dJ3_compress_30 : decode cJ3_compress 30 = .ok (.iload 4, 2) := dk_21 4 (dk_at dksJ3_compress_1 7 rfl rfl)
theorem dJ3_compress_32 : decode cJ3_compress 32 = .ok (.invokestatic 71, 3) := dk_184 0 71 (dk_at dksJ3_compress_1 9 rfl rfl)
theorem dJ3_compress_35 : decode cJ3_compress 35 = .ok (.sipush 255, 3) := dk_17 0 255 (dk_at dksJ3_compress_1 12 rfl rfl)
theorem dJ3_compress_38 : decode cJ3_compress 38 = .ok (.if_icmp .gt 16, 3) := dk_163 0 16 (dk_at dksJ3_compress_1 15 rfl rfl)
theorem dJ3_compress_41 : decode cJ3_compress 41 = .ok (.aload 5, 2) := dk_25 5 (dk_at dksJ3_compress_1 18 rfl rfl)
theorem dJ3_compress_43 : decode cJ3_compress 43 = .ok (.iconst 0, 1) := dk_3 (dk_at dksJ3_compress_1 20 rfl rfl)
theorem dJ3_compress_44 : decode cJ3_compress 44 = .ok (.aload_n 3, 1) := dk_45 (dk_at dksJ3_compress_1 21 rfl rfl)
theorem dJ3_compress_45 : decode cJ3_compress 45 = .ok (.iconst 0, 1) := dk_3 (dk_at dksJ3_compress_1 22 rfl rfl)
theorem dJ3_compress_46 : decode cJ3_compress 46 = .ok (.iload_n 2, 1) := dk_28 (dk_at dksJ3_compress_1 23 rfl rfl)
theorem dJ3_compress_47 : decode cJ3_compress 47 = .ok (.invokestatic 123, 3) := dk_184 0 123 (dk_at dksJ3_compress_2 0 rfl rfl)
theorem dJ3_compress_50 : decode cJ3_compress 50 = .ok (.iload_n 2, 1) := dk_28 (dk_at dksJ3_compress_2 3 rfl rfl)
theorem dJ3_compress_51 : decode cJ3_compress 51 = .ok (.if_icmp .eq 6, 3) := dk_159 0 6 (dk_at dksJ3_compress_2 4 rfl rfl)
theorem dJ3_compress_54 : decode cJ3_compress 54 = .ok (.aload 5, 2) := dk_25 5 (dk_at dksJ3_compress_2 7 rfl rfl)
theorem dJ3_compress_56 : decode cJ3_compress 56 = .ok (.areturn, 1) := dk_176 (dk_at dksJ3_compress_2 9 rfl rfl)
theorem dJ3_compress_57 : decode cJ3_compress 57 = .ok (.aload_n 3, 1) := dk_45 (dk_at dksJ3_compress_2 10 rfl rfl)
theorem dJ3_compress_58 : decode cJ3_compress 58 = .ok (.areturn, 1) := dk_176 (dk_at dksJ3_compress_2 11 rfl rfl)
abbrev cJ3_compress_2 : ByteArray := prog_15_method_21_code
def yJ3_compress_2 : MethodName := ⟨RJ3, "compress", "([CI[BII)I"⟩
def dkwJ3_compress_2_1 : List UInt8 := [21, 5, 172, 44, 29, 21, 6, 145, 84, 132, 1, 1, 132, 3, 1, 132, 5, 1, 167, 255, 218, 21, 4, 172]
abbrev dktJ3_compress_2_1 : List UInt8 := dkwJ3_compress_2_1 ++ []
def dkwJ3_compress_2_0 : List UInt8 := [3, 54, 5, 21, 5, 21, 4, 162, 0, 37, 42, 27, 52, 54, 6, 21, 6, 17, 0, 255, 164, 0, 6]
abbrev dktJ3_compress_2_0 : List UInt8 := dkwJ3_compress_2_0 ++ dktJ3_compress_2_1
theorem dksJ3_compress_2_0 : cJ3_compress_2.data.toList.drop 0 = dktJ3_compress_2_0 := by decide +kernel
theorem dksJ3_compress_2_1 : cJ3_compress_2.data.toList.drop 23 = dktJ3_compress_2_1 := dk_seg dksJ3_compress_2_0 23 rfl rfl
theorem dJ3_compress_2_0 : decode cJ3_compress_2 0 = .ok (.iconst 0, 1) := dk_3 (dk_at dksJ3_compress_2_0 0 rfl rfl)
theorem dJ3_compress_2_1 : decode cJ3_compress_2 1 = .ok (.istore 5, 2) := dk_54 5 (dk_at dksJ3_compress_2_0 1 rfl rfl)
theorem dJ3_compress_2_3 : decode cJ3_compress_2 3 = .ok (.iload 5, 2) := dk_21 5 (dk_at dksJ3_compress_2_0 3 rfl rfl)
theorem dJ3_compress_2_5 : decode cJ3_compress_2 5 = .ok (.iload 4, 2) := dk_21 4 (dk_at dksJ3_compress_2_0 5 rfl rfl)
theorem dJ3_compress_2_7 : decode cJ3_compress_2 7 = .ok (.if_icmp .ge 37, 3) := dk_162 0 37 (dk_at dksJ3_compress_2_0 7 rfl rfl)
theorem dJ3_compress_2_10 : decode cJ3_compress_2 10 = .ok (.aload_n 0, 1) := dk_42 (dk_at dksJ3_compress_2_0 10 rfl rfl)
theorem dJ3_compress_2_11 : decode cJ3_compress_2 11 = .ok (.iload_n 1, 1) := dk_27 (dk_at dksJ3_compress_2_0 11 rfl rfl)
theorem dJ3_compress_2_12 : decode cJ3_compress_2 12 = .ok (.caload, 1) := dk_52 (dk_at dksJ3_compress_2_0 12 rfl rfl)
theorem dJ3_compress_2_13 : decode cJ3_compress_2 13 = .ok (.istore 6, 2) := dk_54 6 (dk_at dksJ3_compress_2_0 13 rfl rfl)
theorem dJ3_compress_2_15 : decode cJ3_compress_2 15 = .ok (.iload 6, 2) := dk_21 6 (dk_at dksJ3_compress_2_0 15 rfl rfl)
theorem dJ3_compress_2_17 : decode cJ3_compress_2 17 = .ok (.sipush 255, 3) := dk_17 0 255 (dk_at dksJ3_compress_2_0 17 rfl rfl)
theorem dJ3_compress_2_20 : decode cJ3_compress_2 20 = .ok (.if_icmp .le 6, 3) := dk_164 0 6 (dk_at dksJ3_compress_2_0 20 rfl rfl)
theorem dJ3_compress_2_23 : decode cJ3_compress_2 23 = .ok (.iload 5, 2) := dk_21 5 (dk_at dksJ3_compress_2_1 0 rfl rfl)
theorem dJ3_compress_2_25 : decode cJ3_compress_2 25 = .ok (.ireturn, 1) := dk_172 (dk_at dksJ3_compress_2_1 2 rfl rfl)
theorem dJ3_compress_2_26 : decode cJ3_compress_2 26 = .ok (.aload_n 2, 1) := dk_44 (dk_at dksJ3_compress_2_1 3 rfl rfl)
theorem dJ3_compress_2_27 : decode cJ3_compress_2 27 = .ok (.iload_n 3, 1) := dk_29 (dk_at dksJ3_compress_2_1 4 rfl rfl)
theorem dJ3_compress_2_28 : decode cJ3_compress_2 28 = .ok (.iload 6, 2) := dk_21 6 (dk_at dksJ3_compress_2_1 5 rfl rfl)
theorem dJ3_compress_2_30 : decode cJ3_compress_2 30 = .ok (.i2b, 1) := dk_145 (dk_at dksJ3_compress_2_1 7 rfl rfl)
theorem dJ3_compress_2_31 : decode cJ3_compress_2 31 = .ok (.bastore, 1) := dk_84 (dk_at dksJ3_compress_2_1 8 rfl rfl)
theorem dJ3_compress_2_32 : decode cJ3_compress_2 32 = .ok (.iinc 1 1, 3) := dk_132 1 1 (dk_at dksJ3_compress_2_1 9 rfl rfl)
theorem dJ3_compress_2_35 : decode cJ3_compress_2 35 = .ok (.iinc 3 1, 3) := dk_132 3 1 (dk_at dksJ3_compress_2_1 12 rfl rfl)
theorem dJ3_compress_2_38 : decode cJ3_compress_2 38 = .ok (.iinc 5 1, 3) := dk_132 5 1 (dk_at dksJ3_compress_2_1 15 rfl rfl)
theorem dJ3_compress_2_41 : decode cJ3_compress_2 41 = .ok (.goto (-38), 3) := dk_167 255 218 (dk_at dksJ3_compress_2_1 18 rfl rfl)
theorem dJ3_compress_2_44 : decode cJ3_compress_2 44 = .ok (.iload 4, 2) := dk_21 4 (dk_at dksJ3_compress_2_1 21 rfl rfl)
theorem dJ3_compress_2_46 : decode cJ3_compress_2 46 = .ok (.ireturn, 1) := dk_172 (dk_at dksJ3_compress_2_1 23 rfl rfl)
abbrev cJ3_toBytes : ByteArray := prog_15_method_14_code
def yJ3_toBytes : MethodName := ⟨RJ3, "toBytes", "([CII)[B"⟩
def dkwJ3_toBytes_1 : List UInt8 := [132, 1, 1, 132, 4, 1, 167, 255, 235, 45, 176]
abbrev dktJ3_toBytes_1 : List UInt8 := dkwJ3_toBytes_1 ++ []
def dkwJ3_toBytes_0 : List UInt8 := [28, 184, 0, 107, 78, 3, 54, 4, 21, 4, 28, 162, 0, 21, 45, 21, 4, 42, 27, 52, 184, 0, 111]
abbrev dktJ3_toBytes_0 : List UInt8 := dkwJ3_toBytes_0 ++ dktJ3_toBytes_1
theorem dksJ3_toBytes_0 : cJ3_toBytes.data.toList.drop 0 = dktJ3_toBytes_0 := by decide +kernel
theorem dksJ3_toBytes_1 : cJ3_toBytes.data.toList.drop 23 = dktJ3_toBytes_1 := dk_seg dksJ3_toBytes_0 23 rfl rfl
theorem dJ3_toBytes_0 : decode cJ3_toBytes 0 = .ok (.iload_n 2, 1) := dk_28 (dk_at dksJ3_toBytes_0 0 rfl rfl)
theorem dJ3_toBytes_1 : decode cJ3_toBytes 1 = .ok (.invokestatic 107, 3) := dk_184 0 107 (dk_at dksJ3_toBytes_0 1 rfl rfl)
theorem dJ3_toBytes_4 : decode cJ3_toBytes 4 = .ok (.astore_n 3, 1) := dk_78 (dk_at dksJ3_toBytes_0 4 rfl rfl)
theorem dJ3_toBytes_5 : decode cJ3_toBytes 5 = .ok (.iconst 0, 1) := dk_3 (dk_at dksJ3_toBytes_0 5 rfl rfl)
theorem dJ3_toBytes_6 : decode cJ3_toBytes 6 = .ok (.istore 4, 2) := dk_54 4 (dk_at dksJ3_toBytes_0 6 rfl rfl)
theorem dJ3_toBytes_8 : decode cJ3_toBytes 8 = .ok (.iload 4, 2) := dk_21 4 (dk_at dksJ3_toBytes_0 8 rfl rfl)
theorem dJ3_toBytes_10 : decode cJ3_toBytes 10 = .ok (.iload_n 2, 1) := dk_28 (dk_at dksJ3_toBytes_0 10 rfl rfl)
theorem dJ3_toBytes_11 : decode cJ3_toBytes 11 = .ok (.if_icmp .ge 21, 3) := dk_162 0 21 (dk_at dksJ3_toBytes_0 11 rfl rfl)
theorem dJ3_toBytes_14 : decode cJ3_toBytes 14 = .ok (.aload_n 3, 1) := dk_45 (dk_at dksJ3_toBytes_0 14 rfl rfl)
theorem dJ3_toBytes_15 : decode cJ3_toBytes 15 = .ok (.iload 4, 2) := dk_21 4 (dk_at dksJ3_toBytes_0 15 rfl rfl)
theorem dJ3_toBytes_17 : decode cJ3_toBytes 17 = .ok (.aload_n 0, 1) := dk_42 (dk_at dksJ3_toBytes_0 17 rfl rfl)
theorem dJ3_toBytes_18 : decode cJ3_toBytes 18 = .ok (.iload_n 1, 1) := dk_27 (dk_at dksJ3_toBytes_0 18 rfl rfl)
theorem dJ3_toBytes_19 : decode cJ3_toBytes 19 = .ok (.caload, 1) := dk_52 (dk_at dksJ3_toBytes_0 19 rfl rfl)
theorem dJ3_toBytes_20 : decode cJ3_toBytes 20 = .ok (.invokestatic 111, 3) := dk_184 0 111 (dk_at dksJ3_toBytes_0 20 rfl rfl)
theorem dJ3_toBytes_23 : decode cJ3_toBytes 23 = .ok (.iinc 1 1, 3) := dk_132 1 1 (dk_at dksJ3_toBytes_1 0 rfl rfl)
theorem dJ3_toBytes_26 : decode cJ3_toBytes 26 = .ok (.iinc 4 1, 3) := dk_132 4 1 (dk_at dksJ3_toBytes_1 3 rfl rfl)
theorem dJ3_toBytes_29 : decode cJ3_toBytes 29 = .ok (.goto (-21), 3) := dk_167 255 235 (dk_at dksJ3_toBytes_1 6 rfl rfl)
theorem dJ3_toBytes_32 : decode cJ3_toBytes 32 = .ok (.aload_n 3, 1) := dk_45 (dk_at dksJ3_toBytes_1 9 rfl rfl)
theorem dJ3_toBytes_33 : decode cJ3_toBytes 33 = .ok (.areturn, 1) := dk_176 (dk_at dksJ3_toBytes_1 10 rfl rfl)
abbrev cJ3_newBytesFor : ByteArray := prog_15_method_2_code
def yJ3_newBytesFor : MethodName := ⟨RJ3, "newBytesFor", "(I)[B"⟩
def dkwJ3_newBytesFor_0 : List UInt8 := [26, 184, 0, 11, 188, 8, 176]
abbrev dktJ3_newBytesFor_0 : List UInt8 := dkwJ3_newBytesFor_0 ++ []
theorem dksJ3_newBytesFor_0 : cJ3_newBytesFor.data.toList.drop 0 = dktJ3_newBytesFor_0 := by decide +kernel
theorem dJ3_newBytesFor_0 : decode cJ3_newBytesFor 0 = .ok (.iload_n 0, 1) := dk_26 (dk_at dksJ3_newBytesFor_0 0 rfl rfl)
theorem dJ3_newBytesFor_1 : decode cJ3_newBytesFor 1 = .ok (.invokestatic 11, 3) := dk_184 0 11 (dk_at dksJ3_newBytesFor_0 1 rfl rfl)
theorem dJ3_newBytesFor_4 : decode cJ3_newBytesFor 4 = .ok (.newarray .byte, 2) := dk_188_8 (dk_at dksJ3_newBytesFor_0 4 rfl rfl)
theorem dJ3_newBytesFor_6 : decode cJ3_newBytesFor 6 = .ok (.areturn, 1) := dk_176 (dk_at dksJ3_newBytesFor_0 6 rfl rfl)
abbrev cJ3_newBytesLength : ByteArray := prog_15_method_3_code
def yJ3_newBytesLength : MethodName := ⟨RJ3, "newBytesLength", "(I)I"⟩
def dkwJ3_newBytesLength_2 : List UInt8 := [182, 0, 32, 182, 0, 37, 183, 0, 41, 191, 26, 4, 120, 172]
abbrev dktJ3_newBytesLength_2 : List UInt8 := dkwJ3_newBytesLength_2 ++ []
def dkwJ3_newBytesLength_1 : List UInt8 := [187, 0, 23, 89, 183, 0, 25, 18, 26, 182, 0, 28, 26, 182, 0, 32, 18, 35, 182, 0, 28, 18, 20]
abbrev dktJ3_newBytesLength_1 : List UInt8 := dkwJ3_newBytesLength_1 ++ dktJ3_newBytesLength_2
def dkwJ3_newBytesLength_0 : List UInt8 := [26, 156, 0, 11, 187, 0, 17, 89, 183, 0, 19, 191, 26, 18, 20, 161, 0, 40, 187, 0, 21, 89]
abbrev dktJ3_newBytesLength_0 : List UInt8 := dkwJ3_newBytesLength_0 ++ dktJ3_newBytesLength_1
theorem dksJ3_newBytesLength_0 : cJ3_newBytesLength.data.toList.drop 0 = dktJ3_newBytesLength_0 := by decide +kernel
theorem dksJ3_newBytesLength_1 : cJ3_newBytesLength.data.toList.drop 22 = dktJ3_newBytesLength_1 := dk_seg dksJ3_newBytesLength_0 22 rfl rfl
theorem dksJ3_newBytesLength_2 : cJ3_newBytesLength.data.toList.drop 45 = dktJ3_newBytesLength_2 := dk_seg dksJ3_newBytesLength_1 23 rfl rfl
theorem dJ3_newBytesLength_0 : decode cJ3_newBytesLength 0 = .ok (.iload_n 0, 1) := dk_26 (dk_at dksJ3_newBytesLength_0 0 rfl rfl)
theorem dJ3_newBytesLength_1 : decode cJ3_newBytesLength 1 = .ok (.ifCond .ge 11, 3) := dk_156 0 11 (dk_at dksJ3_newBytesLength_0 1 rfl rfl)
theorem dJ3_newBytesLength_4 : decode cJ3_newBytesLength 4 = .ok (.new 17, 3) := dk_187 0 17 (dk_at dksJ3_newBytesLength_0 4 rfl rfl)
theorem dJ3_newBytesLength_7 : decode cJ3_newBytesLength 7 = .ok (.dup, 1) := dk_89 (dk_at dksJ3_newBytesLength_0 7 rfl rfl)
theorem dJ3_newBytesLength_8 : decode cJ3_newBytesLength 8 = .ok (.invokespecial 19, 3) := dk_183 0 19 (dk_at dksJ3_newBytesLength_0 8 rfl rfl)
theorem dJ3_newBytesLength_11 : decode cJ3_newBytesLength 11 = .ok (.athrow, 1) := dk_191 (dk_at dksJ3_newBytesLength_0 11 rfl rfl)
theorem dJ3_newBytesLength_12 : decode cJ3_newBytesLength 12 = .ok (.iload_n 0, 1) := dk_26 (dk_at dksJ3_newBytesLength_0 12 rfl rfl)
theorem dJ3_newBytesLength_13 : decode cJ3_newBytesLength 13 = .ok (.ldc 20, 2) := dk_18 20 (dk_at dksJ3_newBytesLength_0 13 rfl rfl)
theorem dJ3_newBytesLength_15 : decode cJ3_newBytesLength 15 = .ok (.if_icmp .lt 40, 3) := dk_161 0 40 (dk_at dksJ3_newBytesLength_0 15 rfl rfl)
theorem dJ3_newBytesLength_18 : decode cJ3_newBytesLength 18 = .ok (.new 21, 3) := dk_187 0 21 (dk_at dksJ3_newBytesLength_0 18 rfl rfl)
theorem dJ3_newBytesLength_21 : decode cJ3_newBytesLength 21 = .ok (.dup, 1) := dk_89 (dk_at dksJ3_newBytesLength_0 21 rfl rfl)
theorem dJ3_newBytesLength_22 : decode cJ3_newBytesLength 22 = .ok (.new 23, 3) := dk_187 0 23 (dk_at dksJ3_newBytesLength_1 0 rfl rfl)
theorem dJ3_newBytesLength_25 : decode cJ3_newBytesLength 25 = .ok (.dup, 1) := dk_89 (dk_at dksJ3_newBytesLength_1 3 rfl rfl)
theorem dJ3_newBytesLength_26 : decode cJ3_newBytesLength 26 = .ok (.invokespecial 25, 3) := dk_183 0 25 (dk_at dksJ3_newBytesLength_1 4 rfl rfl)
theorem dJ3_newBytesLength_29 : decode cJ3_newBytesLength 29 = .ok (.ldc 26, 2) := dk_18 26 (dk_at dksJ3_newBytesLength_1 7 rfl rfl)
theorem dJ3_newBytesLength_31 : decode cJ3_newBytesLength 31 = .ok (.invokevirtual 28, 3) := dk_182 0 28 (dk_at dksJ3_newBytesLength_1 9 rfl rfl)
theorem dJ3_newBytesLength_34 : decode cJ3_newBytesLength 34 = .ok (.iload_n 0, 1) := dk_26 (dk_at dksJ3_newBytesLength_1 12 rfl rfl)
theorem dJ3_newBytesLength_35 : decode cJ3_newBytesLength 35 = .ok (.invokevirtual 32, 3) := dk_182 0 32 (dk_at dksJ3_newBytesLength_1 13 rfl rfl)
theorem dJ3_newBytesLength_38 : decode cJ3_newBytesLength 38 = .ok (.ldc 35, 2) := dk_18 35 (dk_at dksJ3_newBytesLength_1 16 rfl rfl)
theorem dJ3_newBytesLength_40 : decode cJ3_newBytesLength 40 = .ok (.invokevirtual 28, 3) := dk_182 0 28 (dk_at dksJ3_newBytesLength_1 18 rfl rfl)
theorem dJ3_newBytesLength_43 : decode cJ3_newBytesLength 43 = .ok (.ldc 20, 2) := dk_18 20 (dk_at dksJ3_newBytesLength_1 21 rfl rfl)
theorem dJ3_newBytesLength_45 : decode cJ3_newBytesLength 45 = .ok (.invokevirtual 32, 3) := dk_182 0 32 (dk_at dksJ3_newBytesLength_2 0 rfl rfl)
theorem dJ3_newBytesLength_48 : decode cJ3_newBytesLength 48 = .ok (.invokevirtual 37, 3) := dk_182 0 37 (dk_at dksJ3_newBytesLength_2 3 rfl rfl)
theorem dJ3_newBytesLength_51 : decode cJ3_newBytesLength 51 = .ok (.invokespecial 41, 3) := dk_183 0 41 (dk_at dksJ3_newBytesLength_2 6 rfl rfl)
theorem dJ3_newBytesLength_54 : decode cJ3_newBytesLength 54 = .ok (.athrow, 1) := dk_191 (dk_at dksJ3_newBytesLength_2 9 rfl rfl)
theorem dJ3_newBytesLength_55 : decode cJ3_newBytesLength 55 = .ok (.iload_n 0, 1) := dk_26 (dk_at dksJ3_newBytesLength_2 10 rfl rfl)
theorem dJ3_newBytesLength_56 : decode cJ3_newBytesLength 56 = .ok (.iconst 1, 1) := dk_4 (dk_at dksJ3_newBytesLength_2 11 rfl rfl)
theorem dJ3_newBytesLength_57 : decode cJ3_newBytesLength 57 = .ok (.ishl, 1) := dk_120 (dk_at dksJ3_newBytesLength_2 12 rfl rfl)
theorem dJ3_newBytesLength_58 : decode cJ3_newBytesLength 58 = .ok (.ireturn, 1) := dk_172 (dk_at dksJ3_newBytesLength_2 13 rfl rfl)
abbrev cJ3_putChar : ByteArray := prog_15_method_4_code
def yJ3_putChar : MethodName := ⟨RJ3, "putChar", "([BII)V"⟩
def dkwJ3_putChar_2 : List UInt8 := [178, 0, 63, 122, 145, 84, 177]
abbrev dktJ3_putChar_2 : List UInt8 := dkwJ3_putChar_2 ++ []
def dkwJ3_putChar_1 : List UInt8 := [183, 0, 56, 191, 27, 4, 120, 60, 42, 27, 132, 1, 1, 28, 178, 0, 59, 122, 145, 84, 42, 27, 28]
abbrev dktJ3_putChar_1 : List UInt8 := dkwJ3_putChar_1 ++ dktJ3_putChar_2
def dkwJ3_putChar_0 : List UInt8 := [178, 0, 44, 154, 0, 25, 27, 155, 0, 11, 27, 42, 184, 0, 48, 161, 0, 13, 187, 0, 52, 89, 18, 54]
abbrev dktJ3_putChar_0 : List UInt8 := dkwJ3_putChar_0 ++ dktJ3_putChar_1
theorem dksJ3_putChar_0 : cJ3_putChar.data.toList.drop 0 = dktJ3_putChar_0 := by decide +kernel
theorem dksJ3_putChar_1 : cJ3_putChar.data.toList.drop 24 = dktJ3_putChar_1 := dk_seg dksJ3_putChar_0 24 rfl rfl
theorem dksJ3_putChar_2 : cJ3_putChar.data.toList.drop 47 = dktJ3_putChar_2 := dk_seg dksJ3_putChar_1 23 rfl rfl
theorem dJ3_putChar_0 : decode cJ3_putChar 0 = .ok (.getstatic 44, 3) := dk_178 0 44 (dk_at dksJ3_putChar_0 0 rfl rfl)
theorem dJ3_putChar_3 : decode cJ3_putChar 3 = .ok (.ifCond .ne 25, 3) := dk_154 0 25 (dk_at dksJ3_putChar_0 3 rfl rfl)
theorem dJ3_putChar_6 : decode cJ3_putChar 6 = .ok (.iload_n 1, 1) := dk_27 (dk_at dksJ3_putChar_0 6 rfl rfl)
theorem dJ3_putChar_7 : decode cJ3_putChar 7 = .ok (.ifCond .lt 11, 3) := dk_155 0 11 (dk_at dksJ3_putChar_0 7 rfl rfl)
theorem dJ3_putChar_10 : decode cJ3_putChar 10 = .ok (.iload_n 1, 1) := dk_27 (dk_at dksJ3_putChar_0 10 rfl rfl)
theorem dJ3_putChar_11 : decode cJ3_putChar 11 = .ok (.aload_n 0, 1) := dk_42 (dk_at dksJ3_putChar_0 11 rfl rfl)
theorem dJ3_putChar_12 : decode cJ3_putChar 12 = .ok (.invokestatic 48, 3) := dk_184 0 48 (dk_at dksJ3_putChar_0 12 rfl rfl)
theorem dJ3_putChar_15 : decode cJ3_putChar 15 = .ok (.if_icmp .lt 13, 3) := dk_161 0 13 (dk_at dksJ3_putChar_0 15 rfl rfl)
theorem dJ3_putChar_18 : decode cJ3_putChar 18 = .ok (.new 52, 3) := dk_187 0 52 (dk_at dksJ3_putChar_0 18 rfl rfl)
theorem dJ3_putChar_21 : decode cJ3_putChar 21 = .ok (.dup, 1) := dk_89 (dk_at dksJ3_putChar_0 21 rfl rfl)
theorem dJ3_putChar_22 : decode cJ3_putChar 22 = .ok (.ldc 54, 2) := dk_18 54 (dk_at dksJ3_putChar_0 22 rfl rfl)
theorem dJ3_putChar_24 : decode cJ3_putChar 24 = .ok (.invokespecial 56, 3) := dk_183 0 56 (dk_at dksJ3_putChar_1 0 rfl rfl)
theorem dJ3_putChar_27 : decode cJ3_putChar 27 = .ok (.athrow, 1) := dk_191 (dk_at dksJ3_putChar_1 3 rfl rfl)
theorem dJ3_putChar_28 : decode cJ3_putChar 28 = .ok (.iload_n 1, 1) := dk_27 (dk_at dksJ3_putChar_1 4 rfl rfl)
theorem dJ3_putChar_29 : decode cJ3_putChar 29 = .ok (.iconst 1, 1) := dk_4 (dk_at dksJ3_putChar_1 5 rfl rfl)
theorem dJ3_putChar_30 : decode cJ3_putChar 30 = .ok (.ishl, 1) := dk_120 (dk_at dksJ3_putChar_1 6 rfl rfl)
theorem dJ3_putChar_31 : decode cJ3_putChar 31 = .ok (.istore_n 1, 1) := dk_60 (dk_at dksJ3_putChar_1 7 rfl rfl)
theorem dJ3_putChar_32 : decode cJ3_putChar 32 = .ok (.aload_n 0, 1) := dk_42 (dk_at dksJ3_putChar_1 8 rfl rfl)
theorem dJ3_putChar_33 : decode cJ3_putChar 33 = .ok (.iload_n 1, 1) := dk_27 (dk_at dksJ3_putChar_1 9 rfl rfl)
theorem dJ3_putChar_34 : decode cJ3_putChar 34 = .ok (.iinc 1 1, 3) := dk_132 1 1 (dk_at dksJ3_putChar_1 10 rfl rfl)
theorem dJ3_putChar_37 : decode cJ3_putChar 37 = .ok (.iload_n 2, 1) := dk_28 (dk_at dksJ3_putChar_1 13 rfl rfl)
theorem dJ3_putChar_38 : decode cJ3_putChar 38 = .ok (.getstatic 59, 3) := dk_178 0 59 (dk_at dksJ3_putChar_1 14 rfl rfl)
theorem dJ3_putChar_41 : decode cJ3_putChar 41 = .ok (.ishr, 1) := dk_122 (dk_at dksJ3_putChar_1 17 rfl rfl)
theorem dJ3_putChar_42 : decode cJ3_putChar 42 = .ok (.i2b, 1) := dk_145 (dk_at dksJ3_putChar_1 18 rfl rfl)
theorem dJ3_putChar_43 : decode cJ3_putChar 43 = .ok (.bastore, 1) := dk_84 (dk_at dksJ3_putChar_1 19 rfl rfl)
theorem dJ3_putChar_44 : decode cJ3_putChar 44 = .ok (.aload_n 0, 1) := dk_42 (dk_at dksJ3_putChar_1 20 rfl rfl)
theorem dJ3_putChar_45 : decode cJ3_putChar 45 = .ok (.iload_n 1, 1) := dk_27 (dk_at dksJ3_putChar_1 21 rfl rfl)
theorem dJ3_putChar_46 : decode cJ3_putChar 46 = .ok (.iload_n 2, 1) := dk_28 (dk_at dksJ3_putChar_1 22 rfl rfl)
theorem dJ3_putChar_47 : decode cJ3_putChar 47 = .ok (.getstatic 63, 3) := dk_178 0 63 (dk_at dksJ3_putChar_2 0 rfl rfl)
theorem dJ3_putChar_50 : decode cJ3_putChar 50 = .ok (.ishr, 1) := dk_122 (dk_at dksJ3_putChar_2 3 rfl rfl)
theorem dJ3_putChar_51 : decode cJ3_putChar 51 = .ok (.i2b, 1) := dk_145 (dk_at dksJ3_putChar_2 4 rfl rfl)
theorem dJ3_putChar_52 : decode cJ3_putChar 52 = .ok (.bastore, 1) := dk_84 (dk_at dksJ3_putChar_2 5 rfl rfl)
theorem dJ3_putChar_53 : decode cJ3_putChar 53 = .ok (.return_, 1) := dk_177 (dk_at dksJ3_putChar_2 6 rfl rfl)
abbrev cJ3_compress_3 : ByteArray := prog_15_method_22_code
def yJ3_compress_3 : MethodName := ⟨RJ3, "compress", "([BI[BII)I"⟩
def dkwJ3_compress_3_2 : List UInt8 := [132, 5, 1, 167, 255, 216, 21, 4, 172]
abbrev dktJ3_compress_3_2 : List UInt8 := dkwJ3_compress_3_2 ++ []
def dkwJ3_compress_3_1 : List UInt8 := [21, 6, 17, 0, 255, 164, 0, 6, 21, 5, 172, 44, 29, 21, 6, 145, 84, 132, 1, 1, 132, 3, 1]
abbrev dktJ3_compress_3_1 : List UInt8 := dkwJ3_compress_3_1 ++ dktJ3_compress_3_2
def dkwJ3_compress_3_0 : List UInt8 := [27, 21, 4, 42, 184, 0, 173, 3, 54, 5, 21, 5, 21, 4, 162, 0, 39, 42, 27, 184, 0, 71, 54, 6]
abbrev dktJ3_compress_3_0 : List UInt8 := dkwJ3_compress_3_0 ++ dktJ3_compress_3_1
theorem dksJ3_compress_3_0 : cJ3_compress_3.data.toList.drop 0 = dktJ3_compress_3_0 := by decide +kernel
theorem dksJ3_compress_3_1 : cJ3_compress_3.data.toList.drop 24 = dktJ3_compress_3_1 := dk_seg dksJ3_compress_3_0 24 rfl rfl
theorem dksJ3_compress_3_2 : cJ3_compress_3.data.toList.drop 47 = dktJ3_compress_3_2 := dk_seg dksJ3_compress_3_1 23 rfl rfl
theorem dJ3_compress_3_0 : decode cJ3_compress_3 0 = .ok (.iload_n 1, 1) := dk_27 (dk_at dksJ3_compress_3_0 0 rfl rfl)
theorem dJ3_compress_3_1 : decode cJ3_compress_3 1 = .ok (.iload 4, 2) := dk_21 4 (dk_at dksJ3_compress_3_0 1 rfl rfl)
theorem dJ3_compress_3_3 : decode cJ3_compress_3 3 = .ok (.aload_n 0, 1) := dk_42 (dk_at dksJ3_compress_3_0 3 rfl rfl)
theorem dJ3_compress_3_4 : decode cJ3_compress_3 4 = .ok (.invokestatic 173, 3) := dk_184 0 173 (dk_at dksJ3_compress_3_0 4 rfl rfl)
theorem dJ3_compress_3_7 : decode cJ3_compress_3 7 = .ok (.iconst 0, 1) := dk_3 (dk_at dksJ3_compress_3_0 7 rfl rfl)
theorem dJ3_compress_3_8 : decode cJ3_compress_3 8 = .ok (.istore 5, 2) := dk_54 5 (dk_at dksJ3_compress_3_0 8 rfl rfl)
theorem dJ3_compress_3_10 : decode cJ3_compress_3 10 = .ok (.iload 5, 2) := dk_21 5 (dk_at dksJ3_compress_3_0 10 rfl rfl)
theorem dJ3_compress_3_12 : decode cJ3_compress_3 12 = .ok (.iload 4, 2) := dk_21 4 (dk_at dksJ3_compress_3_0 12 rfl rfl)
theorem dJ3_compress_3_14 : decode cJ3_compress_3 14 = .ok (.if_icmp .ge 39, 3) := dk_162 0 39 (dk_at dksJ3_compress_3_0 14 rfl rfl)
theorem dJ3_compress_3_17 : decode cJ3_compress_3 17 = .ok (.aload_n 0, 1) := dk_42 (dk_at dksJ3_compress_3_0 17 rfl rfl)
theorem dJ3_compress_3_18 : decode cJ3_compress_3 18 = .ok (.iload_n 1, 1) := dk_27 (dk_at dksJ3_compress_3_0 18 rfl rfl)
theorem dJ3_compress_3_19 : decode cJ3_compress_3 19 = .ok (.invokestatic 71, 3) := dk_184 0 71 (dk_at dksJ3_compress_3_0 19 rfl rfl)
theorem dJ3_compress_3_22 : decode cJ3_compress_3 22 = .ok (.istore 6, 2) := dk_54 6 (dk_at dksJ3_compress_3_0 22 rfl rfl)
theorem dJ3_compress_3_24 : decode cJ3_compress_3 24 = .ok (.iload 6, 2) := dk_21 6 (dk_at dksJ3_compress_3_1 0 rfl rfl)
theorem dJ3_compress_3_26 : decode cJ3_compress_3 26 = .ok (.sipush 255, 3) := dk_17 0 255 (dk_at dksJ3_compress_3_1 2 rfl rfl)
theorem dJ3_compress_3_29 : decode cJ3_compress_3 29 = .ok (.if_icmp .le 6, 3) := dk_164 0 6 (dk_at dksJ3_compress_3_1 5 rfl rfl)
theorem dJ3_compress_3_32 : decode cJ3_compress_3 32 = .ok (.iload 5, 2) := dk_21 5 (dk_at dksJ3_compress_3_1 8 rfl rfl)
theorem dJ3_compress_3_34 : decode cJ3_compress_3 34 = .ok (.ireturn, 1) := dk_172 (dk_at dksJ3_compress_3_1 10 rfl rfl)
theorem dJ3_compress_3_35 : decode cJ3_compress_3 35 = .ok (.aload_n 2, 1) := dk_44 (dk_at dksJ3_compress_3_1 11 rfl rfl)
theorem dJ3_compress_3_36 : decode cJ3_compress_3 36 = .ok (.iload_n 3, 1) := dk_29 (dk_at dksJ3_compress_3_1 12 rfl rfl)
theorem dJ3_compress_3_37 : decode cJ3_compress_3 37 = .ok (.iload 6, 2) := dk_21 6 (dk_at dksJ3_compress_3_1 13 rfl rfl)
theorem dJ3_compress_3_39 : decode cJ3_compress_3 39 = .ok (.i2b, 1) := dk_145 (dk_at dksJ3_compress_3_1 15 rfl rfl)
theorem dJ3_compress_3_40 : decode cJ3_compress_3 40 = .ok (.bastore, 1) := dk_84 (dk_at dksJ3_compress_3_1 16 rfl rfl)
theorem dJ3_compress_3_41 : decode cJ3_compress_3 41 = .ok (.iinc 1 1, 3) := dk_132 1 1 (dk_at dksJ3_compress_3_1 17 rfl rfl)
theorem dJ3_compress_3_44 : decode cJ3_compress_3 44 = .ok (.iinc 3 1, 3) := dk_132 3 1 (dk_at dksJ3_compress_3_1 20 rfl rfl)
theorem dJ3_compress_3_47 : decode cJ3_compress_3 47 = .ok (.iinc 5 1, 3) := dk_132 5 1 (dk_at dksJ3_compress_3_2 0 rfl rfl)
theorem dJ3_compress_3_50 : decode cJ3_compress_3 50 = .ok (.goto (-40), 3) := dk_167 255 216 (dk_at dksJ3_compress_3_2 3 rfl rfl)
theorem dJ3_compress_3_53 : decode cJ3_compress_3 53 = .ok (.iload 4, 2) := dk_21 4 (dk_at dksJ3_compress_3_2 6 rfl rfl)
theorem dJ3_compress_3_55 : decode cJ3_compress_3 55 = .ok (.ireturn, 1) := dk_172 (dk_at dksJ3_compress_3_2 8 rfl rfl)
abbrev cJ3_checkBoundsOffCount : ByteArray := prog_15_method_94_code
def yJ3_checkBoundsOffCount : MethodName := ⟨RJ3, "checkBoundsOffCount", "(II[B)V"⟩
def dkwJ3_checkBoundsOffCount_0 : List UInt8 := [26, 27, 44, 184, 0, 48, 184, 1, 163, 87, 177]
abbrev dktJ3_checkBoundsOffCount_0 : List UInt8 := dkwJ3_checkBoundsOffCount_0 ++ []
theorem dksJ3_checkBoundsOffCount_0 : cJ3_checkBoundsOffCount.data.toList.drop 0 = dktJ3_checkBoundsOffCount_0 := by decide +kernel
theorem dJ3_checkBoundsOffCount_0 : decode cJ3_checkBoundsOffCount 0 = .ok (.iload_n 0, 1) := dk_26 (dk_at dksJ3_checkBoundsOffCount_0 0 rfl rfl)
theorem dJ3_checkBoundsOffCount_1 : decode cJ3_checkBoundsOffCount 1 = .ok (.iload_n 1, 1) := dk_27 (dk_at dksJ3_checkBoundsOffCount_0 1 rfl rfl)
theorem dJ3_checkBoundsOffCount_2 : decode cJ3_checkBoundsOffCount 2 = .ok (.aload_n 2, 1) := dk_44 (dk_at dksJ3_checkBoundsOffCount_0 2 rfl rfl)
theorem dJ3_checkBoundsOffCount_3 : decode cJ3_checkBoundsOffCount 3 = .ok (.invokestatic 48, 3) := dk_184 0 48 (dk_at dksJ3_checkBoundsOffCount_0 3 rfl rfl)
theorem dJ3_checkBoundsOffCount_6 : decode cJ3_checkBoundsOffCount 6 = .ok (.invokestatic 419, 3) := dk_184 1 163 (dk_at dksJ3_checkBoundsOffCount_0 6 rfl rfl)
theorem dJ3_checkBoundsOffCount_9 : decode cJ3_checkBoundsOffCount 9 = .ok (.pop, 1) := dk_87 (dk_at dksJ3_checkBoundsOffCount_0 9 rfl rfl)
theorem dJ3_checkBoundsOffCount_10 : decode cJ3_checkBoundsOffCount 10 = .ok (.return_, 1) := dk_177 (dk_at dksJ3_checkBoundsOffCount_0 10 rfl rfl)
abbrev cJ3_coderFromArrayLen : ByteArray := prog_15_method_15_code
def yJ3_coderFromArrayLen : MethodName := ⟨RJ3, "coderFromArrayLen", "([BI)B"⟩
def dkwJ3_coderFromArrayLen_0 : List UInt8 := [27, 42, 190, 100, 16, 31, 124, 145, 172]
abbrev dktJ3_coderFromArrayLen_0 : List UInt8 := dkwJ3_coderFromArrayLen_0 ++ []
theorem dksJ3_coderFromArrayLen_0 : cJ3_coderFromArrayLen.data.toList.drop 0 = dktJ3_coderFromArrayLen_0 := by decide +kernel
theorem dJ3_coderFromArrayLen_0 : decode cJ3_coderFromArrayLen 0 = .ok (.iload_n 1, 1) := dk_27 (dk_at dksJ3_coderFromArrayLen_0 0 rfl rfl)
theorem dJ3_coderFromArrayLen_1 : decode cJ3_coderFromArrayLen 1 = .ok (.aload_n 0, 1) := dk_42 (dk_at dksJ3_coderFromArrayLen_0 1 rfl rfl)
theorem dJ3_coderFromArrayLen_2 : decode cJ3_coderFromArrayLen 2 = .ok (.arraylength, 1) := dk_190 (dk_at dksJ3_coderFromArrayLen_0 2 rfl rfl)
theorem dJ3_coderFromArrayLen_3 : decode cJ3_coderFromArrayLen 3 = .ok (.isub, 1) := dk_100 (dk_at dksJ3_coderFromArrayLen_0 3 rfl rfl)
theorem dJ3_coderFromArrayLen_4 : decode cJ3_coderFromArrayLen 4 = .ok (.bipush 31, 2) := dk_16 31 (dk_at dksJ3_coderFromArrayLen_0 4 rfl rfl)
theorem dJ3_coderFromArrayLen_6 : decode cJ3_coderFromArrayLen 6 = .ok (.iushr, 1) := dk_124 (dk_at dksJ3_coderFromArrayLen_0 6 rfl rfl)
theorem dJ3_coderFromArrayLen_7 : decode cJ3_coderFromArrayLen 7 = .ok (.i2b, 1) := dk_145 (dk_at dksJ3_coderFromArrayLen_0 7 rfl rfl)
theorem dJ3_coderFromArrayLen_8 : decode cJ3_coderFromArrayLen 8 = .ok (.ireturn, 1) := dk_172 (dk_at dksJ3_coderFromArrayLen_0 8 rfl rfl)
abbrev cJ3_inflate : ByteArray := prog_15_method_86_code
def yJ3_inflate : MethodName := ⟨RJ3, "inflate", "([BI[BII)V"⟩
def dkwJ3_inflate_1 : List UInt8 := [132, 1, 1, 51, 17, 0, 255, 126, 184, 0, 111, 132, 5, 1, 167, 255, 228, 177]
abbrev dktJ3_inflate_1 : List UInt8 := dkwJ3_inflate_1 ++ []
def dkwJ3_inflate_0 : List UInt8 := [29, 21, 4, 44, 184, 0, 173, 3, 54, 5, 21, 5, 21, 4, 162, 0, 27, 44, 29, 132, 3, 1, 42, 27]
abbrev dktJ3_inflate_0 : List UInt8 := dkwJ3_inflate_0 ++ dktJ3_inflate_1
theorem dksJ3_inflate_0 : cJ3_inflate.data.toList.drop 0 = dktJ3_inflate_0 := by decide +kernel
theorem dksJ3_inflate_1 : cJ3_inflate.data.toList.drop 24 = dktJ3_inflate_1 := dk_seg dksJ3_inflate_0 24 rfl rfl
theorem dJ3_inflate_0 : decode cJ3_inflate 0 = .ok (.iload_n 3, 1) := dk_29 (dk_at dksJ3_inflate_0 0 rfl rfl)
theorem dJ3_inflate_1 : decode cJ3_inflate 1 = .ok (.iload 4, 2) := dk_21 4 (dk_at dksJ3_inflate_0 1 rfl rfl)
theorem dJ3_inflate_3 : decode cJ3_inflate 3 = .ok (.aload_n 2, 1) := dk_44 (dk_at dksJ3_inflate_0 3 rfl rfl)
theorem dJ3_inflate_4 : decode cJ3_inflate 4 = .ok (.invokestatic 173, 3) := dk_184 0 173 (dk_at dksJ3_inflate_0 4 rfl rfl)
theorem dJ3_inflate_7 : decode cJ3_inflate 7 = .ok (.iconst 0, 1) := dk_3 (dk_at dksJ3_inflate_0 7 rfl rfl)
theorem dJ3_inflate_8 : decode cJ3_inflate 8 = .ok (.istore 5, 2) := dk_54 5 (dk_at dksJ3_inflate_0 8 rfl rfl)
theorem dJ3_inflate_10 : decode cJ3_inflate 10 = .ok (.iload 5, 2) := dk_21 5 (dk_at dksJ3_inflate_0 10 rfl rfl)
theorem dJ3_inflate_12 : decode cJ3_inflate 12 = .ok (.iload 4, 2) := dk_21 4 (dk_at dksJ3_inflate_0 12 rfl rfl)
theorem dJ3_inflate_14 : decode cJ3_inflate 14 = .ok (.if_icmp .ge 27, 3) := dk_162 0 27 (dk_at dksJ3_inflate_0 14 rfl rfl)
theorem dJ3_inflate_17 : decode cJ3_inflate 17 = .ok (.aload_n 2, 1) := dk_44 (dk_at dksJ3_inflate_0 17 rfl rfl)
theorem dJ3_inflate_18 : decode cJ3_inflate 18 = .ok (.iload_n 3, 1) := dk_29 (dk_at dksJ3_inflate_0 18 rfl rfl)
theorem dJ3_inflate_19 : decode cJ3_inflate 19 = .ok (.iinc 3 1, 3) := dk_132 3 1 (dk_at dksJ3_inflate_0 19 rfl rfl)
theorem dJ3_inflate_22 : decode cJ3_inflate 22 = .ok (.aload_n 0, 1) := dk_42 (dk_at dksJ3_inflate_0 22 rfl rfl)
theorem dJ3_inflate_23 : decode cJ3_inflate 23 = .ok (.iload_n 1, 1) := dk_27 (dk_at dksJ3_inflate_0 23 rfl rfl)
theorem dJ3_inflate_24 : decode cJ3_inflate 24 = .ok (.iinc 1 1, 3) := dk_132 1 1 (dk_at dksJ3_inflate_1 0 rfl rfl)
theorem dJ3_inflate_27 : decode cJ3_inflate 27 = .ok (.baload, 1) := dk_51 (dk_at dksJ3_inflate_1 3 rfl rfl)
theorem dJ3_inflate_28 : decode cJ3_inflate 28 = .ok (.sipush 255, 3) := dk_17 0 255 (dk_at dksJ3_inflate_1 4 rfl rfl)
theorem dJ3_inflate_31 : decode cJ3_inflate 31 = .ok (.iand, 1) := dk_126 (dk_at dksJ3_inflate_1 7 rfl rfl)
theorem dJ3_inflate_32 : decode cJ3_inflate 32 = .ok (.invokestatic 111, 3) := dk_184 0 111 (dk_at dksJ3_inflate_1 8 rfl rfl)
theorem dJ3_inflate_35 : decode cJ3_inflate 35 = .ok (.iinc 5 1, 3) := dk_132 5 1 (dk_at dksJ3_inflate_1 11 rfl rfl)
theorem dJ3_inflate_38 : decode cJ3_inflate 38 = .ok (.goto (-28), 3) := dk_167 255 228 (dk_at dksJ3_inflate_1 14 rfl rfl)
theorem dJ3_inflate_41 : decode cJ3_inflate 41 = .ok (.return_, 1) := dk_177 (dk_at dksJ3_inflate_1 17 rfl rfl)
abbrev cJ3_putCharSB : ByteArray := prog_15_method_71_code
def yJ3_putCharSB : MethodName := ⟨RJ3, "putCharSB", "([BII)V"⟩
def dkwJ3_putCharSB_0 : List UInt8 := [27, 42, 184, 0, 67, 42, 27, 28, 184, 0, 111, 177]
abbrev dktJ3_putCharSB_0 : List UInt8 := dkwJ3_putCharSB_0 ++ []
theorem dksJ3_putCharSB_0 : cJ3_putCharSB.data.toList.drop 0 = dktJ3_putCharSB_0 := by decide +kernel
theorem dJ3_putCharSB_0 : decode cJ3_putCharSB 0 = .ok (.iload_n 1, 1) := dk_27 (dk_at dksJ3_putCharSB_0 0 rfl rfl)
theorem dJ3_putCharSB_1 : decode cJ3_putCharSB 1 = .ok (.aload_n 0, 1) := dk_42 (dk_at dksJ3_putCharSB_0 1 rfl rfl)
theorem dJ3_putCharSB_2 : decode cJ3_putCharSB 2 = .ok (.invokestatic 67, 3) := dk_184 0 67 (dk_at dksJ3_putCharSB_0 2 rfl rfl)
theorem dJ3_putCharSB_5 : decode cJ3_putCharSB 5 = .ok (.aload_n 0, 1) := dk_42 (dk_at dksJ3_putCharSB_0 5 rfl rfl)
theorem dJ3_putCharSB_6 : decode cJ3_putCharSB 6 = .ok (.iload_n 1, 1) := dk_27 (dk_at dksJ3_putCharSB_0 6 rfl rfl)
theorem dJ3_putCharSB_7 : decode cJ3_putCharSB 7 = .ok (.iload_n 2, 1) := dk_28 (dk_at dksJ3_putCharSB_0 7 rfl rfl)
theorem dJ3_putCharSB_8 : decode cJ3_putCharSB 8 = .ok (.invokestatic 111, 3) := dk_184 0 111 (dk_at dksJ3_putCharSB_0 8 rfl rfl)
theorem dJ3_putCharSB_11 : decode cJ3_putCharSB 11 = .ok (.return_, 1) := dk_177 (dk_at dksJ3_putCharSB_0 11 rfl rfl)
abbrev cJ3_compress_4 : ByteArray := prog_15_method_17_code
def yJ3_compress_4 : MethodName := ⟨RJ3, "compress", "([BII)[B"⟩
def dkwJ3_compress_4_2 : List UInt8 := [25, 5, 3, 45, 3, 28, 184, 0, 123, 28, 159, 0, 6, 25, 5, 176, 45, 176]
abbrev dktJ3_compress_4_2 : List UInt8 := dkwJ3_compress_4_2 ++ []
def dkwJ3_compress_4_1 : List UInt8 := [27, 28, 96, 184, 0, 11, 184, 0, 126, 58, 5, 25, 5, 21, 4, 184, 0, 71, 17, 0, 255, 163, 0, 16]
abbrev dktJ3_compress_4_1 : List UInt8 := dkwJ3_compress_4_1 ++ dktJ3_compress_4_2
def dkwJ3_compress_4_0 : List UInt8 := [28, 188, 8, 78, 42, 27, 45, 3, 28, 184, 0, 123, 54, 4, 21, 4, 28, 159, 0, 47, 42, 27, 4, 120]
abbrev dktJ3_compress_4_0 : List UInt8 := dkwJ3_compress_4_0 ++ dktJ3_compress_4_1
theorem dksJ3_compress_4_0 : cJ3_compress_4.data.toList.drop 0 = dktJ3_compress_4_0 := by decide +kernel
theorem dksJ3_compress_4_1 : cJ3_compress_4.data.toList.drop 24 = dktJ3_compress_4_1 := dk_seg dksJ3_compress_4_0 24 rfl rfl
theorem dksJ3_compress_4_2 : cJ3_compress_4.data.toList.drop 48 = dktJ3_compress_4_2 := dk_seg dksJ3_compress_4_1 24 rfl rfl
theorem dJ3_compress_4_0 : decode cJ3_compress_4 0 = .ok (.iload_n 2, 1) := dk_28 (dk_at dksJ3_compress_4_0 0 rfl rfl)
theorem dJ3_compress_4_1 : decode cJ3_compress_4 1 = .ok (.newarray .byte, 2) := dk_188_8 (dk_at dksJ3_compress_4_0 1 rfl rfl)
theorem dJ3_compress_4_3 : decode cJ3_compress_4 3 = .ok (.astore_n 3, 1) := dk_78 (dk_at dksJ3_compress_4_0 3 rfl rfl)
theorem dJ3_compress_4_4 : decode cJ3_compress_4 4 = .ok (.aload_n 0, 1) := dk_42 (dk_at dksJ3_compress_4_0 4 rfl rfl)
theorem dJ3_compress_4_5 : decode cJ3_compress_4 5 = .ok (.iload_n 1, 1) := dk_27 (dk_at dksJ3_compress_4_0 5 rfl rfl)
theorem dJ3_compress_4_6 : decode cJ3_compress_4 6 = .ok (.aload_n 3, 1) := dk_45 (dk_at dksJ3_compress_4_0 6 rfl rfl)
theorem dJ3_compress_4_7 : decode cJ3_compress_4 7 = .ok (.iconst 0, 1) := dk_3 (dk_at dksJ3_compress_4_0 7 rfl rfl)
theorem dJ3_compress_4_8 : decode cJ3_compress_4 8 = .ok (.iload_n 2, 1) := dk_28 (dk_at dksJ3_compress_4_0 8 rfl rfl)
theorem dJ3_compress_4_9 : decode cJ3_compress_4 9 = .ok (.invokestatic 123, 3) := dk_184 0 123 (dk_at dksJ3_compress_4_0 9 rfl rfl)
theorem dJ3_compress_4_12 : decode cJ3_compress_4 12 = .ok (.istore 4, 2) := dk_54 4 (dk_at dksJ3_compress_4_0 12 rfl rfl)
theorem dJ3_compress_4_14 : decode cJ3_compress_4 14 = .ok (.iload 4, 2) := dk_21 4 (dk_at dksJ3_compress_4_0 14 rfl rfl)
theorem dJ3_compress_4_16 : decode cJ3_compress_4 16 = .ok (.iload_n 2, 1) := dk_28 (dk_at dksJ3_compress_4_0 16 rfl rfl)
theorem dJ3_compress_4_17 : decode cJ3_compress_4 17 = .ok (.if_icmp .eq 47, 3) := dk_159 0 47 (dk_at dksJ3_compress_4_0 17 rfl rfl)
theorem dJ3_compress_4_20 : decode cJ3_compress_4 20 = .ok (.aload_n 0, 1) := dk_42 (dk_at dksJ3_compress_4_0 20 rfl rfl)
theorem dJ3_compress_4_21 : decode cJ3_compress_4 21 = .ok (.iload_n 1, 1) := dk_27 (dk_at dksJ3_compress_4_0 21 rfl rfl)
theorem dJ3_compress_4_22 : decode cJ3_compress_4 22 = .ok (.iconst 1, 1) := dk_4 (dk_at dksJ3_compress_4_0 22 rfl rfl)
theorem dJ3_compress_4_23 : decode cJ3_compress_4 23 = .ok (.ishl, 1) := dk_120 (dk_at dksJ3_compress_4_0 23 rfl rfl)
theorem dJ3_compress_4_24 : decode cJ3_compress_4 24 = .ok (.iload_n 1, 1) := dk_27 (dk_at dksJ3_compress_4_1 0 rfl rfl)
theorem dJ3_compress_4_25 : decode cJ3_compress_4 25 = .ok (.iload_n 2, 1) := dk_28 (dk_at dksJ3_compress_4_1 1 rfl rfl)
theorem dJ3_compress_4_26 : decode cJ3_compress_4 26 = .ok (.iadd, 1) := dk_96 (dk_at dksJ3_compress_4_1 2 rfl rfl)
theorem dJ3_compress_4_27 : decode cJ3_compress_4 27 = .ok (.invokestatic 11, 3) := dk_184 0 11 (dk_at dksJ3_compress_4_1 3 rfl rfl)
theorem dJ3_compress_4_30 : decode cJ3_compress_4 30 = .ok (.invokestatic 126, 3) := dk_184 0 126 (dk_at dksJ3_compress_4_1 6 rfl rfl)
theorem dJ3_compress_4_33 : decode cJ3_compress_4 33 = .ok (.astore 5, 2) := dk_58 5 (dk_at dksJ3_compress_4_1 9 rfl rfl)
theorem dJ3_compress_4_35 : decode cJ3_compress_4 35 = .ok (.aload 5, 2) := dk_25 5 (dk_at dksJ3_compress_4_1 11 rfl rfl)
theorem dJ3_compress_4_37 : decode cJ3_compress_4 37 = .ok (.iload 4, 2) := dk_21 4 (dk_at dksJ3_compress_4_1 13 rfl rfl)
theorem dJ3_compress_4_39 : decode cJ3_compress_4 39 = .ok (.invokestatic 71, 3) := dk_184 0 71 (dk_at dksJ3_compress_4_1 15 rfl rfl)
theorem dJ3_compress_4_42 : decode cJ3_compress_4 42 = .ok (.sipush 255, 3) := dk_17 0 255 (dk_at dksJ3_compress_4_1 18 rfl rfl)
theorem dJ3_compress_4_45 : decode cJ3_compress_4 45 = .ok (.if_icmp .gt 16, 3) := dk_163 0 16 (dk_at dksJ3_compress_4_1 21 rfl rfl)
theorem dJ3_compress_4_48 : decode cJ3_compress_4 48 = .ok (.aload 5, 2) := dk_25 5 (dk_at dksJ3_compress_4_2 0 rfl rfl)
theorem dJ3_compress_4_50 : decode cJ3_compress_4 50 = .ok (.iconst 0, 1) := dk_3 (dk_at dksJ3_compress_4_2 2 rfl rfl)
theorem dJ3_compress_4_51 : decode cJ3_compress_4 51 = .ok (.aload_n 3, 1) := dk_45 (dk_at dksJ3_compress_4_2 3 rfl rfl)
theorem dJ3_compress_4_52 : decode cJ3_compress_4 52 = .ok (.iconst 0, 1) := dk_3 (dk_at dksJ3_compress_4_2 4 rfl rfl)
theorem dJ3_compress_4_53 : decode cJ3_compress_4 53 = .ok (.iload_n 2, 1) := dk_28 (dk_at dksJ3_compress_4_2 5 rfl rfl)
theorem dJ3_compress_4_54 : decode cJ3_compress_4 54 = .ok (.invokestatic 123, 3) := dk_184 0 123 (dk_at dksJ3_compress_4_2 6 rfl rfl)
theorem dJ3_compress_4_57 : decode cJ3_compress_4 57 = .ok (.iload_n 2, 1) := dk_28 (dk_at dksJ3_compress_4_2 9 rfl rfl)
theorem dJ3_compress_4_58 : decode cJ3_compress_4 58 = .ok (.if_icmp .eq 6, 3) := dk_159 0 6 (dk_at dksJ3_compress_4_2 10 rfl rfl)
theorem dJ3_compress_4_61 : decode cJ3_compress_4 61 = .ok (.aload 5, 2) := dk_25 5 (dk_at dksJ3_compress_4_2 13 rfl rfl)
theorem dJ3_compress_4_63 : decode cJ3_compress_4 63 = .ok (.areturn, 1) := dk_176 (dk_at dksJ3_compress_4_2 15 rfl rfl)
theorem dJ3_compress_4_64 : decode cJ3_compress_4 64 = .ok (.aload_n 3, 1) := dk_45 (dk_at dksJ3_compress_4_2 16 rfl rfl)
theorem dJ3_compress_4_65 : decode cJ3_compress_4 65 = .ok (.areturn, 1) := dk_176 (dk_at dksJ3_compress_4_2 17 rfl rfl)
theorem q7 : (Jvm.Cond.initialized "java/lang/StringUTF16") ∈ lw_all := lw_g (lw_at lw_m1 6 rfl) rfl
theorem q79 : (Jvm.Cond.static ({ cls := "java/lang/StringUTF16", name := "charAt", desc := "([BI)C" } : Jvm.MethodName)) ∈ lw_all := lw_g (lw_at lw_m1 78 rfl) rfl
theorem q80 : (Jvm.Cond.code ({ cls := "java/lang/StringUTF16", name := "charAt", desc := "([BI)C" } : Jvm.MethodName) prog_15_method_83_code (2 : Nat) (Option.some Jvm.ClassFile.FieldType.char)) ∈ lw_all := lw_g (lw_at lw_m1 79 rfl) rfl
theorem q81 : (Jvm.Cond.methodLink "java/lang/StringUTF16" (67 : Nat) ({ cls := "java/lang/StringUTF16", name := "checkIndex", desc := "(I[B)V" } : Jvm.MethodName)) ∈ lw_all := lw_g (lw_at lw_m1 80 rfl) rfl
theorem q82 : (Jvm.Cond.static ({ cls := "java/lang/StringUTF16", name := "checkIndex", desc := "(I[B)V" } : Jvm.MethodName)) ∈ lw_all := lw_g (lw_at lw_m1 81 rfl) rfl
theorem q83 : (Jvm.Cond.code ({ cls := "java/lang/StringUTF16", name := "checkIndex", desc := "(I[B)V" } : Jvm.MethodName) prog_15_method_91_code (2 : Nat) (Option.none : Option Jvm.ClassFile.FieldType)) ∈ lw_all := lw_g (lw_at lw_m1 82 rfl) rfl
theorem q84 : (Jvm.Cond.methodLink "java/lang/StringUTF16" (48 : Nat) ({ cls := "java/lang/StringUTF16", name := "length", desc := "([B)I" } : Jvm.MethodName)) ∈ lw_all := lw_g (lw_at lw_m1 83 rfl) rfl
theorem q85 : (Jvm.Cond.static ({ cls := "java/lang/StringUTF16", name := "length", desc := "([B)I" } : Jvm.MethodName)) ∈ lw_all := lw_g (lw_at lw_m1 84 rfl) rfl
theorem q86 : (Jvm.Cond.code ({ cls := "java/lang/StringUTF16", name := "length", desc := "([B)I" } : Jvm.MethodName) prog_15_method_6_code (1 : Nat) (Option.some Jvm.ClassFile.FieldType.int)) ∈ lw_all := lw_g (lw_at lw_m1 85 rfl) rfl
theorem q87 : (Jvm.Cond.methodLink "java/lang/StringUTF16" (414 : Nat) ({ cls := "java/lang/String", name := "checkIndex", desc := "(II)V" } : Jvm.MethodName)) ∈ lw_all := lw_g (lw_at lw_m1 86 rfl) rfl
theorem q88 : (Jvm.Cond.methodLink "java/lang/StringUTF16" (71 : Nat) ({ cls := "java/lang/StringUTF16", name := "getChar", desc := "([BI)C" } : Jvm.MethodName)) ∈ lw_all := lw_g (lw_at lw_m1 87 rfl) rfl
theorem q89 : (Jvm.Cond.static ({ cls := "java/lang/StringUTF16", name := "getChar", desc := "([BI)C" } : Jvm.MethodName)) ∈ lw_all := lw_g (lw_at lw_m1 88 rfl) rfl
theorem q90 : (Jvm.Cond.code ({ cls := "java/lang/StringUTF16", name := "getChar", desc := "([BI)C" } : Jvm.MethodName) prog_15_method_5_code (2 : Nat) (Option.some Jvm.ClassFile.FieldType.char)) ∈ lw_all := lw_g (lw_at lw_m1 89 rfl) rfl
theorem q91 : (Jvm.Cond.fieldLink "java/lang/StringUTF16" (44 : Nat) "java/lang/StringUTF16" "$assertionsDisabled" "Z") ∈ lw_all := lw_g (lw_at lw_m1 90 rfl) rfl
theorem q92 : (Jvm.Cond.laysStatic "java/lang/StringUTF16" "$assertionsDisabled" "Z") ∈ lw_tbl := lw_at lw_m1 91 rfl
theorem q93 : (Jvm.Cond.fieldLink "java/lang/StringUTF16" (59 : Nat) "java/lang/StringUTF16" "HI_BYTE_SHIFT" "I") ∈ lw_all := lw_g (lw_at lw_m1 92 rfl) rfl
theorem q94 : (Jvm.Cond.laysStatic "java/lang/StringUTF16" "HI_BYTE_SHIFT" "I") ∈ lw_tbl := lw_at lw_m1 93 rfl
theorem q95 : (Jvm.Cond.fieldLink "java/lang/StringUTF16" (63 : Nat) "java/lang/StringUTF16" "LO_BYTE_SHIFT" "I") ∈ lw_all := lw_g (lw_at lw_m1 94 rfl) rfl
theorem q96 : (Jvm.Cond.laysStatic "java/lang/StringUTF16" "LO_BYTE_SHIFT" "I") ∈ lw_tbl := lw_at lw_m1 95 rfl
theorem q218 : (Jvm.Cond.static ({ cls := "java/lang/StringUTF16", name := "compress", desc := "([CII)[B" } : Jvm.MethodName)) ∈ lw_all := lw_g (lw_at lw_m1 217 rfl) rfl
theorem q219 : (Jvm.Cond.code ({ cls := "java/lang/StringUTF16", name := "compress", desc := "([CII)[B" } : Jvm.MethodName) prog_15_method_16_code (6 : Nat) (Option.some (Jvm.ClassFile.FieldType.array Jvm.ClassFile.FieldType.byte))) ∈ lw_all := lw_g (lw_at lw_m1 218 rfl) rfl
theorem q220 : (Jvm.Cond.methodLink "java/lang/StringUTF16" (115 : Nat) ({ cls := "java/lang/StringUTF16", name := "compress", desc := "([CI[BII)I" } : Jvm.MethodName)) ∈ lw_all := lw_g (lw_at lw_m1 219 rfl) rfl
theorem q221 : (Jvm.Cond.static ({ cls := "java/lang/StringUTF16", name := "compress", desc := "([CI[BII)I" } : Jvm.MethodName)) ∈ lw_all := lw_g (lw_at lw_m1 220 rfl) rfl
theorem q222 : (Jvm.Cond.code ({ cls := "java/lang/StringUTF16", name := "compress", desc := "([CI[BII)I" } : Jvm.MethodName) prog_15_method_21_code (7 : Nat) (Option.some Jvm.ClassFile.FieldType.int)) ∈ lw_all := lw_g (lw_at lw_m1 221 rfl) rfl
theorem q223 : (Jvm.Cond.methodLink "java/lang/StringUTF16" (119 : Nat) ({ cls := "java/lang/StringUTF16", name := "toBytes", desc := "([CII)[B" } : Jvm.MethodName)) ∈ lw_all := lw_g (lw_at lw_m1 222 rfl) rfl
theorem q224 : (Jvm.Cond.static ({ cls := "java/lang/StringUTF16", name := "toBytes", desc := "([CII)[B" } : Jvm.MethodName)) ∈ lw_all := lw_g (lw_at lw_m1 223 rfl) rfl
theorem q225 : (Jvm.Cond.code ({ cls := "java/lang/StringUTF16", name := "toBytes", desc := "([CII)[B" } : Jvm.MethodName) prog_15_method_14_code (5 : Nat) (Option.some (Jvm.ClassFile.FieldType.array Jvm.ClassFile.FieldType.byte))) ∈ lw_all := lw_g (lw_at lw_m1 224 rfl) rfl
theorem q226 : (Jvm.Cond.methodLink "java/lang/StringUTF16" (107 : Nat) ({ cls := "java/lang/StringUTF16", name := "newBytesFor", desc := "(I)[B" } : Jvm.MethodName)) ∈ lw_all := lw_g (lw_at lw_m1 225 rfl) rfl
theorem q227 : (Jvm.Cond.static ({ cls := "java/lang/StringUTF16", name := "newBytesFor", desc := "(I)[B" } : Jvm.MethodName)) ∈ lw_all := lw_g (lw_at lw_m1 226 rfl) rfl
theorem q228 : (Jvm.Cond.code ({ cls := "java/lang/StringUTF16", name := "newBytesFor", desc := "(I)[B" } : Jvm.MethodName) prog_15_method_2_code (1 : Nat) (Option.some (Jvm.ClassFile.FieldType.array Jvm.ClassFile.FieldType.byte))) ∈ lw_all := lw_g (lw_at lw_m1 227 rfl) rfl
theorem q229 : (Jvm.Cond.methodLink "java/lang/StringUTF16" (11 : Nat) ({ cls := "java/lang/StringUTF16", name := "newBytesLength", desc := "(I)I" } : Jvm.MethodName)) ∈ lw_all := lw_g (lw_at lw_m1 228 rfl) rfl
theorem q230 : (Jvm.Cond.static ({ cls := "java/lang/StringUTF16", name := "newBytesLength", desc := "(I)I" } : Jvm.MethodName)) ∈ lw_all := lw_g (lw_at lw_m1 229 rfl) rfl
theorem q231 : (Jvm.Cond.code ({ cls := "java/lang/StringUTF16", name := "newBytesLength", desc := "(I)I" } : Jvm.MethodName) prog_15_method_3_code (1 : Nat) (Option.some Jvm.ClassFile.FieldType.int)) ∈ lw_all := lw_g (lw_at lw_m1 230 rfl) rfl
theorem q232 : (Jvm.Cond.constant "java/lang/StringUTF16" (20 : Nat) (1073741823 : Int32)) ∈ lw_all := lw_g (lw_at lw_m1 231 rfl) rfl
theorem q233 : (Jvm.Cond.methodLink "java/lang/StringUTF16" (111 : Nat) ({ cls := "java/lang/StringUTF16", name := "putChar", desc := "([BII)V" } : Jvm.MethodName)) ∈ lw_all := lw_g (lw_at lw_m1 232 rfl) rfl
theorem q234 : (Jvm.Cond.static ({ cls := "java/lang/StringUTF16", name := "putChar", desc := "([BII)V" } : Jvm.MethodName)) ∈ lw_all := lw_g (lw_at lw_m1 233 rfl) rfl
theorem q235 : (Jvm.Cond.code ({ cls := "java/lang/StringUTF16", name := "putChar", desc := "([BII)V" } : Jvm.MethodName) prog_15_method_4_code (3 : Nat) (Option.none : Option Jvm.ClassFile.FieldType)) ∈ lw_all := lw_g (lw_at lw_m1 234 rfl) rfl
theorem q236 : (Jvm.Cond.methodLink "java/lang/StringUTF16" (123 : Nat) ({ cls := "java/lang/StringUTF16", name := "compress", desc := "([BI[BII)I" } : Jvm.MethodName)) ∈ lw_all := lw_g (lw_at lw_m1 235 rfl) rfl
theorem q237 : (Jvm.Cond.static ({ cls := "java/lang/StringUTF16", name := "compress", desc := "([BI[BII)I" } : Jvm.MethodName)) ∈ lw_all := lw_g (lw_at lw_m1 236 rfl) rfl
theorem q238 : (Jvm.Cond.code ({ cls := "java/lang/StringUTF16", name := "compress", desc := "([BI[BII)I" } : Jvm.MethodName) prog_15_method_22_code (7 : Nat) (Option.some Jvm.ClassFile.FieldType.int)) ∈ lw_all := lw_g (lw_at lw_m1 237 rfl) rfl
theorem q239 : (Jvm.Cond.methodLink "java/lang/StringUTF16" (173 : Nat) ({ cls := "java/lang/StringUTF16", name := "checkBoundsOffCount", desc := "(II[B)V" } : Jvm.MethodName)) ∈ lw_all := lw_g (lw_at lw_m1 238 rfl) rfl
theorem q240 : (Jvm.Cond.static ({ cls := "java/lang/StringUTF16", name := "checkBoundsOffCount", desc := "(II[B)V" } : Jvm.MethodName)) ∈ lw_all := lw_g (lw_at lw_m1 239 rfl) rfl
theorem q241 : (Jvm.Cond.code ({ cls := "java/lang/StringUTF16", name := "checkBoundsOffCount", desc := "(II[B)V" } : Jvm.MethodName) prog_15_method_94_code (3 : Nat) (Option.none : Option Jvm.ClassFile.FieldType)) ∈ lw_all := lw_g (lw_at lw_m2 0 rfl) rfl
theorem q242 : (Jvm.Cond.methodLink "java/lang/StringUTF16" (419 : Nat) ({ cls := "java/lang/String", name := "checkBoundsOffCount", desc := "(III)I" } : Jvm.MethodName)) ∈ lw_all := lw_g (lw_at lw_m2 1 rfl) rfl
theorem q244 : (Jvm.Cond.static ({ cls := "java/lang/StringUTF16", name := "coderFromArrayLen", desc := "([BI)B" } : Jvm.MethodName)) ∈ lw_all := lw_g (lw_at lw_m2 3 rfl) rfl
theorem q245 : (Jvm.Cond.code ({ cls := "java/lang/StringUTF16", name := "coderFromArrayLen", desc := "([BI)B" } : Jvm.MethodName) prog_15_method_15_code (2 : Nat) (Option.some Jvm.ClassFile.FieldType.byte)) ∈ lw_all := lw_g (lw_at lw_m2 4 rfl) rfl
theorem q381 : (Jvm.Cond.static ({ cls := "java/lang/StringUTF16", name := "inflate", desc := "([BI[BII)V" } : Jvm.MethodName)) ∈ lw_all := lw_g (lw_at lw_m2 140 rfl) rfl
theorem q382 : (Jvm.Cond.code ({ cls := "java/lang/StringUTF16", name := "inflate", desc := "([BI[BII)V" } : Jvm.MethodName) prog_15_method_86_code (6 : Nat) (Option.none : Option Jvm.ClassFile.FieldType)) ∈ lw_all := lw_g (lw_at lw_m2 141 rfl) rfl
theorem q384 : (Jvm.Cond.static ({ cls := "java/lang/StringUTF16", name := "putCharSB", desc := "([BII)V" } : Jvm.MethodName)) ∈ lw_all := lw_g (lw_at lw_m2 143 rfl) rfl
theorem q385 : (Jvm.Cond.code ({ cls := "java/lang/StringUTF16", name := "putCharSB", desc := "([BII)V" } : Jvm.MethodName) prog_15_method_71_code (3 : Nat) (Option.none : Option Jvm.ClassFile.FieldType)) ∈ lw_all := lw_g (lw_at lw_m2 144 rfl) rfl
theorem q414 : (Jvm.Cond.static ({ cls := "java/lang/StringUTF16", name := "compress", desc := "([BII)[B" } : Jvm.MethodName)) ∈ lw_all := lw_g (lw_at lw_m2 173 rfl) rfl
theorem q415 : (Jvm.Cond.code ({ cls := "java/lang/StringUTF16", name := "compress", desc := "([BII)[B" } : Jvm.MethodName) prog_15_method_17_code (6 : Nat) (Option.some (Jvm.ClassFile.FieldType.array Jvm.ClassFile.FieldType.byte))) ∈ lw_all := lw_g (lw_at lw_m2 174 rfl) rfl
theorem q416 : (Jvm.Cond.methodLink "java/lang/StringUTF16" (126 : Nat) ({ cls := "java/util/Arrays", name := "copyOfRange", desc := "([BII)[B" } : Jvm.MethodName)) ∈ lw_all := lw_g (lw_at lw_m2 175 rfl) rfl

/-! java/lang/AbstractStringBuilder -/
set_option maxRecDepth 100000
def RJ9 : String := "java/lang/AbstractStringBuilder"
abbrev cJ9_length : ByteArray := prog_5_method_6_code
def yJ9_length : MethodName := ⟨RJ9, "length", "()I"⟩
theorem dJ9_length_0 : decode cJ9_length 0 = .ok (.aload_n 0, 1) := by decide +kernel
theorem dJ9_length_1 : decode cJ9_length 1 = .ok (.getfield 79, 3) := by decide +kernel
theorem dJ9_length_4 : decode cJ9_length 4 = .ok (.ireturn, 1) := by decide +kernel
abbrev cJ9_charAt : ByteArray := prog_5_method_14_code
def yJ9_charAt : MethodName := ⟨RJ9, "charAt", "(I)C"⟩
def dkwJ9_charAt_1 : List UInt8 := [21, 4, 184, 0, 144, 28, 154, 0, 12, 45, 27, 51, 17, 0, 255, 126, 146, 172, 45, 27, 184, 0, 148, 172]
abbrev dktJ9_charAt_1 : List UInt8 := dkwJ9_charAt_1 ++ []
def dkwJ9_charAt_0 : List UInt8 := [42, 180, 0, 22, 61, 42, 180, 0, 15, 78, 42, 180, 0, 79, 45, 190, 28, 122, 184, 0, 138, 54, 4, 27]
abbrev dktJ9_charAt_0 : List UInt8 := dkwJ9_charAt_0 ++ dktJ9_charAt_1
theorem dksJ9_charAt_0 : cJ9_charAt.data.toList.drop 0 = dktJ9_charAt_0 := by decide +kernel
theorem dksJ9_charAt_1 : cJ9_charAt.data.toList.drop 24 = dktJ9_charAt_1 := dk_seg dksJ9_charAt_0 24 rfl rfl
theorem dJ9_charAt_0 : decode cJ9_charAt 0 = .ok (.aload_n 0, 1) := dk_42 (dk_at dksJ9_charAt_0 0 rfl rfl)
theorem dJ9_charAt_1 : decode cJ9_charAt 1 = .ok (.getfield 22, 3) := dk_180 0 22 (dk_at dksJ9_charAt_0 1 rfl rfl)
theorem dJ9_charAt_4 : decode cJ9_charAt 4 = .ok (.istore_n 2, 1) := dk_61 (dk_at dksJ9_charAt_0 4 rfl rfl)
theorem dJ9_charAt_5 : decode cJ9_charAt 5 = .ok (.aload_n 0, 1) := dk_42 (dk_at dksJ9_charAt_0 5 rfl rfl)
theorem dJ9_charAt_6 : decode cJ9_charAt 6 = .ok (.getfield 15, 3) := dk_180 0 15 (dk_at dksJ9_charAt_0 6 rfl rfl)
theorem dJ9_charAt_9 : decode cJ9_charAt 9 = .ok (.astore_n 3, 1) := dk_78 (dk_at dksJ9_charAt_0 9 rfl rfl)
theorem dJ9_charAt_10 : decode cJ9_charAt 10 = .ok (.aload_n 0, 1) := dk_42 (dk_at dksJ9_charAt_0 10 rfl rfl)
theorem dJ9_charAt_11 : decode cJ9_charAt 11 = .ok (.getfield 79, 3) := dk_180 0 79 (dk_at dksJ9_charAt_0 11 rfl rfl)
theorem dJ9_charAt_14 : decode cJ9_charAt 14 = .ok (.aload_n 3, 1) := dk_45 (dk_at dksJ9_charAt_0 14 rfl rfl)
theorem dJ9_charAt_15 : decode cJ9_charAt 15 = .ok (.arraylength, 1) := dk_190 (dk_at dksJ9_charAt_0 15 rfl rfl)
theorem dJ9_charAt_16 : decode cJ9_charAt 16 = .ok (.iload_n 2, 1) := dk_28 (dk_at dksJ9_charAt_0 16 rfl rfl)
theorem dJ9_charAt_17 : decode cJ9_charAt 17 = .ok (.ishr, 1) := dk_122 (dk_at dksJ9_charAt_0 17 rfl rfl)
theorem dJ9_charAt_18 : decode cJ9_charAt 18 = .ok (.invokestatic 138, 3) := dk_184 0 138 (dk_at dksJ9_charAt_0 18 rfl rfl)
theorem dJ9_charAt_21 : decode cJ9_charAt 21 = .ok (.istore 4, 2) := dk_54 4 (dk_at dksJ9_charAt_0 21 rfl rfl)
theorem dJ9_charAt_23 : decode cJ9_charAt 23 = .ok (.iload_n 1, 1) := dk_27 (dk_at dksJ9_charAt_0 23 rfl rfl)
theorem dJ9_charAt_24 : decode cJ9_charAt 24 = .ok (.iload 4, 2) := dk_21 4 (dk_at dksJ9_charAt_1 0 rfl rfl)
theorem dJ9_charAt_26 : decode cJ9_charAt 26 = .ok (.invokestatic 144, 3) := dk_184 0 144 (dk_at dksJ9_charAt_1 2 rfl rfl)
theorem dJ9_charAt_29 : decode cJ9_charAt 29 = .ok (.iload_n 2, 1) := dk_28 (dk_at dksJ9_charAt_1 5 rfl rfl)
theorem dJ9_charAt_30 : decode cJ9_charAt 30 = .ok (.ifCond .ne 12, 3) := dk_154 0 12 (dk_at dksJ9_charAt_1 6 rfl rfl)
theorem dJ9_charAt_33 : decode cJ9_charAt 33 = .ok (.aload_n 3, 1) := dk_45 (dk_at dksJ9_charAt_1 9 rfl rfl)
theorem dJ9_charAt_34 : decode cJ9_charAt 34 = .ok (.iload_n 1, 1) := dk_27 (dk_at dksJ9_charAt_1 10 rfl rfl)
theorem dJ9_charAt_35 : decode cJ9_charAt 35 = .ok (.baload, 1) := dk_51 (dk_at dksJ9_charAt_1 11 rfl rfl)
theorem dJ9_charAt_36 : decode cJ9_charAt 36 = .ok (.sipush 255, 3) := dk_17 0 255 (dk_at dksJ9_charAt_1 12 rfl rfl)
theorem dJ9_charAt_39 : decode cJ9_charAt 39 = .ok (.iand, 1) := dk_126 (dk_at dksJ9_charAt_1 15 rfl rfl)
theorem dJ9_charAt_40 : decode cJ9_charAt 40 = .ok (.i2c, 1) := dk_146 (dk_at dksJ9_charAt_1 16 rfl rfl)
theorem dJ9_charAt_41 : decode cJ9_charAt 41 = .ok (.ireturn, 1) := dk_172 (dk_at dksJ9_charAt_1 17 rfl rfl)
theorem dJ9_charAt_42 : decode cJ9_charAt 42 = .ok (.aload_n 3, 1) := dk_45 (dk_at dksJ9_charAt_1 18 rfl rfl)
theorem dJ9_charAt_43 : decode cJ9_charAt 43 = .ok (.iload_n 1, 1) := dk_27 (dk_at dksJ9_charAt_1 19 rfl rfl)
theorem dJ9_charAt_44 : decode cJ9_charAt 44 = .ok (.invokestatic 148, 3) := dk_184 0 148 (dk_at dksJ9_charAt_1 20 rfl rfl)
theorem dJ9_charAt_47 : decode cJ9_charAt 47 = .ok (.ireturn, 1) := dk_172 (dk_at dksJ9_charAt_1 23 rfl rfl)
abbrev cJ9_init : ByteArray := prog_5_method_2_code
def yJ9_init : MethodName := ⟨RJ9, "<init>", "(I)V"⟩
def dkwJ9_init_1 : List UInt8 := [167, 0, 16, 42, 27, 184, 0, 26, 181, 0, 15, 42, 4, 181, 0, 22, 177]
abbrev dktJ9_init_1 : List UInt8 := dkwJ9_init_1 ++ []
def dkwJ9_init_0 : List UInt8 := [42, 183, 0, 3, 178, 0, 18, 153, 0, 18, 42, 27, 188, 8, 181, 0, 15, 42, 3, 181, 0, 22]
abbrev dktJ9_init_0 : List UInt8 := dkwJ9_init_0 ++ dktJ9_init_1
theorem dksJ9_init_0 : cJ9_init.data.toList.drop 0 = dktJ9_init_0 := by decide +kernel
theorem dksJ9_init_1 : cJ9_init.data.toList.drop 22 = dktJ9_init_1 := dk_seg dksJ9_init_0 22 rfl rfl
theorem dJ9_init_0 : decode cJ9_init 0 = .ok (.aload_n 0, 1) := dk_42 (dk_at dksJ9_init_0 0 rfl rfl)
theorem dJ9_init_1 : decode cJ9_init 1 = .ok (.invokespecial 3, 3) := dk_183 0 3 (dk_at dksJ9_init_0 1 rfl rfl)
theorem dJ9_init_4 : decode cJ9_init 4 = .ok (.getstatic 18, 3) := dk_178 0 18 (dk_at dksJ9_init_0 4 rfl rfl)
theorem dJ9_init_7 : decode cJ9_init 7 = .ok (.ifCond .eq 18, 3) := dk_153 0 18 (dk_at dksJ9_init_0 7 rfl rfl)
theorem dJ9_init_10 : decode cJ9_init 10 = .ok (.aload_n 0, 1) := dk_42 (dk_at dksJ9_init_0 10 rfl rfl)
theorem dJ9_init_11 : decode cJ9_init 11 = .ok (.iload_n 1, 1) := dk_27 (dk_at dksJ9_init_0 11 rfl rfl)
theorem dJ9_init_12 : decode cJ9_init 12 = .ok (.newarray .byte, 2) := dk_188_8 (dk_at dksJ9_init_0 12 rfl rfl)
theorem dJ9_init_14 : decode cJ9_init 14 = .ok (.putfield 15, 3) := dk_181 0 15 (dk_at dksJ9_init_0 14 rfl rfl)
theorem dJ9_init_17 : decode cJ9_init 17 = .ok (.aload_n 0, 1) := dk_42 (dk_at dksJ9_init_0 17 rfl rfl)
theorem dJ9_init_18 : decode cJ9_init 18 = .ok (.iconst 0, 1) := dk_3 (dk_at dksJ9_init_0 18 rfl rfl)
theorem dJ9_init_19 : decode cJ9_init 19 = .ok (.putfield 22, 3) := dk_181 0 22 (dk_at dksJ9_init_0 19 rfl rfl)
theorem dJ9_init_22 : decode cJ9_init 22 = .ok (.goto 16, 3) := dk_167 0 16 (dk_at dksJ9_init_1 0 rfl rfl)
theorem dJ9_init_25 : decode cJ9_init 25 = .ok (.aload_n 0, 1) := dk_42 (dk_at dksJ9_init_1 3 rfl rfl)
theorem dJ9_init_26 : decode cJ9_init 26 = .ok (.iload_n 1, 1) := dk_27 (dk_at dksJ9_init_1 4 rfl rfl)
theorem dJ9_init_27 : decode cJ9_init 27 = .ok (.invokestatic 26, 3) := dk_184 0 26 (dk_at dksJ9_init_1 5 rfl rfl)
theorem dJ9_init_30 : decode cJ9_init 30 = .ok (.putfield 15, 3) := dk_181 0 15 (dk_at dksJ9_init_1 8 rfl rfl)
theorem dJ9_init_33 : decode cJ9_init 33 = .ok (.aload_n 0, 1) := dk_42 (dk_at dksJ9_init_1 11 rfl rfl)
theorem dJ9_init_34 : decode cJ9_init 34 = .ok (.iconst 1, 1) := dk_4 (dk_at dksJ9_init_1 12 rfl rfl)
theorem dJ9_init_35 : decode cJ9_init 35 = .ok (.putfield 22, 3) := dk_181 0 22 (dk_at dksJ9_init_1 13 rfl rfl)
theorem dJ9_init_38 : decode cJ9_init 38 = .ok (.return_, 1) := dk_177 (dk_at dksJ9_init_1 16 rfl rfl)
abbrev cJ9_append : ByteArray := prog_5_method_31_code
def yJ9_append : MethodName := ⟨RJ9, "append", "(C)Ljava/lang/AbstractStringBuilder;"⟩
def dkwJ9_append_3 : List UInt8 := [181, 0, 79, 27, 184, 0, 197, 42, 176]
abbrev dktJ9_append_3 : List UInt8 := dkwJ9_append_3 ++ []
def dkwJ9_append_2 : List UInt8 := [182, 0, 83, 153, 0, 7, 42, 182, 0, 195, 42, 180, 0, 15, 42, 89, 180, 0, 79, 90, 4, 96]
abbrev dktJ9_append_2 : List UInt8 := dkwJ9_append_2 ++ dktJ9_append_3
def dkwJ9_append_1 : List UInt8 := [42, 180, 0, 15, 42, 89, 180, 0, 79, 90, 4, 96, 181, 0, 79, 27, 145, 84, 167, 0, 33, 42]
abbrev dktJ9_append_1 : List UInt8 := dkwJ9_append_1 ++ dktJ9_append_2
def dkwJ9_append_0 : List UInt8 := [42, 42, 180, 0, 79, 4, 96, 182, 0, 100, 42, 182, 0, 83, 153, 0, 31, 27, 184, 0, 191, 153, 0, 24]
abbrev dktJ9_append_0 : List UInt8 := dkwJ9_append_0 ++ dktJ9_append_1
theorem dksJ9_append_0 : cJ9_append.data.toList.drop 0 = dktJ9_append_0 := by decide +kernel
theorem dksJ9_append_1 : cJ9_append.data.toList.drop 24 = dktJ9_append_1 := dk_seg dksJ9_append_0 24 rfl rfl
theorem dksJ9_append_2 : cJ9_append.data.toList.drop 46 = dktJ9_append_2 := dk_seg dksJ9_append_1 22 rfl rfl
theorem dksJ9_append_3 : cJ9_append.data.toList.drop 68 = dktJ9_append_3 := dk_seg dksJ9_append_2 22 rfl rfl
theorem dJ9_append_0 : decode cJ9_append 0 = .ok (.aload_n 0, 1) := dk_42 (dk_at dksJ9_append_0 0 rfl rfl)
theorem dJ9_append_1 : decode cJ9_append 1 = .ok (.aload_n 0, 1) := dk_42 (dk_at dksJ9_append_0 1 rfl rfl)
theorem dJ9_append_2 : decode cJ9_append 2 = .ok (.getfield 79, 3) := dk_180 0 79 (dk_at dksJ9_append_0 2 rfl rfl)
theorem dJ9_append_5 : decode cJ9_append 5 = .ok (.iconst 1, 1) := dk_4 (dk_at dksJ9_append_0 5 rfl rfl)
theorem dJ9_append_6 : decode cJ9_append 6 = .ok (.iadd, 1) := dk_96 (dk_at dksJ9_append_0 6 rfl rfl)
theorem dJ9_append_7 : decode cJ9_append 7 = .ok (.invokevirtual 100, 3) := dk_182 0 100 (dk_at dksJ9_append_0 7 rfl rfl)
theorem dJ9_append_10 : decode cJ9_append 10 = .ok (.aload_n 0, 1) := dk_42 (dk_at dksJ9_append_0 10 rfl rfl)
theorem dJ9_append_11 : decode cJ9_append 11 = .ok (.invokevirtual 83, 3) := dk_182 0 83 (dk_at dksJ9_append_0 11 rfl rfl)
theorem dJ9_append_14 : decode cJ9_append 14 = .ok (.ifCond .eq 31, 3) := dk_153 0 31 (dk_at dksJ9_append_0 14 rfl rfl)
theorem dJ9_append_17 : decode cJ9_append 17 = .ok (.iload_n 1, 1) := dk_27 (dk_at dksJ9_append_0 17 rfl rfl)
theorem dJ9_append_18 : decode cJ9_append 18 = .ok (.invokestatic 191, 3) := dk_184 0 191 (dk_at dksJ9_append_0 18 rfl rfl)
theorem dJ9_append_21 : decode cJ9_append 21 = .ok (.ifCond .eq 24, 3) := dk_153 0 24 (dk_at dksJ9_append_0 21 rfl rfl)
theorem dJ9_append_24 : decode cJ9_append 24 = .ok (.aload_n 0, 1) := dk_42 (dk_at dksJ9_append_1 0 rfl rfl)
theorem dJ9_append_25 : decode cJ9_append 25 = .ok (.getfield 15, 3) := dk_180 0 15 (dk_at dksJ9_append_1 1 rfl rfl)
theorem dJ9_append_28 : decode cJ9_append 28 = .ok (.aload_n 0, 1) := dk_42 (dk_at dksJ9_append_1 4 rfl rfl)
theorem dJ9_append_29 : decode cJ9_append 29 = .ok (.dup, 1) := dk_89 (dk_at dksJ9_append_1 5 rfl rfl)
theorem dJ9_append_30 : decode cJ9_append 30 = .ok (.getfield 79, 3) := dk_180 0 79 (dk_at dksJ9_append_1 6 rfl rfl)
theorem dJ9_append_33 : decode cJ9_append 33 = .ok (.dup_x1, 1) := dk_90 (dk_at dksJ9_append_1 9 rfl rfl)
theorem dJ9_append_34 : decode cJ9_append 34 = .ok (.iconst 1, 1) := dk_4 (dk_at dksJ9_append_1 10 rfl rfl)
theorem dJ9_append_35 : decode cJ9_append 35 = .ok (.iadd, 1) := dk_96 (dk_at dksJ9_append_1 11 rfl rfl)
theorem dJ9_append_36 : decode cJ9_append 36 = .ok (.putfield 79, 3) := dk_181 0 79 (dk_at dksJ9_append_1 12 rfl rfl)
theorem dJ9_append_39 : decode cJ9_append 39 = .ok (.iload_n 1, 1) := dk_27 (dk_at dksJ9_append_1 15 rfl rfl)
theorem dJ9_append_40 : decode cJ9_append 40 = .ok (.i2b, 1) := dk_145 (dk_at dksJ9_append_1 16 rfl rfl)
theorem dJ9_append_41 : decode cJ9_append 41 = .ok (.bastore, 1) := dk_84 (dk_at dksJ9_append_1 17 rfl rfl)
theorem dJ9_append_42 : decode cJ9_append 42 = .ok (.goto 33, 3) := dk_167 0 33 (dk_at dksJ9_append_1 18 rfl rfl)
theorem dJ9_append_45 : decode cJ9_append 45 = .ok (.aload_n 0, 1) := dk_42 (dk_at dksJ9_append_1 21 rfl rfl)
theorem dJ9_append_46 : decode cJ9_append 46 = .ok (.invokevirtual 83, 3) := dk_182 0 83 (dk_at dksJ9_append_2 0 rfl rfl)
theorem dJ9_append_49 : decode cJ9_append 49 = .ok (.ifCond .eq 7, 3) := dk_153 0 7 (dk_at dksJ9_append_2 3 rfl rfl)
theorem dJ9_append_52 : decode cJ9_append 52 = .ok (.aload_n 0, 1) := dk_42 (dk_at dksJ9_append_2 6 rfl rfl)
theorem dJ9_append_53 : decode cJ9_append 53 = .ok (.invokevirtual 195, 3) := dk_182 0 195 (dk_at dksJ9_append_2 7 rfl rfl)
theorem dJ9_append_56 : decode cJ9_append 56 = .ok (.aload_n 0, 1) := dk_42 (dk_at dksJ9_append_2 10 rfl rfl)
theorem dJ9_append_57 : decode cJ9_append 57 = .ok (.getfield 15, 3) := dk_180 0 15 (dk_at dksJ9_append_2 11 rfl rfl)
theorem dJ9_append_60 : decode cJ9_append 60 = .ok (.aload_n 0, 1) := dk_42 (dk_at dksJ9_append_2 14 rfl rfl)
theorem dJ9_append_61 : decode cJ9_append 61 = .ok (.dup, 1) := dk_89 (dk_at dksJ9_append_2 15 rfl rfl)
theorem dJ9_append_62 : decode cJ9_append 62 = .ok (.getfield 79, 3) := dk_180 0 79 (dk_at dksJ9_append_2 16 rfl rfl)
theorem dJ9_append_65 : decode cJ9_append 65 = .ok (.dup_x1, 1) := dk_90 (dk_at dksJ9_append_2 19 rfl rfl)
theorem dJ9_append_66 : decode cJ9_append 66 = .ok (.iconst 1, 1) := dk_4 (dk_at dksJ9_append_2 20 rfl rfl)
theorem dJ9_append_67 : decode cJ9_append 67 = .ok (.iadd, 1) := dk_96 (dk_at dksJ9_append_2 21 rfl rfl)
theorem dJ9_append_68 : decode cJ9_append 68 = .ok (.putfield 79, 3) := dk_181 0 79 (dk_at dksJ9_append_3 0 rfl rfl)
theorem dJ9_append_71 : decode cJ9_append 71 = .ok (.iload_n 1, 1) := dk_27 (dk_at dksJ9_append_3 3 rfl rfl)
theorem dJ9_append_72 : decode cJ9_append 72 = .ok (.invokestatic 197, 3) := dk_184 0 197 (dk_at dksJ9_append_3 4 rfl rfl)
theorem dJ9_append_75 : decode cJ9_append 75 = .ok (.aload_n 0, 1) := dk_42 (dk_at dksJ9_append_3 7 rfl rfl)
theorem dJ9_append_76 : decode cJ9_append 76 = .ok (.areturn, 1) := dk_176 (dk_at dksJ9_append_3 8 rfl rfl)
abbrev cJ9_ensureCapacityInternal : ByteArray := prog_5_method_9_code
def yJ9_ensureCapacityInternal : MethodName := ⟨RJ9, "ensureCapacityInternal", "(I)V"⟩
def dkwJ9_ensureCapacityInternal_1 : List UInt8 := [182, 0, 104, 42, 180, 0, 22, 120, 184, 0, 108, 181, 0, 15, 177]
abbrev dktJ9_ensureCapacityInternal_1 : List UInt8 := dkwJ9_ensureCapacityInternal_1 ++ []
def dkwJ9_ensureCapacityInternal_0 : List UInt8 := [42, 180, 0, 15, 190, 42, 180, 0, 22, 122, 61, 27, 28, 100, 158, 0, 24, 42, 42, 180, 0, 15, 42, 27]
abbrev dktJ9_ensureCapacityInternal_0 : List UInt8 := dkwJ9_ensureCapacityInternal_0 ++ dktJ9_ensureCapacityInternal_1
theorem dksJ9_ensureCapacityInternal_0 : cJ9_ensureCapacityInternal.data.toList.drop 0 = dktJ9_ensureCapacityInternal_0 := by decide +kernel
theorem dksJ9_ensureCapacityInternal_1 : cJ9_ensureCapacityInternal.data.toList.drop 24 = dktJ9_ensureCapacityInternal_1 := dk_seg dksJ9_ensureCapacityInternal_0 24 rfl rfl
theorem dJ9_ensureCapacityInternal_0 : decode cJ9_ensureCapacityInternal 0 = .ok (.aload_n 0, 1) := dk_42 (dk_at dksJ9_ensureCapacityInternal_0 0 rfl rfl)
theorem dJ9_ensureCapacityInternal_1 : decode cJ9_ensureCapacityInternal 1 = .ok (.getfield 15, 3) := dk_180 0 15 (dk_at dksJ9_ensureCapacityInternal_0 1 rfl rfl)
theorem dJ9_ensureCapacityInternal_4 : decode cJ9_ensureCapacityInternal 4 = .ok (.arraylength, 1) := dk_190 (dk_at dksJ9_ensureCapacityInternal_0 4 rfl rfl)
theorem dJ9_ensureCapacityInternal_5 : decode cJ9_ensureCapacityInternal 5 = .ok (.aload_n 0, 1) := dk_42 (dk_at dksJ9_ensureCapacityInternal_0 5 rfl rfl)
theorem dJ9_ensureCapacityInternal_6 : decode cJ9_ensureCapacityInternal 6 = .ok (.getfield 22, 3) := dk_180 0 22 (dk_at dksJ9_ensureCapacityInternal_0 6 rfl rfl)
theorem dJ9_ensureCapacityInternal_9 : decode cJ9_ensureCapacityInternal 9 = .ok (.ishr, 1) := dk_122 (dk_at dksJ9_ensureCapacityInternal_0 9 rfl rfl)
theorem dJ9_ensureCapacityInternal_10 : decode cJ9_ensureCapacityInternal 10 = .ok (.istore_n 2, 1) := dk_61 (dk_at dksJ9_ensureCapacityInternal_0 10 rfl rfl)
theorem dJ9_ensureCapacityInternal_11 : decode cJ9_ensureCapacityInternal 11 = .ok (.iload_n 1, 1) := dk_27 (dk_at dksJ9_ensureCapacityInternal_0 11 rfl rfl)
theorem dJ9_ensureCapacityInternal_12 : decode cJ9_ensureCapacityInternal 12 = .ok (.iload_n 2, 1) := dk_28 (dk_at dksJ9_ensureCapacityInternal_0 12 rfl rfl)
theorem dJ9_ensureCapacityInternal_13 : decode cJ9_ensureCapacityInternal 13 = .ok (.isub, 1) := dk_100 (dk_at dksJ9_ensureCapacityInternal_0 13 rfl rfl)
theorem dJ9_ensureCapacityInternal_14 : decode cJ9_ensureCapacityInternal 14 = .ok (.ifCond .le 24, 3) := dk_158 0 24 (dk_at dksJ9_ensureCapacityInternal_0 14 rfl rfl)
theorem dJ9_ensureCapacityInternal_17 : decode cJ9_ensureCapacityInternal 17 = .ok (.aload_n 0, 1) := dk_42 (dk_at dksJ9_ensureCapacityInternal_0 17 rfl rfl)
theorem dJ9_ensureCapacityInternal_18 : decode cJ9_ensureCapacityInternal 18 = .ok (.aload_n 0, 1) := dk_42 (dk_at dksJ9_ensureCapacityInternal_0 18 rfl rfl)
theorem dJ9_ensureCapacityInternal_19 : decode cJ9_ensureCapacityInternal 19 = .ok (.getfield 15, 3) := dk_180 0 15 (dk_at dksJ9_ensureCapacityInternal_0 19 rfl rfl)
theorem dJ9_ensureCapacityInternal_22 : decode cJ9_ensureCapacityInternal 22 = .ok (.aload_n 0, 1) := dk_42 (dk_at dksJ9_ensureCapacityInternal_0 22 rfl rfl)
theorem dJ9_ensureCapacityInternal_23 : decode cJ9_ensureCapacityInternal 23 = .ok (.iload_n 1, 1) := dk_27 (dk_at dksJ9_ensureCapacityInternal_0 23 rfl rfl)
theorem dJ9_ensureCapacityInternal_24 : decode cJ9_ensureCapacityInternal 24 = .ok (.invokevirtual 104, 3) := dk_182 0 104 (dk_at dksJ9_ensureCapacityInternal_1 0 rfl rfl)
theorem dJ9_ensureCapacityInternal_27 : decode cJ9_ensureCapacityInternal 27 = .ok (.aload_n 0, 1) := dk_42 (dk_at dksJ9_ensureCapacityInternal_1 3 rfl rfl)
theorem dJ9_ensureCapacityInternal_28 : decode cJ9_ensureCapacityInternal 28 = .ok (.getfield 22, 3) := dk_180 0 22 (dk_at dksJ9_ensureCapacityInternal_1 4 rfl rfl)
theorem dJ9_ensureCapacityInternal_31 : decode cJ9_ensureCapacityInternal 31 = .ok (.ishl, 1) := dk_120 (dk_at dksJ9_ensureCapacityInternal_1 7 rfl rfl)
theorem dJ9_ensureCapacityInternal_32 : decode cJ9_ensureCapacityInternal 32 = .ok (.invokestatic 108, 3) := dk_184 0 108 (dk_at dksJ9_ensureCapacityInternal_1 8 rfl rfl)
theorem dJ9_ensureCapacityInternal_35 : decode cJ9_ensureCapacityInternal 35 = .ok (.putfield 15, 3) := dk_181 0 15 (dk_at dksJ9_ensureCapacityInternal_1 11 rfl rfl)
theorem dJ9_ensureCapacityInternal_38 : decode cJ9_ensureCapacityInternal 38 = .ok (.return_, 1) := dk_177 (dk_at dksJ9_ensureCapacityInternal_1 14 rfl rfl)
abbrev cJ9_newCapacity : ByteArray := prog_5_method_10_code
def yJ9_newCapacity : MethodName := ⟨RJ9, "newCapacity", "(I)I"⟩
def dkwJ9_newCapacity_2 : List UInt8 := [183, 0, 124, 191, 21, 5, 42, 180, 0, 22, 122, 172]
abbrev dktJ9_newCapacity_2 : List UInt8 := dkwJ9_newCapacity_2 ++ []
def dkwJ9_newCapacity_1 : List UInt8 := [180, 0, 22, 120, 96, 184, 0, 114, 54, 5, 21, 5, 18, 39, 160, 0, 13, 187, 0, 120, 89, 18, 122]
abbrev dktJ9_newCapacity_1 : List UInt8 := dkwJ9_newCapacity_1 ++ dktJ9_newCapacity_2
def dkwJ9_newCapacity_0 : List UInt8 := [42, 180, 0, 15, 190, 61, 27, 42, 180, 0, 22, 120, 62, 29, 28, 100, 54, 4, 28, 21, 4, 28, 5, 42]
abbrev dktJ9_newCapacity_0 : List UInt8 := dkwJ9_newCapacity_0 ++ dktJ9_newCapacity_1
theorem dksJ9_newCapacity_0 : cJ9_newCapacity.data.toList.drop 0 = dktJ9_newCapacity_0 := by decide +kernel
theorem dksJ9_newCapacity_1 : cJ9_newCapacity.data.toList.drop 24 = dktJ9_newCapacity_1 := dk_seg dksJ9_newCapacity_0 24 rfl rfl
theorem dksJ9_newCapacity_2 : cJ9_newCapacity.data.toList.drop 47 = dktJ9_newCapacity_2 := dk_seg dksJ9_newCapacity_1 23 rfl rfl
theorem dJ9_newCapacity_0 : decode cJ9_newCapacity 0 = .ok (.aload_n 0, 1) := dk_42 (dk_at dksJ9_newCapacity_0 0 rfl rfl)
theorem dJ9_newCapacity_1 : decode cJ9_newCapacity 1 = .ok (.getfield 15, 3) := dk_180 0 15 (dk_at dksJ9_newCapacity_0 1 rfl rfl)
theorem dJ9_newCapacity_4 : decode cJ9_newCapacity 4 = .ok (.arraylength, 1) := dk_190 (dk_at dksJ9_newCapacity_0 4 rfl rfl)
theorem dJ9_newCapacity_5 : decode cJ9_newCapacity 5 = .ok (.istore_n 2, 1) := dk_61 (dk_at dksJ9_newCapacity_0 5 rfl rfl)
theorem dJ9_newCapacity_6 : decode cJ9_newCapacity 6 = .ok (.iload_n 1, 1) := dk_27 (dk_at dksJ9_newCapacity_0 6 rfl rfl)
theorem dJ9_newCapacity_7 : decode cJ9_newCapacity 7 = .ok (.aload_n 0, 1) := dk_42 (dk_at dksJ9_newCapacity_0 7 rfl rfl)
theorem dJ9_newCapacity_8 : decode cJ9_newCapacity 8 = .ok (.getfield 22, 3) := dk_180 0 22 (dk_at dksJ9_newCapacity_0 8 rfl rfl)
theorem dJ9_newCapacity_11 : decode cJ9_newCapacity 11 = .ok (.ishl, 1) := dk_120 (dk_at dksJ9_newCapacity_0 11 rfl rfl)
theorem dJ9_newCapacity_12 : decode cJ9_newCapacity 12 = .ok (.istore_n 3, 1) := dk_62 (dk_at dksJ9_newCapacity_0 12 rfl rfl)
theorem dJ9_newCapacity_13 : decode cJ9_newCapacity 13 = .ok (.iload_n 3, 1) := dk_29 (dk_at dksJ9_newCapacity_0 13 rfl rfl)
theorem dJ9_newCapacity_14 : decode cJ9_newCapacity 14 = .ok (.iload_n 2, 1) := dk_28 (dk_at dksJ9_newCapacity_0 14 rfl rfl)
theorem dJ9_newCapacity_15 : decode cJ9_newCapacity 15 = .ok (.isub, 1) := dk_100 (dk_at dksJ9_newCapacity_0 15 rfl rfl)
theorem dJ9_newCapacity_16 : decode cJ9_newCapacity 16 = .ok (.istore 4, 2) := dk_54 4 (dk_at dksJ9_newCapacity_0 16 rfl rfl)
theorem dJ9_newCapacity_18 : decode cJ9_newCapacity 18 = .ok (.iload_n 2, 1) := dk_28 (dk_at dksJ9_newCapacity_0 18 rfl rfl)
theorem dJ9_newCapacity_19 : decode cJ9_newCapacity 19 = .ok (.iload 4, 2) := dk_21 4 (dk_at dksJ9_newCapacity_0 19 rfl rfl)
theorem dJ9_newCapacity_21 : decode cJ9_newCapacity 21 = .ok (.iload_n 2, 1) := dk_28 (dk_at dksJ9_newCapacity_0 21 rfl rfl)
theorem dJ9_newCapacity_22 : decode cJ9_newCapacity 22 = .ok (.iconst 2, 1) := dk_5 (dk_at dksJ9_newCapacity_0 22 rfl rfl)
theorem dJ9_newCapacity_23 : decode cJ9_newCapacity 23 = .ok (.aload_n 0, 1) := dk_42 (dk_at dksJ9_newCapacity_0 23 rfl rfl)
theorem dJ9_newCapacity_24 : decode cJ9_newCapacity 24 = .ok (.getfield 22, 3) := dk_180 0 22 (dk_at dksJ9_newCapacity_1 0 rfl rfl)
theorem dJ9_newCapacity_27 : decode cJ9_newCapacity 27 = .ok (.ishl, 1) := dk_120 (dk_at dksJ9_newCapacity_1 3 rfl rfl)
theorem dJ9_newCapacity_28 : decode cJ9_newCapacity 28 = .ok (.iadd, 1) := dk_96 (dk_at dksJ9_newCapacity_1 4 rfl rfl)
theorem dJ9_newCapacity_29 : decode cJ9_newCapacity 29 = .ok (.invokestatic 114, 3) := dk_184 0 114 (dk_at dksJ9_newCapacity_1 5 rfl rfl)
theorem dJ9_newCapacity_32 : decode cJ9_newCapacity 32 = .ok (.istore 5, 2) := dk_54 5 (dk_at dksJ9_newCapacity_1 8 rfl rfl)
theorem dJ9_newCapacity_34 : decode cJ9_newCapacity 34 = .ok (.iload 5, 2) := dk_21 5 (dk_at dksJ9_newCapacity_1 10 rfl rfl)
theorem dJ9_newCapacity_36 : decode cJ9_newCapacity 36 = .ok (.ldc 39, 2) := dk_18 39 (dk_at dksJ9_newCapacity_1 12 rfl rfl)
theorem dJ9_newCapacity_38 : decode cJ9_newCapacity 38 = .ok (.if_icmp .ne 13, 3) := dk_160 0 13 (dk_at dksJ9_newCapacity_1 14 rfl rfl)
theorem dJ9_newCapacity_41 : decode cJ9_newCapacity 41 = .ok (.new 120, 3) := dk_187 0 120 (dk_at dksJ9_newCapacity_1 17 rfl rfl)
theorem dJ9_newCapacity_44 : decode cJ9_newCapacity 44 = .ok (.dup, 1) := dk_89 (dk_at dksJ9_newCapacity_1 20 rfl rfl)
theorem dJ9_newCapacity_45 : decode cJ9_newCapacity 45 = .ok (.ldc 122, 2) := dk_18 122 (dk_at dksJ9_newCapacity_1 21 rfl rfl)
theorem dJ9_newCapacity_47 : decode cJ9_newCapacity 47 = .ok (.invokespecial 124, 3) := dk_183 0 124 (dk_at dksJ9_newCapacity_2 0 rfl rfl)
theorem dJ9_newCapacity_50 : decode cJ9_newCapacity 50 = .ok (.athrow, 1) := dk_191 (dk_at dksJ9_newCapacity_2 3 rfl rfl)
theorem dJ9_newCapacity_51 : decode cJ9_newCapacity 51 = .ok (.iload 5, 2) := dk_21 5 (dk_at dksJ9_newCapacity_2 4 rfl rfl)
theorem dJ9_newCapacity_53 : decode cJ9_newCapacity 53 = .ok (.aload_n 0, 1) := dk_42 (dk_at dksJ9_newCapacity_2 6 rfl rfl)
theorem dJ9_newCapacity_54 : decode cJ9_newCapacity 54 = .ok (.getfield 22, 3) := dk_180 0 22 (dk_at dksJ9_newCapacity_2 7 rfl rfl)
theorem dJ9_newCapacity_57 : decode cJ9_newCapacity 57 = .ok (.ishr, 1) := dk_122 (dk_at dksJ9_newCapacity_2 10 rfl rfl)
theorem dJ9_newCapacity_58 : decode cJ9_newCapacity 58 = .ok (.ireturn, 1) := dk_172 (dk_at dksJ9_newCapacity_2 11 rfl rfl)
abbrev cJ9_isLatin1 : ByteArray := prog_5_method_68_code
def yJ9_isLatin1 : MethodName := ⟨RJ9, "isLatin1", "()Z"⟩
def dkwJ9_isLatin1_0 : List UInt8 := [178, 0, 18, 153, 0, 14, 42, 180, 0, 22, 154, 0, 7, 4, 167, 0, 4, 3, 172]
abbrev dktJ9_isLatin1_0 : List UInt8 := dkwJ9_isLatin1_0 ++ []
theorem dksJ9_isLatin1_0 : cJ9_isLatin1.data.toList.drop 0 = dktJ9_isLatin1_0 := by decide +kernel
theorem dJ9_isLatin1_0 : decode cJ9_isLatin1 0 = .ok (.getstatic 18, 3) := dk_178 0 18 (dk_at dksJ9_isLatin1_0 0 rfl rfl)
theorem dJ9_isLatin1_3 : decode cJ9_isLatin1 3 = .ok (.ifCond .eq 14, 3) := dk_153 0 14 (dk_at dksJ9_isLatin1_0 3 rfl rfl)
theorem dJ9_isLatin1_6 : decode cJ9_isLatin1 6 = .ok (.aload_n 0, 1) := dk_42 (dk_at dksJ9_isLatin1_0 6 rfl rfl)
theorem dJ9_isLatin1_7 : decode cJ9_isLatin1 7 = .ok (.getfield 22, 3) := dk_180 0 22 (dk_at dksJ9_isLatin1_0 7 rfl rfl)
theorem dJ9_isLatin1_10 : decode cJ9_isLatin1 10 = .ok (.ifCond .ne 7, 3) := dk_154 0 7 (dk_at dksJ9_isLatin1_0 10 rfl rfl)
theorem dJ9_isLatin1_13 : decode cJ9_isLatin1 13 = .ok (.iconst 1, 1) := dk_4 (dk_at dksJ9_isLatin1_0 13 rfl rfl)
theorem dJ9_isLatin1_14 : decode cJ9_isLatin1 14 = .ok (.goto 4, 3) := dk_167 0 4 (dk_at dksJ9_isLatin1_0 14 rfl rfl)
theorem dJ9_isLatin1_17 : decode cJ9_isLatin1 17 = .ok (.iconst 0, 1) := dk_3 (dk_at dksJ9_isLatin1_0 17 rfl rfl)
theorem dJ9_isLatin1_18 : decode cJ9_isLatin1 18 = .ok (.ireturn, 1) := dk_172 (dk_at dksJ9_isLatin1_0 18 rfl rfl)
abbrev cJ9_inflate : ByteArray := prog_5_method_11_code
def yJ9_inflate : MethodName := ⟨RJ9, "inflate", "()V"⟩
def dkwJ9_inflate_1 : List UInt8 := [42, 180, 0, 79, 184, 0, 125, 42, 43, 181, 0, 15, 42, 4, 181, 0, 22, 177]
abbrev dktJ9_inflate_1 : List UInt8 := dkwJ9_inflate_1 ++ []
def dkwJ9_inflate_0 : List UInt8 := [42, 182, 0, 83, 154, 0, 4, 177, 42, 180, 0, 15, 190, 184, 0, 26, 76, 42, 180, 0, 15, 3, 43, 3]
abbrev dktJ9_inflate_0 : List UInt8 := dkwJ9_inflate_0 ++ dktJ9_inflate_1
theorem dksJ9_inflate_0 : cJ9_inflate.data.toList.drop 0 = dktJ9_inflate_0 := by decide +kernel
theorem dksJ9_inflate_1 : cJ9_inflate.data.toList.drop 24 = dktJ9_inflate_1 := dk_seg dksJ9_inflate_0 24 rfl rfl
theorem dJ9_inflate_0 : decode cJ9_inflate 0 = .ok (.aload_n 0, 1) := dk_42 (dk_at dksJ9_inflate_0 0 rfl rfl)
theorem dJ9_inflate_1 : decode cJ9_inflate 1 = .ok (.invokevirtual 83, 3) := dk_182 0 83 (dk_at dksJ9_inflate_0 1 rfl rfl)
theorem dJ9_inflate_4 : decode cJ9_inflate 4 = .ok (.ifCond .ne 4, 3) := dk_154 0 4 (dk_at dksJ9_inflate_0 4 rfl rfl)
theorem dJ9_inflate_7 : decode cJ9_inflate 7 = .ok (.return_, 1) := dk_177 (dk_at dksJ9_inflate_0 7 rfl rfl)
theorem dJ9_inflate_8 : decode cJ9_inflate 8 = .ok (.aload_n 0, 1) := dk_42 (dk_at dksJ9_inflate_0 8 rfl rfl)
theorem dJ9_inflate_9 : decode cJ9_inflate 9 = .ok (.getfield 15, 3) := dk_180 0 15 (dk_at dksJ9_inflate_0 9 rfl rfl)
theorem dJ9_inflate_12 : decode cJ9_inflate 12 = .ok (.arraylength, 1) := dk_190 (dk_at dksJ9_inflate_0 12 rfl rfl)
theorem dJ9_inflate_13 : decode cJ9_inflate 13 = .ok (.invokestatic 26, 3) := dk_184 0 26 (dk_at dksJ9_inflate_0 13 rfl rfl)
theorem dJ9_inflate_16 : decode cJ9_inflate 16 = .ok (.astore_n 1, 1) := dk_76 (dk_at dksJ9_inflate_0 16 rfl rfl)
theorem dJ9_inflate_17 : decode cJ9_inflate 17 = .ok (.aload_n 0, 1) := dk_42 (dk_at dksJ9_inflate_0 17 rfl rfl)
theorem dJ9_inflate_18 : decode cJ9_inflate 18 = .ok (.getfield 15, 3) := dk_180 0 15 (dk_at dksJ9_inflate_0 18 rfl rfl)
theorem dJ9_inflate_21 : decode cJ9_inflate 21 = .ok (.iconst 0, 1) := dk_3 (dk_at dksJ9_inflate_0 21 rfl rfl)
theorem dJ9_inflate_22 : decode cJ9_inflate 22 = .ok (.aload_n 1, 1) := dk_43 (dk_at dksJ9_inflate_0 22 rfl rfl)
theorem dJ9_inflate_23 : decode cJ9_inflate 23 = .ok (.iconst 0, 1) := dk_3 (dk_at dksJ9_inflate_0 23 rfl rfl)
theorem dJ9_inflate_24 : decode cJ9_inflate 24 = .ok (.aload_n 0, 1) := dk_42 (dk_at dksJ9_inflate_1 0 rfl rfl)
theorem dJ9_inflate_25 : decode cJ9_inflate 25 = .ok (.getfield 79, 3) := dk_180 0 79 (dk_at dksJ9_inflate_1 1 rfl rfl)
theorem dJ9_inflate_28 : decode cJ9_inflate 28 = .ok (.invokestatic 125, 3) := dk_184 0 125 (dk_at dksJ9_inflate_1 4 rfl rfl)
theorem dJ9_inflate_31 : decode cJ9_inflate 31 = .ok (.aload_n 0, 1) := dk_42 (dk_at dksJ9_inflate_1 7 rfl rfl)
theorem dJ9_inflate_32 : decode cJ9_inflate 32 = .ok (.aload_n 1, 1) := dk_43 (dk_at dksJ9_inflate_1 8 rfl rfl)
theorem dJ9_inflate_33 : decode cJ9_inflate 33 = .ok (.putfield 15, 3) := dk_181 0 15 (dk_at dksJ9_inflate_1 9 rfl rfl)
theorem dJ9_inflate_36 : decode cJ9_inflate 36 = .ok (.aload_n 0, 1) := dk_42 (dk_at dksJ9_inflate_1 12 rfl rfl)
theorem dJ9_inflate_37 : decode cJ9_inflate 37 = .ok (.iconst 1, 1) := dk_4 (dk_at dksJ9_inflate_1 13 rfl rfl)
theorem dJ9_inflate_38 : decode cJ9_inflate 38 = .ok (.putfield 22, 3) := dk_181 0 22 (dk_at dksJ9_inflate_1 14 rfl rfl)
theorem dJ9_inflate_41 : decode cJ9_inflate 41 = .ok (.return_, 1) := dk_177 (dk_at dksJ9_inflate_1 17 rfl rfl)
abbrev cJ9_getValue : ByteArray := prog_5_method_64_code
def yJ9_getValue : MethodName := ⟨RJ9, "getValue", "()[B"⟩
theorem dJ9_getValue_0 : decode cJ9_getValue 0 = .ok (.aload_n 0, 1) := by decide +kernel
theorem dJ9_getValue_1 : decode cJ9_getValue 1 = .ok (.getfield 15, 3) := by decide +kernel
theorem dJ9_getValue_4 : decode cJ9_getValue 4 = .ok (.areturn, 1) := by decide +kernel
theorem q14 : (Jvm.Cond.initialized "java/lang/AbstractStringBuilder") ∈ lw_all := lw_g (lw_at lw_m1 13 rfl) rfl
theorem q278 : (Jvm.Cond.instanceMethod ({ cls := "java/lang/AbstractStringBuilder", name := "length", desc := "()I" } : Jvm.MethodName)) ∈ lw_all := lw_g (lw_at lw_m2 37 rfl) rfl
theorem q279 : (Jvm.Cond.code ({ cls := "java/lang/AbstractStringBuilder", name := "length", desc := "()I" } : Jvm.MethodName) prog_5_method_6_code (1 : Nat) (Option.some Jvm.ClassFile.FieldType.int)) ∈ lw_all := lw_g (lw_at lw_m2 38 rfl) rfl
theorem q293 : (Jvm.Cond.instanceMethod ({ cls := "java/lang/AbstractStringBuilder", name := "charAt", desc := "(I)C" } : Jvm.MethodName)) ∈ lw_all := lw_g (lw_at lw_m2 52 rfl) rfl
theorem q294 : (Jvm.Cond.code ({ cls := "java/lang/AbstractStringBuilder", name := "charAt", desc := "(I)C" } : Jvm.MethodName) prog_5_method_14_code (5 : Nat) (Option.some Jvm.ClassFile.FieldType.char)) ∈ lw_all := lw_g (lw_at lw_m2 53 rfl) rfl
theorem q295 : (Jvm.Cond.methodLink "java/lang/AbstractStringBuilder" (138 : Nat) ({ cls := "java/lang/Math", name := "min", desc := "(II)I" } : Jvm.MethodName)) ∈ lw_all := lw_g (lw_at lw_m2 54 rfl) rfl
theorem q298 : (Jvm.Cond.methodLink "java/lang/AbstractStringBuilder" (144 : Nat) ({ cls := "java/lang/String", name := "checkIndex", desc := "(II)V" } : Jvm.MethodName)) ∈ lw_all := lw_g (lw_at lw_m2 57 rfl) rfl
theorem q299 : (Jvm.Cond.methodLink "java/lang/AbstractStringBuilder" (148 : Nat) ({ cls := "java/lang/StringUTF16", name := "getChar", desc := "([BI)C" } : Jvm.MethodName)) ∈ lw_all := lw_g (lw_at lw_m2 58 rfl) rfl
theorem q308 : (Jvm.Cond.instanceMethod ({ cls := "java/lang/AbstractStringBuilder", name := "<init>", desc := "(I)V" } : Jvm.MethodName)) ∈ lw_all := lw_g (lw_at lw_m2 67 rfl) rfl
theorem q309 : (Jvm.Cond.code ({ cls := "java/lang/AbstractStringBuilder", name := "<init>", desc := "(I)V" } : Jvm.MethodName) prog_5_method_2_code (2 : Nat) (Option.none : Option Jvm.ClassFile.FieldType)) ∈ lw_all := lw_g (lw_at lw_m2 68 rfl) rfl
theorem q310 : (Jvm.Cond.methodLink "java/lang/AbstractStringBuilder" (3 : Nat) ({ cls := "java/lang/Object", name := "<init>", desc := "()V" } : Jvm.MethodName)) ∈ lw_all := lw_g (lw_at lw_m2 69 rfl) rfl
theorem q311 : (Jvm.Cond.fieldLink "java/lang/AbstractStringBuilder" (18 : Nat) "java/lang/String" "COMPACT_STRINGS" "Z") ∈ lw_all := lw_g (lw_at lw_m2 70 rfl) rfl
theorem q312 : (Jvm.Cond.methodLink "java/lang/AbstractStringBuilder" (26 : Nat) ({ cls := "java/lang/StringUTF16", name := "newBytesFor", desc := "(I)[B" } : Jvm.MethodName)) ∈ lw_all := lw_g (lw_at lw_m2 71 rfl) rfl
theorem q313 : (Jvm.Cond.fieldLink "java/lang/AbstractStringBuilder" (15 : Nat) "java/lang/AbstractStringBuilder" "value" "[B") ∈ lw_all := lw_g (lw_at lw_m2 72 rfl) rfl
theorem q314 : (Jvm.Cond.fieldLink "java/lang/AbstractStringBuilder" (22 : Nat) "java/lang/AbstractStringBuilder" "coder" "B") ∈ lw_all := lw_g (lw_at lw_m2 73 rfl) rfl
theorem q316 : (Jvm.Cond.fieldLink "java/lang/AbstractStringBuilder" (79 : Nat) "java/lang/AbstractStringBuilder" "count" "I") ∈ lw_all := lw_g (lw_at lw_m2 75 rfl) rfl
theorem q318 : (Jvm.Cond.soleField "java/lang/AbstractStringBuilder" "value") ∈ lw_all := lw_g (lw_at lw_m2 77 rfl) rfl
theorem q320 : (Jvm.Cond.soleField "java/lang/AbstractStringBuilder" "coder") ∈ lw_all := lw_g (lw_at lw_m2 79 rfl) rfl
theorem q322 : (Jvm.Cond.soleField "java/lang/AbstractStringBuilder" "maybeLatin1") ∈ lw_all := lw_g (lw_at lw_m2 81 rfl) rfl
theorem q324 : (Jvm.Cond.soleField "java/lang/AbstractStringBuilder" "count") ∈ lw_all := lw_g (lw_at lw_m2 83 rfl) rfl
theorem q330 : (Jvm.Cond.instanceMethod ({ cls := "java/lang/AbstractStringBuilder", name := "append", desc := "(C)Ljava/lang/AbstractStringBuilder;" } : Jvm.MethodName)) ∈ lw_all := lw_g (lw_at lw_m2 89 rfl) rfl
theorem q331 : (Jvm.Cond.code ({ cls := "java/lang/AbstractStringBuilder", name := "append", desc := "(C)Ljava/lang/AbstractStringBuilder;" } : Jvm.MethodName) prog_5_method_31_code (2 : Nat) (Option.some (Jvm.ClassFile.FieldType.object "java/lang/AbstractStringBuilder"))) ∈ lw_all := lw_g (lw_at lw_m2 90 rfl) rfl
theorem q332 : (Jvm.Cond.methodLink "java/lang/AbstractStringBuilder" (100 : Nat) ({ cls := "java/lang/AbstractStringBuilder", name := "ensureCapacityInternal", desc := "(I)V" } : Jvm.MethodName)) ∈ lw_all := lw_g (lw_at lw_m2 91 rfl) rfl
theorem q333 : (Jvm.Cond.privateMethod ({ cls := "java/lang/AbstractStringBuilder", name := "ensureCapacityInternal", desc := "(I)V" } : Jvm.MethodName)) ∈ lw_tbl := lw_at lw_m2 92 rfl
theorem q334 : (Jvm.Cond.instanceMethod ({ cls := "java/lang/AbstractStringBuilder", name := "ensureCapacityInternal", desc := "(I)V" } : Jvm.MethodName)) ∈ lw_all := lw_g (lw_at lw_m2 93 rfl) rfl
theorem q335 : (Jvm.Cond.code ({ cls := "java/lang/AbstractStringBuilder", name := "ensureCapacityInternal", desc := "(I)V" } : Jvm.MethodName) prog_5_method_9_code (3 : Nat) (Option.none : Option Jvm.ClassFile.FieldType)) ∈ lw_all := lw_g (lw_at lw_m2 94 rfl) rfl
theorem q336 : (Jvm.Cond.methodLink "java/lang/AbstractStringBuilder" (104 : Nat) ({ cls := "java/lang/AbstractStringBuilder", name := "newCapacity", desc := "(I)I" } : Jvm.MethodName)) ∈ lw_all := lw_g (lw_at lw_m2 95 rfl) rfl
theorem q337 : (Jvm.Cond.privateMethod ({ cls := "java/lang/AbstractStringBuilder", name := "newCapacity", desc := "(I)I" } : Jvm.MethodName)) ∈ lw_tbl := lw_at lw_m2 96 rfl
theorem q338 : (Jvm.Cond.instanceMethod ({ cls := "java/lang/AbstractStringBuilder", name := "newCapacity", desc := "(I)I" } : Jvm.MethodName)) ∈ lw_all := lw_g (lw_at lw_m2 97 rfl) rfl
theorem q339 : (Jvm.Cond.code ({ cls := "java/lang/AbstractStringBuilder", name := "newCapacity", desc := "(I)I" } : Jvm.MethodName) prog_5_method_10_code (6 : Nat) (Option.some Jvm.ClassFile.FieldType.int)) ∈ lw_all := lw_g (lw_at lw_m2 98 rfl) rfl
theorem q340 : (Jvm.Cond.methodLink "java/lang/AbstractStringBuilder" (114 : Nat) ({ cls := "jdk/internal/util/ArraysSupport", name := "newLength", desc := "(III)I" } : Jvm.MethodName)) ∈ lw_all := lw_g (lw_at lw_m2 99 rfl) rfl
theorem q350 : (Jvm.Cond.constant "java/lang/AbstractStringBuilder" (39 : Nat) (2147483647 : Int32)) ∈ lw_all := lw_g (lw_at lw_m2 109 rfl) rfl
theorem q351 : (Jvm.Cond.methodLink "java/lang/AbstractStringBuilder" (108 : Nat) ({ cls := "java/util/Arrays", name := "copyOf", desc := "([BI)[B" } : Jvm.MethodName)) ∈ lw_all := lw_g (lw_at lw_m2 110 rfl) rfl
theorem q365 : (Jvm.Cond.methodLink "java/lang/AbstractStringBuilder" (83 : Nat) ({ cls := "java/lang/AbstractStringBuilder", name := "isLatin1", desc := "()Z" } : Jvm.MethodName)) ∈ lw_all := lw_g (lw_at lw_m2 124 rfl) rfl
theorem q366 : (Jvm.Cond.instanceMethod ({ cls := "java/lang/AbstractStringBuilder", name := "isLatin1", desc := "()Z" } : Jvm.MethodName)) ∈ lw_all := lw_g (lw_at lw_m2 125 rfl) rfl
theorem q367 : (Jvm.Cond.sameMethod "java/lang/AbstractStringBuilder" "java/lang/AbstractStringBuilder" "isLatin1" "()Z") ∈ lw_all := lw_g (lw_at lw_m2 126 rfl) rfl
theorem q369 : (Jvm.Cond.code ({ cls := "java/lang/AbstractStringBuilder", name := "isLatin1", desc := "()Z" } : Jvm.MethodName) prog_5_method_68_code (1 : Nat) (Option.some Jvm.ClassFile.FieldType.boolean)) ∈ lw_all := lw_g (lw_at lw_m2 128 rfl) rfl
theorem q370 : (Jvm.Cond.methodLink "java/lang/AbstractStringBuilder" (191 : Nat) ({ cls := "java/lang/StringLatin1", name := "canEncode", desc := "(C)Z" } : Jvm.MethodName)) ∈ lw_all := lw_g (lw_at lw_m2 129 rfl) rfl
theorem q373 : (Jvm.Cond.methodLink "java/lang/AbstractStringBuilder" (195 : Nat) ({ cls := "java/lang/AbstractStringBuilder", name := "inflate", desc := "()V" } : Jvm.MethodName)) ∈ lw_all := lw_g (lw_at lw_m2 132 rfl) rfl
theorem q374 : (Jvm.Cond.privateMethod ({ cls := "java/lang/AbstractStringBuilder", name := "inflate", desc := "()V" } : Jvm.MethodName)) ∈ lw_tbl := lw_at lw_m2 133 rfl
theorem q375 : (Jvm.Cond.instanceMethod ({ cls := "java/lang/AbstractStringBuilder", name := "inflate", desc := "()V" } : Jvm.MethodName)) ∈ lw_all := lw_g (lw_at lw_m2 134 rfl) rfl
theorem q376 : (Jvm.Cond.code ({ cls := "java/lang/AbstractStringBuilder", name := "inflate", desc := "()V" } : Jvm.MethodName) prog_5_method_11_code (2 : Nat) (Option.none : Option Jvm.ClassFile.FieldType)) ∈ lw_all := lw_g (lw_at lw_m2 135 rfl) rfl
theorem q377 : (Jvm.Cond.methodLink "java/lang/AbstractStringBuilder" (125 : Nat) ({ cls := "java/lang/StringLatin1", name := "inflate", desc := "([BI[BII)V" } : Jvm.MethodName)) ∈ lw_all := lw_g (lw_at lw_m2 136 rfl) rfl
theorem q383 : (Jvm.Cond.methodLink "java/lang/AbstractStringBuilder" (197 : Nat) ({ cls := "java/lang/StringUTF16", name := "putCharSB", desc := "([BII)V" } : Jvm.MethodName)) ∈ lw_all := lw_g (lw_at lw_m2 142 rfl) rfl
theorem q398 : (Jvm.Cond.instanceMethod ({ cls := "java/lang/AbstractStringBuilder", name := "getValue", desc := "()[B" } : Jvm.MethodName)) ∈ lw_all := lw_g (lw_at lw_m2 157 rfl) rfl
theorem q399 : (Jvm.Cond.sameMethod "java/lang/AbstractStringBuilder" "java/lang/AbstractStringBuilder" "getValue" "()[B") ∈ lw_all := lw_g (lw_at lw_m2 158 rfl) rfl
theorem q401 : (Jvm.Cond.code ({ cls := "java/lang/AbstractStringBuilder", name := "getValue", desc := "()[B" } : Jvm.MethodName) prog_5_method_64_code (1 : Nat) (Option.some (Jvm.ClassFile.FieldType.array Jvm.ClassFile.FieldType.byte))) ∈ lw_all := lw_g (lw_at lw_m2 160 rfl) rfl
theorem q425 : (Jvm.Cond.sameMethod "java/lang/AbstractStringBuilder" "java/lang/AbstractStringBuilder" "length" "()I") ∈ lw_all := lw_g (lw_at lw_m2 184 rfl) rfl
theorem q426 : (Jvm.Cond.sameMethod "java/lang/AbstractStringBuilder" "java/lang/AbstractStringBuilder" "charAt" "(I)C") ∈ lw_all := lw_g (lw_at lw_m2 185 rfl) rfl
theorem q427 : (Jvm.Cond.sameMethod "java/lang/AbstractStringBuilder" "java/lang/AbstractStringBuilder" "append" "(C)Ljava/lang/AbstractStringBuilder;") ∈ lw_all := lw_g (lw_at lw_m2 186 rfl) rfl
theorem q428 : (Jvm.Cond.sameMethod "java/lang/AbstractStringBuilder" "java/lang/AbstractStringBuilder" "ensureCapacityInternal" "(I)V") ∈ lw_all := lw_g (lw_at lw_m2 187 rfl) rfl
theorem q429 : (Jvm.Cond.sameMethod "java/lang/AbstractStringBuilder" "java/lang/AbstractStringBuilder" "newCapacity" "(I)I") ∈ lw_all := lw_g (lw_at lw_m2 188 rfl) rfl
theorem q430 : (Jvm.Cond.sameMethod "java/lang/AbstractStringBuilder" "java/lang/AbstractStringBuilder" "inflate" "()V") ∈ lw_all := lw_g (lw_at lw_m2 189 rfl) rfl

/-! java/lang/StringBuilder -/
set_option maxRecDepth 100000
def RJ10 : String := "java/lang/StringBuilder"
def TJ10 : u_T := fun k => match k with
  | 0 => ("java/lang/AbstractStringBuilder", "value", "[B", false)
  | 1 => ("java/lang/AbstractStringBuilder", "coder", "B", false)
  | 2 => ("java/lang/AbstractStringBuilder", "maybeLatin1", "Z", false)
  | _ => ("java/lang/AbstractStringBuilder", "count", "I", false)
def tyJ10 : Nat → FieldType := fun k => match k with
  | 0 => .array .byte
  | 1 => .byte
  | 2 => .boolean
  | _ => .int
abbrev wsJ100 : List Cond := u_ws RJ10 TJ10 4
theorem nmJ10 : ∀ a, a < 4 → ∀ b, b < 4 → a ≠ b → (TJ10 a).2.1 ≠ (TJ10 b).2.1 := by decide +kernel
theorem tyJ10_ok : ∀ k, k < 4 → parseFieldDescriptor (TJ10 k).2.2.1 = some (tyJ10 k) := by decide +kernel
abbrev cJ10_length : ByteArray := prog_13_method_93_code
def yJ10_length : MethodName := ⟨RJ10, "length", "()I"⟩
theorem dJ10_length_0 : decode cJ10_length 0 = .ok (.aload_n 0, 1) := by decide +kernel
theorem dJ10_length_1 : decode cJ10_length 1 = .ok (.invokespecial 343, 3) := by decide +kernel
theorem dJ10_length_4 : decode cJ10_length 4 = .ok (.ireturn, 1) := by decide +kernel
abbrev cJ10_charAt : ByteArray := prog_13_method_88_code
def yJ10_charAt : MethodName := ⟨RJ10, "charAt", "(I)C"⟩
def dkwJ10_charAt_0 : List UInt8 := [42, 27, 183, 1, 73, 172]
abbrev dktJ10_charAt_0 : List UInt8 := dkwJ10_charAt_0 ++ []
theorem dksJ10_charAt_0 : cJ10_charAt.data.toList.drop 0 = dktJ10_charAt_0 := by decide +kernel
theorem dJ10_charAt_0 : decode cJ10_charAt 0 = .ok (.aload_n 0, 1) := dk_42 (dk_at dksJ10_charAt_0 0 rfl rfl)
theorem dJ10_charAt_1 : decode cJ10_charAt 1 = .ok (.iload_n 1, 1) := dk_27 (dk_at dksJ10_charAt_0 1 rfl rfl)
theorem dJ10_charAt_2 : decode cJ10_charAt 2 = .ok (.invokespecial 329, 3) := dk_183 1 73 (dk_at dksJ10_charAt_0 2 rfl rfl)
theorem dJ10_charAt_5 : decode cJ10_charAt 5 = .ok (.ireturn, 1) := dk_172 (dk_at dksJ10_charAt_0 5 rfl rfl)
abbrev cJ10_init : ByteArray := prog_13_method_2_code
def yJ10_init : MethodName := ⟨RJ10, "<init>", "(I)V"⟩
def dkwJ10_init_0 : List UInt8 := [42, 27, 183, 0, 1, 177]
abbrev dktJ10_init_0 : List UInt8 := dkwJ10_init_0 ++ []
theorem dksJ10_init_0 : cJ10_init.data.toList.drop 0 = dktJ10_init_0 := by decide +kernel
theorem dJ10_init_0 : decode cJ10_init 0 = .ok (.aload_n 0, 1) := dk_42 (dk_at dksJ10_init_0 0 rfl rfl)
theorem dJ10_init_1 : decode cJ10_init 1 = .ok (.iload_n 1, 1) := dk_27 (dk_at dksJ10_init_0 1 rfl rfl)
theorem dJ10_init_2 : decode cJ10_init 2 = .ok (.invokespecial 1, 3) := dk_183 0 1 (dk_at dksJ10_init_0 2 rfl rfl)
theorem dJ10_init_5 : decode cJ10_init 5 = .ok (.return_, 1) := dk_177 (dk_at dksJ10_init_0 5 rfl rfl)
abbrev cJ10_append : ByteArray := prog_13_method_14_code
def yJ10_append : MethodName := ⟨RJ10, "append", "(C)Ljava/lang/StringBuilder;"⟩
def dkwJ10_append_0 : List UInt8 := [42, 27, 183, 0, 50, 87, 42, 176]
abbrev dktJ10_append_0 : List UInt8 := dkwJ10_append_0 ++ []
theorem dksJ10_append_0 : cJ10_append.data.toList.drop 0 = dktJ10_append_0 := by decide +kernel
theorem dJ10_append_0 : decode cJ10_append 0 = .ok (.aload_n 0, 1) := dk_42 (dk_at dksJ10_append_0 0 rfl rfl)
theorem dJ10_append_1 : decode cJ10_append 1 = .ok (.iload_n 1, 1) := dk_27 (dk_at dksJ10_append_0 1 rfl rfl)
theorem dJ10_append_2 : decode cJ10_append 2 = .ok (.invokespecial 50, 3) := dk_183 0 50 (dk_at dksJ10_append_0 2 rfl rfl)
theorem dJ10_append_5 : decode cJ10_append 5 = .ok (.pop, 1) := dk_87 (dk_at dksJ10_append_0 5 rfl rfl)
theorem dJ10_append_6 : decode cJ10_append 6 = .ok (.aload_n 0, 1) := dk_42 (dk_at dksJ10_append_0 6 rfl rfl)
theorem dJ10_append_7 : decode cJ10_append 7 = .ok (.areturn, 1) := dk_176 (dk_at dksJ10_append_0 7 rfl rfl)
abbrev cJ10_toString : ByteArray := prog_13_method_42_code
def yJ10_toString : MethodName := ⟨RJ10, "toString", "()Ljava/lang/String;"⟩
def dkwJ10_toString_0 : List UInt8 := [187, 0, 18, 89, 42, 183, 0, 137, 176]
abbrev dktJ10_toString_0 : List UInt8 := dkwJ10_toString_0 ++ []
theorem dksJ10_toString_0 : cJ10_toString.data.toList.drop 0 = dktJ10_toString_0 := by decide +kernel
theorem dJ10_toString_0 : decode cJ10_toString 0 = .ok (.new 18, 3) := dk_187 0 18 (dk_at dksJ10_toString_0 0 rfl rfl)
theorem dJ10_toString_3 : decode cJ10_toString 3 = .ok (.dup, 1) := dk_89 (dk_at dksJ10_toString_0 3 rfl rfl)
theorem dJ10_toString_4 : decode cJ10_toString 4 = .ok (.aload_n 0, 1) := dk_42 (dk_at dksJ10_toString_0 4 rfl rfl)
theorem dJ10_toString_5 : decode cJ10_toString 5 = .ok (.invokespecial 137, 3) := dk_183 0 137 (dk_at dksJ10_toString_0 5 rfl rfl)
theorem dJ10_toString_8 : decode cJ10_toString 8 = .ok (.areturn, 1) := dk_176 (dk_at dksJ10_toString_0 8 rfl rfl)
theorem q15 : (Jvm.Cond.initialized "java/lang/StringBuilder") ∈ lw_all := lw_g (lw_at lw_m1 14 rfl) rfl
theorem q270 : (Jvm.Cond.castable "java/lang/StringBuilder" "java/lang/CharSequence") ∈ lw_tbl := lw_at lw_m2 29 rfl
theorem q271 : (Jvm.Cond.selects "java/lang/StringBuilder" ({ cls := "java/lang/CharSequence", name := "length", desc := "()I" } : Jvm.MethodName) ({ cls := "java/lang/StringBuilder", name := "length", desc := "()I" } : Jvm.MethodName)) ∈ lw_all := lw_g (lw_at lw_m2 30 rfl) rfl
theorem q272 : (Jvm.Cond.unhidden "java/lang/StringBuilder" "length" "()I") ∈ lw_tbl := lw_at lw_m2 31 rfl
theorem q273 : (Jvm.Cond.instanceMethod ({ cls := "java/lang/StringBuilder", name := "length", desc := "()I" } : Jvm.MethodName)) ∈ lw_all := lw_g (lw_at lw_m2 32 rfl) rfl
theorem q274 : (Jvm.Cond.publicMethod ({ cls := "java/lang/StringBuilder", name := "length", desc := "()I" } : Jvm.MethodName)) ∈ lw_tbl := lw_at lw_m2 33 rfl
theorem q275 : (Jvm.Cond.code ({ cls := "java/lang/StringBuilder", name := "length", desc := "()I" } : Jvm.MethodName) prog_13_method_93_code (1 : Nat) (Option.some Jvm.ClassFile.FieldType.int)) ∈ lw_all := lw_g (lw_at lw_m2 34 rfl) rfl
theorem q276 : (Jvm.Cond.methodLink "java/lang/StringBuilder" (343 : Nat) ({ cls := "java/lang/AbstractStringBuilder", name := "length", desc := "()I" } : Jvm.MethodName)) ∈ lw_all := lw_g (lw_at lw_m2 35 rfl) rfl
theorem q277 : (Jvm.Cond.superclass "java/lang/StringBuilder" "java/lang/AbstractStringBuilder") ∈ lw_all := lw_g (lw_at lw_m2 36 rfl) rfl
theorem q287 : (Jvm.Cond.selects "java/lang/StringBuilder" ({ cls := "java/lang/CharSequence", name := "charAt", desc := "(I)C" } : Jvm.MethodName) ({ cls := "java/lang/StringBuilder", name := "charAt", desc := "(I)C" } : Jvm.MethodName)) ∈ lw_all := lw_g (lw_at lw_m2 46 rfl) rfl
theorem q288 : (Jvm.Cond.unhidden "java/lang/StringBuilder" "charAt" "(I)C") ∈ lw_tbl := lw_at lw_m2 47 rfl
theorem q289 : (Jvm.Cond.instanceMethod ({ cls := "java/lang/StringBuilder", name := "charAt", desc := "(I)C" } : Jvm.MethodName)) ∈ lw_all := lw_g (lw_at lw_m2 48 rfl) rfl
theorem q290 : (Jvm.Cond.publicMethod ({ cls := "java/lang/StringBuilder", name := "charAt", desc := "(I)C" } : Jvm.MethodName)) ∈ lw_tbl := lw_at lw_m2 49 rfl
theorem q291 : (Jvm.Cond.code ({ cls := "java/lang/StringBuilder", name := "charAt", desc := "(I)C" } : Jvm.MethodName) prog_13_method_88_code (2 : Nat) (Option.some Jvm.ClassFile.FieldType.char)) ∈ lw_all := lw_g (lw_at lw_m2 50 rfl) rfl
theorem q292 : (Jvm.Cond.methodLink "java/lang/StringBuilder" (329 : Nat) ({ cls := "java/lang/AbstractStringBuilder", name := "charAt", desc := "(I)C" } : Jvm.MethodName)) ∈ lw_all := lw_g (lw_at lw_m2 51 rfl) rfl
theorem q303 : (Jvm.Cond.instantiable "java/lang/StringBuilder" (4 : Nat)) ∈ lw_all := lw_g (lw_at lw_m2 62 rfl) rfl
theorem q305 : (Jvm.Cond.instanceMethod ({ cls := "java/lang/StringBuilder", name := "<init>", desc := "(I)V" } : Jvm.MethodName)) ∈ lw_all := lw_g (lw_at lw_m2 64 rfl) rfl
theorem q306 : (Jvm.Cond.code ({ cls := "java/lang/StringBuilder", name := "<init>", desc := "(I)V" } : Jvm.MethodName) prog_13_method_2_code (2 : Nat) (Option.none : Option Jvm.ClassFile.FieldType)) ∈ lw_all := lw_g (lw_at lw_m2 65 rfl) rfl
theorem q307 : (Jvm.Cond.methodLink "java/lang/StringBuilder" (1 : Nat) ({ cls := "java/lang/AbstractStringBuilder", name := "<init>", desc := "(I)V" } : Jvm.MethodName)) ∈ lw_all := lw_g (lw_at lw_m2 66 rfl) rfl
theorem q317 : (Jvm.Cond.lays "java/lang/StringBuilder" "java/lang/AbstractStringBuilder" "value" "[B") ∈ lw_all := lw_g (lw_at lw_m2 76 rfl) rfl
theorem q319 : (Jvm.Cond.lays "java/lang/StringBuilder" "java/lang/AbstractStringBuilder" "coder" "B") ∈ lw_all := lw_g (lw_at lw_m2 78 rfl) rfl
theorem q321 : (Jvm.Cond.lays "java/lang/StringBuilder" "java/lang/AbstractStringBuilder" "maybeLatin1" "Z") ∈ lw_all := lw_g (lw_at lw_m2 80 rfl) rfl
theorem q323 : (Jvm.Cond.lays "java/lang/StringBuilder" "java/lang/AbstractStringBuilder" "count" "I") ∈ lw_all := lw_g (lw_at lw_m2 82 rfl) rfl
theorem q326 : (Jvm.Cond.instanceMethod ({ cls := "java/lang/StringBuilder", name := "append", desc := "(C)Ljava/lang/StringBuilder;" } : Jvm.MethodName)) ∈ lw_all := lw_g (lw_at lw_m2 85 rfl) rfl
theorem q327 : (Jvm.Cond.selects "java/lang/StringBuilder" ({ cls := "java/lang/StringBuilder", name := "append", desc := "(C)Ljava/lang/StringBuilder;" } : Jvm.MethodName) ({ cls := "java/lang/StringBuilder", name := "append", desc := "(C)Ljava/lang/StringBuilder;" } : Jvm.MethodName)) ∈ lw_all := lw_g (lw_at lw_m2 86 rfl) rfl
theorem q328 : (Jvm.Cond.code ({ cls := "java/lang/StringBuilder", name := "append", desc := "(C)Ljava/lang/StringBuilder;" } : Jvm.MethodName) prog_13_method_14_code (2 : Nat) (Option.some (Jvm.ClassFile.FieldType.object "java/lang/StringBuilder"))) ∈ lw_all := lw_g (lw_at lw_m2 87 rfl) rfl
theorem q329 : (Jvm.Cond.methodLink "java/lang/StringBuilder" (50 : Nat) ({ cls := "java/lang/AbstractStringBuilder", name := "append", desc := "(C)Ljava/lang/AbstractStringBuilder;" } : Jvm.MethodName)) ∈ lw_all := lw_g (lw_at lw_m2 88 rfl) rfl
theorem q368 : (Jvm.Cond.selects "java/lang/StringBuilder" ({ cls := "java/lang/AbstractStringBuilder", name := "isLatin1", desc := "()Z" } : Jvm.MethodName) ({ cls := "java/lang/AbstractStringBuilder", name := "isLatin1", desc := "()Z" } : Jvm.MethodName)) ∈ lw_all := lw_g (lw_at lw_m2 127 rfl) rfl
theorem q387 : (Jvm.Cond.instanceMethod ({ cls := "java/lang/StringBuilder", name := "toString", desc := "()Ljava/lang/String;" } : Jvm.MethodName)) ∈ lw_all := lw_g (lw_at lw_m2 146 rfl) rfl
theorem q388 : (Jvm.Cond.selects "java/lang/StringBuilder" ({ cls := "java/lang/StringBuilder", name := "toString", desc := "()Ljava/lang/String;" } : Jvm.MethodName) ({ cls := "java/lang/StringBuilder", name := "toString", desc := "()Ljava/lang/String;" } : Jvm.MethodName)) ∈ lw_all := lw_g (lw_at lw_m2 147 rfl) rfl
theorem q389 : (Jvm.Cond.code ({ cls := "java/lang/StringBuilder", name := "toString", desc := "()Ljava/lang/String;" } : Jvm.MethodName) prog_13_method_42_code (1 : Nat) (Option.some (Jvm.ClassFile.FieldType.object "java/lang/String"))) ∈ lw_all := lw_g (lw_at lw_m2 148 rfl) rfl
theorem q390 : (Jvm.Cond.classLink "java/lang/StringBuilder" (18 : Nat) "java/lang/String") ∈ lw_all := lw_g (lw_at lw_m2 149 rfl) rfl
theorem q391 : (Jvm.Cond.methodLink "java/lang/StringBuilder" (137 : Nat) ({ cls := "java/lang/String", name := "<init>", desc := "(Ljava/lang/StringBuilder;)V" } : Jvm.MethodName)) ∈ lw_all := lw_g (lw_at lw_m2 150 rfl) rfl
theorem q400 : (Jvm.Cond.selects "java/lang/StringBuilder" ({ cls := "java/lang/AbstractStringBuilder", name := "getValue", desc := "()[B" } : Jvm.MethodName) ({ cls := "java/lang/AbstractStringBuilder", name := "getValue", desc := "()[B" } : Jvm.MethodName)) ∈ lw_all := lw_g (lw_at lw_m2 159 rfl) rfl
theorem q431 : (Jvm.Cond.selects "java/lang/StringBuilder" ({ cls := "java/lang/AbstractStringBuilder", name := "length", desc := "()I" } : Jvm.MethodName) ({ cls := "java/lang/StringBuilder", name := "length", desc := "()I" } : Jvm.MethodName)) ∈ lw_all := lw_g (lw_at lw_m2 190 rfl) rfl
theorem in_J10 : ∀ w ∈ wsJ100, w ∈ lw_all := lw_in wsJ100 [317, 319, 321, 323] (by decide +kernel) (by decide +kernel)

/-! java/util/Arrays -/
set_option maxRecDepth 100000
def RJ12 : String := "java/util/Arrays"
abbrev cJ12_copyOf : ByteArray := prog_18_method_121_code
def yJ12_copyOf : MethodName := ⟨RJ12, "copyOf", "([BI)[B"⟩
def dkwJ12_copyOf_1 : List UInt8 := [27, 184, 1, 48, 184, 0, 150, 44, 176]
abbrev dktJ12_copyOf_1 : List UInt8 := dkwJ12_copyOf_1 ++ []
def dkwJ12_copyOf_0 : List UInt8 := [27, 42, 190, 160, 0, 11, 42, 182, 1, 54, 192, 1, 55, 176, 27, 188, 8, 77, 42, 3, 44, 3, 42, 190]
abbrev dktJ12_copyOf_0 : List UInt8 := dkwJ12_copyOf_0 ++ dktJ12_copyOf_1
theorem dksJ12_copyOf_0 : cJ12_copyOf.data.toList.drop 0 = dktJ12_copyOf_0 := by decide +kernel
theorem dksJ12_copyOf_1 : cJ12_copyOf.data.toList.drop 24 = dktJ12_copyOf_1 := dk_seg dksJ12_copyOf_0 24 rfl rfl
theorem dJ12_copyOf_0 : decode cJ12_copyOf 0 = .ok (.iload_n 1, 1) := dk_27 (dk_at dksJ12_copyOf_0 0 rfl rfl)
theorem dJ12_copyOf_1 : decode cJ12_copyOf 1 = .ok (.aload_n 0, 1) := dk_42 (dk_at dksJ12_copyOf_0 1 rfl rfl)
theorem dJ12_copyOf_2 : decode cJ12_copyOf 2 = .ok (.arraylength, 1) := dk_190 (dk_at dksJ12_copyOf_0 2 rfl rfl)
theorem dJ12_copyOf_3 : decode cJ12_copyOf 3 = .ok (.if_icmp .ne 11, 3) := dk_160 0 11 (dk_at dksJ12_copyOf_0 3 rfl rfl)
theorem dJ12_copyOf_6 : decode cJ12_copyOf 6 = .ok (.aload_n 0, 1) := dk_42 (dk_at dksJ12_copyOf_0 6 rfl rfl)
theorem dJ12_copyOf_7 : decode cJ12_copyOf 7 = .ok (.invokevirtual 310, 3) := dk_182 1 54 (dk_at dksJ12_copyOf_0 7 rfl rfl)
theorem dJ12_copyOf_10 : decode cJ12_copyOf 10 = .ok (.checkcast 311, 3) := dk_192 1 55 (dk_at dksJ12_copyOf_0 10 rfl rfl)
theorem dJ12_copyOf_13 : decode cJ12_copyOf 13 = .ok (.areturn, 1) := dk_176 (dk_at dksJ12_copyOf_0 13 rfl rfl)
theorem dJ12_copyOf_14 : decode cJ12_copyOf 14 = .ok (.iload_n 1, 1) := dk_27 (dk_at dksJ12_copyOf_0 14 rfl rfl)
theorem dJ12_copyOf_15 : decode cJ12_copyOf 15 = .ok (.newarray .byte, 2) := dk_188_8 (dk_at dksJ12_copyOf_0 15 rfl rfl)
theorem dJ12_copyOf_17 : decode cJ12_copyOf 17 = .ok (.astore_n 2, 1) := dk_77 (dk_at dksJ12_copyOf_0 17 rfl rfl)
theorem dJ12_copyOf_18 : decode cJ12_copyOf 18 = .ok (.aload_n 0, 1) := dk_42 (dk_at dksJ12_copyOf_0 18 rfl rfl)
theorem dJ12_copyOf_19 : decode cJ12_copyOf 19 = .ok (.iconst 0, 1) := dk_3 (dk_at dksJ12_copyOf_0 19 rfl rfl)
theorem dJ12_copyOf_20 : decode cJ12_copyOf 20 = .ok (.aload_n 2, 1) := dk_44 (dk_at dksJ12_copyOf_0 20 rfl rfl)
theorem dJ12_copyOf_21 : decode cJ12_copyOf 21 = .ok (.iconst 0, 1) := dk_3 (dk_at dksJ12_copyOf_0 21 rfl rfl)
theorem dJ12_copyOf_22 : decode cJ12_copyOf 22 = .ok (.aload_n 0, 1) := dk_42 (dk_at dksJ12_copyOf_0 22 rfl rfl)
theorem dJ12_copyOf_23 : decode cJ12_copyOf 23 = .ok (.arraylength, 1) := dk_190 (dk_at dksJ12_copyOf_0 23 rfl rfl)
theorem dJ12_copyOf_24 : decode cJ12_copyOf 24 = .ok (.iload_n 1, 1) := dk_27 (dk_at dksJ12_copyOf_1 0 rfl rfl)
theorem dJ12_copyOf_25 : decode cJ12_copyOf 25 = .ok (.invokestatic 304, 3) := dk_184 1 48 (dk_at dksJ12_copyOf_1 1 rfl rfl)
theorem dJ12_copyOf_28 : decode cJ12_copyOf 28 = .ok (.invokestatic 150, 3) := dk_184 0 150 (dk_at dksJ12_copyOf_1 4 rfl rfl)
theorem dJ12_copyOf_31 : decode cJ12_copyOf 31 = .ok (.aload_n 2, 1) := dk_44 (dk_at dksJ12_copyOf_1 7 rfl rfl)
theorem dJ12_copyOf_32 : decode cJ12_copyOf 32 = .ok (.areturn, 1) := dk_176 (dk_at dksJ12_copyOf_1 8 rfl rfl)
abbrev cJ12_copyOfRange : ByteArray := prog_18_method_132_code
def yJ12_copyOfRange : MethodName := ⟨RJ12, "copyOfRange", "([BII)[B"⟩
def dkwJ12_copyOfRange_1 : List UInt8 := [176]
abbrev dktJ12_copyOfRange_1 : List UInt8 := dkwJ12_copyOfRange_1 ++ []
def dkwJ12_copyOfRange_0 : List UInt8 := [27, 154, 0, 9, 28, 42, 190, 159, 0, 10, 42, 27, 28, 184, 1, 83, 176, 42, 182, 1, 54, 192, 1, 55]
abbrev dktJ12_copyOfRange_0 : List UInt8 := dkwJ12_copyOfRange_0 ++ dktJ12_copyOfRange_1
theorem dksJ12_copyOfRange_0 : cJ12_copyOfRange.data.toList.drop 0 = dktJ12_copyOfRange_0 := by decide +kernel
theorem dksJ12_copyOfRange_1 : cJ12_copyOfRange.data.toList.drop 24 = dktJ12_copyOfRange_1 := dk_seg dksJ12_copyOfRange_0 24 rfl rfl
theorem dJ12_copyOfRange_0 : decode cJ12_copyOfRange 0 = .ok (.iload_n 1, 1) := dk_27 (dk_at dksJ12_copyOfRange_0 0 rfl rfl)
theorem dJ12_copyOfRange_1 : decode cJ12_copyOfRange 1 = .ok (.ifCond .ne 9, 3) := dk_154 0 9 (dk_at dksJ12_copyOfRange_0 1 rfl rfl)
theorem dJ12_copyOfRange_4 : decode cJ12_copyOfRange 4 = .ok (.iload_n 2, 1) := dk_28 (dk_at dksJ12_copyOfRange_0 4 rfl rfl)
theorem dJ12_copyOfRange_5 : decode cJ12_copyOfRange 5 = .ok (.aload_n 0, 1) := dk_42 (dk_at dksJ12_copyOfRange_0 5 rfl rfl)
theorem dJ12_copyOfRange_6 : decode cJ12_copyOfRange 6 = .ok (.arraylength, 1) := dk_190 (dk_at dksJ12_copyOfRange_0 6 rfl rfl)
theorem dJ12_copyOfRange_7 : decode cJ12_copyOfRange 7 = .ok (.if_icmp .eq 10, 3) := dk_159 0 10 (dk_at dksJ12_copyOfRange_0 7 rfl rfl)
theorem dJ12_copyOfRange_10 : decode cJ12_copyOfRange 10 = .ok (.aload_n 0, 1) := dk_42 (dk_at dksJ12_copyOfRange_0 10 rfl rfl)
theorem dJ12_copyOfRange_11 : decode cJ12_copyOfRange 11 = .ok (.iload_n 1, 1) := dk_27 (dk_at dksJ12_copyOfRange_0 11 rfl rfl)
theorem dJ12_copyOfRange_12 : decode cJ12_copyOfRange 12 = .ok (.iload_n 2, 1) := dk_28 (dk_at dksJ12_copyOfRange_0 12 rfl rfl)
theorem dJ12_copyOfRange_13 : decode cJ12_copyOfRange 13 = .ok (.invokestatic 339, 3) := dk_184 1 83 (dk_at dksJ12_copyOfRange_0 13 rfl rfl)
theorem dJ12_copyOfRange_16 : decode cJ12_copyOfRange 16 = .ok (.areturn, 1) := dk_176 (dk_at dksJ12_copyOfRange_0 16 rfl rfl)
theorem dJ12_copyOfRange_17 : decode cJ12_copyOfRange 17 = .ok (.aload_n 0, 1) := dk_42 (dk_at dksJ12_copyOfRange_0 17 rfl rfl)
theorem dJ12_copyOfRange_18 : decode cJ12_copyOfRange 18 = .ok (.invokevirtual 310, 3) := dk_182 1 54 (dk_at dksJ12_copyOfRange_0 18 rfl rfl)
theorem dJ12_copyOfRange_21 : decode cJ12_copyOfRange 21 = .ok (.checkcast 311, 3) := dk_192 1 55 (dk_at dksJ12_copyOfRange_0 21 rfl rfl)
theorem dJ12_copyOfRange_24 : decode cJ12_copyOfRange 24 = .ok (.areturn, 1) := dk_176 (dk_at dksJ12_copyOfRange_1 0 rfl rfl)
abbrev cJ12_copyOfRangeByte : ByteArray := prog_18_method_133_code
def yJ12_copyOfRangeByte : MethodName := ⟨RJ12, "copyOfRangeByte", "([BII)[B"⟩
def dkwJ12_copyOfRangeByte_1 : List UInt8 := [184, 1, 48, 184, 0, 150, 25, 4, 176]
abbrev dktJ12_copyOfRangeByte_1 : List UInt8 := dkwJ12_copyOfRangeByte_1 ++ []
def dkwJ12_copyOfRangeByte_0 : List UInt8 := [27, 28, 184, 1, 87, 28, 27, 100, 62, 29, 188, 8, 58, 4, 42, 27, 25, 4, 3, 42, 190, 27, 100, 29]
abbrev dktJ12_copyOfRangeByte_0 : List UInt8 := dkwJ12_copyOfRangeByte_0 ++ dktJ12_copyOfRangeByte_1
theorem dksJ12_copyOfRangeByte_0 : cJ12_copyOfRangeByte.data.toList.drop 0 = dktJ12_copyOfRangeByte_0 := by decide +kernel
theorem dksJ12_copyOfRangeByte_1 : cJ12_copyOfRangeByte.data.toList.drop 24 = dktJ12_copyOfRangeByte_1 := dk_seg dksJ12_copyOfRangeByte_0 24 rfl rfl
theorem dJ12_copyOfRangeByte_0 : decode cJ12_copyOfRangeByte 0 = .ok (.iload_n 1, 1) := dk_27 (dk_at dksJ12_copyOfRangeByte_0 0 rfl rfl)
theorem dJ12_copyOfRangeByte_1 : decode cJ12_copyOfRangeByte 1 = .ok (.iload_n 2, 1) := dk_28 (dk_at dksJ12_copyOfRangeByte_0 1 rfl rfl)
theorem dJ12_copyOfRangeByte_2 : decode cJ12_copyOfRangeByte 2 = .ok (.invokestatic 343, 3) := dk_184 1 87 (dk_at dksJ12_copyOfRangeByte_0 2 rfl rfl)
theorem dJ12_copyOfRangeByte_5 : decode cJ12_copyOfRangeByte 5 = .ok (.iload_n 2, 1) := dk_28 (dk_at dksJ12_copyOfRangeByte_0 5 rfl rfl)
theorem dJ12_copyOfRangeByte_6 : decode cJ12_copyOfRangeByte 6 = .ok (.iload_n 1, 1) := dk_27 (dk_at dksJ12_copyOfRangeByte_0 6 rfl rfl)
theorem dJ12_copyOfRangeByte_7 : decode cJ12_copyOfRangeByte 7 = .ok (.isub, 1) := dk_100 (dk_at dksJ12_copyOfRangeByte_0 7 rfl rfl)
theorem dJ12_copyOfRangeByte_8 : decode cJ12_copyOfRangeByte 8 = .ok (.istore_n 3, 1) := dk_62 (dk_at dksJ12_copyOfRangeByte_0 8 rfl rfl)
theorem dJ12_copyOfRangeByte_9 : decode cJ12_copyOfRangeByte 9 = .ok (.iload_n 3, 1) := dk_29 (dk_at dksJ12_copyOfRangeByte_0 9 rfl rfl)
theorem dJ12_copyOfRangeByte_10 : decode cJ12_copyOfRangeByte 10 = .ok (.newarray .byte, 2) := dk_188_8 (dk_at dksJ12_copyOfRangeByte_0 10 rfl rfl)
theorem dJ12_copyOfRangeByte_12 : decode cJ12_copyOfRangeByte 12 = .ok (.astore 4, 2) := dk_58 4 (dk_at dksJ12_copyOfRangeByte_0 12 rfl rfl)
theorem dJ12_copyOfRangeByte_14 : decode cJ12_copyOfRangeByte 14 = .ok (.aload_n 0, 1) := dk_42 (dk_at dksJ12_copyOfRangeByte_0 14 rfl rfl)
theorem dJ12_copyOfRangeByte_15 : decode cJ12_copyOfRangeByte 15 = .ok (.iload_n 1, 1) := dk_27 (dk_at dksJ12_copyOfRangeByte_0 15 rfl rfl)
theorem dJ12_copyOfRangeByte_16 : decode cJ12_copyOfRangeByte 16 = .ok (.aload 4, 2) := dk_25 4 (dk_at dksJ12_copyOfRangeByte_0 16 rfl rfl)
theorem dJ12_copyOfRangeByte_18 : decode cJ12_copyOfRangeByte 18 = .ok (.iconst 0, 1) := dk_3 (dk_at dksJ12_copyOfRangeByte_0 18 rfl rfl)
theorem dJ12_copyOfRangeByte_19 : decode cJ12_copyOfRangeByte 19 = .ok (.aload_n 0, 1) := dk_42 (dk_at dksJ12_copyOfRangeByte_0 19 rfl rfl)
theorem dJ12_copyOfRangeByte_20 : decode cJ12_copyOfRangeByte 20 = .ok (.arraylength, 1) := dk_190 (dk_at dksJ12_copyOfRangeByte_0 20 rfl rfl)
theorem dJ12_copyOfRangeByte_21 : decode cJ12_copyOfRangeByte 21 = .ok (.iload_n 1, 1) := dk_27 (dk_at dksJ12_copyOfRangeByte_0 21 rfl rfl)
theorem dJ12_copyOfRangeByte_22 : decode cJ12_copyOfRangeByte 22 = .ok (.isub, 1) := dk_100 (dk_at dksJ12_copyOfRangeByte_0 22 rfl rfl)
theorem dJ12_copyOfRangeByte_23 : decode cJ12_copyOfRangeByte 23 = .ok (.iload_n 3, 1) := dk_29 (dk_at dksJ12_copyOfRangeByte_0 23 rfl rfl)
theorem dJ12_copyOfRangeByte_24 : decode cJ12_copyOfRangeByte 24 = .ok (.invokestatic 304, 3) := dk_184 1 48 (dk_at dksJ12_copyOfRangeByte_1 0 rfl rfl)
theorem dJ12_copyOfRangeByte_27 : decode cJ12_copyOfRangeByte 27 = .ok (.invokestatic 150, 3) := dk_184 0 150 (dk_at dksJ12_copyOfRangeByte_1 3 rfl rfl)
theorem dJ12_copyOfRangeByte_30 : decode cJ12_copyOfRangeByte 30 = .ok (.aload 4, 2) := dk_25 4 (dk_at dksJ12_copyOfRangeByte_1 6 rfl rfl)
theorem dJ12_copyOfRangeByte_32 : decode cJ12_copyOfRangeByte 32 = .ok (.areturn, 1) := dk_176 (dk_at dksJ12_copyOfRangeByte_1 8 rfl rfl)
abbrev cJ12_checkLength : ByteArray := prog_18_method_131_code
def yJ12_checkLength : MethodName := ⟨RJ12, "checkLength", "(II)V"⟩
def dkwJ12_checkLength_1 : List UInt8 := [182, 0, 50, 27, 182, 0, 54, 182, 0, 61, 183, 0, 65, 191, 177]
abbrev dktJ12_checkLength_1 : List UInt8 := dkwJ12_checkLength_1 ++ []
def dkwJ12_checkLength_0 : List UInt8 := [27, 26, 162, 0, 35, 187, 0, 43, 89, 187, 0, 45, 89, 183, 0, 47, 26, 182, 0, 54, 19, 1, 81]
abbrev dktJ12_checkLength_0 : List UInt8 := dkwJ12_checkLength_0 ++ dktJ12_checkLength_1
theorem dksJ12_checkLength_0 : cJ12_checkLength.data.toList.drop 0 = dktJ12_checkLength_0 := by decide +kernel
theorem dksJ12_checkLength_1 : cJ12_checkLength.data.toList.drop 23 = dktJ12_checkLength_1 := dk_seg dksJ12_checkLength_0 23 rfl rfl
theorem dJ12_checkLength_0 : decode cJ12_checkLength 0 = .ok (.iload_n 1, 1) := dk_27 (dk_at dksJ12_checkLength_0 0 rfl rfl)
theorem dJ12_checkLength_1 : decode cJ12_checkLength 1 = .ok (.iload_n 0, 1) := dk_26 (dk_at dksJ12_checkLength_0 1 rfl rfl)
theorem dJ12_checkLength_2 : decode cJ12_checkLength 2 = .ok (.if_icmp .ge 35, 3) := dk_162 0 35 (dk_at dksJ12_checkLength_0 2 rfl rfl)
theorem dJ12_checkLength_5 : decode cJ12_checkLength 5 = .ok (.new 43, 3) := dk_187 0 43 (dk_at dksJ12_checkLength_0 5 rfl rfl)
theorem dJ12_checkLength_8 : decode cJ12_checkLength 8 = .ok (.dup, 1) := dk_89 (dk_at dksJ12_checkLength_0 8 rfl rfl)
theorem dJ12_checkLength_9 : decode cJ12_checkLength 9 = .ok (.new 45, 3) := dk_187 0 45 (dk_at dksJ12_checkLength_0 9 rfl rfl)
theorem dJ12_checkLength_12 : decode cJ12_checkLength 12 = .ok (.dup, 1) := dk_89 (dk_at dksJ12_checkLength_0 12 rfl rfl)
theorem dJ12_checkLength_13 : decode cJ12_checkLength 13 = .ok (.invokespecial 47, 3) := dk_183 0 47 (dk_at dksJ12_checkLength_0 13 rfl rfl)
theorem dJ12_checkLength_16 : decode cJ12_checkLength 16 = .ok (.iload_n 0, 1) := dk_26 (dk_at dksJ12_checkLength_0 16 rfl rfl)
theorem dJ12_checkLength_17 : decode cJ12_checkLength 17 = .ok (.invokevirtual 54, 3) := dk_182 0 54 (dk_at dksJ12_checkLength_0 17 rfl rfl)
theorem dJ12_checkLength_20 : decode cJ12_checkLength 20 = .ok (.ldc_w 337, 3) := dk_19 1 81 (dk_at dksJ12_checkLength_0 20 rfl rfl)
theorem dJ12_checkLength_23 : decode cJ12_checkLength 23 = .ok (.invokevirtual 50, 3) := dk_182 0 50 (dk_at dksJ12_checkLength_1 0 rfl rfl)
theorem dJ12_checkLength_26 : decode cJ12_checkLength 26 = .ok (.iload_n 1, 1) := dk_27 (dk_at dksJ12_checkLength_1 3 rfl rfl)
theorem dJ12_checkLength_27 : decode cJ12_checkLength 27 = .ok (.invokevirtual 54, 3) := dk_182 0 54 (dk_at dksJ12_checkLength_1 4 rfl rfl)
theorem dJ12_checkLength_30 : decode cJ12_checkLength 30 = .ok (.invokevirtual 61, 3) := dk_182 0 61 (dk_at dksJ12_checkLength_1 7 rfl rfl)
theorem dJ12_checkLength_33 : decode cJ12_checkLength 33 = .ok (.invokespecial 65, 3) := dk_183 0 65 (dk_at dksJ12_checkLength_1 10 rfl rfl)
theorem dJ12_checkLength_36 : decode cJ12_checkLength 36 = .ok (.athrow, 1) := dk_191 (dk_at dksJ12_checkLength_1 13 rfl rfl)
theorem dJ12_checkLength_37 : decode cJ12_checkLength 37 = .ok (.return_, 1) := dk_177 (dk_at dksJ12_checkLength_1 14 rfl rfl)
theorem q17 : (Jvm.Cond.initialized "java/util/Arrays") ∈ lw_all := lw_g (lw_at lw_m1 16 rfl) rfl
theorem q352 : (Jvm.Cond.static ({ cls := "java/util/Arrays", name := "copyOf", desc := "([BI)[B" } : Jvm.MethodName)) ∈ lw_all := lw_g (lw_at lw_m2 111 rfl) rfl
theorem q353 : (Jvm.Cond.code ({ cls := "java/util/Arrays", name := "copyOf", desc := "([BI)[B" } : Jvm.MethodName) prog_18_method_121_code (3 : Nat) (Option.some (Jvm.ClassFile.FieldType.array Jvm.ClassFile.FieldType.byte))) ∈ lw_all := lw_g (lw_at lw_m2 112 rfl) rfl
theorem q354 : (Jvm.Cond.methodLink "java/util/Arrays" (310 : Nat) ({ cls := "[B", name := "clone", desc := "()Ljava/lang/Object;" } : Jvm.MethodName)) ∈ lw_all := lw_g (lw_at lw_m2 113 rfl) rfl
theorem q360 : (Jvm.Cond.classLink "java/util/Arrays" (311 : Nat) "[B") ∈ lw_all := lw_g (lw_at lw_m2 119 rfl) rfl
theorem q361 : (Jvm.Cond.methodLink "java/util/Arrays" (304 : Nat) ({ cls := "java/lang/Math", name := "min", desc := "(II)I" } : Jvm.MethodName)) ∈ lw_all := lw_g (lw_at lw_m2 120 rfl) rfl
theorem q362 : (Jvm.Cond.methodLink "java/util/Arrays" (150 : Nat) ({ cls := "java/lang/System", name := "arraycopy", desc := "(Ljava/lang/Object;ILjava/lang/Object;II)V" } : Jvm.MethodName)) ∈ lw_all := lw_g (lw_at lw_m2 121 rfl) rfl
theorem q405 : (Jvm.Cond.static ({ cls := "java/util/Arrays", name := "copyOfRange", desc := "([BII)[B" } : Jvm.MethodName)) ∈ lw_all := lw_g (lw_at lw_m2 164 rfl) rfl
theorem q406 : (Jvm.Cond.code ({ cls := "java/util/Arrays", name := "copyOfRange", desc := "([BII)[B" } : Jvm.MethodName) prog_18_method_132_code (3 : Nat) (Option.some (Jvm.ClassFile.FieldType.array Jvm.ClassFile.FieldType.byte))) ∈ lw_all := lw_g (lw_at lw_m2 165 rfl) rfl
theorem q407 : (Jvm.Cond.methodLink "java/util/Arrays" (339 : Nat) ({ cls := "java/util/Arrays", name := "copyOfRangeByte", desc := "([BII)[B" } : Jvm.MethodName)) ∈ lw_all := lw_g (lw_at lw_m2 166 rfl) rfl
theorem q408 : (Jvm.Cond.static ({ cls := "java/util/Arrays", name := "copyOfRangeByte", desc := "([BII)[B" } : Jvm.MethodName)) ∈ lw_all := lw_g (lw_at lw_m2 167 rfl) rfl
theorem q409 : (Jvm.Cond.code ({ cls := "java/util/Arrays", name := "copyOfRangeByte", desc := "([BII)[B" } : Jvm.MethodName) prog_18_method_133_code (5 : Nat) (Option.some (Jvm.ClassFile.FieldType.array Jvm.ClassFile.FieldType.byte))) ∈ lw_all := lw_g (lw_at lw_m2 168 rfl) rfl
theorem q410 : (Jvm.Cond.methodLink "java/util/Arrays" (343 : Nat) ({ cls := "java/util/Arrays", name := "checkLength", desc := "(II)V" } : Jvm.MethodName)) ∈ lw_all := lw_g (lw_at lw_m2 169 rfl) rfl
theorem q411 : (Jvm.Cond.static ({ cls := "java/util/Arrays", name := "checkLength", desc := "(II)V" } : Jvm.MethodName)) ∈ lw_all := lw_g (lw_at lw_m2 170 rfl) rfl
theorem q412 : (Jvm.Cond.code ({ cls := "java/util/Arrays", name := "checkLength", desc := "(II)V" } : Jvm.MethodName) prog_18_method_131_code (2 : Nat) (Option.none : Option Jvm.ClassFile.FieldType)) ∈ lw_all := lw_g (lw_at lw_m2 171 rfl) rfl

/-! java/lang/Object -/
set_option maxRecDepth 100000
def RJ13 : String := "java/lang/Object"
abbrev cJ13_init : ByteArray := object_method_1_code
def yJ13_init : MethodName := ⟨RJ13, "<init>", "()V"⟩
theorem dJ13_init_0 : decode cJ13_init 0 = .ok (.return_, 1) := by decide +kernel
theorem q25 : (Jvm.Cond.instanceMethod ({ cls := "java/lang/Object", name := "<init>", desc := "()V" } : Jvm.MethodName)) ∈ lw_all := lw_g (lw_at lw_m1 24 rfl) rfl
theorem q26 : (Jvm.Cond.code ({ cls := "java/lang/Object", name := "<init>", desc := "()V" } : Jvm.MethodName) object_method_1_code (1 : Nat) (Option.none : Option Jvm.ClassFile.FieldType)) ∈ lw_all := lw_g (lw_at lw_m1 25 rfl) rfl
theorem q356 : (Jvm.Cond.native ({ cls := "java/lang/Object", name := "clone", desc := "()Ljava/lang/Object;" } : Jvm.MethodName)) ∈ lw_all := lw_g (lw_at lw_m2 115 rfl) rfl
theorem q357 : (Jvm.Cond.instanceMethod ({ cls := "java/lang/Object", name := "clone", desc := "()Ljava/lang/Object;" } : Jvm.MethodName)) ∈ lw_all := lw_g (lw_at lw_m2 116 rfl) rfl
theorem q432 : (Jvm.Cond.initialized "java/lang/Object") ∈ lw_all := lw_g (lw_at lw_m2 191 rfl) rfl

theorem q355 : (Jvm.Cond.sameMethod "[B" "java/lang/Object" "clone" "()Ljava/lang/Object;") ∈ lw_all := lw_g (lw_at lw_m2 114 rfl) rfl
set_option maxRecDepth 100000
theorem q358 : (Jvm.Cond.selects "[B" ({ cls := "[B", name := "clone", desc := "()Ljava/lang/Object;" } : Jvm.MethodName) ({ cls := "java/lang/Object", name := "clone", desc := "()Ljava/lang/Object;" } : Jvm.MethodName)) ∈ lw_all := lw_g (lw_at lw_m2 117 rfl) rfl
theorem q359 : (Jvm.Cond.castable "[B" "java/lang/Cloneable") ∈ lw_tbl := lw_at lw_m2 118 rfl

theorem q264 : (Jvm.Cond.interfaceMethod "java/lang/CharSequence" "java/lang/CharSequence" "length" "()I") ∈ lw_tbl := lw_at lw_m2 23 rfl
set_option maxRecDepth 100000
theorem q265 : (Jvm.Cond.declares ({ cls := "java/lang/CharSequence", name := "length", desc := "()I" } : Jvm.MethodName)) ∈ lw_tbl := lw_at lw_m2 24 rfl
theorem q282 : (Jvm.Cond.interfaceMethod "java/lang/CharSequence" "java/lang/CharSequence" "charAt" "(I)C") ∈ lw_tbl := lw_at lw_m2 41 rfl
theorem q283 : (Jvm.Cond.declares ({ cls := "java/lang/CharSequence", name := "charAt", desc := "(I)C" } : Jvm.MethodName)) ∈ lw_tbl := lw_at lw_m2 42 rfl

theorem q18 : (Jvm.Cond.initialized "java/lang/System") ∈ lw_all := lw_g (lw_at lw_m1 17 rfl) rfl
set_option maxRecDepth 100000
theorem q363 : (Jvm.Cond.static ({ cls := "java/lang/System", name := "arraycopy", desc := "(Ljava/lang/Object;ILjava/lang/Object;II)V" } : Jvm.MethodName)) ∈ lw_all := lw_g (lw_at lw_m2 122 rfl) rfl
theorem q364 : (Jvm.Cond.native ({ cls := "java/lang/System", name := "arraycopy", desc := "(Ljava/lang/Object;ILjava/lang/Object;II)V" } : Jvm.MethodName)) ∈ lw_all := lw_g (lw_at lw_m2 123 rfl) rfl

theorem q38 : (Jvm.Cond.arrayClass Jvm.ClassFile.FieldType.char) ∈ lw_all := lw_g (lw_at lw_m1 37 rfl) rfl
set_option maxRecDepth 100000
theorem q39 : (Jvm.Cond.arrayClass Jvm.ClassFile.FieldType.byte) ∈ lw_all := lw_g (lw_at lw_m1 38 rfl) rfl
theorem q111 : (Jvm.Cond.arrayClass Jvm.ClassFile.FieldType.int) ∈ lw_all := lw_g (lw_at lw_m1 110 rfl) rfl
theorem q433 : (Jvm.Cond.arrayOver (Jvm.ClassFile.FieldType.array Jvm.ClassFile.FieldType.int)) ∈ lw_tbl := lw_at lw_m2 192 rfl
end
section
/-! PdfParityDeskLaw -/
set_option maxRecDepth 100000
def RX0 : String := "PdfParityDeskLaw"
abbrev cX0_cell : ByteArray := method_2_code
def yX0_cell : MethodName := ⟨RX0, "cell", "([II)I"⟩
def dkwX0_cell_0 : List UInt8 := [27, 42, 190, 162, 0, 9, 42, 27, 46, 167, 0, 4, 3, 172]
abbrev dktX0_cell_0 : List UInt8 := dkwX0_cell_0 ++ []
theorem dksX0_cell_0 : cX0_cell.data.toList.drop 0 = dktX0_cell_0 := by decide +kernel
theorem dX0_cell_0 : decode cX0_cell 0 = .ok (.iload_n 1, 1) := dk_27 (dk_at dksX0_cell_0 0 rfl rfl)
theorem dX0_cell_1 : decode cX0_cell 1 = .ok (.aload_n 0, 1) := dk_42 (dk_at dksX0_cell_0 1 rfl rfl)
theorem dX0_cell_2 : decode cX0_cell 2 = .ok (.arraylength, 1) := dk_190 (dk_at dksX0_cell_0 2 rfl rfl)
theorem dX0_cell_3 : decode cX0_cell 3 = .ok (.if_icmp .ge 9, 3) := dk_162 0 9 (dk_at dksX0_cell_0 3 rfl rfl)
theorem dX0_cell_6 : decode cX0_cell 6 = .ok (.aload_n 0, 1) := dk_42 (dk_at dksX0_cell_0 6 rfl rfl)
theorem dX0_cell_7 : decode cX0_cell 7 = .ok (.iload_n 1, 1) := dk_27 (dk_at dksX0_cell_0 7 rfl rfl)
theorem dX0_cell_8 : decode cX0_cell 8 = .ok (.iaload, 1) := dk_46 (dk_at dksX0_cell_0 8 rfl rfl)
theorem dX0_cell_9 : decode cX0_cell 9 = .ok (.goto 4, 3) := dk_167 0 4 (dk_at dksX0_cell_0 9 rfl rfl)
theorem dX0_cell_12 : decode cX0_cell 12 = .ok (.iconst 0, 1) := dk_3 (dk_at dksX0_cell_0 12 rfl rfl)
theorem dX0_cell_13 : decode cX0_cell 13 = .ok (.ireturn, 1) := dk_172 (dk_at dksX0_cell_0 13 rfl rfl)
abbrev cX0_rest : ByteArray := method_3_code
def yX0_rest : MethodName := ⟨RX0, "rest", "(II)I"⟩
def dkwX0_rest_0 : List UInt8 := [26, 18, 7, 126, 27, 112, 172]
abbrev dktX0_rest_0 : List UInt8 := dkwX0_rest_0 ++ []
theorem dksX0_rest_0 : cX0_rest.data.toList.drop 0 = dktX0_rest_0 := by decide +kernel
theorem dX0_rest_0 : decode cX0_rest 0 = .ok (.iload_n 0, 1) := dk_26 (dk_at dksX0_rest_0 0 rfl rfl)
theorem dX0_rest_1 : decode cX0_rest 1 = .ok (.ldc 7, 2) := dk_18 7 (dk_at dksX0_rest_0 1 rfl rfl)
theorem dX0_rest_3 : decode cX0_rest 3 = .ok (.iand, 1) := dk_126 (dk_at dksX0_rest_0 3 rfl rfl)
theorem dX0_rest_4 : decode cX0_rest 4 = .ok (.iload_n 1, 1) := dk_27 (dk_at dksX0_rest_0 4 rfl rfl)
theorem dX0_rest_5 : decode cX0_rest 5 = .ok (.irem, 1) := dk_112 (dk_at dksX0_rest_0 5 rfl rfl)
theorem dX0_rest_6 : decode cX0_rest 6 = .ok (.ireturn, 1) := dk_172 (dk_at dksX0_rest_0 6 rfl rfl)
abbrev cX0_holds : ByteArray := method_4_code
def yX0_holds : MethodName := ⟨RX0, "holds", "(LPdfParityDesk;LPdfParityDeskLaw$Row;II)Z"⟩
def dkwX0_holds_9 : List UInt8 := [153, 0, 5, 3, 172, 132, 7, 1, 167, 255, 156, 4, 172]
abbrev dktX0_holds_9 : List UInt8 := dkwX0_holds_9 ++ []
def dkwX0_holds_8 : List UInt8 := [21, 6, 104, 25, 5, 21, 9, 46, 96, 17, 3, 161, 112, 54, 8, 132, 9, 1, 167, 255, 229, 21, 8]
abbrev dktX0_holds_8 : List UInt8 := dkwX0_holds_8 ++ dktX0_holds_9
def dkwX0_holds_7 : List UInt8 := [17, 3, 161, 112, 54, 8, 132, 9, 1, 167, 255, 225, 3, 54, 9, 21, 9, 21, 4, 162, 0, 26, 21, 8]
abbrev dktX0_holds_7 : List UInt8 := dkwX0_holds_7 ++ dktX0_holds_8
def dkwX0_holds_6 : List UInt8 := [54, 9, 21, 9, 43, 180, 0, 20, 162, 0, 28, 21, 8, 21, 6, 104, 43, 180, 0, 26, 21, 9, 46, 96]
abbrev dktX0_holds_6 : List UInt8 := dkwX0_holds_6 ++ dktX0_holds_7
def dkwX0_holds_5 : List UInt8 := [3, 54, 7, 21, 7, 21, 4, 162, 0, 99, 21, 6, 6, 104, 17, 3, 161, 112, 54, 6, 3, 54, 8, 3]
abbrev dktX0_holds_5 : List UInt8 := dkwX0_holds_5 ++ dktX0_holds_6
def dkwX0_holds_4 : List UInt8 := [160, 0, 19, 42, 2, 182, 0, 17, 25, 5, 18, 7, 21, 4, 112, 46, 159, 0, 5, 3, 172, 4, 54, 6]
abbrev dktX0_holds_4 : List UInt8 := dkwX0_holds_4 ++ dktX0_holds_5
def dkwX0_holds_3 : List UInt8 := [17, 3, 160, 164, 0, 5, 3, 172, 132, 6, 1, 167, 255, 214, 42, 21, 4, 182, 0, 17, 25, 5, 3, 46]
abbrev dktX0_holds_3 : List UInt8 := dkwX0_holds_3 ++ dktX0_holds_4
def dkwX0_holds_2 : List UInt8 := [21, 6, 42, 21, 6, 182, 0, 17, 79, 25, 5, 21, 6, 46, 155, 0, 14, 25, 5, 21, 6, 46]
abbrev dktX0_holds_2 : List UInt8 := dkwX0_holds_2 ++ dktX0_holds_3
def dkwX0_holds_1 : List UInt8 := [159, 0, 5, 3, 172, 21, 4, 188, 10, 58, 5, 3, 54, 6, 21, 6, 21, 4, 162, 0, 41, 25, 5]
abbrev dktX0_holds_1 : List UInt8 := dkwX0_holds_1 ++ dktX0_holds_2
def dkwX0_holds_0 : List UInt8 := [5, 28, 120, 54, 4, 42, 29, 182, 0, 8, 21, 4, 160, 0, 13, 42, 29, 182, 0, 14, 21, 4]
abbrev dktX0_holds_0 : List UInt8 := dkwX0_holds_0 ++ dktX0_holds_1
theorem dksX0_holds_0 : cX0_holds.data.toList.drop 0 = dktX0_holds_0 := by decide +kernel
theorem dksX0_holds_1 : cX0_holds.data.toList.drop 22 = dktX0_holds_1 := dk_seg dksX0_holds_0 22 rfl rfl
theorem dksX0_holds_2 : cX0_holds.data.toList.drop 45 = dktX0_holds_2 := dk_seg dksX0_holds_1 23 rfl rfl
theorem dksX0_holds_3 : cX0_holds.data.toList.drop 67 = dktX0_holds_3 := dk_seg dksX0_holds_2 22 rfl rfl
theorem dksX0_holds_4 : cX0_holds.data.toList.drop 91 = dktX0_holds_4 := dk_seg dksX0_holds_3 24 rfl rfl
theorem dksX0_holds_5 : cX0_holds.data.toList.drop 115 = dktX0_holds_5 := dk_seg dksX0_holds_4 24 rfl rfl
theorem dksX0_holds_6 : cX0_holds.data.toList.drop 139 = dktX0_holds_6 := dk_seg dksX0_holds_5 24 rfl rfl
theorem dksX0_holds_7 : cX0_holds.data.toList.drop 163 = dktX0_holds_7 := dk_seg dksX0_holds_6 24 rfl rfl
theorem dksX0_holds_8 : cX0_holds.data.toList.drop 187 = dktX0_holds_8 := dk_seg dksX0_holds_7 24 rfl rfl
theorem dksX0_holds_9 : cX0_holds.data.toList.drop 210 = dktX0_holds_9 := dk_seg dksX0_holds_8 23 rfl rfl
theorem dX0_holds_0 : decode cX0_holds 0 = .ok (.iconst 2, 1) := dk_5 (dk_at dksX0_holds_0 0 rfl rfl)
theorem dX0_holds_1 : decode cX0_holds 1 = .ok (.iload_n 2, 1) := dk_28 (dk_at dksX0_holds_0 1 rfl rfl)
theorem dX0_holds_2 : decode cX0_holds 2 = .ok (.ishl, 1) := dk_120 (dk_at dksX0_holds_0 2 rfl rfl)
theorem dX0_holds_3 : decode cX0_holds 3 = .ok (.istore 4, 2) := dk_54 4 (dk_at dksX0_holds_0 3 rfl rfl)
theorem dX0_holds_5 : decode cX0_holds 5 = .ok (.aload_n 0, 1) := dk_42 (dk_at dksX0_holds_0 5 rfl rfl)
theorem dX0_holds_6 : decode cX0_holds 6 = .ok (.iload_n 3, 1) := dk_29 (dk_at dksX0_holds_0 6 rfl rfl)
theorem dX0_holds_7 : decode cX0_holds 7 = .ok (.invokevirtual 8, 3) := dk_182 0 8 (dk_at dksX0_holds_0 7 rfl rfl)
theorem dX0_holds_10 : decode cX0_holds 10 = .ok (.iload 4, 2) := dk_21 4 (dk_at dksX0_holds_0 10 rfl rfl)
theorem dX0_holds_12 : decode cX0_holds 12 = .ok (.if_icmp .ne 13, 3) := dk_160 0 13 (dk_at dksX0_holds_0 12 rfl rfl)
theorem dX0_holds_15 : decode cX0_holds 15 = .ok (.aload_n 0, 1) := dk_42 (dk_at dksX0_holds_0 15 rfl rfl)
theorem dX0_holds_16 : decode cX0_holds 16 = .ok (.iload_n 3, 1) := dk_29 (dk_at dksX0_holds_0 16 rfl rfl)
theorem dX0_holds_17 : decode cX0_holds 17 = .ok (.invokevirtual 14, 3) := dk_182 0 14 (dk_at dksX0_holds_0 17 rfl rfl)
theorem dX0_holds_20 : decode cX0_holds 20 = .ok (.iload 4, 2) := dk_21 4 (dk_at dksX0_holds_0 20 rfl rfl)
theorem dX0_holds_22 : decode cX0_holds 22 = .ok (.if_icmp .eq 5, 3) := dk_159 0 5 (dk_at dksX0_holds_1 0 rfl rfl)
theorem dX0_holds_25 : decode cX0_holds 25 = .ok (.iconst 0, 1) := dk_3 (dk_at dksX0_holds_1 3 rfl rfl)
theorem dX0_holds_26 : decode cX0_holds 26 = .ok (.ireturn, 1) := dk_172 (dk_at dksX0_holds_1 4 rfl rfl)
theorem dX0_holds_27 : decode cX0_holds 27 = .ok (.iload 4, 2) := dk_21 4 (dk_at dksX0_holds_1 5 rfl rfl)
theorem dX0_holds_29 : decode cX0_holds 29 = .ok (.newarray .int, 2) := dk_188_10 (dk_at dksX0_holds_1 7 rfl rfl)
theorem dX0_holds_31 : decode cX0_holds 31 = .ok (.astore 5, 2) := dk_58 5 (dk_at dksX0_holds_1 9 rfl rfl)
theorem dX0_holds_33 : decode cX0_holds 33 = .ok (.iconst 0, 1) := dk_3 (dk_at dksX0_holds_1 11 rfl rfl)
theorem dX0_holds_34 : decode cX0_holds 34 = .ok (.istore 6, 2) := dk_54 6 (dk_at dksX0_holds_1 12 rfl rfl)
theorem dX0_holds_36 : decode cX0_holds 36 = .ok (.iload 6, 2) := dk_21 6 (dk_at dksX0_holds_1 14 rfl rfl)
theorem dX0_holds_38 : decode cX0_holds 38 = .ok (.iload 4, 2) := dk_21 4 (dk_at dksX0_holds_1 16 rfl rfl)
theorem dX0_holds_40 : decode cX0_holds 40 = .ok (.if_icmp .ge 41, 3) := dk_162 0 41 (dk_at dksX0_holds_1 18 rfl rfl)
theorem dX0_holds_43 : decode cX0_holds 43 = .ok (.aload 5, 2) := dk_25 5 (dk_at dksX0_holds_1 21 rfl rfl)
theorem dX0_holds_45 : decode cX0_holds 45 = .ok (.iload 6, 2) := dk_21 6 (dk_at dksX0_holds_2 0 rfl rfl)
theorem dX0_holds_47 : decode cX0_holds 47 = .ok (.aload_n 0, 1) := dk_42 (dk_at dksX0_holds_2 2 rfl rfl)
theorem dX0_holds_48 : decode cX0_holds 48 = .ok (.iload 6, 2) := dk_21 6 (dk_at dksX0_holds_2 3 rfl rfl)
theorem dX0_holds_50 : decode cX0_holds 50 = .ok (.invokevirtual 17, 3) := dk_182 0 17 (dk_at dksX0_holds_2 5 rfl rfl)
theorem dX0_holds_53 : decode cX0_holds 53 = .ok (.iastore, 1) := dk_79 (dk_at dksX0_holds_2 8 rfl rfl)
theorem dX0_holds_54 : decode cX0_holds 54 = .ok (.aload 5, 2) := dk_25 5 (dk_at dksX0_holds_2 9 rfl rfl)
theorem dX0_holds_56 : decode cX0_holds 56 = .ok (.iload 6, 2) := dk_21 6 (dk_at dksX0_holds_2 11 rfl rfl)
theorem dX0_holds_58 : decode cX0_holds 58 = .ok (.iaload, 1) := dk_46 (dk_at dksX0_holds_2 13 rfl rfl)
theorem dX0_holds_59 : decode cX0_holds 59 = .ok (.ifCond .lt 14, 3) := dk_155 0 14 (dk_at dksX0_holds_2 14 rfl rfl)
theorem dX0_holds_62 : decode cX0_holds 62 = .ok (.aload 5, 2) := dk_25 5 (dk_at dksX0_holds_2 17 rfl rfl)
theorem dX0_holds_64 : decode cX0_holds 64 = .ok (.iload 6, 2) := dk_21 6 (dk_at dksX0_holds_2 19 rfl rfl)
theorem dX0_holds_66 : decode cX0_holds 66 = .ok (.iaload, 1) := dk_46 (dk_at dksX0_holds_2 21 rfl rfl)
theorem dX0_holds_67 : decode cX0_holds 67 = .ok (.sipush 928, 3) := dk_17 3 160 (dk_at dksX0_holds_3 0 rfl rfl)
theorem dX0_holds_70 : decode cX0_holds 70 = .ok (.if_icmp .le 5, 3) := dk_164 0 5 (dk_at dksX0_holds_3 3 rfl rfl)
theorem dX0_holds_73 : decode cX0_holds 73 = .ok (.iconst 0, 1) := dk_3 (dk_at dksX0_holds_3 6 rfl rfl)
theorem dX0_holds_74 : decode cX0_holds 74 = .ok (.ireturn, 1) := dk_172 (dk_at dksX0_holds_3 7 rfl rfl)
theorem dX0_holds_75 : decode cX0_holds 75 = .ok (.iinc 6 1, 3) := dk_132 6 1 (dk_at dksX0_holds_3 8 rfl rfl)
theorem dX0_holds_78 : decode cX0_holds 78 = .ok (.goto (-42), 3) := dk_167 255 214 (dk_at dksX0_holds_3 11 rfl rfl)
theorem dX0_holds_81 : decode cX0_holds 81 = .ok (.aload_n 0, 1) := dk_42 (dk_at dksX0_holds_3 14 rfl rfl)
theorem dX0_holds_82 : decode cX0_holds 82 = .ok (.iload 4, 2) := dk_21 4 (dk_at dksX0_holds_3 15 rfl rfl)
theorem dX0_holds_84 : decode cX0_holds 84 = .ok (.invokevirtual 17, 3) := dk_182 0 17 (dk_at dksX0_holds_3 17 rfl rfl)
theorem dX0_holds_87 : decode cX0_holds 87 = .ok (.aload 5, 2) := dk_25 5 (dk_at dksX0_holds_3 20 rfl rfl)
theorem dX0_holds_89 : decode cX0_holds 89 = .ok (.iconst 0, 1) := dk_3 (dk_at dksX0_holds_3 22 rfl rfl)
theorem dX0_holds_90 : decode cX0_holds 90 = .ok (.iaload, 1) := dk_46 (dk_at dksX0_holds_3 23 rfl rfl)
theorem dX0_holds_91 : decode cX0_holds 91 = .ok (.if_icmp .ne 19, 3) := dk_160 0 19 (dk_at dksX0_holds_4 0 rfl rfl)
theorem dX0_holds_94 : decode cX0_holds 94 = .ok (.aload_n 0, 1) := dk_42 (dk_at dksX0_holds_4 3 rfl rfl)
theorem dX0_holds_95 : decode cX0_holds 95 = .ok (.iconst (-1), 1) := dk_2 (dk_at dksX0_holds_4 4 rfl rfl)
theorem dX0_holds_96 : decode cX0_holds 96 = .ok (.invokevirtual 17, 3) := dk_182 0 17 (dk_at dksX0_holds_4 5 rfl rfl)
theorem dX0_holds_99 : decode cX0_holds 99 = .ok (.aload 5, 2) := dk_25 5 (dk_at dksX0_holds_4 8 rfl rfl)
theorem dX0_holds_101 : decode cX0_holds 101 = .ok (.ldc 7, 2) := dk_18 7 (dk_at dksX0_holds_4 10 rfl rfl)
theorem dX0_holds_103 : decode cX0_holds 103 = .ok (.iload 4, 2) := dk_21 4 (dk_at dksX0_holds_4 12 rfl rfl)
theorem dX0_holds_105 : decode cX0_holds 105 = .ok (.irem, 1) := dk_112 (dk_at dksX0_holds_4 14 rfl rfl)
theorem dX0_holds_106 : decode cX0_holds 106 = .ok (.iaload, 1) := dk_46 (dk_at dksX0_holds_4 15 rfl rfl)
theorem dX0_holds_107 : decode cX0_holds 107 = .ok (.if_icmp .eq 5, 3) := dk_159 0 5 (dk_at dksX0_holds_4 16 rfl rfl)
theorem dX0_holds_110 : decode cX0_holds 110 = .ok (.iconst 0, 1) := dk_3 (dk_at dksX0_holds_4 19 rfl rfl)
theorem dX0_holds_111 : decode cX0_holds 111 = .ok (.ireturn, 1) := dk_172 (dk_at dksX0_holds_4 20 rfl rfl)
theorem dX0_holds_112 : decode cX0_holds 112 = .ok (.iconst 1, 1) := dk_4 (dk_at dksX0_holds_4 21 rfl rfl)
theorem dX0_holds_113 : decode cX0_holds 113 = .ok (.istore 6, 2) := dk_54 6 (dk_at dksX0_holds_4 22 rfl rfl)
theorem dX0_holds_115 : decode cX0_holds 115 = .ok (.iconst 0, 1) := dk_3 (dk_at dksX0_holds_5 0 rfl rfl)
theorem dX0_holds_116 : decode cX0_holds 116 = .ok (.istore 7, 2) := dk_54 7 (dk_at dksX0_holds_5 1 rfl rfl)
theorem dX0_holds_118 : decode cX0_holds 118 = .ok (.iload 7, 2) := dk_21 7 (dk_at dksX0_holds_5 3 rfl rfl)
theorem dX0_holds_120 : decode cX0_holds 120 = .ok (.iload 4, 2) := dk_21 4 (dk_at dksX0_holds_5 5 rfl rfl)
theorem dX0_holds_122 : decode cX0_holds 122 = .ok (.if_icmp .ge 99, 3) := dk_162 0 99 (dk_at dksX0_holds_5 7 rfl rfl)
theorem dX0_holds_125 : decode cX0_holds 125 = .ok (.iload 6, 2) := dk_21 6 (dk_at dksX0_holds_5 10 rfl rfl)
theorem dX0_holds_127 : decode cX0_holds 127 = .ok (.iconst 3, 1) := dk_6 (dk_at dksX0_holds_5 12 rfl rfl)
theorem dX0_holds_128 : decode cX0_holds 128 = .ok (.imul, 1) := dk_104 (dk_at dksX0_holds_5 13 rfl rfl)
theorem dX0_holds_129 : decode cX0_holds 129 = .ok (.sipush 929, 3) := dk_17 3 161 (dk_at dksX0_holds_5 14 rfl rfl)
theorem dX0_holds_132 : decode cX0_holds 132 = .ok (.irem, 1) := dk_112 (dk_at dksX0_holds_5 17 rfl rfl)
theorem dX0_holds_133 : decode cX0_holds 133 = .ok (.istore 6, 2) := dk_54 6 (dk_at dksX0_holds_5 18 rfl rfl)
theorem dX0_holds_135 : decode cX0_holds 135 = .ok (.iconst 0, 1) := dk_3 (dk_at dksX0_holds_5 20 rfl rfl)
theorem dX0_holds_136 : decode cX0_holds 136 = .ok (.istore 8, 2) := dk_54 8 (dk_at dksX0_holds_5 21 rfl rfl)
theorem dX0_holds_138 : decode cX0_holds 138 = .ok (.iconst 0, 1) := dk_3 (dk_at dksX0_holds_5 23 rfl rfl)
theorem dX0_holds_139 : decode cX0_holds 139 = .ok (.istore 9, 2) := dk_54 9 (dk_at dksX0_holds_6 0 rfl rfl)
theorem dX0_holds_141 : decode cX0_holds 141 = .ok (.iload 9, 2) := dk_21 9 (dk_at dksX0_holds_6 2 rfl rfl)
theorem dX0_holds_143 : decode cX0_holds 143 = .ok (.aload_n 1, 1) := dk_43 (dk_at dksX0_holds_6 4 rfl rfl)
theorem dX0_holds_144 : decode cX0_holds 144 = .ok (.getfield 20, 3) := dk_180 0 20 (dk_at dksX0_holds_6 5 rfl rfl)
theorem dX0_holds_147 : decode cX0_holds 147 = .ok (.if_icmp .ge 28, 3) := dk_162 0 28 (dk_at dksX0_holds_6 8 rfl rfl)
theorem dX0_holds_150 : decode cX0_holds 150 = .ok (.iload 8, 2) := dk_21 8 (dk_at dksX0_holds_6 11 rfl rfl)
theorem dX0_holds_152 : decode cX0_holds 152 = .ok (.iload 6, 2) := dk_21 6 (dk_at dksX0_holds_6 13 rfl rfl)
theorem dX0_holds_154 : decode cX0_holds 154 = .ok (.imul, 1) := dk_104 (dk_at dksX0_holds_6 15 rfl rfl)
theorem dX0_holds_155 : decode cX0_holds 155 = .ok (.aload_n 1, 1) := dk_43 (dk_at dksX0_holds_6 16 rfl rfl)
theorem dX0_holds_156 : decode cX0_holds 156 = .ok (.getfield 26, 3) := dk_180 0 26 (dk_at dksX0_holds_6 17 rfl rfl)
theorem dX0_holds_159 : decode cX0_holds 159 = .ok (.iload 9, 2) := dk_21 9 (dk_at dksX0_holds_6 20 rfl rfl)
theorem dX0_holds_161 : decode cX0_holds 161 = .ok (.iaload, 1) := dk_46 (dk_at dksX0_holds_6 22 rfl rfl)
theorem dX0_holds_162 : decode cX0_holds 162 = .ok (.iadd, 1) := dk_96 (dk_at dksX0_holds_6 23 rfl rfl)
theorem dX0_holds_163 : decode cX0_holds 163 = .ok (.sipush 929, 3) := dk_17 3 161 (dk_at dksX0_holds_7 0 rfl rfl)
theorem dX0_holds_166 : decode cX0_holds 166 = .ok (.irem, 1) := dk_112 (dk_at dksX0_holds_7 3 rfl rfl)
theorem dX0_holds_167 : decode cX0_holds 167 = .ok (.istore 8, 2) := dk_54 8 (dk_at dksX0_holds_7 4 rfl rfl)
theorem dX0_holds_169 : decode cX0_holds 169 = .ok (.iinc 9 1, 3) := dk_132 9 1 (dk_at dksX0_holds_7 6 rfl rfl)
theorem dX0_holds_172 : decode cX0_holds 172 = .ok (.goto (-31), 3) := dk_167 255 225 (dk_at dksX0_holds_7 9 rfl rfl)
theorem dX0_holds_175 : decode cX0_holds 175 = .ok (.iconst 0, 1) := dk_3 (dk_at dksX0_holds_7 12 rfl rfl)
theorem dX0_holds_176 : decode cX0_holds 176 = .ok (.istore 9, 2) := dk_54 9 (dk_at dksX0_holds_7 13 rfl rfl)
theorem dX0_holds_178 : decode cX0_holds 178 = .ok (.iload 9, 2) := dk_21 9 (dk_at dksX0_holds_7 15 rfl rfl)
theorem dX0_holds_180 : decode cX0_holds 180 = .ok (.iload 4, 2) := dk_21 4 (dk_at dksX0_holds_7 17 rfl rfl)
theorem dX0_holds_182 : decode cX0_holds 182 = .ok (.if_icmp .ge 26, 3) := dk_162 0 26 (dk_at dksX0_holds_7 19 rfl rfl)
theorem dX0_holds_185 : decode cX0_holds 185 = .ok (.iload 8, 2) := dk_21 8 (dk_at dksX0_holds_7 22 rfl rfl)
theorem dX0_holds_187 : decode cX0_holds 187 = .ok (.iload 6, 2) := dk_21 6 (dk_at dksX0_holds_8 0 rfl rfl)
theorem dX0_holds_189 : decode cX0_holds 189 = .ok (.imul, 1) := dk_104 (dk_at dksX0_holds_8 2 rfl rfl)
theorem dX0_holds_190 : decode cX0_holds 190 = .ok (.aload 5, 2) := dk_25 5 (dk_at dksX0_holds_8 3 rfl rfl)
theorem dX0_holds_192 : decode cX0_holds 192 = .ok (.iload 9, 2) := dk_21 9 (dk_at dksX0_holds_8 5 rfl rfl)
theorem dX0_holds_194 : decode cX0_holds 194 = .ok (.iaload, 1) := dk_46 (dk_at dksX0_holds_8 7 rfl rfl)
theorem dX0_holds_195 : decode cX0_holds 195 = .ok (.iadd, 1) := dk_96 (dk_at dksX0_holds_8 8 rfl rfl)
theorem dX0_holds_196 : decode cX0_holds 196 = .ok (.sipush 929, 3) := dk_17 3 161 (dk_at dksX0_holds_8 9 rfl rfl)
theorem dX0_holds_199 : decode cX0_holds 199 = .ok (.irem, 1) := dk_112 (dk_at dksX0_holds_8 12 rfl rfl)
theorem dX0_holds_200 : decode cX0_holds 200 = .ok (.istore 8, 2) := dk_54 8 (dk_at dksX0_holds_8 13 rfl rfl)
theorem dX0_holds_202 : decode cX0_holds 202 = .ok (.iinc 9 1, 3) := dk_132 9 1 (dk_at dksX0_holds_8 15 rfl rfl)
theorem dX0_holds_205 : decode cX0_holds 205 = .ok (.goto (-27), 3) := dk_167 255 229 (dk_at dksX0_holds_8 18 rfl rfl)
theorem dX0_holds_208 : decode cX0_holds 208 = .ok (.iload 8, 2) := dk_21 8 (dk_at dksX0_holds_8 21 rfl rfl)
theorem dX0_holds_210 : decode cX0_holds 210 = .ok (.ifCond .eq 5, 3) := dk_153 0 5 (dk_at dksX0_holds_9 0 rfl rfl)
theorem dX0_holds_213 : decode cX0_holds 213 = .ok (.iconst 0, 1) := dk_3 (dk_at dksX0_holds_9 3 rfl rfl)
theorem dX0_holds_214 : decode cX0_holds 214 = .ok (.ireturn, 1) := dk_172 (dk_at dksX0_holds_9 4 rfl rfl)
theorem dX0_holds_215 : decode cX0_holds 215 = .ok (.iinc 7 1, 3) := dk_132 7 1 (dk_at dksX0_holds_9 5 rfl rfl)
theorem dX0_holds_218 : decode cX0_holds 218 = .ok (.goto (-100), 3) := dk_167 255 156 (dk_at dksX0_holds_9 8 rfl rfl)
theorem dX0_holds_221 : decode cX0_holds 221 = .ok (.iconst 1, 1) := dk_4 (dk_at dksX0_holds_9 11 rfl rfl)
theorem dX0_holds_222 : decode cX0_holds 222 = .ok (.ireturn, 1) := dk_172 (dk_at dksX0_holds_9 12 rfl rfl)
abbrev cX0_puts : ByteArray := method_5_code
def yX0_puts : MethodName := ⟨RX0, "puts", "(LPdfParityDesk;LPdfParityDeskLaw$Row;II)Z"⟩
def dkwX0_puts_3 : List UInt8 := [180, 0, 20, 5, 96, 181, 0, 20, 4, 172]
abbrev dktX0_puts_3 : List UInt8 := dkwX0_puts_3 ++ []
def dkwX0_puts_2 : List UInt8 := [184, 0, 34, 79, 43, 180, 0, 26, 43, 180, 0, 20, 4, 96, 29, 17, 3, 161, 184, 0, 34, 79, 43, 89]
abbrev dktX0_puts_2 : List UInt8 := dkwX0_puts_2 ++ dktX0_puts_3
def dkwX0_puts_1 : List UInt8 := [159, 0, 5, 3, 172, 21, 4, 153, 0, 47, 43, 180, 0, 26, 43, 180, 0, 20, 28, 17, 3, 161]
abbrev dktX0_puts_1 : List UInt8 := dkwX0_puts_1 ++ dktX0_puts_2
def dkwX0_puts_0 : List UInt8 := [43, 180, 0, 20, 16, 62, 163, 0, 7, 4, 167, 0, 4, 3, 54, 4, 42, 28, 29, 182, 0, 30, 21, 4]
abbrev dktX0_puts_0 : List UInt8 := dkwX0_puts_0 ++ dktX0_puts_1
theorem dksX0_puts_0 : cX0_puts.data.toList.drop 0 = dktX0_puts_0 := by decide +kernel
theorem dksX0_puts_1 : cX0_puts.data.toList.drop 24 = dktX0_puts_1 := dk_seg dksX0_puts_0 24 rfl rfl
theorem dksX0_puts_2 : cX0_puts.data.toList.drop 46 = dktX0_puts_2 := dk_seg dksX0_puts_1 22 rfl rfl
theorem dksX0_puts_3 : cX0_puts.data.toList.drop 70 = dktX0_puts_3 := dk_seg dksX0_puts_2 24 rfl rfl
theorem dX0_puts_0 : decode cX0_puts 0 = .ok (.aload_n 1, 1) := dk_43 (dk_at dksX0_puts_0 0 rfl rfl)
theorem dX0_puts_1 : decode cX0_puts 1 = .ok (.getfield 20, 3) := dk_180 0 20 (dk_at dksX0_puts_0 1 rfl rfl)
theorem dX0_puts_4 : decode cX0_puts 4 = .ok (.bipush 62, 2) := dk_16 62 (dk_at dksX0_puts_0 4 rfl rfl)
theorem dX0_puts_6 : decode cX0_puts 6 = .ok (.if_icmp .gt 7, 3) := dk_163 0 7 (dk_at dksX0_puts_0 6 rfl rfl)
theorem dX0_puts_9 : decode cX0_puts 9 = .ok (.iconst 1, 1) := dk_4 (dk_at dksX0_puts_0 9 rfl rfl)
theorem dX0_puts_10 : decode cX0_puts 10 = .ok (.goto 4, 3) := dk_167 0 4 (dk_at dksX0_puts_0 10 rfl rfl)
theorem dX0_puts_13 : decode cX0_puts 13 = .ok (.iconst 0, 1) := dk_3 (dk_at dksX0_puts_0 13 rfl rfl)
theorem dX0_puts_14 : decode cX0_puts 14 = .ok (.istore 4, 2) := dk_54 4 (dk_at dksX0_puts_0 14 rfl rfl)
theorem dX0_puts_16 : decode cX0_puts 16 = .ok (.aload_n 0, 1) := dk_42 (dk_at dksX0_puts_0 16 rfl rfl)
theorem dX0_puts_17 : decode cX0_puts 17 = .ok (.iload_n 2, 1) := dk_28 (dk_at dksX0_puts_0 17 rfl rfl)
theorem dX0_puts_18 : decode cX0_puts 18 = .ok (.iload_n 3, 1) := dk_29 (dk_at dksX0_puts_0 18 rfl rfl)
theorem dX0_puts_19 : decode cX0_puts 19 = .ok (.invokevirtual 30, 3) := dk_182 0 30 (dk_at dksX0_puts_0 19 rfl rfl)
theorem dX0_puts_22 : decode cX0_puts 22 = .ok (.iload 4, 2) := dk_21 4 (dk_at dksX0_puts_0 22 rfl rfl)
theorem dX0_puts_24 : decode cX0_puts 24 = .ok (.if_icmp .eq 5, 3) := dk_159 0 5 (dk_at dksX0_puts_1 0 rfl rfl)
theorem dX0_puts_27 : decode cX0_puts 27 = .ok (.iconst 0, 1) := dk_3 (dk_at dksX0_puts_1 3 rfl rfl)
theorem dX0_puts_28 : decode cX0_puts 28 = .ok (.ireturn, 1) := dk_172 (dk_at dksX0_puts_1 4 rfl rfl)
theorem dX0_puts_29 : decode cX0_puts 29 = .ok (.iload 4, 2) := dk_21 4 (dk_at dksX0_puts_1 5 rfl rfl)
theorem dX0_puts_31 : decode cX0_puts 31 = .ok (.ifCond .eq 47, 3) := dk_153 0 47 (dk_at dksX0_puts_1 7 rfl rfl)
theorem dX0_puts_34 : decode cX0_puts 34 = .ok (.aload_n 1, 1) := dk_43 (dk_at dksX0_puts_1 10 rfl rfl)
theorem dX0_puts_35 : decode cX0_puts 35 = .ok (.getfield 26, 3) := dk_180 0 26 (dk_at dksX0_puts_1 11 rfl rfl)
theorem dX0_puts_38 : decode cX0_puts 38 = .ok (.aload_n 1, 1) := dk_43 (dk_at dksX0_puts_1 14 rfl rfl)
theorem dX0_puts_39 : decode cX0_puts 39 = .ok (.getfield 20, 3) := dk_180 0 20 (dk_at dksX0_puts_1 15 rfl rfl)
theorem dX0_puts_42 : decode cX0_puts 42 = .ok (.iload_n 2, 1) := dk_28 (dk_at dksX0_puts_1 18 rfl rfl)
theorem dX0_puts_43 : decode cX0_puts 43 = .ok (.sipush 929, 3) := dk_17 3 161 (dk_at dksX0_puts_1 19 rfl rfl)
theorem dX0_puts_46 : decode cX0_puts 46 = .ok (.invokestatic 34, 3) := dk_184 0 34 (dk_at dksX0_puts_2 0 rfl rfl)
theorem dX0_puts_49 : decode cX0_puts 49 = .ok (.iastore, 1) := dk_79 (dk_at dksX0_puts_2 3 rfl rfl)
theorem dX0_puts_50 : decode cX0_puts 50 = .ok (.aload_n 1, 1) := dk_43 (dk_at dksX0_puts_2 4 rfl rfl)
theorem dX0_puts_51 : decode cX0_puts 51 = .ok (.getfield 26, 3) := dk_180 0 26 (dk_at dksX0_puts_2 5 rfl rfl)
theorem dX0_puts_54 : decode cX0_puts 54 = .ok (.aload_n 1, 1) := dk_43 (dk_at dksX0_puts_2 8 rfl rfl)
theorem dX0_puts_55 : decode cX0_puts 55 = .ok (.getfield 20, 3) := dk_180 0 20 (dk_at dksX0_puts_2 9 rfl rfl)
theorem dX0_puts_58 : decode cX0_puts 58 = .ok (.iconst 1, 1) := dk_4 (dk_at dksX0_puts_2 12 rfl rfl)
theorem dX0_puts_59 : decode cX0_puts 59 = .ok (.iadd, 1) := dk_96 (dk_at dksX0_puts_2 13 rfl rfl)
theorem dX0_puts_60 : decode cX0_puts 60 = .ok (.iload_n 3, 1) := dk_29 (dk_at dksX0_puts_2 14 rfl rfl)
theorem dX0_puts_61 : decode cX0_puts 61 = .ok (.sipush 929, 3) := dk_17 3 161 (dk_at dksX0_puts_2 15 rfl rfl)
theorem dX0_puts_64 : decode cX0_puts 64 = .ok (.invokestatic 34, 3) := dk_184 0 34 (dk_at dksX0_puts_2 18 rfl rfl)
theorem dX0_puts_67 : decode cX0_puts 67 = .ok (.iastore, 1) := dk_79 (dk_at dksX0_puts_2 21 rfl rfl)
theorem dX0_puts_68 : decode cX0_puts 68 = .ok (.aload_n 1, 1) := dk_43 (dk_at dksX0_puts_2 22 rfl rfl)
theorem dX0_puts_69 : decode cX0_puts 69 = .ok (.dup, 1) := dk_89 (dk_at dksX0_puts_2 23 rfl rfl)
theorem dX0_puts_70 : decode cX0_puts 70 = .ok (.getfield 20, 3) := dk_180 0 20 (dk_at dksX0_puts_3 0 rfl rfl)
theorem dX0_puts_73 : decode cX0_puts 73 = .ok (.iconst 2, 1) := dk_5 (dk_at dksX0_puts_3 3 rfl rfl)
theorem dX0_puts_74 : decode cX0_puts 74 = .ok (.iadd, 1) := dk_96 (dk_at dksX0_puts_3 4 rfl rfl)
theorem dX0_puts_75 : decode cX0_puts 75 = .ok (.putfield 20, 3) := dk_181 0 20 (dk_at dksX0_puts_3 5 rfl rfl)
theorem dX0_puts_78 : decode cX0_puts 78 = .ok (.iconst 1, 1) := dk_4 (dk_at dksX0_puts_3 8 rfl rfl)
theorem dX0_puts_79 : decode cX0_puts 79 = .ok (.ireturn, 1) := dk_172 (dk_at dksX0_puts_3 9 rfl rfl)
theorem q1 : (Jvm.Cond.initialized "PdfParityDeskLaw") ∈ lw_all := lw_g (lw_at lw_m1 0 rfl) rfl
theorem q19 : (Jvm.Cond.classLink "PdfParityDeskLaw" (9 : Nat) "PdfParityDesk") ∈ lw_all := lw_g (lw_at lw_m1 18 rfl) rfl
theorem q21 : (Jvm.Cond.methodLink "PdfParityDeskLaw" (40 : Nat) ({ cls := "PdfParityDesk", name := "<init>", desc := "()V" } : Jvm.MethodName)) ∈ lw_all := lw_g (lw_at lw_m1 20 rfl) rfl
theorem q40 : (Jvm.Cond.methodLink "PdfParityDeskLaw" (53 : Nat) ({ cls := "PdfParityDesk", name := "drop", desc := "(I)V" } : Jvm.MethodName)) ∈ lw_all := lw_g (lw_at lw_m1 39 rfl) rfl
theorem q45 : (Jvm.Cond.methodLink "PdfParityDeskLaw" (17 : Nat) ({ cls := "PdfParityDesk", name := "told", desc := "(I)I" } : Jvm.MethodName)) ∈ lw_all := lw_g (lw_at lw_m1 44 rfl) rfl
theorem q97 : (Jvm.Cond.classLink "PdfParityDeskLaw" (21 : Nat) "PdfParityDeskLaw$Row") ∈ lw_all := lw_g (lw_at lw_m1 96 rfl) rfl
theorem q99 : (Jvm.Cond.methodLinkNest "PdfParityDeskLaw" (41 : Nat) ({ cls := "PdfParityDeskLaw$Row", name := "<init>", desc := "()V" } : Jvm.MethodName) "PdfParityDeskLaw") ∈ lw_tbl := lw_at lw_m1 98 rfl
theorem q104 : (Jvm.Cond.fieldLink "PdfParityDeskLaw" (26 : Nat) "PdfParityDeskLaw$Row" "words" "[I") ∈ lw_all := lw_g (lw_at lw_m1 103 rfl) rfl
theorem q105 : (Jvm.Cond.fieldLink "PdfParityDeskLaw" (20 : Nat) "PdfParityDeskLaw$Row" "size" "I") ∈ lw_all := lw_g (lw_at lw_m1 104 rfl) rfl
theorem q112 : (Jvm.Cond.methodLink "PdfParityDeskLaw" (42 : Nat) ({ cls := "PdfParityDeskLaw", name := "cell", desc := "([II)I" } : Jvm.MethodName)) ∈ lw_all := lw_g (lw_at lw_m1 111 rfl) rfl
theorem q113 : (Jvm.Cond.static ({ cls := "PdfParityDeskLaw", name := "cell", desc := "([II)I" } : Jvm.MethodName)) ∈ lw_all := lw_g (lw_at lw_m1 112 rfl) rfl
theorem q114 : (Jvm.Cond.code ({ cls := "PdfParityDeskLaw", name := "cell", desc := "([II)I" } : Jvm.MethodName) method_2_code (2 : Nat) (Option.some Jvm.ClassFile.FieldType.int)) ∈ lw_all := lw_g (lw_at lw_m1 113 rfl) rfl
theorem q115 : (Jvm.Cond.methodLink "PdfParityDeskLaw" (34 : Nat) ({ cls := "PdfParityDeskLaw", name := "rest", desc := "(II)I" } : Jvm.MethodName)) ∈ lw_all := lw_g (lw_at lw_m1 114 rfl) rfl
theorem q116 : (Jvm.Cond.static ({ cls := "PdfParityDeskLaw", name := "rest", desc := "(II)I" } : Jvm.MethodName)) ∈ lw_all := lw_g (lw_at lw_m1 115 rfl) rfl
theorem q117 : (Jvm.Cond.code ({ cls := "PdfParityDeskLaw", name := "rest", desc := "(II)I" } : Jvm.MethodName) method_3_code (2 : Nat) (Option.some Jvm.ClassFile.FieldType.int)) ∈ lw_all := lw_g (lw_at lw_m1 116 rfl) rfl
theorem q118 : (Jvm.Cond.constant "PdfParityDeskLaw" (7 : Nat) (2147483647 : Int32)) ∈ lw_all := lw_g (lw_at lw_m1 117 rfl) rfl
theorem q119 : (Jvm.Cond.methodLink "PdfParityDeskLaw" (46 : Nat) ({ cls := "PdfParityDeskLaw", name := "holds", desc := "(LPdfParityDesk;LPdfParityDeskLaw$Row;II)Z" } : Jvm.MethodName)) ∈ lw_all := lw_g (lw_at lw_m1 118 rfl) rfl
theorem q120 : (Jvm.Cond.static ({ cls := "PdfParityDeskLaw", name := "holds", desc := "(LPdfParityDesk;LPdfParityDeskLaw$Row;II)Z" } : Jvm.MethodName)) ∈ lw_all := lw_g (lw_at lw_m1 119 rfl) rfl
theorem q121 : (Jvm.Cond.code ({ cls := "PdfParityDeskLaw", name := "holds", desc := "(LPdfParityDesk;LPdfParityDeskLaw$Row;II)Z" } : Jvm.MethodName) method_4_code (10 : Nat) (Option.some Jvm.ClassFile.FieldType.boolean)) ∈ lw_all := lw_g (lw_at lw_m1 120 rfl) rfl
theorem q122 : (Jvm.Cond.methodLink "PdfParityDeskLaw" (8 : Nat) ({ cls := "PdfParityDesk", name := "count", desc := "(I)I" } : Jvm.MethodName)) ∈ lw_all := lw_g (lw_at lw_m1 121 rfl) rfl
theorem q194 : (Jvm.Cond.methodLink "PdfParityDeskLaw" (14 : Nat) ({ cls := "PdfParityDesk", name := "make", desc := "(I)I" } : Jvm.MethodName)) ∈ lw_all := lw_g (lw_at lw_m1 193 rfl) rfl
theorem q417 : (Jvm.Cond.methodLink "PdfParityDeskLaw" (50 : Nat) ({ cls := "PdfParityDeskLaw", name := "puts", desc := "(LPdfParityDesk;LPdfParityDeskLaw$Row;II)Z" } : Jvm.MethodName)) ∈ lw_all := lw_g (lw_at lw_m2 176 rfl) rfl
theorem q418 : (Jvm.Cond.static ({ cls := "PdfParityDeskLaw", name := "puts", desc := "(LPdfParityDesk;LPdfParityDeskLaw$Row;II)Z" } : Jvm.MethodName)) ∈ lw_all := lw_g (lw_at lw_m2 177 rfl) rfl
theorem q419 : (Jvm.Cond.code ({ cls := "PdfParityDeskLaw", name := "puts", desc := "(LPdfParityDesk;LPdfParityDeskLaw$Row;II)Z" } : Jvm.MethodName) method_5_code (5 : Nat) (Option.some Jvm.ClassFile.FieldType.boolean)) ∈ lw_all := lw_g (lw_at lw_m2 178 rfl) rfl
theorem q420 : (Jvm.Cond.methodLink "PdfParityDeskLaw" (30 : Nat) ({ cls := "PdfParityDesk", name := "put", desc := "(II)Z" } : Jvm.MethodName)) ∈ lw_all := lw_g (lw_at lw_m2 179 rfl) rfl

/-! PdfParityDesk -/
set_option maxRecDepth 100000
def RX1 : String := "PdfParityDesk"
def TX1 : u_T := fun k => match k with
  | 0 => ("PdfParityDesk", "word", "[C", true)
  | 1 => ("PdfParityDesk", "size", "I", false)
  | _ => ("PdfParityDesk", "told", "Ljava/lang/String;", false)
def tyX1 : Nat → FieldType := fun k => match k with
  | 0 => .array .char
  | 1 => .int
  | _ => .object "java/lang/String"
abbrev wsX10 : List Cond := u_ws RX1 TX1 3
theorem nmX1 : ∀ a, a < 3 → ∀ b, b < 3 → a ≠ b → (TX1 a).2.1 ≠ (TX1 b).2.1 := by decide +kernel
theorem tyX1_ok : ∀ k, k < 3 → parseFieldDescriptor (TX1 k).2.2.1 = some (tyX1 k) := by decide +kernel
abbrev cX1_init : ByteArray := prog_2_method_1_code
def yX1_init : MethodName := ⟨RX1, "<init>", "()V"⟩
def dkwX1_init_0 : List UInt8 := [42, 183, 0, 1, 42, 16, 64, 188, 5, 181, 0, 7, 42, 18, 13, 181, 0, 15, 177]
abbrev dktX1_init_0 : List UInt8 := dkwX1_init_0 ++ []
theorem dksX1_init_0 : cX1_init.data.toList.drop 0 = dktX1_init_0 := by decide +kernel
theorem dX1_init_0 : decode cX1_init 0 = .ok (.aload_n 0, 1) := dk_42 (dk_at dksX1_init_0 0 rfl rfl)
theorem dX1_init_1 : decode cX1_init 1 = .ok (.invokespecial 1, 3) := dk_183 0 1 (dk_at dksX1_init_0 1 rfl rfl)
theorem dX1_init_4 : decode cX1_init 4 = .ok (.aload_n 0, 1) := dk_42 (dk_at dksX1_init_0 4 rfl rfl)
theorem dX1_init_5 : decode cX1_init 5 = .ok (.bipush 64, 2) := dk_16 64 (dk_at dksX1_init_0 5 rfl rfl)
theorem dX1_init_7 : decode cX1_init 7 = .ok (.newarray .char, 2) := dk_188_5 (dk_at dksX1_init_0 7 rfl rfl)
theorem dX1_init_9 : decode cX1_init 9 = .ok (.putfield 7, 3) := dk_181 0 7 (dk_at dksX1_init_0 9 rfl rfl)
theorem dX1_init_12 : decode cX1_init 12 = .ok (.aload_n 0, 1) := dk_42 (dk_at dksX1_init_0 12 rfl rfl)
theorem dX1_init_13 : decode cX1_init 13 = .ok (.ldc 13, 2) := dk_18 13 (dk_at dksX1_init_0 13 rfl rfl)
theorem dX1_init_15 : decode cX1_init 15 = .ok (.putfield 15, 3) := dk_181 0 15 (dk_at dksX1_init_0 15 rfl rfl)
theorem dX1_init_18 : decode cX1_init 18 = .ok (.return_, 1) := dk_177 (dk_at dksX1_init_0 18 rfl rfl)
abbrev cX1_drop : ByteArray := prog_2_method_3_code
def yX1_drop : MethodName := ⟨RX1, "drop", "(I)V"⟩
def dkwX1_drop_0 : List UInt8 := [42, 27, 18, 23, 126, 42, 180, 0, 19, 4, 96, 112, 181, 0, 19, 177]
abbrev dktX1_drop_0 : List UInt8 := dkwX1_drop_0 ++ []
theorem dksX1_drop_0 : cX1_drop.data.toList.drop 0 = dktX1_drop_0 := by decide +kernel
theorem dX1_drop_0 : decode cX1_drop 0 = .ok (.aload_n 0, 1) := dk_42 (dk_at dksX1_drop_0 0 rfl rfl)
theorem dX1_drop_1 : decode cX1_drop 1 = .ok (.iload_n 1, 1) := dk_27 (dk_at dksX1_drop_0 1 rfl rfl)
theorem dX1_drop_2 : decode cX1_drop 2 = .ok (.ldc 23, 2) := dk_18 23 (dk_at dksX1_drop_0 2 rfl rfl)
theorem dX1_drop_4 : decode cX1_drop 4 = .ok (.iand, 1) := dk_126 (dk_at dksX1_drop_0 4 rfl rfl)
theorem dX1_drop_5 : decode cX1_drop 5 = .ok (.aload_n 0, 1) := dk_42 (dk_at dksX1_drop_0 5 rfl rfl)
theorem dX1_drop_6 : decode cX1_drop 6 = .ok (.getfield 19, 3) := dk_180 0 19 (dk_at dksX1_drop_0 6 rfl rfl)
theorem dX1_drop_9 : decode cX1_drop 9 = .ok (.iconst 1, 1) := dk_4 (dk_at dksX1_drop_0 9 rfl rfl)
theorem dX1_drop_10 : decode cX1_drop 10 = .ok (.iadd, 1) := dk_96 (dk_at dksX1_drop_0 10 rfl rfl)
theorem dX1_drop_11 : decode cX1_drop 11 = .ok (.irem, 1) := dk_112 (dk_at dksX1_drop_0 11 rfl rfl)
theorem dX1_drop_12 : decode cX1_drop 12 = .ok (.putfield 19, 3) := dk_181 0 19 (dk_at dksX1_drop_0 12 rfl rfl)
theorem dX1_drop_15 : decode cX1_drop 15 = .ok (.return_, 1) := dk_177 (dk_at dksX1_drop_0 15 rfl rfl)
abbrev cX1_told : ByteArray := prog_2_method_5_code
def yX1_told : MethodName := ⟨RX1, "told", "(I)I"⟩
def dkwX1_told_1 : List UInt8 := [180, 0, 15, 182, 0, 35, 112, 182, 0, 39, 172]
abbrev dktX1_told_1 : List UInt8 := dkwX1_told_1 ++ []
def dkwX1_told_0 : List UInt8 := [42, 180, 0, 15, 182, 0, 35, 154, 0, 7, 2, 167, 0, 22, 42, 180, 0, 15, 27, 18, 23, 126, 42]
abbrev dktX1_told_0 : List UInt8 := dkwX1_told_0 ++ dktX1_told_1
theorem dksX1_told_0 : cX1_told.data.toList.drop 0 = dktX1_told_0 := by decide +kernel
theorem dksX1_told_1 : cX1_told.data.toList.drop 23 = dktX1_told_1 := dk_seg dksX1_told_0 23 rfl rfl
theorem dX1_told_0 : decode cX1_told 0 = .ok (.aload_n 0, 1) := dk_42 (dk_at dksX1_told_0 0 rfl rfl)
theorem dX1_told_1 : decode cX1_told 1 = .ok (.getfield 15, 3) := dk_180 0 15 (dk_at dksX1_told_0 1 rfl rfl)
theorem dX1_told_4 : decode cX1_told 4 = .ok (.invokevirtual 35, 3) := dk_182 0 35 (dk_at dksX1_told_0 4 rfl rfl)
theorem dX1_told_7 : decode cX1_told 7 = .ok (.ifCond .ne 7, 3) := dk_154 0 7 (dk_at dksX1_told_0 7 rfl rfl)
theorem dX1_told_10 : decode cX1_told 10 = .ok (.iconst (-1), 1) := dk_2 (dk_at dksX1_told_0 10 rfl rfl)
theorem dX1_told_11 : decode cX1_told 11 = .ok (.goto 22, 3) := dk_167 0 22 (dk_at dksX1_told_0 11 rfl rfl)
theorem dX1_told_14 : decode cX1_told 14 = .ok (.aload_n 0, 1) := dk_42 (dk_at dksX1_told_0 14 rfl rfl)
theorem dX1_told_15 : decode cX1_told 15 = .ok (.getfield 15, 3) := dk_180 0 15 (dk_at dksX1_told_0 15 rfl rfl)
theorem dX1_told_18 : decode cX1_told 18 = .ok (.iload_n 1, 1) := dk_27 (dk_at dksX1_told_0 18 rfl rfl)
theorem dX1_told_19 : decode cX1_told 19 = .ok (.ldc 23, 2) := dk_18 23 (dk_at dksX1_told_0 19 rfl rfl)
theorem dX1_told_21 : decode cX1_told 21 = .ok (.iand, 1) := dk_126 (dk_at dksX1_told_0 21 rfl rfl)
theorem dX1_told_22 : decode cX1_told 22 = .ok (.aload_n 0, 1) := dk_42 (dk_at dksX1_told_0 22 rfl rfl)
theorem dX1_told_23 : decode cX1_told 23 = .ok (.getfield 15, 3) := dk_180 0 15 (dk_at dksX1_told_1 0 rfl rfl)
theorem dX1_told_26 : decode cX1_told 26 = .ok (.invokevirtual 35, 3) := dk_182 0 35 (dk_at dksX1_told_1 3 rfl rfl)
theorem dX1_told_29 : decode cX1_told 29 = .ok (.irem, 1) := dk_112 (dk_at dksX1_told_1 6 rfl rfl)
theorem dX1_told_30 : decode cX1_told 30 = .ok (.invokevirtual 39, 3) := dk_182 0 39 (dk_at dksX1_told_1 7 rfl rfl)
theorem dX1_told_33 : decode cX1_told 33 = .ok (.ireturn, 1) := dk_172 (dk_at dksX1_told_1 10 rfl rfl)
abbrev cX1_count : ByteArray := prog_2_method_6_code
def yX1_count : MethodName := ⟨RX1, "count", "(I)I"⟩
def dkwX1_count_0 : List UInt8 := [27, 16, 7, 126, 184, 0, 43, 172]
abbrev dktX1_count_0 : List UInt8 := dkwX1_count_0 ++ []
theorem dksX1_count_0 : cX1_count.data.toList.drop 0 = dktX1_count_0 := by decide +kernel
theorem dX1_count_0 : decode cX1_count 0 = .ok (.iload_n 1, 1) := dk_27 (dk_at dksX1_count_0 0 rfl rfl)
theorem dX1_count_1 : decode cX1_count 1 = .ok (.bipush 7, 2) := dk_16 7 (dk_at dksX1_count_0 1 rfl rfl)
theorem dX1_count_3 : decode cX1_count 3 = .ok (.iand, 1) := dk_126 (dk_at dksX1_count_0 3 rfl rfl)
theorem dX1_count_4 : decode cX1_count 4 = .ok (.invokestatic 43, 3) := dk_184 0 43 (dk_at dksX1_count_0 4 rfl rfl)
theorem dX1_count_7 : decode cX1_count 7 = .ok (.ireturn, 1) := dk_172 (dk_at dksX1_count_0 7 rfl rfl)
abbrev cX1_make : ByteArray := prog_2_method_4_code
def yX1_make : MethodName := ⟨RX1, "make", "(I)I"⟩
def dkwX1_make_1 : List UInt8 := [181, 0, 15, 42, 180, 0, 15, 182, 0, 35, 172]
abbrev dktX1_make_1 : List UInt8 := dkwX1_make_1 ++ []
def dkwX1_make_0 : List UInt8 := [42, 187, 0, 24, 89, 42, 180, 0, 7, 3, 42, 180, 0, 19, 183, 0, 26, 27, 16, 7, 126, 184, 0, 29]
abbrev dktX1_make_0 : List UInt8 := dkwX1_make_0 ++ dktX1_make_1
theorem dksX1_make_0 : cX1_make.data.toList.drop 0 = dktX1_make_0 := by decide +kernel
theorem dksX1_make_1 : cX1_make.data.toList.drop 24 = dktX1_make_1 := dk_seg dksX1_make_0 24 rfl rfl
theorem dX1_make_0 : decode cX1_make 0 = .ok (.aload_n 0, 1) := dk_42 (dk_at dksX1_make_0 0 rfl rfl)
theorem dX1_make_1 : decode cX1_make 1 = .ok (.new 24, 3) := dk_187 0 24 (dk_at dksX1_make_0 1 rfl rfl)
theorem dX1_make_4 : decode cX1_make 4 = .ok (.dup, 1) := dk_89 (dk_at dksX1_make_0 4 rfl rfl)
theorem dX1_make_5 : decode cX1_make 5 = .ok (.aload_n 0, 1) := dk_42 (dk_at dksX1_make_0 5 rfl rfl)
theorem dX1_make_6 : decode cX1_make 6 = .ok (.getfield 7, 3) := dk_180 0 7 (dk_at dksX1_make_0 6 rfl rfl)
theorem dX1_make_9 : decode cX1_make 9 = .ok (.iconst 0, 1) := dk_3 (dk_at dksX1_make_0 9 rfl rfl)
theorem dX1_make_10 : decode cX1_make 10 = .ok (.aload_n 0, 1) := dk_42 (dk_at dksX1_make_0 10 rfl rfl)
theorem dX1_make_11 : decode cX1_make 11 = .ok (.getfield 19, 3) := dk_180 0 19 (dk_at dksX1_make_0 11 rfl rfl)
theorem dX1_make_14 : decode cX1_make 14 = .ok (.invokespecial 26, 3) := dk_183 0 26 (dk_at dksX1_make_0 14 rfl rfl)
theorem dX1_make_17 : decode cX1_make 17 = .ok (.iload_n 1, 1) := dk_27 (dk_at dksX1_make_0 17 rfl rfl)
theorem dX1_make_18 : decode cX1_make 18 = .ok (.bipush 7, 2) := dk_16 7 (dk_at dksX1_make_0 18 rfl rfl)
theorem dX1_make_20 : decode cX1_make 20 = .ok (.iand, 1) := dk_126 (dk_at dksX1_make_0 20 rfl rfl)
theorem dX1_make_21 : decode cX1_make 21 = .ok (.invokestatic 29, 3) := dk_184 0 29 (dk_at dksX1_make_0 21 rfl rfl)
theorem dX1_make_24 : decode cX1_make 24 = .ok (.putfield 15, 3) := dk_181 0 15 (dk_at dksX1_make_1 0 rfl rfl)
theorem dX1_make_27 : decode cX1_make 27 = .ok (.aload_n 0, 1) := dk_42 (dk_at dksX1_make_1 3 rfl rfl)
theorem dX1_make_28 : decode cX1_make 28 = .ok (.getfield 15, 3) := dk_180 0 15 (dk_at dksX1_make_1 4 rfl rfl)
theorem dX1_make_31 : decode cX1_make 31 = .ok (.invokevirtual 35, 3) := dk_182 0 35 (dk_at dksX1_make_1 7 rfl rfl)
theorem dX1_make_34 : decode cX1_make 34 = .ok (.ireturn, 1) := dk_172 (dk_at dksX1_make_1 10 rfl rfl)
abbrev cX1_put : ByteArray := prog_2_method_2_code
def yX1_put : MethodName := ⟨RX1, "put", "(II)Z"⟩
def dkwX1_put_2 : List UInt8 := [96, 181, 0, 19, 28, 18, 23, 126, 17, 3, 161, 112, 146, 85, 4, 172]
abbrev dktX1_put_2 : List UInt8 := dkwX1_put_2 ++ []
def dkwX1_put_1 : List UInt8 := [181, 0, 19, 27, 18, 23, 126, 17, 3, 161, 112, 146, 85, 42, 180, 0, 7, 42, 89, 180, 0, 19, 90, 4]
abbrev dktX1_put_1 : List UInt8 := dkwX1_put_1 ++ dktX1_put_2
def dkwX1_put_0 : List UInt8 := [42, 180, 0, 19, 16, 62, 164, 0, 5, 3, 172, 42, 180, 0, 7, 42, 89, 180, 0, 19, 90, 4, 96]
abbrev dktX1_put_0 : List UInt8 := dkwX1_put_0 ++ dktX1_put_1
theorem dksX1_put_0 : cX1_put.data.toList.drop 0 = dktX1_put_0 := by decide +kernel
theorem dksX1_put_1 : cX1_put.data.toList.drop 23 = dktX1_put_1 := dk_seg dksX1_put_0 23 rfl rfl
theorem dksX1_put_2 : cX1_put.data.toList.drop 47 = dktX1_put_2 := dk_seg dksX1_put_1 24 rfl rfl
theorem dX1_put_0 : decode cX1_put 0 = .ok (.aload_n 0, 1) := dk_42 (dk_at dksX1_put_0 0 rfl rfl)
theorem dX1_put_1 : decode cX1_put 1 = .ok (.getfield 19, 3) := dk_180 0 19 (dk_at dksX1_put_0 1 rfl rfl)
theorem dX1_put_4 : decode cX1_put 4 = .ok (.bipush 62, 2) := dk_16 62 (dk_at dksX1_put_0 4 rfl rfl)
theorem dX1_put_6 : decode cX1_put 6 = .ok (.if_icmp .le 5, 3) := dk_164 0 5 (dk_at dksX1_put_0 6 rfl rfl)
theorem dX1_put_9 : decode cX1_put 9 = .ok (.iconst 0, 1) := dk_3 (dk_at dksX1_put_0 9 rfl rfl)
theorem dX1_put_10 : decode cX1_put 10 = .ok (.ireturn, 1) := dk_172 (dk_at dksX1_put_0 10 rfl rfl)
theorem dX1_put_11 : decode cX1_put 11 = .ok (.aload_n 0, 1) := dk_42 (dk_at dksX1_put_0 11 rfl rfl)
theorem dX1_put_12 : decode cX1_put 12 = .ok (.getfield 7, 3) := dk_180 0 7 (dk_at dksX1_put_0 12 rfl rfl)
theorem dX1_put_15 : decode cX1_put 15 = .ok (.aload_n 0, 1) := dk_42 (dk_at dksX1_put_0 15 rfl rfl)
theorem dX1_put_16 : decode cX1_put 16 = .ok (.dup, 1) := dk_89 (dk_at dksX1_put_0 16 rfl rfl)
theorem dX1_put_17 : decode cX1_put 17 = .ok (.getfield 19, 3) := dk_180 0 19 (dk_at dksX1_put_0 17 rfl rfl)
theorem dX1_put_20 : decode cX1_put 20 = .ok (.dup_x1, 1) := dk_90 (dk_at dksX1_put_0 20 rfl rfl)
theorem dX1_put_21 : decode cX1_put 21 = .ok (.iconst 1, 1) := dk_4 (dk_at dksX1_put_0 21 rfl rfl)
theorem dX1_put_22 : decode cX1_put 22 = .ok (.iadd, 1) := dk_96 (dk_at dksX1_put_0 22 rfl rfl)
theorem dX1_put_23 : decode cX1_put 23 = .ok (.putfield 19, 3) := dk_181 0 19 (dk_at dksX1_put_1 0 rfl rfl)
theorem dX1_put_26 : decode cX1_put 26 = .ok (.iload_n 1, 1) := dk_27 (dk_at dksX1_put_1 3 rfl rfl)
theorem dX1_put_27 : decode cX1_put 27 = .ok (.ldc 23, 2) := dk_18 23 (dk_at dksX1_put_1 4 rfl rfl)
theorem dX1_put_29 : decode cX1_put 29 = .ok (.iand, 1) := dk_126 (dk_at dksX1_put_1 6 rfl rfl)
theorem dX1_put_30 : decode cX1_put 30 = .ok (.sipush 929, 3) := dk_17 3 161 (dk_at dksX1_put_1 7 rfl rfl)
theorem dX1_put_33 : decode cX1_put 33 = .ok (.irem, 1) := dk_112 (dk_at dksX1_put_1 10 rfl rfl)
theorem dX1_put_34 : decode cX1_put 34 = .ok (.i2c, 1) := dk_146 (dk_at dksX1_put_1 11 rfl rfl)
theorem dX1_put_35 : decode cX1_put 35 = .ok (.castore, 1) := dk_85 (dk_at dksX1_put_1 12 rfl rfl)
theorem dX1_put_36 : decode cX1_put 36 = .ok (.aload_n 0, 1) := dk_42 (dk_at dksX1_put_1 13 rfl rfl)
theorem dX1_put_37 : decode cX1_put 37 = .ok (.getfield 7, 3) := dk_180 0 7 (dk_at dksX1_put_1 14 rfl rfl)
theorem dX1_put_40 : decode cX1_put 40 = .ok (.aload_n 0, 1) := dk_42 (dk_at dksX1_put_1 17 rfl rfl)
theorem dX1_put_41 : decode cX1_put 41 = .ok (.dup, 1) := dk_89 (dk_at dksX1_put_1 18 rfl rfl)
theorem dX1_put_42 : decode cX1_put 42 = .ok (.getfield 19, 3) := dk_180 0 19 (dk_at dksX1_put_1 19 rfl rfl)
theorem dX1_put_45 : decode cX1_put 45 = .ok (.dup_x1, 1) := dk_90 (dk_at dksX1_put_1 22 rfl rfl)
theorem dX1_put_46 : decode cX1_put 46 = .ok (.iconst 1, 1) := dk_4 (dk_at dksX1_put_1 23 rfl rfl)
theorem dX1_put_47 : decode cX1_put 47 = .ok (.iadd, 1) := dk_96 (dk_at dksX1_put_2 0 rfl rfl)
theorem dX1_put_48 : decode cX1_put 48 = .ok (.putfield 19, 3) := dk_181 0 19 (dk_at dksX1_put_2 1 rfl rfl)
theorem dX1_put_51 : decode cX1_put 51 = .ok (.iload_n 2, 1) := dk_28 (dk_at dksX1_put_2 4 rfl rfl)
theorem dX1_put_52 : decode cX1_put 52 = .ok (.ldc 23, 2) := dk_18 23 (dk_at dksX1_put_2 5 rfl rfl)
theorem dX1_put_54 : decode cX1_put 54 = .ok (.iand, 1) := dk_126 (dk_at dksX1_put_2 7 rfl rfl)
theorem dX1_put_55 : decode cX1_put 55 = .ok (.sipush 929, 3) := dk_17 3 161 (dk_at dksX1_put_2 8 rfl rfl)
theorem dX1_put_58 : decode cX1_put 58 = .ok (.irem, 1) := dk_112 (dk_at dksX1_put_2 11 rfl rfl)
theorem dX1_put_59 : decode cX1_put 59 = .ok (.i2c, 1) := dk_146 (dk_at dksX1_put_2 12 rfl rfl)
theorem dX1_put_60 : decode cX1_put 60 = .ok (.castore, 1) := dk_85 (dk_at dksX1_put_2 13 rfl rfl)
theorem dX1_put_61 : decode cX1_put 61 = .ok (.iconst 1, 1) := dk_4 (dk_at dksX1_put_2 14 rfl rfl)
theorem dX1_put_62 : decode cX1_put 62 = .ok (.ireturn, 1) := dk_172 (dk_at dksX1_put_2 15 rfl rfl)
theorem q2 : (Jvm.Cond.initialized "PdfParityDesk") ∈ lw_all := lw_g (lw_at lw_m1 1 rfl) rfl
theorem q20 : (Jvm.Cond.instantiable "PdfParityDesk" (3 : Nat)) ∈ lw_all := lw_g (lw_at lw_m1 19 rfl) rfl
theorem q22 : (Jvm.Cond.instanceMethod ({ cls := "PdfParityDesk", name := "<init>", desc := "()V" } : Jvm.MethodName)) ∈ lw_all := lw_g (lw_at lw_m1 21 rfl) rfl
theorem q23 : (Jvm.Cond.code ({ cls := "PdfParityDesk", name := "<init>", desc := "()V" } : Jvm.MethodName) prog_2_method_1_code (1 : Nat) (Option.none : Option Jvm.ClassFile.FieldType)) ∈ lw_all := lw_g (lw_at lw_m1 22 rfl) rfl
theorem q24 : (Jvm.Cond.methodLink "PdfParityDesk" (1 : Nat) ({ cls := "java/lang/Object", name := "<init>", desc := "()V" } : Jvm.MethodName)) ∈ lw_all := lw_g (lw_at lw_m1 23 rfl) rfl
theorem q27 : (Jvm.Cond.stringRef "PdfParityDesk" (13 : Nat) "") ∈ lw_tbl := lw_at lw_m1 26 rfl
theorem q28 : (Jvm.Cond.fieldLink "PdfParityDesk" (7 : Nat) "PdfParityDesk" "word" "[C") ∈ lw_all := lw_g (lw_at lw_m1 27 rfl) rfl
theorem q29 : (Jvm.Cond.fieldLink "PdfParityDesk" (19 : Nat) "PdfParityDesk" "size" "I") ∈ lw_all := lw_g (lw_at lw_m1 28 rfl) rfl
theorem q30 : (Jvm.Cond.fieldLink "PdfParityDesk" (15 : Nat) "PdfParityDesk" "told" "Ljava/lang/String;") ∈ lw_all := lw_g (lw_at lw_m1 29 rfl) rfl
theorem q31 : (Jvm.Cond.laysFinal "PdfParityDesk" "PdfParityDesk" "word" "[C") ∈ lw_all := lw_g (lw_at lw_m1 30 rfl) rfl
theorem q32 : (Jvm.Cond.soleField "PdfParityDesk" "word") ∈ lw_all := lw_g (lw_at lw_m1 31 rfl) rfl
theorem q33 : (Jvm.Cond.lays "PdfParityDesk" "PdfParityDesk" "size" "I") ∈ lw_all := lw_g (lw_at lw_m1 32 rfl) rfl
theorem q34 : (Jvm.Cond.soleField "PdfParityDesk" "size") ∈ lw_all := lw_g (lw_at lw_m1 33 rfl) rfl
theorem q35 : (Jvm.Cond.lays "PdfParityDesk" "PdfParityDesk" "told" "Ljava/lang/String;") ∈ lw_all := lw_g (lw_at lw_m1 34 rfl) rfl
theorem q36 : (Jvm.Cond.soleField "PdfParityDesk" "told") ∈ lw_all := lw_g (lw_at lw_m1 35 rfl) rfl
theorem q37 : (Jvm.Cond.superclass "PdfParityDesk" "java/lang/Object") ∈ lw_all := lw_g (lw_at lw_m1 36 rfl) rfl
theorem q41 : (Jvm.Cond.instanceMethod ({ cls := "PdfParityDesk", name := "drop", desc := "(I)V" } : Jvm.MethodName)) ∈ lw_all := lw_g (lw_at lw_m1 40 rfl) rfl
theorem q42 : (Jvm.Cond.selects "PdfParityDesk" ({ cls := "PdfParityDesk", name := "drop", desc := "(I)V" } : Jvm.MethodName) ({ cls := "PdfParityDesk", name := "drop", desc := "(I)V" } : Jvm.MethodName)) ∈ lw_all := lw_g (lw_at lw_m1 41 rfl) rfl
theorem q43 : (Jvm.Cond.code ({ cls := "PdfParityDesk", name := "drop", desc := "(I)V" } : Jvm.MethodName) prog_2_method_3_code (2 : Nat) (Option.none : Option Jvm.ClassFile.FieldType)) ∈ lw_all := lw_g (lw_at lw_m1 42 rfl) rfl
theorem q44 : (Jvm.Cond.constant "PdfParityDesk" (23 : Nat) (2147483647 : Int32)) ∈ lw_all := lw_g (lw_at lw_m1 43 rfl) rfl
theorem q46 : (Jvm.Cond.instanceMethod ({ cls := "PdfParityDesk", name := "told", desc := "(I)I" } : Jvm.MethodName)) ∈ lw_all := lw_g (lw_at lw_m1 45 rfl) rfl
theorem q47 : (Jvm.Cond.selects "PdfParityDesk" ({ cls := "PdfParityDesk", name := "told", desc := "(I)I" } : Jvm.MethodName) ({ cls := "PdfParityDesk", name := "told", desc := "(I)I" } : Jvm.MethodName)) ∈ lw_all := lw_g (lw_at lw_m1 46 rfl) rfl
theorem q48 : (Jvm.Cond.code ({ cls := "PdfParityDesk", name := "told", desc := "(I)I" } : Jvm.MethodName) prog_2_method_5_code (2 : Nat) (Option.some Jvm.ClassFile.FieldType.int)) ∈ lw_all := lw_g (lw_at lw_m1 47 rfl) rfl
theorem q49 : (Jvm.Cond.methodLink "PdfParityDesk" (35 : Nat) ({ cls := "java/lang/String", name := "length", desc := "()I" } : Jvm.MethodName)) ∈ lw_all := lw_g (lw_at lw_m1 48 rfl) rfl
theorem q59 : (Jvm.Cond.methodLink "PdfParityDesk" (39 : Nat) ({ cls := "java/lang/String", name := "charAt", desc := "(I)C" } : Jvm.MethodName)) ∈ lw_all := lw_g (lw_at lw_m1 58 rfl) rfl
theorem q123 : (Jvm.Cond.instanceMethod ({ cls := "PdfParityDesk", name := "count", desc := "(I)I" } : Jvm.MethodName)) ∈ lw_all := lw_g (lw_at lw_m1 122 rfl) rfl
theorem q124 : (Jvm.Cond.selects "PdfParityDesk" ({ cls := "PdfParityDesk", name := "count", desc := "(I)I" } : Jvm.MethodName) ({ cls := "PdfParityDesk", name := "count", desc := "(I)I" } : Jvm.MethodName)) ∈ lw_all := lw_g (lw_at lw_m1 123 rfl) rfl
theorem q125 : (Jvm.Cond.code ({ cls := "PdfParityDesk", name := "count", desc := "(I)I" } : Jvm.MethodName) prog_2_method_6_code (2 : Nat) (Option.some Jvm.ClassFile.FieldType.int)) ∈ lw_all := lw_g (lw_at lw_m1 124 rfl) rfl
theorem q126 : (Jvm.Cond.methodLink "PdfParityDesk" (43 : Nat) ({ cls := "PDF417ErrorCorrection", name := "getErrorCorrectionCodewordCount", desc := "(I)I" } : Jvm.MethodName)) ∈ lw_all := lw_g (lw_at lw_m1 125 rfl) rfl
theorem q195 : (Jvm.Cond.instanceMethod ({ cls := "PdfParityDesk", name := "make", desc := "(I)I" } : Jvm.MethodName)) ∈ lw_all := lw_g (lw_at lw_m1 194 rfl) rfl
theorem q196 : (Jvm.Cond.selects "PdfParityDesk" ({ cls := "PdfParityDesk", name := "make", desc := "(I)I" } : Jvm.MethodName) ({ cls := "PdfParityDesk", name := "make", desc := "(I)I" } : Jvm.MethodName)) ∈ lw_all := lw_g (lw_at lw_m1 195 rfl) rfl
theorem q197 : (Jvm.Cond.code ({ cls := "PdfParityDesk", name := "make", desc := "(I)I" } : Jvm.MethodName) prog_2_method_4_code (2 : Nat) (Option.some Jvm.ClassFile.FieldType.int)) ∈ lw_all := lw_g (lw_at lw_m1 196 rfl) rfl
theorem q198 : (Jvm.Cond.classLink "PdfParityDesk" (24 : Nat) "java/lang/String") ∈ lw_all := lw_g (lw_at lw_m1 197 rfl) rfl
theorem q200 : (Jvm.Cond.methodLink "PdfParityDesk" (26 : Nat) ({ cls := "java/lang/String", name := "<init>", desc := "([CII)V" } : Jvm.MethodName)) ∈ lw_all := lw_g (lw_at lw_m1 199 rfl) rfl
theorem q258 : (Jvm.Cond.methodLink "PdfParityDesk" (29 : Nat) ({ cls := "PDF417ErrorCorrection", name := "generateErrorCorrection", desc := "(Ljava/lang/CharSequence;I)Ljava/lang/String;" } : Jvm.MethodName)) ∈ lw_all := lw_g (lw_at lw_m2 17 rfl) rfl
theorem q421 : (Jvm.Cond.instanceMethod ({ cls := "PdfParityDesk", name := "put", desc := "(II)Z" } : Jvm.MethodName)) ∈ lw_all := lw_g (lw_at lw_m2 180 rfl) rfl
theorem q422 : (Jvm.Cond.selects "PdfParityDesk" ({ cls := "PdfParityDesk", name := "put", desc := "(II)Z" } : Jvm.MethodName) ({ cls := "PdfParityDesk", name := "put", desc := "(II)Z" } : Jvm.MethodName)) ∈ lw_all := lw_g (lw_at lw_m2 181 rfl) rfl
theorem q423 : (Jvm.Cond.code ({ cls := "PdfParityDesk", name := "put", desc := "(II)Z" } : Jvm.MethodName) prog_2_method_2_code (3 : Nat) (Option.some Jvm.ClassFile.FieldType.boolean)) ∈ lw_all := lw_g (lw_at lw_m2 182 rfl) rfl
theorem in_X1 : ∀ w ∈ wsX10, w ∈ lw_all := lw_in wsX10 [31, 33, 35] (by decide +kernel) (by decide +kernel)

/-! PdfParityDeskLaw$Row -/
set_option maxRecDepth 100000
def RX2 : String := "PdfParityDeskLaw$Row"
def TX2 : u_T := fun k => match k with
  | 0 => ("PdfParityDeskLaw$Row", "words", "[I", true)
  | _ => ("PdfParityDeskLaw$Row", "size", "I", false)
def tyX2 : Nat → FieldType := fun k => match k with
  | 0 => .array .int
  | _ => .int
abbrev wsX20 : List Cond := u_ws RX2 TX2 2
theorem nmX2 : ∀ a, a < 2 → ∀ b, b < 2 → a ≠ b → (TX2 a).2.1 ≠ (TX2 b).2.1 := by decide +kernel
theorem tyX2_ok : ∀ k, k < 2 → parseFieldDescriptor (TX2 k).2.2.1 = some (tyX2 k) := by decide +kernel
abbrev cX2_init : ByteArray := prog_4_method_1_code
def yX2_init : MethodName := ⟨RX2, "<init>", "()V"⟩
def dkwX2_init_0 : List UInt8 := [42, 183, 0, 1, 42, 16, 64, 188, 10, 181, 0, 7, 177]
abbrev dktX2_init_0 : List UInt8 := dkwX2_init_0 ++ []
theorem dksX2_init_0 : cX2_init.data.toList.drop 0 = dktX2_init_0 := by decide +kernel
theorem dX2_init_0 : decode cX2_init 0 = .ok (.aload_n 0, 1) := dk_42 (dk_at dksX2_init_0 0 rfl rfl)
theorem dX2_init_1 : decode cX2_init 1 = .ok (.invokespecial 1, 3) := dk_183 0 1 (dk_at dksX2_init_0 1 rfl rfl)
theorem dX2_init_4 : decode cX2_init 4 = .ok (.aload_n 0, 1) := dk_42 (dk_at dksX2_init_0 4 rfl rfl)
theorem dX2_init_5 : decode cX2_init 5 = .ok (.bipush 64, 2) := dk_16 64 (dk_at dksX2_init_0 5 rfl rfl)
theorem dX2_init_7 : decode cX2_init 7 = .ok (.newarray .int, 2) := dk_188_10 (dk_at dksX2_init_0 7 rfl rfl)
theorem dX2_init_9 : decode cX2_init 9 = .ok (.putfield 7, 3) := dk_181 0 7 (dk_at dksX2_init_0 9 rfl rfl)
theorem dX2_init_12 : decode cX2_init 12 = .ok (.return_, 1) := dk_177 (dk_at dksX2_init_0 12 rfl rfl)
theorem q3 : (Jvm.Cond.initialized "PdfParityDeskLaw$Row") ∈ lw_all := lw_g (lw_at lw_m1 2 rfl) rfl
theorem q98 : (Jvm.Cond.instantiable "PdfParityDeskLaw$Row" (2 : Nat)) ∈ lw_all := lw_g (lw_at lw_m1 97 rfl) rfl
theorem q100 : (Jvm.Cond.instanceMethod ({ cls := "PdfParityDeskLaw$Row", name := "<init>", desc := "()V" } : Jvm.MethodName)) ∈ lw_all := lw_g (lw_at lw_m1 99 rfl) rfl
theorem q101 : (Jvm.Cond.code ({ cls := "PdfParityDeskLaw$Row", name := "<init>", desc := "()V" } : Jvm.MethodName) prog_4_method_1_code (1 : Nat) (Option.none : Option Jvm.ClassFile.FieldType)) ∈ lw_all := lw_g (lw_at lw_m1 100 rfl) rfl
theorem q102 : (Jvm.Cond.methodLink "PdfParityDeskLaw$Row" (1 : Nat) ({ cls := "java/lang/Object", name := "<init>", desc := "()V" } : Jvm.MethodName)) ∈ lw_all := lw_g (lw_at lw_m1 101 rfl) rfl
theorem q103 : (Jvm.Cond.fieldLink "PdfParityDeskLaw$Row" (7 : Nat) "PdfParityDeskLaw$Row" "words" "[I") ∈ lw_all := lw_g (lw_at lw_m1 102 rfl) rfl
theorem q106 : (Jvm.Cond.laysFinal "PdfParityDeskLaw$Row" "PdfParityDeskLaw$Row" "words" "[I") ∈ lw_all := lw_g (lw_at lw_m1 105 rfl) rfl
theorem q107 : (Jvm.Cond.soleField "PdfParityDeskLaw$Row" "words") ∈ lw_all := lw_g (lw_at lw_m1 106 rfl) rfl
theorem q108 : (Jvm.Cond.lays "PdfParityDeskLaw$Row" "PdfParityDeskLaw$Row" "size" "I") ∈ lw_all := lw_g (lw_at lw_m1 107 rfl) rfl
theorem q109 : (Jvm.Cond.soleField "PdfParityDeskLaw$Row" "size") ∈ lw_all := lw_g (lw_at lw_m1 108 rfl) rfl
theorem q110 : (Jvm.Cond.superclass "PdfParityDeskLaw$Row" "java/lang/Object") ∈ lw_all := lw_g (lw_at lw_m1 109 rfl) rfl
theorem in_X2 : ∀ w ∈ wsX20, w ∈ lw_all := lw_in wsX20 [106, 108] (by decide +kernel) (by decide +kernel)

/-! PDF417ErrorCorrection -/
set_option maxRecDepth 100000
def RX3 : String := "PDF417ErrorCorrection"
abbrev cX3_getErrorCorrectionCodewordCount : ByteArray := prog_1_method_1_code
def yX3_getErrorCorrectionCodewordCount : MethodName := ⟨RX3, "getErrorCorrectionCodewordCount", "(I)I"⟩
def dkwX3_getErrorCorrectionCodewordCount_1 : List UInt8 := [120, 172]
abbrev dktX3_getErrorCorrectionCodewordCount_1 : List UInt8 := dkwX3_getErrorCorrectionCodewordCount_1 ++ []
def dkwX3_getErrorCorrectionCodewordCount_0 : List UInt8 := [26, 155, 0, 9, 26, 16, 8, 164, 0, 13, 187, 0, 1, 89, 18, 3, 183, 0, 5, 191, 4, 26, 4, 96]
abbrev dktX3_getErrorCorrectionCodewordCount_0 : List UInt8 := dkwX3_getErrorCorrectionCodewordCount_0 ++ dktX3_getErrorCorrectionCodewordCount_1
theorem dksX3_getErrorCorrectionCodewordCount_0 : cX3_getErrorCorrectionCodewordCount.data.toList.drop 0 = dktX3_getErrorCorrectionCodewordCount_0 := by decide +kernel
theorem dksX3_getErrorCorrectionCodewordCount_1 : cX3_getErrorCorrectionCodewordCount.data.toList.drop 24 = dktX3_getErrorCorrectionCodewordCount_1 := dk_seg dksX3_getErrorCorrectionCodewordCount_0 24 rfl rfl
theorem dX3_getErrorCorrectionCodewordCount_0 : decode cX3_getErrorCorrectionCodewordCount 0 = .ok (.iload_n 0, 1) := dk_26 (dk_at dksX3_getErrorCorrectionCodewordCount_0 0 rfl rfl)
theorem dX3_getErrorCorrectionCodewordCount_1 : decode cX3_getErrorCorrectionCodewordCount 1 = .ok (.ifCond .lt 9, 3) := dk_155 0 9 (dk_at dksX3_getErrorCorrectionCodewordCount_0 1 rfl rfl)
theorem dX3_getErrorCorrectionCodewordCount_4 : decode cX3_getErrorCorrectionCodewordCount 4 = .ok (.iload_n 0, 1) := dk_26 (dk_at dksX3_getErrorCorrectionCodewordCount_0 4 rfl rfl)
theorem dX3_getErrorCorrectionCodewordCount_5 : decode cX3_getErrorCorrectionCodewordCount 5 = .ok (.bipush 8, 2) := dk_16 8 (dk_at dksX3_getErrorCorrectionCodewordCount_0 5 rfl rfl)
theorem dX3_getErrorCorrectionCodewordCount_7 : decode cX3_getErrorCorrectionCodewordCount 7 = .ok (.if_icmp .le 13, 3) := dk_164 0 13 (dk_at dksX3_getErrorCorrectionCodewordCount_0 7 rfl rfl)
theorem dX3_getErrorCorrectionCodewordCount_10 : decode cX3_getErrorCorrectionCodewordCount 10 = .ok (.new 1, 3) := dk_187 0 1 (dk_at dksX3_getErrorCorrectionCodewordCount_0 10 rfl rfl)
theorem dX3_getErrorCorrectionCodewordCount_13 : decode cX3_getErrorCorrectionCodewordCount 13 = .ok (.dup, 1) := dk_89 (dk_at dksX3_getErrorCorrectionCodewordCount_0 13 rfl rfl)
theorem dX3_getErrorCorrectionCodewordCount_14 : decode cX3_getErrorCorrectionCodewordCount 14 = .ok (.ldc 3, 2) := dk_18 3 (dk_at dksX3_getErrorCorrectionCodewordCount_0 14 rfl rfl)
theorem dX3_getErrorCorrectionCodewordCount_16 : decode cX3_getErrorCorrectionCodewordCount 16 = .ok (.invokespecial 5, 3) := dk_183 0 5 (dk_at dksX3_getErrorCorrectionCodewordCount_0 16 rfl rfl)
theorem dX3_getErrorCorrectionCodewordCount_19 : decode cX3_getErrorCorrectionCodewordCount 19 = .ok (.athrow, 1) := dk_191 (dk_at dksX3_getErrorCorrectionCodewordCount_0 19 rfl rfl)
theorem dX3_getErrorCorrectionCodewordCount_20 : decode cX3_getErrorCorrectionCodewordCount 20 = .ok (.iconst 1, 1) := dk_4 (dk_at dksX3_getErrorCorrectionCodewordCount_0 20 rfl rfl)
theorem dX3_getErrorCorrectionCodewordCount_21 : decode cX3_getErrorCorrectionCodewordCount 21 = .ok (.iload_n 0, 1) := dk_26 (dk_at dksX3_getErrorCorrectionCodewordCount_0 21 rfl rfl)
theorem dX3_getErrorCorrectionCodewordCount_22 : decode cX3_getErrorCorrectionCodewordCount 22 = .ok (.iconst 1, 1) := dk_4 (dk_at dksX3_getErrorCorrectionCodewordCount_0 22 rfl rfl)
theorem dX3_getErrorCorrectionCodewordCount_23 : decode cX3_getErrorCorrectionCodewordCount 23 = .ok (.iadd, 1) := dk_96 (dk_at dksX3_getErrorCorrectionCodewordCount_0 23 rfl rfl)
theorem dX3_getErrorCorrectionCodewordCount_24 : decode cX3_getErrorCorrectionCodewordCount 24 = .ok (.ishl, 1) := dk_120 (dk_at dksX3_getErrorCorrectionCodewordCount_1 0 rfl rfl)
theorem dX3_getErrorCorrectionCodewordCount_25 : decode cX3_getErrorCorrectionCodewordCount 25 = .ok (.ireturn, 1) := dk_172 (dk_at dksX3_getErrorCorrectionCodewordCount_1 1 rfl rfl)
abbrev cX3_generateErrorCorrection : ByteArray := prog_1_method_2_code
def yX3_generateErrorCorrection : MethodName := ⟨RX3, "generateErrorCorrection", "(Ljava/lang/CharSequence;I)Ljava/lang/String;"⟩
def dkwX3_generateErrorCorrection_8 : List UInt8 := [25, 5, 45, 21, 6, 52, 182, 0, 34, 87, 132, 6, 255, 167, 255, 218, 25, 5, 182, 0, 38, 176]
abbrev dktX3_generateErrorCorrection_8 : List UInt8 := dkwX3_generateErrorCorrection_8 ++ []
def dkwX3_generateErrorCorrection_7 : List UInt8 := [155, 0, 39, 45, 21, 6, 52, 153, 0, 16, 45, 21, 6, 17, 3, 161, 45, 21, 6, 52, 100, 146, 85]
abbrev dktX3_generateErrorCorrection_7 : List UInt8 := dkwX3_generateErrorCorrection_7 ++ dktX3_generateErrorCorrection_8
def dkwX3_generateErrorCorrection_6 : List UInt8 := [85, 132, 5, 1, 167, 255, 131, 187, 0, 29, 89, 28, 183, 0, 31, 58, 5, 28, 4, 100, 54, 6, 21, 6]
abbrev dktX3_generateErrorCorrection_6 : List UInt8 := dkwX3_generateErrorCorrection_6 ++ dktX3_generateErrorCorrection_7
def dkwX3_generateErrorCorrection_5 : List UInt8 := [104, 17, 3, 161, 112, 54, 7, 17, 3, 161, 21, 7, 100, 54, 8, 45, 3, 21, 8, 17, 3, 161, 112, 146]
abbrev dktX3_generateErrorCorrection_5 : List UInt8 := dkwX3_generateErrorCorrection_5 ++ dktX3_generateErrorCorrection_6
def dkwX3_generateErrorCorrection_4 : List UInt8 := [21, 8, 96, 17, 3, 161, 112, 146, 85, 132, 9, 255, 167, 255, 204, 21, 6, 178, 0, 25, 27, 50, 3, 46]
abbrev dktX3_generateErrorCorrection_4 : List UInt8 := dkwX3_generateErrorCorrection_4 ++ dktX3_generateErrorCorrection_5
def dkwX3_generateErrorCorrection_3 : List UInt8 := [17, 3, 161, 112, 54, 7, 17, 3, 161, 21, 7, 100, 54, 8, 45, 21, 9, 45, 21, 9, 4, 100, 52]
abbrev dktX3_generateErrorCorrection_3 : List UInt8 := dkwX3_generateErrorCorrection_3 ++ dktX3_generateErrorCorrection_4
def dkwX3_generateErrorCorrection_2 : List UInt8 := [28, 4, 100, 54, 9, 21, 9, 4, 161, 0, 52, 21, 6, 178, 0, 25, 27, 50, 21, 9, 46, 104]
abbrev dktX3_generateErrorCorrection_2 : List UInt8 := dkwX3_generateErrorCorrection_2 ++ dktX3_generateErrorCorrection_3
def dkwX3_generateErrorCorrection_1 : List UInt8 := [162, 0, 124, 42, 21, 5, 185, 0, 21, 2, 0, 45, 45, 190, 4, 100, 52, 96, 17, 3, 161, 112, 54, 6]
abbrev dktX3_generateErrorCorrection_1 : List UInt8 := dkwX3_generateErrorCorrection_1 ++ dktX3_generateErrorCorrection_2
def dkwX3_generateErrorCorrection_0 : List UInt8 := [27, 184, 0, 9, 61, 28, 188, 5, 78, 42, 185, 0, 15, 1, 0, 54, 4, 3, 54, 5, 21, 5, 21, 4]
abbrev dktX3_generateErrorCorrection_0 : List UInt8 := dkwX3_generateErrorCorrection_0 ++ dktX3_generateErrorCorrection_1
theorem dksX3_generateErrorCorrection_0 : cX3_generateErrorCorrection.data.toList.drop 0 = dktX3_generateErrorCorrection_0 := by decide +kernel
theorem dksX3_generateErrorCorrection_1 : cX3_generateErrorCorrection.data.toList.drop 24 = dktX3_generateErrorCorrection_1 := dk_seg dksX3_generateErrorCorrection_0 24 rfl rfl
theorem dksX3_generateErrorCorrection_2 : cX3_generateErrorCorrection.data.toList.drop 48 = dktX3_generateErrorCorrection_2 := dk_seg dksX3_generateErrorCorrection_1 24 rfl rfl
theorem dksX3_generateErrorCorrection_3 : cX3_generateErrorCorrection.data.toList.drop 70 = dktX3_generateErrorCorrection_3 := dk_seg dksX3_generateErrorCorrection_2 22 rfl rfl
theorem dksX3_generateErrorCorrection_4 : cX3_generateErrorCorrection.data.toList.drop 93 = dktX3_generateErrorCorrection_4 := dk_seg dksX3_generateErrorCorrection_3 23 rfl rfl
theorem dksX3_generateErrorCorrection_5 : cX3_generateErrorCorrection.data.toList.drop 117 = dktX3_generateErrorCorrection_5 := dk_seg dksX3_generateErrorCorrection_4 24 rfl rfl
theorem dksX3_generateErrorCorrection_6 : cX3_generateErrorCorrection.data.toList.drop 141 = dktX3_generateErrorCorrection_6 := dk_seg dksX3_generateErrorCorrection_5 24 rfl rfl
theorem dksX3_generateErrorCorrection_7 : cX3_generateErrorCorrection.data.toList.drop 165 = dktX3_generateErrorCorrection_7 := dk_seg dksX3_generateErrorCorrection_6 24 rfl rfl
theorem dksX3_generateErrorCorrection_8 : cX3_generateErrorCorrection.data.toList.drop 188 = dktX3_generateErrorCorrection_8 := dk_seg dksX3_generateErrorCorrection_7 23 rfl rfl
theorem dX3_generateErrorCorrection_0 : decode cX3_generateErrorCorrection 0 = .ok (.iload_n 1, 1) := dk_27 (dk_at dksX3_generateErrorCorrection_0 0 rfl rfl)
theorem dX3_generateErrorCorrection_1 : decode cX3_generateErrorCorrection 1 = .ok (.invokestatic 9, 3) := dk_184 0 9 (dk_at dksX3_generateErrorCorrection_0 1 rfl rfl)
theorem dX3_generateErrorCorrection_4 : decode cX3_generateErrorCorrection 4 = .ok (.istore_n 2, 1) := dk_61 (dk_at dksX3_generateErrorCorrection_0 4 rfl rfl)
theorem dX3_generateErrorCorrection_5 : decode cX3_generateErrorCorrection 5 = .ok (.iload_n 2, 1) := dk_28 (dk_at dksX3_generateErrorCorrection_0 5 rfl rfl)
theorem dX3_generateErrorCorrection_6 : decode cX3_generateErrorCorrection 6 = .ok (.newarray .char, 2) := dk_188_5 (dk_at dksX3_generateErrorCorrection_0 6 rfl rfl)
theorem dX3_generateErrorCorrection_8 : decode cX3_generateErrorCorrection 8 = .ok (.astore_n 3, 1) := dk_78 (dk_at dksX3_generateErrorCorrection_0 8 rfl rfl)
theorem dX3_generateErrorCorrection_9 : decode cX3_generateErrorCorrection 9 = .ok (.aload_n 0, 1) := dk_42 (dk_at dksX3_generateErrorCorrection_0 9 rfl rfl)
theorem dX3_generateErrorCorrection_10 : decode cX3_generateErrorCorrection 10 = .ok (.invokeinterface 15 1, 5) := by decide +kernel
theorem dX3_generateErrorCorrection_15 : decode cX3_generateErrorCorrection 15 = .ok (.istore 4, 2) := dk_54 4 (dk_at dksX3_generateErrorCorrection_0 15 rfl rfl)
theorem dX3_generateErrorCorrection_17 : decode cX3_generateErrorCorrection 17 = .ok (.iconst 0, 1) := dk_3 (dk_at dksX3_generateErrorCorrection_0 17 rfl rfl)
theorem dX3_generateErrorCorrection_18 : decode cX3_generateErrorCorrection 18 = .ok (.istore 5, 2) := dk_54 5 (dk_at dksX3_generateErrorCorrection_0 18 rfl rfl)
theorem dX3_generateErrorCorrection_20 : decode cX3_generateErrorCorrection 20 = .ok (.iload 5, 2) := dk_21 5 (dk_at dksX3_generateErrorCorrection_0 20 rfl rfl)
theorem dX3_generateErrorCorrection_22 : decode cX3_generateErrorCorrection 22 = .ok (.iload 4, 2) := dk_21 4 (dk_at dksX3_generateErrorCorrection_0 22 rfl rfl)
theorem dX3_generateErrorCorrection_24 : decode cX3_generateErrorCorrection 24 = .ok (.if_icmp .ge 124, 3) := dk_162 0 124 (dk_at dksX3_generateErrorCorrection_1 0 rfl rfl)
theorem dX3_generateErrorCorrection_27 : decode cX3_generateErrorCorrection 27 = .ok (.aload_n 0, 1) := dk_42 (dk_at dksX3_generateErrorCorrection_1 3 rfl rfl)
theorem dX3_generateErrorCorrection_28 : decode cX3_generateErrorCorrection 28 = .ok (.iload 5, 2) := dk_21 5 (dk_at dksX3_generateErrorCorrection_1 4 rfl rfl)
theorem dX3_generateErrorCorrection_30 : decode cX3_generateErrorCorrection 30 = .ok (.invokeinterface 21 2, 5) := by decide +kernel
theorem dX3_generateErrorCorrection_35 : decode cX3_generateErrorCorrection 35 = .ok (.aload_n 3, 1) := dk_45 (dk_at dksX3_generateErrorCorrection_1 11 rfl rfl)
theorem dX3_generateErrorCorrection_36 : decode cX3_generateErrorCorrection 36 = .ok (.aload_n 3, 1) := dk_45 (dk_at dksX3_generateErrorCorrection_1 12 rfl rfl)
theorem dX3_generateErrorCorrection_37 : decode cX3_generateErrorCorrection 37 = .ok (.arraylength, 1) := dk_190 (dk_at dksX3_generateErrorCorrection_1 13 rfl rfl)
theorem dX3_generateErrorCorrection_38 : decode cX3_generateErrorCorrection 38 = .ok (.iconst 1, 1) := dk_4 (dk_at dksX3_generateErrorCorrection_1 14 rfl rfl)
theorem dX3_generateErrorCorrection_39 : decode cX3_generateErrorCorrection 39 = .ok (.isub, 1) := dk_100 (dk_at dksX3_generateErrorCorrection_1 15 rfl rfl)
theorem dX3_generateErrorCorrection_40 : decode cX3_generateErrorCorrection 40 = .ok (.caload, 1) := dk_52 (dk_at dksX3_generateErrorCorrection_1 16 rfl rfl)
theorem dX3_generateErrorCorrection_41 : decode cX3_generateErrorCorrection 41 = .ok (.iadd, 1) := dk_96 (dk_at dksX3_generateErrorCorrection_1 17 rfl rfl)
theorem dX3_generateErrorCorrection_42 : decode cX3_generateErrorCorrection 42 = .ok (.sipush 929, 3) := dk_17 3 161 (dk_at dksX3_generateErrorCorrection_1 18 rfl rfl)
theorem dX3_generateErrorCorrection_45 : decode cX3_generateErrorCorrection 45 = .ok (.irem, 1) := dk_112 (dk_at dksX3_generateErrorCorrection_1 21 rfl rfl)
theorem dX3_generateErrorCorrection_46 : decode cX3_generateErrorCorrection 46 = .ok (.istore 6, 2) := dk_54 6 (dk_at dksX3_generateErrorCorrection_1 22 rfl rfl)
theorem dX3_generateErrorCorrection_48 : decode cX3_generateErrorCorrection 48 = .ok (.iload_n 2, 1) := dk_28 (dk_at dksX3_generateErrorCorrection_2 0 rfl rfl)
theorem dX3_generateErrorCorrection_49 : decode cX3_generateErrorCorrection 49 = .ok (.iconst 1, 1) := dk_4 (dk_at dksX3_generateErrorCorrection_2 1 rfl rfl)
theorem dX3_generateErrorCorrection_50 : decode cX3_generateErrorCorrection 50 = .ok (.isub, 1) := dk_100 (dk_at dksX3_generateErrorCorrection_2 2 rfl rfl)
theorem dX3_generateErrorCorrection_51 : decode cX3_generateErrorCorrection 51 = .ok (.istore 9, 2) := dk_54 9 (dk_at dksX3_generateErrorCorrection_2 3 rfl rfl)
theorem dX3_generateErrorCorrection_53 : decode cX3_generateErrorCorrection 53 = .ok (.iload 9, 2) := dk_21 9 (dk_at dksX3_generateErrorCorrection_2 5 rfl rfl)
theorem dX3_generateErrorCorrection_55 : decode cX3_generateErrorCorrection 55 = .ok (.iconst 1, 1) := dk_4 (dk_at dksX3_generateErrorCorrection_2 7 rfl rfl)
theorem dX3_generateErrorCorrection_56 : decode cX3_generateErrorCorrection 56 = .ok (.if_icmp .lt 52, 3) := dk_161 0 52 (dk_at dksX3_generateErrorCorrection_2 8 rfl rfl)
theorem dX3_generateErrorCorrection_59 : decode cX3_generateErrorCorrection 59 = .ok (.iload 6, 2) := dk_21 6 (dk_at dksX3_generateErrorCorrection_2 11 rfl rfl)
theorem dX3_generateErrorCorrection_61 : decode cX3_generateErrorCorrection 61 = .ok (.getstatic 25, 3) := dk_178 0 25 (dk_at dksX3_generateErrorCorrection_2 13 rfl rfl)
theorem dX3_generateErrorCorrection_64 : decode cX3_generateErrorCorrection 64 = .ok (.iload_n 1, 1) := dk_27 (dk_at dksX3_generateErrorCorrection_2 16 rfl rfl)
theorem dX3_generateErrorCorrection_65 : decode cX3_generateErrorCorrection 65 = .ok (.aaload, 1) := dk_50 (dk_at dksX3_generateErrorCorrection_2 17 rfl rfl)
theorem dX3_generateErrorCorrection_66 : decode cX3_generateErrorCorrection 66 = .ok (.iload 9, 2) := dk_21 9 (dk_at dksX3_generateErrorCorrection_2 18 rfl rfl)
theorem dX3_generateErrorCorrection_68 : decode cX3_generateErrorCorrection 68 = .ok (.iaload, 1) := dk_46 (dk_at dksX3_generateErrorCorrection_2 20 rfl rfl)
theorem dX3_generateErrorCorrection_69 : decode cX3_generateErrorCorrection 69 = .ok (.imul, 1) := dk_104 (dk_at dksX3_generateErrorCorrection_2 21 rfl rfl)
theorem dX3_generateErrorCorrection_70 : decode cX3_generateErrorCorrection 70 = .ok (.sipush 929, 3) := dk_17 3 161 (dk_at dksX3_generateErrorCorrection_3 0 rfl rfl)
theorem dX3_generateErrorCorrection_73 : decode cX3_generateErrorCorrection 73 = .ok (.irem, 1) := dk_112 (dk_at dksX3_generateErrorCorrection_3 3 rfl rfl)
theorem dX3_generateErrorCorrection_74 : decode cX3_generateErrorCorrection 74 = .ok (.istore 7, 2) := dk_54 7 (dk_at dksX3_generateErrorCorrection_3 4 rfl rfl)
theorem dX3_generateErrorCorrection_76 : decode cX3_generateErrorCorrection 76 = .ok (.sipush 929, 3) := dk_17 3 161 (dk_at dksX3_generateErrorCorrection_3 6 rfl rfl)
theorem dX3_generateErrorCorrection_79 : decode cX3_generateErrorCorrection 79 = .ok (.iload 7, 2) := dk_21 7 (dk_at dksX3_generateErrorCorrection_3 9 rfl rfl)
theorem dX3_generateErrorCorrection_81 : decode cX3_generateErrorCorrection 81 = .ok (.isub, 1) := dk_100 (dk_at dksX3_generateErrorCorrection_3 11 rfl rfl)
theorem dX3_generateErrorCorrection_82 : decode cX3_generateErrorCorrection 82 = .ok (.istore 8, 2) := dk_54 8 (dk_at dksX3_generateErrorCorrection_3 12 rfl rfl)
theorem dX3_generateErrorCorrection_84 : decode cX3_generateErrorCorrection 84 = .ok (.aload_n 3, 1) := dk_45 (dk_at dksX3_generateErrorCorrection_3 14 rfl rfl)
theorem dX3_generateErrorCorrection_85 : decode cX3_generateErrorCorrection 85 = .ok (.iload 9, 2) := dk_21 9 (dk_at dksX3_generateErrorCorrection_3 15 rfl rfl)
theorem dX3_generateErrorCorrection_87 : decode cX3_generateErrorCorrection 87 = .ok (.aload_n 3, 1) := dk_45 (dk_at dksX3_generateErrorCorrection_3 17 rfl rfl)
theorem dX3_generateErrorCorrection_88 : decode cX3_generateErrorCorrection 88 = .ok (.iload 9, 2) := dk_21 9 (dk_at dksX3_generateErrorCorrection_3 18 rfl rfl)
theorem dX3_generateErrorCorrection_90 : decode cX3_generateErrorCorrection 90 = .ok (.iconst 1, 1) := dk_4 (dk_at dksX3_generateErrorCorrection_3 20 rfl rfl)
theorem dX3_generateErrorCorrection_91 : decode cX3_generateErrorCorrection 91 = .ok (.isub, 1) := dk_100 (dk_at dksX3_generateErrorCorrection_3 21 rfl rfl)
theorem dX3_generateErrorCorrection_92 : decode cX3_generateErrorCorrection 92 = .ok (.caload, 1) := dk_52 (dk_at dksX3_generateErrorCorrection_3 22 rfl rfl)
theorem dX3_generateErrorCorrection_93 : decode cX3_generateErrorCorrection 93 = .ok (.iload 8, 2) := dk_21 8 (dk_at dksX3_generateErrorCorrection_4 0 rfl rfl)
theorem dX3_generateErrorCorrection_95 : decode cX3_generateErrorCorrection 95 = .ok (.iadd, 1) := dk_96 (dk_at dksX3_generateErrorCorrection_4 2 rfl rfl)
theorem dX3_generateErrorCorrection_96 : decode cX3_generateErrorCorrection 96 = .ok (.sipush 929, 3) := dk_17 3 161 (dk_at dksX3_generateErrorCorrection_4 3 rfl rfl)
theorem dX3_generateErrorCorrection_99 : decode cX3_generateErrorCorrection 99 = .ok (.irem, 1) := dk_112 (dk_at dksX3_generateErrorCorrection_4 6 rfl rfl)
theorem dX3_generateErrorCorrection_100 : decode cX3_generateErrorCorrection 100 = .ok (.i2c, 1) := dk_146 (dk_at dksX3_generateErrorCorrection_4 7 rfl rfl)
theorem dX3_generateErrorCorrection_101 : decode cX3_generateErrorCorrection 101 = .ok (.castore, 1) := dk_85 (dk_at dksX3_generateErrorCorrection_4 8 rfl rfl)
theorem dX3_generateErrorCorrection_102 : decode cX3_generateErrorCorrection 102 = .ok (.iinc 9 (-1), 3) := dk_132 9 255 (dk_at dksX3_generateErrorCorrection_4 9 rfl rfl)
theorem dX3_generateErrorCorrection_105 : decode cX3_generateErrorCorrection 105 = .ok (.goto (-52), 3) := dk_167 255 204 (dk_at dksX3_generateErrorCorrection_4 12 rfl rfl)
theorem dX3_generateErrorCorrection_108 : decode cX3_generateErrorCorrection 108 = .ok (.iload 6, 2) := dk_21 6 (dk_at dksX3_generateErrorCorrection_4 15 rfl rfl)
theorem dX3_generateErrorCorrection_110 : decode cX3_generateErrorCorrection 110 = .ok (.getstatic 25, 3) := dk_178 0 25 (dk_at dksX3_generateErrorCorrection_4 17 rfl rfl)
theorem dX3_generateErrorCorrection_113 : decode cX3_generateErrorCorrection 113 = .ok (.iload_n 1, 1) := dk_27 (dk_at dksX3_generateErrorCorrection_4 20 rfl rfl)
theorem dX3_generateErrorCorrection_114 : decode cX3_generateErrorCorrection 114 = .ok (.aaload, 1) := dk_50 (dk_at dksX3_generateErrorCorrection_4 21 rfl rfl)
theorem dX3_generateErrorCorrection_115 : decode cX3_generateErrorCorrection 115 = .ok (.iconst 0, 1) := dk_3 (dk_at dksX3_generateErrorCorrection_4 22 rfl rfl)
theorem dX3_generateErrorCorrection_116 : decode cX3_generateErrorCorrection 116 = .ok (.iaload, 1) := dk_46 (dk_at dksX3_generateErrorCorrection_4 23 rfl rfl)
theorem dX3_generateErrorCorrection_117 : decode cX3_generateErrorCorrection 117 = .ok (.imul, 1) := dk_104 (dk_at dksX3_generateErrorCorrection_5 0 rfl rfl)
theorem dX3_generateErrorCorrection_118 : decode cX3_generateErrorCorrection 118 = .ok (.sipush 929, 3) := dk_17 3 161 (dk_at dksX3_generateErrorCorrection_5 1 rfl rfl)
theorem dX3_generateErrorCorrection_121 : decode cX3_generateErrorCorrection 121 = .ok (.irem, 1) := dk_112 (dk_at dksX3_generateErrorCorrection_5 4 rfl rfl)
theorem dX3_generateErrorCorrection_122 : decode cX3_generateErrorCorrection 122 = .ok (.istore 7, 2) := dk_54 7 (dk_at dksX3_generateErrorCorrection_5 5 rfl rfl)
theorem dX3_generateErrorCorrection_124 : decode cX3_generateErrorCorrection 124 = .ok (.sipush 929, 3) := dk_17 3 161 (dk_at dksX3_generateErrorCorrection_5 7 rfl rfl)
theorem dX3_generateErrorCorrection_127 : decode cX3_generateErrorCorrection 127 = .ok (.iload 7, 2) := dk_21 7 (dk_at dksX3_generateErrorCorrection_5 10 rfl rfl)
theorem dX3_generateErrorCorrection_129 : decode cX3_generateErrorCorrection 129 = .ok (.isub, 1) := dk_100 (dk_at dksX3_generateErrorCorrection_5 12 rfl rfl)
theorem dX3_generateErrorCorrection_130 : decode cX3_generateErrorCorrection 130 = .ok (.istore 8, 2) := dk_54 8 (dk_at dksX3_generateErrorCorrection_5 13 rfl rfl)
theorem dX3_generateErrorCorrection_132 : decode cX3_generateErrorCorrection 132 = .ok (.aload_n 3, 1) := dk_45 (dk_at dksX3_generateErrorCorrection_5 15 rfl rfl)
theorem dX3_generateErrorCorrection_133 : decode cX3_generateErrorCorrection 133 = .ok (.iconst 0, 1) := dk_3 (dk_at dksX3_generateErrorCorrection_5 16 rfl rfl)
theorem dX3_generateErrorCorrection_134 : decode cX3_generateErrorCorrection 134 = .ok (.iload 8, 2) := dk_21 8 (dk_at dksX3_generateErrorCorrection_5 17 rfl rfl)
theorem dX3_generateErrorCorrection_136 : decode cX3_generateErrorCorrection 136 = .ok (.sipush 929, 3) := dk_17 3 161 (dk_at dksX3_generateErrorCorrection_5 19 rfl rfl)
theorem dX3_generateErrorCorrection_139 : decode cX3_generateErrorCorrection 139 = .ok (.irem, 1) := dk_112 (dk_at dksX3_generateErrorCorrection_5 22 rfl rfl)
theorem dX3_generateErrorCorrection_140 : decode cX3_generateErrorCorrection 140 = .ok (.i2c, 1) := dk_146 (dk_at dksX3_generateErrorCorrection_5 23 rfl rfl)
theorem dX3_generateErrorCorrection_141 : decode cX3_generateErrorCorrection 141 = .ok (.castore, 1) := dk_85 (dk_at dksX3_generateErrorCorrection_6 0 rfl rfl)
theorem dX3_generateErrorCorrection_142 : decode cX3_generateErrorCorrection 142 = .ok (.iinc 5 1, 3) := dk_132 5 1 (dk_at dksX3_generateErrorCorrection_6 1 rfl rfl)
theorem dX3_generateErrorCorrection_145 : decode cX3_generateErrorCorrection 145 = .ok (.goto (-125), 3) := dk_167 255 131 (dk_at dksX3_generateErrorCorrection_6 4 rfl rfl)
theorem dX3_generateErrorCorrection_148 : decode cX3_generateErrorCorrection 148 = .ok (.new 29, 3) := dk_187 0 29 (dk_at dksX3_generateErrorCorrection_6 7 rfl rfl)
theorem dX3_generateErrorCorrection_151 : decode cX3_generateErrorCorrection 151 = .ok (.dup, 1) := dk_89 (dk_at dksX3_generateErrorCorrection_6 10 rfl rfl)
theorem dX3_generateErrorCorrection_152 : decode cX3_generateErrorCorrection 152 = .ok (.iload_n 2, 1) := dk_28 (dk_at dksX3_generateErrorCorrection_6 11 rfl rfl)
theorem dX3_generateErrorCorrection_153 : decode cX3_generateErrorCorrection 153 = .ok (.invokespecial 31, 3) := dk_183 0 31 (dk_at dksX3_generateErrorCorrection_6 12 rfl rfl)
theorem dX3_generateErrorCorrection_156 : decode cX3_generateErrorCorrection 156 = .ok (.astore 5, 2) := dk_58 5 (dk_at dksX3_generateErrorCorrection_6 15 rfl rfl)
theorem dX3_generateErrorCorrection_158 : decode cX3_generateErrorCorrection 158 = .ok (.iload_n 2, 1) := dk_28 (dk_at dksX3_generateErrorCorrection_6 17 rfl rfl)
theorem dX3_generateErrorCorrection_159 : decode cX3_generateErrorCorrection 159 = .ok (.iconst 1, 1) := dk_4 (dk_at dksX3_generateErrorCorrection_6 18 rfl rfl)
theorem dX3_generateErrorCorrection_160 : decode cX3_generateErrorCorrection 160 = .ok (.isub, 1) := dk_100 (dk_at dksX3_generateErrorCorrection_6 19 rfl rfl)
theorem dX3_generateErrorCorrection_161 : decode cX3_generateErrorCorrection 161 = .ok (.istore 6, 2) := dk_54 6 (dk_at dksX3_generateErrorCorrection_6 20 rfl rfl)
theorem dX3_generateErrorCorrection_163 : decode cX3_generateErrorCorrection 163 = .ok (.iload 6, 2) := dk_21 6 (dk_at dksX3_generateErrorCorrection_6 22 rfl rfl)
theorem dX3_generateErrorCorrection_165 : decode cX3_generateErrorCorrection 165 = .ok (.ifCond .lt 39, 3) := dk_155 0 39 (dk_at dksX3_generateErrorCorrection_7 0 rfl rfl)
theorem dX3_generateErrorCorrection_168 : decode cX3_generateErrorCorrection 168 = .ok (.aload_n 3, 1) := dk_45 (dk_at dksX3_generateErrorCorrection_7 3 rfl rfl)
theorem dX3_generateErrorCorrection_169 : decode cX3_generateErrorCorrection 169 = .ok (.iload 6, 2) := dk_21 6 (dk_at dksX3_generateErrorCorrection_7 4 rfl rfl)
theorem dX3_generateErrorCorrection_171 : decode cX3_generateErrorCorrection 171 = .ok (.caload, 1) := dk_52 (dk_at dksX3_generateErrorCorrection_7 6 rfl rfl)
theorem dX3_generateErrorCorrection_172 : decode cX3_generateErrorCorrection 172 = .ok (.ifCond .eq 16, 3) := dk_153 0 16 (dk_at dksX3_generateErrorCorrection_7 7 rfl rfl)
theorem dX3_generateErrorCorrection_175 : decode cX3_generateErrorCorrection 175 = .ok (.aload_n 3, 1) := dk_45 (dk_at dksX3_generateErrorCorrection_7 10 rfl rfl)
theorem dX3_generateErrorCorrection_176 : decode cX3_generateErrorCorrection 176 = .ok (.iload 6, 2) := dk_21 6 (dk_at dksX3_generateErrorCorrection_7 11 rfl rfl)
theorem dX3_generateErrorCorrection_178 : decode cX3_generateErrorCorrection 178 = .ok (.sipush 929, 3) := dk_17 3 161 (dk_at dksX3_generateErrorCorrection_7 13 rfl rfl)
theorem dX3_generateErrorCorrection_181 : decode cX3_generateErrorCorrection 181 = .ok (.aload_n 3, 1) := dk_45 (dk_at dksX3_generateErrorCorrection_7 16 rfl rfl)
theorem dX3_generateErrorCorrection_182 : decode cX3_generateErrorCorrection 182 = .ok (.iload 6, 2) := dk_21 6 (dk_at dksX3_generateErrorCorrection_7 17 rfl rfl)
theorem dX3_generateErrorCorrection_184 : decode cX3_generateErrorCorrection 184 = .ok (.caload, 1) := dk_52 (dk_at dksX3_generateErrorCorrection_7 19 rfl rfl)
theorem dX3_generateErrorCorrection_185 : decode cX3_generateErrorCorrection 185 = .ok (.isub, 1) := dk_100 (dk_at dksX3_generateErrorCorrection_7 20 rfl rfl)
theorem dX3_generateErrorCorrection_186 : decode cX3_generateErrorCorrection 186 = .ok (.i2c, 1) := dk_146 (dk_at dksX3_generateErrorCorrection_7 21 rfl rfl)
theorem dX3_generateErrorCorrection_187 : decode cX3_generateErrorCorrection 187 = .ok (.castore, 1) := dk_85 (dk_at dksX3_generateErrorCorrection_7 22 rfl rfl)
theorem dX3_generateErrorCorrection_188 : decode cX3_generateErrorCorrection 188 = .ok (.aload 5, 2) := dk_25 5 (dk_at dksX3_generateErrorCorrection_8 0 rfl rfl)
theorem dX3_generateErrorCorrection_190 : decode cX3_generateErrorCorrection 190 = .ok (.aload_n 3, 1) := dk_45 (dk_at dksX3_generateErrorCorrection_8 2 rfl rfl)
theorem dX3_generateErrorCorrection_191 : decode cX3_generateErrorCorrection 191 = .ok (.iload 6, 2) := dk_21 6 (dk_at dksX3_generateErrorCorrection_8 3 rfl rfl)
theorem dX3_generateErrorCorrection_193 : decode cX3_generateErrorCorrection 193 = .ok (.caload, 1) := dk_52 (dk_at dksX3_generateErrorCorrection_8 5 rfl rfl)
theorem dX3_generateErrorCorrection_194 : decode cX3_generateErrorCorrection 194 = .ok (.invokevirtual 34, 3) := dk_182 0 34 (dk_at dksX3_generateErrorCorrection_8 6 rfl rfl)
theorem dX3_generateErrorCorrection_197 : decode cX3_generateErrorCorrection 197 = .ok (.pop, 1) := dk_87 (dk_at dksX3_generateErrorCorrection_8 9 rfl rfl)
theorem dX3_generateErrorCorrection_198 : decode cX3_generateErrorCorrection 198 = .ok (.iinc 6 (-1), 3) := dk_132 6 255 (dk_at dksX3_generateErrorCorrection_8 10 rfl rfl)
theorem dX3_generateErrorCorrection_201 : decode cX3_generateErrorCorrection 201 = .ok (.goto (-38), 3) := dk_167 255 218 (dk_at dksX3_generateErrorCorrection_8 13 rfl rfl)
theorem dX3_generateErrorCorrection_204 : decode cX3_generateErrorCorrection 204 = .ok (.aload 5, 2) := dk_25 5 (dk_at dksX3_generateErrorCorrection_8 16 rfl rfl)
theorem dX3_generateErrorCorrection_206 : decode cX3_generateErrorCorrection 206 = .ok (.invokevirtual 38, 3) := dk_182 0 38 (dk_at dksX3_generateErrorCorrection_8 18 rfl rfl)
theorem dX3_generateErrorCorrection_209 : decode cX3_generateErrorCorrection 209 = .ok (.areturn, 1) := dk_176 (dk_at dksX3_generateErrorCorrection_8 21 rfl rfl)
theorem q8 : (Jvm.Cond.initialized "PDF417ErrorCorrection") ∈ lw_all := lw_g (lw_at lw_m1 7 rfl) rfl
theorem q127 : (Jvm.Cond.static ({ cls := "PDF417ErrorCorrection", name := "getErrorCorrectionCodewordCount", desc := "(I)I" } : Jvm.MethodName)) ∈ lw_all := lw_g (lw_at lw_m1 126 rfl) rfl
theorem q128 : (Jvm.Cond.code ({ cls := "PDF417ErrorCorrection", name := "getErrorCorrectionCodewordCount", desc := "(I)I" } : Jvm.MethodName) prog_1_method_1_code (1 : Nat) (Option.some Jvm.ClassFile.FieldType.int)) ∈ lw_all := lw_g (lw_at lw_m1 127 rfl) rfl
theorem q129 : (Jvm.Cond.classLink "PDF417ErrorCorrection" (1 : Nat) "java/lang/IllegalArgumentException") ∈ lw_all := lw_g (lw_at lw_m1 128 rfl) rfl
theorem q168 : (Jvm.Cond.stringRef "PDF417ErrorCorrection" (3 : Nat) "Error correction level must be between 0 and 8!") ∈ lw_tbl := lw_at lw_m1 167 rfl
theorem q169 : (Jvm.Cond.methodLink "PDF417ErrorCorrection" (5 : Nat) ({ cls := "java/lang/IllegalArgumentException", name := "<init>", desc := "(Ljava/lang/String;)V" } : Jvm.MethodName)) ∈ lw_all := lw_g (lw_at lw_m1 168 rfl) rfl
theorem q259 : (Jvm.Cond.static ({ cls := "PDF417ErrorCorrection", name := "generateErrorCorrection", desc := "(Ljava/lang/CharSequence;I)Ljava/lang/String;" } : Jvm.MethodName)) ∈ lw_all := lw_g (lw_at lw_m2 18 rfl) rfl
theorem q260 : (Jvm.Cond.code ({ cls := "PDF417ErrorCorrection", name := "generateErrorCorrection", desc := "(Ljava/lang/CharSequence;I)Ljava/lang/String;" } : Jvm.MethodName) prog_1_method_2_code (10 : Nat) (Option.some (Jvm.ClassFile.FieldType.object "java/lang/String"))) ∈ lw_all := lw_g (lw_at lw_m2 19 rfl) rfl
theorem q261 : (Jvm.Cond.methodLink "PDF417ErrorCorrection" (9 : Nat) ({ cls := "PDF417ErrorCorrection", name := "getErrorCorrectionCodewordCount", desc := "(I)I" } : Jvm.MethodName)) ∈ lw_all := lw_g (lw_at lw_m2 20 rfl) rfl
theorem q262 : (Jvm.Cond.interfaceEntry "PDF417ErrorCorrection" (15 : Nat)) ∈ lw_tbl := lw_at lw_m2 21 rfl
theorem q263 : (Jvm.Cond.methodLink "PDF417ErrorCorrection" (15 : Nat) ({ cls := "java/lang/CharSequence", name := "length", desc := "()I" } : Jvm.MethodName)) ∈ lw_all := lw_g (lw_at lw_m2 22 rfl) rfl
theorem q280 : (Jvm.Cond.interfaceEntry "PDF417ErrorCorrection" (21 : Nat)) ∈ lw_tbl := lw_at lw_m2 39 rfl
theorem q281 : (Jvm.Cond.methodLink "PDF417ErrorCorrection" (21 : Nat) ({ cls := "java/lang/CharSequence", name := "charAt", desc := "(I)C" } : Jvm.MethodName)) ∈ lw_all := lw_g (lw_at lw_m2 40 rfl) rfl
theorem q300 : (Jvm.Cond.fieldLink "PDF417ErrorCorrection" (25 : Nat) "PDF417ErrorCorrection" "EC_COEFFICIENTS" "[[I") ∈ lw_all := lw_g (lw_at lw_m2 59 rfl) rfl
theorem q301 : (Jvm.Cond.laysStatic "PDF417ErrorCorrection" "EC_COEFFICIENTS" "[[I") ∈ lw_tbl := lw_at lw_m2 60 rfl
theorem q302 : (Jvm.Cond.classLink "PDF417ErrorCorrection" (29 : Nat) "java/lang/StringBuilder") ∈ lw_all := lw_g (lw_at lw_m2 61 rfl) rfl
theorem q304 : (Jvm.Cond.methodLink "PDF417ErrorCorrection" (31 : Nat) ({ cls := "java/lang/StringBuilder", name := "<init>", desc := "(I)V" } : Jvm.MethodName)) ∈ lw_all := lw_g (lw_at lw_m2 63 rfl) rfl
theorem q325 : (Jvm.Cond.methodLink "PDF417ErrorCorrection" (34 : Nat) ({ cls := "java/lang/StringBuilder", name := "append", desc := "(C)Ljava/lang/StringBuilder;" } : Jvm.MethodName)) ∈ lw_all := lw_g (lw_at lw_m2 84 rfl) rfl
theorem q386 : (Jvm.Cond.methodLink "PDF417ErrorCorrection" (38 : Nat) ({ cls := "java/lang/StringBuilder", name := "toString", desc := "()Ljava/lang/String;" } : Jvm.MethodName)) ∈ lw_all := lw_g (lw_at lw_m2 145 rfl) rfl

/-! the law's own entry -/
set_option maxRecDepth 100000
abbrev cL_law : ByteArray := code
def dkwL_law_12 : List UInt8 := [3, 172, 132, 4, 1, 167, 255, 115, 4, 172]
abbrev dktL_law_12 : List UInt8 := dkwL_law_12 ++ []
def dkwL_law_11 : List UInt8 := [21, 4, 104, 96, 184, 0, 42, 54, 6, 43, 44, 21, 6, 16, 7, 126, 21, 6, 184, 0, 46, 154, 0, 5]
abbrev dktL_law_11 : List UInt8 := dkwL_law_11 ++ dktL_law_12
def dkwL_law_10 : List UInt8 := [16, 74, 16, 6, 21, 4, 104, 96, 184, 0, 42, 184, 0, 50, 154, 0, 5, 3, 172, 42, 16, 75, 16, 6]
abbrev dktL_law_10 : List UInt8 := dkwL_law_10 ++ dktL_law_11
def dkwL_law_9 : List UInt8 := [184, 0, 42, 184, 0, 50, 153, 0, 35, 43, 44, 42, 16, 73, 16, 6, 21, 4, 104, 96, 184, 0, 42, 42]
abbrev dktL_law_9 : List UInt8 := dkwL_law_9 ++ dktL_law_10
def dkwL_law_8 : List UInt8 := [44, 42, 16, 71, 16, 6, 21, 4, 104, 96, 184, 0, 42, 42, 16, 72, 16, 6, 21, 4, 104, 96]
abbrev dktL_law_8 : List UInt8 := dkwL_law_8 ++ dktL_law_9
def dkwL_law_7 : List UInt8 := [54, 5, 43, 21, 5, 182, 0, 53, 44, 21, 5, 44, 180, 0, 20, 4, 96, 184, 0, 34, 181, 0, 20, 43]
abbrev dktL_law_7 : List UInt8 := dkwL_law_7 ++ dktL_law_8
def dkwL_law_6 : List UInt8 := [167, 255, 232, 3, 54, 4, 21, 4, 7, 162, 0, 141, 42, 16, 70, 16, 6, 21, 4, 104, 96, 184, 0, 42]
abbrev dktL_law_6 : List UInt8 := dkwL_law_6 ++ dktL_law_7
def dkwL_law_5 : List UInt8 := [21, 4, 16, 8, 162, 0, 23, 43, 44, 21, 4, 21, 4, 184, 0, 46, 154, 0, 5, 3, 172, 132, 4, 1]
abbrev dktL_law_5 : List UInt8 := dkwL_law_5 ++ dktL_law_6
def dkwL_law_4 : List UInt8 := [21, 4, 104, 96, 184, 0, 42, 184, 0, 50, 154, 0, 5, 3, 172, 132, 4, 1, 167, 255, 217, 3, 54, 4]
abbrev dktL_law_4 : List UInt8 := dkwL_law_4 ++ dktL_law_5
def dkwL_law_3 : List UInt8 := [3, 54, 4, 21, 4, 29, 162, 0, 39, 43, 44, 42, 5, 5, 21, 4, 104, 96, 184, 0, 42, 42, 6, 5]
abbrev dktL_law_3 : List UInt8 := dkwL_law_3 ++ dktL_law_4
def dkwL_law_2 : List UInt8 := [16, 8, 184, 0, 34, 184, 0, 46, 154, 0, 5, 3, 172, 42, 4, 184, 0, 42, 16, 34, 184, 0, 34, 62]
abbrev dktL_law_2 : List UInt8 := dkwL_law_2 ++ dktL_law_3
def dkwL_law_1 : List UInt8 := [182, 0, 17, 2, 160, 0, 31, 43, 44, 42, 3, 184, 0, 42, 16, 8, 184, 0, 34, 42, 3, 184, 0, 42]
abbrev dktL_law_1 : List UInt8 := dkwL_law_1 ++ dktL_law_2
def dkwL_law_0 : List UInt8 := [187, 0, 9, 89, 183, 0, 40, 76, 187, 0, 21, 89, 183, 0, 41, 77, 43, 42, 3, 184, 0, 42]
abbrev dktL_law_0 : List UInt8 := dkwL_law_0 ++ dktL_law_1
theorem dksL_law_0 : cL_law.data.toList.drop 0 = dktL_law_0 := by decide +kernel
theorem dksL_law_1 : cL_law.data.toList.drop 22 = dktL_law_1 := dk_seg dksL_law_0 22 rfl rfl
theorem dksL_law_2 : cL_law.data.toList.drop 46 = dktL_law_2 := dk_seg dksL_law_1 24 rfl rfl
theorem dksL_law_3 : cL_law.data.toList.drop 70 = dktL_law_3 := dk_seg dksL_law_2 24 rfl rfl
theorem dksL_law_4 : cL_law.data.toList.drop 94 = dktL_law_4 := dk_seg dksL_law_3 24 rfl rfl
theorem dksL_law_5 : cL_law.data.toList.drop 118 = dktL_law_5 := dk_seg dksL_law_4 24 rfl rfl
theorem dksL_law_6 : cL_law.data.toList.drop 142 = dktL_law_6 := dk_seg dksL_law_5 24 rfl rfl
theorem dksL_law_7 : cL_law.data.toList.drop 166 = dktL_law_7 := dk_seg dksL_law_6 24 rfl rfl
theorem dksL_law_8 : cL_law.data.toList.drop 190 = dktL_law_8 := dk_seg dksL_law_7 24 rfl rfl
theorem dksL_law_9 : cL_law.data.toList.drop 212 = dktL_law_9 := dk_seg dksL_law_8 22 rfl rfl
theorem dksL_law_10 : cL_law.data.toList.drop 236 = dktL_law_10 := dk_seg dksL_law_9 24 rfl rfl
theorem dksL_law_11 : cL_law.data.toList.drop 260 = dktL_law_11 := dk_seg dksL_law_10 24 rfl rfl
theorem dksL_law_12 : cL_law.data.toList.drop 284 = dktL_law_12 := dk_seg dksL_law_11 24 rfl rfl
theorem dL_law_0 : decode cL_law 0 = .ok (.new 9, 3) := dk_187 0 9 (dk_at dksL_law_0 0 rfl rfl)
theorem dL_law_3 : decode cL_law 3 = .ok (.dup, 1) := dk_89 (dk_at dksL_law_0 3 rfl rfl)
theorem dL_law_4 : decode cL_law 4 = .ok (.invokespecial 40, 3) := dk_183 0 40 (dk_at dksL_law_0 4 rfl rfl)
theorem dL_law_7 : decode cL_law 7 = .ok (.astore_n 1, 1) := dk_76 (dk_at dksL_law_0 7 rfl rfl)
theorem dL_law_8 : decode cL_law 8 = .ok (.new 21, 3) := dk_187 0 21 (dk_at dksL_law_0 8 rfl rfl)
theorem dL_law_11 : decode cL_law 11 = .ok (.dup, 1) := dk_89 (dk_at dksL_law_0 11 rfl rfl)
theorem dL_law_12 : decode cL_law 12 = .ok (.invokespecial 41, 3) := dk_183 0 41 (dk_at dksL_law_0 12 rfl rfl)
theorem dL_law_15 : decode cL_law 15 = .ok (.astore_n 2, 1) := dk_77 (dk_at dksL_law_0 15 rfl rfl)
theorem dL_law_16 : decode cL_law 16 = .ok (.aload_n 1, 1) := dk_43 (dk_at dksL_law_0 16 rfl rfl)
theorem dL_law_17 : decode cL_law 17 = .ok (.aload_n 0, 1) := dk_42 (dk_at dksL_law_0 17 rfl rfl)
theorem dL_law_18 : decode cL_law 18 = .ok (.iconst 0, 1) := dk_3 (dk_at dksL_law_0 18 rfl rfl)
theorem dL_law_19 : decode cL_law 19 = .ok (.invokestatic 42, 3) := dk_184 0 42 (dk_at dksL_law_0 19 rfl rfl)
theorem dL_law_22 : decode cL_law 22 = .ok (.invokevirtual 17, 3) := dk_182 0 17 (dk_at dksL_law_1 0 rfl rfl)
theorem dL_law_25 : decode cL_law 25 = .ok (.iconst (-1), 1) := dk_2 (dk_at dksL_law_1 3 rfl rfl)
theorem dL_law_26 : decode cL_law 26 = .ok (.if_icmp .ne 31, 3) := dk_160 0 31 (dk_at dksL_law_1 4 rfl rfl)
theorem dL_law_29 : decode cL_law 29 = .ok (.aload_n 1, 1) := dk_43 (dk_at dksL_law_1 7 rfl rfl)
theorem dL_law_30 : decode cL_law 30 = .ok (.aload_n 2, 1) := dk_44 (dk_at dksL_law_1 8 rfl rfl)
theorem dL_law_31 : decode cL_law 31 = .ok (.aload_n 0, 1) := dk_42 (dk_at dksL_law_1 9 rfl rfl)
theorem dL_law_32 : decode cL_law 32 = .ok (.iconst 0, 1) := dk_3 (dk_at dksL_law_1 10 rfl rfl)
theorem dL_law_33 : decode cL_law 33 = .ok (.invokestatic 42, 3) := dk_184 0 42 (dk_at dksL_law_1 11 rfl rfl)
theorem dL_law_36 : decode cL_law 36 = .ok (.bipush 8, 2) := dk_16 8 (dk_at dksL_law_1 14 rfl rfl)
theorem dL_law_38 : decode cL_law 38 = .ok (.invokestatic 34, 3) := dk_184 0 34 (dk_at dksL_law_1 16 rfl rfl)
theorem dL_law_41 : decode cL_law 41 = .ok (.aload_n 0, 1) := dk_42 (dk_at dksL_law_1 19 rfl rfl)
theorem dL_law_42 : decode cL_law 42 = .ok (.iconst 0, 1) := dk_3 (dk_at dksL_law_1 20 rfl rfl)
theorem dL_law_43 : decode cL_law 43 = .ok (.invokestatic 42, 3) := dk_184 0 42 (dk_at dksL_law_1 21 rfl rfl)
theorem dL_law_46 : decode cL_law 46 = .ok (.bipush 8, 2) := dk_16 8 (dk_at dksL_law_2 0 rfl rfl)
theorem dL_law_48 : decode cL_law 48 = .ok (.invokestatic 34, 3) := dk_184 0 34 (dk_at dksL_law_2 2 rfl rfl)
theorem dL_law_51 : decode cL_law 51 = .ok (.invokestatic 46, 3) := dk_184 0 46 (dk_at dksL_law_2 5 rfl rfl)
theorem dL_law_54 : decode cL_law 54 = .ok (.ifCond .ne 5, 3) := dk_154 0 5 (dk_at dksL_law_2 8 rfl rfl)
theorem dL_law_57 : decode cL_law 57 = .ok (.iconst 0, 1) := dk_3 (dk_at dksL_law_2 11 rfl rfl)
theorem dL_law_58 : decode cL_law 58 = .ok (.ireturn, 1) := dk_172 (dk_at dksL_law_2 12 rfl rfl)
theorem dL_law_59 : decode cL_law 59 = .ok (.aload_n 0, 1) := dk_42 (dk_at dksL_law_2 13 rfl rfl)
theorem dL_law_60 : decode cL_law 60 = .ok (.iconst 1, 1) := dk_4 (dk_at dksL_law_2 14 rfl rfl)
theorem dL_law_61 : decode cL_law 61 = .ok (.invokestatic 42, 3) := dk_184 0 42 (dk_at dksL_law_2 15 rfl rfl)
theorem dL_law_64 : decode cL_law 64 = .ok (.bipush 34, 2) := dk_16 34 (dk_at dksL_law_2 18 rfl rfl)
theorem dL_law_66 : decode cL_law 66 = .ok (.invokestatic 34, 3) := dk_184 0 34 (dk_at dksL_law_2 20 rfl rfl)
theorem dL_law_69 : decode cL_law 69 = .ok (.istore_n 3, 1) := dk_62 (dk_at dksL_law_2 23 rfl rfl)
theorem dL_law_70 : decode cL_law 70 = .ok (.iconst 0, 1) := dk_3 (dk_at dksL_law_3 0 rfl rfl)
theorem dL_law_71 : decode cL_law 71 = .ok (.istore 4, 2) := dk_54 4 (dk_at dksL_law_3 1 rfl rfl)
theorem dL_law_73 : decode cL_law 73 = .ok (.iload 4, 2) := dk_21 4 (dk_at dksL_law_3 3 rfl rfl)
theorem dL_law_75 : decode cL_law 75 = .ok (.iload_n 3, 1) := dk_29 (dk_at dksL_law_3 5 rfl rfl)
theorem dL_law_76 : decode cL_law 76 = .ok (.if_icmp .ge 39, 3) := dk_162 0 39 (dk_at dksL_law_3 6 rfl rfl)
theorem dL_law_79 : decode cL_law 79 = .ok (.aload_n 1, 1) := dk_43 (dk_at dksL_law_3 9 rfl rfl)
theorem dL_law_80 : decode cL_law 80 = .ok (.aload_n 2, 1) := dk_44 (dk_at dksL_law_3 10 rfl rfl)
theorem dL_law_81 : decode cL_law 81 = .ok (.aload_n 0, 1) := dk_42 (dk_at dksL_law_3 11 rfl rfl)
theorem dL_law_82 : decode cL_law 82 = .ok (.iconst 2, 1) := dk_5 (dk_at dksL_law_3 12 rfl rfl)
theorem dL_law_83 : decode cL_law 83 = .ok (.iconst 2, 1) := dk_5 (dk_at dksL_law_3 13 rfl rfl)
theorem dL_law_84 : decode cL_law 84 = .ok (.iload 4, 2) := dk_21 4 (dk_at dksL_law_3 14 rfl rfl)
theorem dL_law_86 : decode cL_law 86 = .ok (.imul, 1) := dk_104 (dk_at dksL_law_3 16 rfl rfl)
theorem dL_law_87 : decode cL_law 87 = .ok (.iadd, 1) := dk_96 (dk_at dksL_law_3 17 rfl rfl)
theorem dL_law_88 : decode cL_law 88 = .ok (.invokestatic 42, 3) := dk_184 0 42 (dk_at dksL_law_3 18 rfl rfl)
theorem dL_law_91 : decode cL_law 91 = .ok (.aload_n 0, 1) := dk_42 (dk_at dksL_law_3 21 rfl rfl)
theorem dL_law_92 : decode cL_law 92 = .ok (.iconst 3, 1) := dk_6 (dk_at dksL_law_3 22 rfl rfl)
theorem dL_law_93 : decode cL_law 93 = .ok (.iconst 2, 1) := dk_5 (dk_at dksL_law_3 23 rfl rfl)
theorem dL_law_94 : decode cL_law 94 = .ok (.iload 4, 2) := dk_21 4 (dk_at dksL_law_4 0 rfl rfl)
theorem dL_law_96 : decode cL_law 96 = .ok (.imul, 1) := dk_104 (dk_at dksL_law_4 2 rfl rfl)
theorem dL_law_97 : decode cL_law 97 = .ok (.iadd, 1) := dk_96 (dk_at dksL_law_4 3 rfl rfl)
theorem dL_law_98 : decode cL_law 98 = .ok (.invokestatic 42, 3) := dk_184 0 42 (dk_at dksL_law_4 4 rfl rfl)
theorem dL_law_101 : decode cL_law 101 = .ok (.invokestatic 50, 3) := dk_184 0 50 (dk_at dksL_law_4 7 rfl rfl)
theorem dL_law_104 : decode cL_law 104 = .ok (.ifCond .ne 5, 3) := dk_154 0 5 (dk_at dksL_law_4 10 rfl rfl)
theorem dL_law_107 : decode cL_law 107 = .ok (.iconst 0, 1) := dk_3 (dk_at dksL_law_4 13 rfl rfl)
theorem dL_law_108 : decode cL_law 108 = .ok (.ireturn, 1) := dk_172 (dk_at dksL_law_4 14 rfl rfl)
theorem dL_law_109 : decode cL_law 109 = .ok (.iinc 4 1, 3) := dk_132 4 1 (dk_at dksL_law_4 15 rfl rfl)
theorem dL_law_112 : decode cL_law 112 = .ok (.goto (-39), 3) := dk_167 255 217 (dk_at dksL_law_4 18 rfl rfl)
theorem dL_law_115 : decode cL_law 115 = .ok (.iconst 0, 1) := dk_3 (dk_at dksL_law_4 21 rfl rfl)
theorem dL_law_116 : decode cL_law 116 = .ok (.istore 4, 2) := dk_54 4 (dk_at dksL_law_4 22 rfl rfl)
theorem dL_law_118 : decode cL_law 118 = .ok (.iload 4, 2) := dk_21 4 (dk_at dksL_law_5 0 rfl rfl)
theorem dL_law_120 : decode cL_law 120 = .ok (.bipush 8, 2) := dk_16 8 (dk_at dksL_law_5 2 rfl rfl)
theorem dL_law_122 : decode cL_law 122 = .ok (.if_icmp .ge 23, 3) := dk_162 0 23 (dk_at dksL_law_5 4 rfl rfl)
theorem dL_law_125 : decode cL_law 125 = .ok (.aload_n 1, 1) := dk_43 (dk_at dksL_law_5 7 rfl rfl)
theorem dL_law_126 : decode cL_law 126 = .ok (.aload_n 2, 1) := dk_44 (dk_at dksL_law_5 8 rfl rfl)
theorem dL_law_127 : decode cL_law 127 = .ok (.iload 4, 2) := dk_21 4 (dk_at dksL_law_5 9 rfl rfl)
theorem dL_law_129 : decode cL_law 129 = .ok (.iload 4, 2) := dk_21 4 (dk_at dksL_law_5 11 rfl rfl)
theorem dL_law_131 : decode cL_law 131 = .ok (.invokestatic 46, 3) := dk_184 0 46 (dk_at dksL_law_5 13 rfl rfl)
theorem dL_law_134 : decode cL_law 134 = .ok (.ifCond .ne 5, 3) := dk_154 0 5 (dk_at dksL_law_5 16 rfl rfl)
theorem dL_law_137 : decode cL_law 137 = .ok (.iconst 0, 1) := dk_3 (dk_at dksL_law_5 19 rfl rfl)
theorem dL_law_138 : decode cL_law 138 = .ok (.ireturn, 1) := dk_172 (dk_at dksL_law_5 20 rfl rfl)
theorem dL_law_139 : decode cL_law 139 = .ok (.iinc 4 1, 3) := dk_132 4 1 (dk_at dksL_law_5 21 rfl rfl)
theorem dL_law_142 : decode cL_law 142 = .ok (.goto (-24), 3) := dk_167 255 232 (dk_at dksL_law_6 0 rfl rfl)
theorem dL_law_145 : decode cL_law 145 = .ok (.iconst 0, 1) := dk_3 (dk_at dksL_law_6 3 rfl rfl)
theorem dL_law_146 : decode cL_law 146 = .ok (.istore 4, 2) := dk_54 4 (dk_at dksL_law_6 4 rfl rfl)
theorem dL_law_148 : decode cL_law 148 = .ok (.iload 4, 2) := dk_21 4 (dk_at dksL_law_6 6 rfl rfl)
theorem dL_law_150 : decode cL_law 150 = .ok (.iconst 4, 1) := dk_7 (dk_at dksL_law_6 8 rfl rfl)
theorem dL_law_151 : decode cL_law 151 = .ok (.if_icmp .ge 141, 3) := dk_162 0 141 (dk_at dksL_law_6 9 rfl rfl)
theorem dL_law_154 : decode cL_law 154 = .ok (.aload_n 0, 1) := dk_42 (dk_at dksL_law_6 12 rfl rfl)
theorem dL_law_155 : decode cL_law 155 = .ok (.bipush 70, 2) := dk_16 70 (dk_at dksL_law_6 13 rfl rfl)
theorem dL_law_157 : decode cL_law 157 = .ok (.bipush 6, 2) := dk_16 6 (dk_at dksL_law_6 15 rfl rfl)
theorem dL_law_159 : decode cL_law 159 = .ok (.iload 4, 2) := dk_21 4 (dk_at dksL_law_6 17 rfl rfl)
theorem dL_law_161 : decode cL_law 161 = .ok (.imul, 1) := dk_104 (dk_at dksL_law_6 19 rfl rfl)
theorem dL_law_162 : decode cL_law 162 = .ok (.iadd, 1) := dk_96 (dk_at dksL_law_6 20 rfl rfl)
theorem dL_law_163 : decode cL_law 163 = .ok (.invokestatic 42, 3) := dk_184 0 42 (dk_at dksL_law_6 21 rfl rfl)
theorem dL_law_166 : decode cL_law 166 = .ok (.istore 5, 2) := dk_54 5 (dk_at dksL_law_7 0 rfl rfl)
theorem dL_law_168 : decode cL_law 168 = .ok (.aload_n 1, 1) := dk_43 (dk_at dksL_law_7 2 rfl rfl)
theorem dL_law_169 : decode cL_law 169 = .ok (.iload 5, 2) := dk_21 5 (dk_at dksL_law_7 3 rfl rfl)
theorem dL_law_171 : decode cL_law 171 = .ok (.invokevirtual 53, 3) := dk_182 0 53 (dk_at dksL_law_7 5 rfl rfl)
theorem dL_law_174 : decode cL_law 174 = .ok (.aload_n 2, 1) := dk_44 (dk_at dksL_law_7 8 rfl rfl)
theorem dL_law_175 : decode cL_law 175 = .ok (.iload 5, 2) := dk_21 5 (dk_at dksL_law_7 9 rfl rfl)
theorem dL_law_177 : decode cL_law 177 = .ok (.aload_n 2, 1) := dk_44 (dk_at dksL_law_7 11 rfl rfl)
theorem dL_law_178 : decode cL_law 178 = .ok (.getfield 20, 3) := dk_180 0 20 (dk_at dksL_law_7 12 rfl rfl)
theorem dL_law_181 : decode cL_law 181 = .ok (.iconst 1, 1) := dk_4 (dk_at dksL_law_7 15 rfl rfl)
theorem dL_law_182 : decode cL_law 182 = .ok (.iadd, 1) := dk_96 (dk_at dksL_law_7 16 rfl rfl)
theorem dL_law_183 : decode cL_law 183 = .ok (.invokestatic 34, 3) := dk_184 0 34 (dk_at dksL_law_7 17 rfl rfl)
theorem dL_law_186 : decode cL_law 186 = .ok (.putfield 20, 3) := dk_181 0 20 (dk_at dksL_law_7 20 rfl rfl)
theorem dL_law_189 : decode cL_law 189 = .ok (.aload_n 1, 1) := dk_43 (dk_at dksL_law_7 23 rfl rfl)
theorem dL_law_190 : decode cL_law 190 = .ok (.aload_n 2, 1) := dk_44 (dk_at dksL_law_8 0 rfl rfl)
theorem dL_law_191 : decode cL_law 191 = .ok (.aload_n 0, 1) := dk_42 (dk_at dksL_law_8 1 rfl rfl)
theorem dL_law_192 : decode cL_law 192 = .ok (.bipush 71, 2) := dk_16 71 (dk_at dksL_law_8 2 rfl rfl)
theorem dL_law_194 : decode cL_law 194 = .ok (.bipush 6, 2) := dk_16 6 (dk_at dksL_law_8 4 rfl rfl)
theorem dL_law_196 : decode cL_law 196 = .ok (.iload 4, 2) := dk_21 4 (dk_at dksL_law_8 6 rfl rfl)
theorem dL_law_198 : decode cL_law 198 = .ok (.imul, 1) := dk_104 (dk_at dksL_law_8 8 rfl rfl)
theorem dL_law_199 : decode cL_law 199 = .ok (.iadd, 1) := dk_96 (dk_at dksL_law_8 9 rfl rfl)
theorem dL_law_200 : decode cL_law 200 = .ok (.invokestatic 42, 3) := dk_184 0 42 (dk_at dksL_law_8 10 rfl rfl)
theorem dL_law_203 : decode cL_law 203 = .ok (.aload_n 0, 1) := dk_42 (dk_at dksL_law_8 13 rfl rfl)
theorem dL_law_204 : decode cL_law 204 = .ok (.bipush 72, 2) := dk_16 72 (dk_at dksL_law_8 14 rfl rfl)
theorem dL_law_206 : decode cL_law 206 = .ok (.bipush 6, 2) := dk_16 6 (dk_at dksL_law_8 16 rfl rfl)
theorem dL_law_208 : decode cL_law 208 = .ok (.iload 4, 2) := dk_21 4 (dk_at dksL_law_8 18 rfl rfl)
theorem dL_law_210 : decode cL_law 210 = .ok (.imul, 1) := dk_104 (dk_at dksL_law_8 20 rfl rfl)
theorem dL_law_211 : decode cL_law 211 = .ok (.iadd, 1) := dk_96 (dk_at dksL_law_8 21 rfl rfl)
theorem dL_law_212 : decode cL_law 212 = .ok (.invokestatic 42, 3) := dk_184 0 42 (dk_at dksL_law_9 0 rfl rfl)
theorem dL_law_215 : decode cL_law 215 = .ok (.invokestatic 50, 3) := dk_184 0 50 (dk_at dksL_law_9 3 rfl rfl)
theorem dL_law_218 : decode cL_law 218 = .ok (.ifCond .eq 35, 3) := dk_153 0 35 (dk_at dksL_law_9 6 rfl rfl)
theorem dL_law_221 : decode cL_law 221 = .ok (.aload_n 1, 1) := dk_43 (dk_at dksL_law_9 9 rfl rfl)
theorem dL_law_222 : decode cL_law 222 = .ok (.aload_n 2, 1) := dk_44 (dk_at dksL_law_9 10 rfl rfl)
theorem dL_law_223 : decode cL_law 223 = .ok (.aload_n 0, 1) := dk_42 (dk_at dksL_law_9 11 rfl rfl)
theorem dL_law_224 : decode cL_law 224 = .ok (.bipush 73, 2) := dk_16 73 (dk_at dksL_law_9 12 rfl rfl)
theorem dL_law_226 : decode cL_law 226 = .ok (.bipush 6, 2) := dk_16 6 (dk_at dksL_law_9 14 rfl rfl)
theorem dL_law_228 : decode cL_law 228 = .ok (.iload 4, 2) := dk_21 4 (dk_at dksL_law_9 16 rfl rfl)
theorem dL_law_230 : decode cL_law 230 = .ok (.imul, 1) := dk_104 (dk_at dksL_law_9 18 rfl rfl)
theorem dL_law_231 : decode cL_law 231 = .ok (.iadd, 1) := dk_96 (dk_at dksL_law_9 19 rfl rfl)
theorem dL_law_232 : decode cL_law 232 = .ok (.invokestatic 42, 3) := dk_184 0 42 (dk_at dksL_law_9 20 rfl rfl)
theorem dL_law_235 : decode cL_law 235 = .ok (.aload_n 0, 1) := dk_42 (dk_at dksL_law_9 23 rfl rfl)
theorem dL_law_236 : decode cL_law 236 = .ok (.bipush 74, 2) := dk_16 74 (dk_at dksL_law_10 0 rfl rfl)
theorem dL_law_238 : decode cL_law 238 = .ok (.bipush 6, 2) := dk_16 6 (dk_at dksL_law_10 2 rfl rfl)
theorem dL_law_240 : decode cL_law 240 = .ok (.iload 4, 2) := dk_21 4 (dk_at dksL_law_10 4 rfl rfl)
theorem dL_law_242 : decode cL_law 242 = .ok (.imul, 1) := dk_104 (dk_at dksL_law_10 6 rfl rfl)
theorem dL_law_243 : decode cL_law 243 = .ok (.iadd, 1) := dk_96 (dk_at dksL_law_10 7 rfl rfl)
theorem dL_law_244 : decode cL_law 244 = .ok (.invokestatic 42, 3) := dk_184 0 42 (dk_at dksL_law_10 8 rfl rfl)
theorem dL_law_247 : decode cL_law 247 = .ok (.invokestatic 50, 3) := dk_184 0 50 (dk_at dksL_law_10 11 rfl rfl)
theorem dL_law_250 : decode cL_law 250 = .ok (.ifCond .ne 5, 3) := dk_154 0 5 (dk_at dksL_law_10 14 rfl rfl)
theorem dL_law_253 : decode cL_law 253 = .ok (.iconst 0, 1) := dk_3 (dk_at dksL_law_10 17 rfl rfl)
theorem dL_law_254 : decode cL_law 254 = .ok (.ireturn, 1) := dk_172 (dk_at dksL_law_10 18 rfl rfl)
theorem dL_law_255 : decode cL_law 255 = .ok (.aload_n 0, 1) := dk_42 (dk_at dksL_law_10 19 rfl rfl)
theorem dL_law_256 : decode cL_law 256 = .ok (.bipush 75, 2) := dk_16 75 (dk_at dksL_law_10 20 rfl rfl)
theorem dL_law_258 : decode cL_law 258 = .ok (.bipush 6, 2) := dk_16 6 (dk_at dksL_law_10 22 rfl rfl)
theorem dL_law_260 : decode cL_law 260 = .ok (.iload 4, 2) := dk_21 4 (dk_at dksL_law_11 0 rfl rfl)
theorem dL_law_262 : decode cL_law 262 = .ok (.imul, 1) := dk_104 (dk_at dksL_law_11 2 rfl rfl)
theorem dL_law_263 : decode cL_law 263 = .ok (.iadd, 1) := dk_96 (dk_at dksL_law_11 3 rfl rfl)
theorem dL_law_264 : decode cL_law 264 = .ok (.invokestatic 42, 3) := dk_184 0 42 (dk_at dksL_law_11 4 rfl rfl)
theorem dL_law_267 : decode cL_law 267 = .ok (.istore 6, 2) := dk_54 6 (dk_at dksL_law_11 7 rfl rfl)
theorem dL_law_269 : decode cL_law 269 = .ok (.aload_n 1, 1) := dk_43 (dk_at dksL_law_11 9 rfl rfl)
theorem dL_law_270 : decode cL_law 270 = .ok (.aload_n 2, 1) := dk_44 (dk_at dksL_law_11 10 rfl rfl)
theorem dL_law_271 : decode cL_law 271 = .ok (.iload 6, 2) := dk_21 6 (dk_at dksL_law_11 11 rfl rfl)
theorem dL_law_273 : decode cL_law 273 = .ok (.bipush 7, 2) := dk_16 7 (dk_at dksL_law_11 13 rfl rfl)
theorem dL_law_275 : decode cL_law 275 = .ok (.iand, 1) := dk_126 (dk_at dksL_law_11 15 rfl rfl)
theorem dL_law_276 : decode cL_law 276 = .ok (.iload 6, 2) := dk_21 6 (dk_at dksL_law_11 16 rfl rfl)
theorem dL_law_278 : decode cL_law 278 = .ok (.invokestatic 46, 3) := dk_184 0 46 (dk_at dksL_law_11 18 rfl rfl)
theorem dL_law_281 : decode cL_law 281 = .ok (.ifCond .ne 5, 3) := dk_154 0 5 (dk_at dksL_law_11 21 rfl rfl)
theorem dL_law_284 : decode cL_law 284 = .ok (.iconst 0, 1) := dk_3 (dk_at dksL_law_12 0 rfl rfl)
theorem dL_law_285 : decode cL_law 285 = .ok (.ireturn, 1) := dk_172 (dk_at dksL_law_12 1 rfl rfl)
theorem dL_law_286 : decode cL_law 286 = .ok (.iinc 4 1, 3) := dk_132 4 1 (dk_at dksL_law_12 2 rfl rfl)
theorem dL_law_289 : decode cL_law 289 = .ok (.goto (-141), 3) := dk_167 255 115 (dk_at dksL_law_12 5 rfl rfl)
theorem dL_law_292 : decode cL_law 292 = .ok (.iconst 1, 1) := dk_4 (dk_at dksL_law_12 8 rfl rfl)
theorem dL_law_293 : decode cL_law 293 = .ok (.ireturn, 1) := dk_172 (dk_at dksL_law_12 9 rfl rfl)
end
section
/-! TOOLS: the classes of the worlds, constants of the start, Strings that are only read, new arrays, loops -/
set_option maxRecDepth 100000
abbrev pd_cl : List vw_C := [(RJ0, TJ0, 4), (RJ10, TJ10, 4), (RX1, TX1, 3), (RX2, TX2, 2)]
abbrev pd_ty (cB cC cI : ClassId) : List (ClassId × FieldType) := [(cB, .byte), (cC, .char), (cI, .int)]
abbrev pd_K (D : va_G) (cB cC cI : ClassId) (U : State) : Prop := va_K D pd_cl (pd_ty cB cC cI) U
/-- nothing may be written -/
def pd_F : Nat → Prop := fun _ => False
theorem pd_Fno {q : Nat} : ¬ pd_F q := id
theorem pd_Fin {A : Nat → Prop} : ∀ q, pd_F q → A q := fun _ h => h.elim
theorem pd_Fin2 {A : Nat → Prop} {n : Nat} : ∀ q, q < n → pd_F q → A q := fun _ _ h => h.elim
/-- the coefficients of the levels 0 .. 7 -/
def pd_coefs : List (List Nat) := [
  [27, 917],
  [522, 568, 723, 809],
  [237, 308, 436, 284, 646, 653, 428, 379],
  [274, 562, 232, 755, 599, 524, 801, 132, 295, 116, 442, 428, 295, 42, 176, 65],
  [361, 575, 922, 525, 176, 586, 640, 321, 536, 742, 677, 742, 687, 284, 193, 517, 273, 494, 263, 147, 593, 800, 571, 320, 803, 133, 231, 390, 685, 330, 63, 410],
  [539, 422, 6, 93, 862, 771, 453, 106, 610, 287, 107, 505, 733, 877, 381, 612, 723, 476, 462, 172, 430, 609, 858, 822, 543, 376, 511, 400, 672, 762, 283, 184, 440, 35, 519, 31, 460, 594, 225, 535, 517, 352, 605, 158, 651, 201, 488, 502, 648, 733, 717, 83, 404, 97, 280, 771, 840, 629, 4, 381, 843, 623, 264, 543],
  [521, 310, 864, 547, 858, 580, 296, 379, 53, 779, 897, 444, 400, 925, 749, 415, 822, 93, 217, 208, 928, 244, 583, 620, 246, 148, 447, 631, 292, 908, 490, 704, 516, 258, 457, 907, 594, 723, 674, 292, 272, 96, 684, 432, 686, 606, 860, 569, 193, 219, 129, 186, 236, 287, 192, 775, 278, 173, 40, 379, 712, 463, 646, 776, 171, 491, 297, 763, 156, 732, 95, 270, 447, 90, 507, 48, 228, 821, 808, 898, 784, 663, 627, 378, 382, 262, 380, 602, 754, 336, 89, 614, 87, 432, 670, 616, 157, 374, 242, 726, 600, 269, 375, 898, 845, 454, 354, 130, 814, 587, 804, 34, 211, 330, 539, 297, 827, 865, 37, 517, 834, 315, 550, 86, 801, 4, 108, 539],
  [524, 894, 75, 766, 882, 857, 74, 204, 82, 586, 708, 250, 905, 786, 138, 720, 858, 194, 311, 913, 275, 190, 375, 850, 438, 733, 194, 280, 201, 280, 828, 757, 710, 814, 919, 89, 68, 569, 11, 204, 796, 605, 540, 913, 801, 700, 799, 137, 439, 418, 592, 668, 353, 859, 370, 694, 325, 240, 216, 257, 284, 549, 209, 884, 315, 70, 329, 793, 490, 274, 877, 162, 749, 812, 684, 461, 334, 376, 849, 521, 307, 291, 803, 712, 19, 358, 399, 908, 103, 511, 51, 8, 517, 225, 289, 470, 637, 731, 66, 255, 917, 269, 463, 830, 730, 433, 848, 585, 136, 538, 906, 90, 2, 290, 743, 199, 655, 903, 329, 49, 802, 580, 355, 588, 188, 462, 10, 134, 628, 320, 479, 130, 739, 71, 263, 318, 374, 601, 192, 605, 142, 673, 687, 234, 722, 384, 177, 752, 607, 640, 455, 193, 689, 707, 805, 641, 48, 60, 732, 621, 895, 544, 261, 852, 655, 309, 697, 755, 756, 60, 231, 773, 434, 421, 726, 528, 503, 118, 49, 795, 32, 144, 500, 238, 836, 394, 280, 566, 319, 9, 647, 550, 73, 914, 342, 126, 32, 681, 331, 792, 620, 60, 609, 441, 180, 791, 893, 754, 605, 383, 228, 749, 760, 213, 54, 297, 134, 54, 834, 299, 922, 191, 910, 532, 609, 829, 189, 20, 167, 29, 872, 449, 83, 402, 41, 656, 505, 579, 481, 173, 404, 251, 688, 95, 497, 555, 642, 543, 307, 159, 924, 558, 648, 55, 497, 10]]
def pd_c (i j : Nat) : Nat := (pd_coefs.getD i []).getD j 0
/-- the bytes f, N of them, of coder cd, hold the first n of the letters w, and have room for cap -/
def pd_rep (cap n : Nat) (w : Nat → Nat) (cd : Int32) (N : Nat) (f : Nat → Int32) : Prop :=
  (cd = 0 ∧ N = cap ∧ ∀ j, j < n → w j < 256 ∧ f j = sb_b (w j)) ∨
  (cd = 1 ∧ N = 2 * cap ∧ ∀ j, j < n → w j < 65536 ∧ f (2 * j) = sb_b (w j) ∧ f (2 * j + 1) = sb_b (w j / 256))
/-- a String that is only read, in its pieces -/
def pd_SS (o v : Nat) (cd : Int32) (N : Nat) (f : Nat → Int32) (A : Nat → Prop) (U : State) (H : Heap) : Prop :=
  va_O "java/lang/String" o A U H ∧ va_OF "java/lang/String" "value" "[B" (.ref v) o A U H ∧ va_OF "java/lang/String" "coder" "B" (.int cd) o A U H ∧ va_T .byte v N (fun j => .int (f j)) A U H
theorem pd_SS.moved {o v N : Nat} {cd : Int32} {f : Nat → Int32} {A : Nat → Prop} {u U : State} {H : Heap} (hvm : u.vm.Alike U.vm) (h : pd_SS o v cd N f A u H) : pd_SS o v cd N f A U H :=
  ⟨va_O.moved hvm h.1, va_OF.moved hvm h.2.1, va_OF.moved hvm h.2.2.1, va_T.moved hvm h.2.2.2⟩
theorem pd_SS.kept {o v N : Nat} {cd : Int32} {f : Nat → Int32} {A : Nat → Prop} {U : State} {H H1 : Heap} (h : pd_SS o v cd N f A U H) (hq : ∀ a : Nat, a < H.size → ¬ A a → H1[a]? = H[a]?) : pd_SS o v cd N f A U H1 :=
  ⟨h.1.kept hq, h.2.1.kept hq, h.2.2.1.kept hq, h.2.2.2.kept hq⟩
theorem pd_SS.narrow {o v N : Nat} {cd : Int32} {f : Nat → Int32} {A B : Nat → Prop} {U : State} {H : Heap} (h : pd_SS o v cd N f A U H) (hAB : ∀ q, B q → A q) : pd_SS o v cd N f B U H :=
  ⟨h.1.narrow hAB, h.2.1.narrow hAB, h.2.2.1.narrow hAB, h.2.2.2.narrow hAB⟩
/-- a String that is only read: at o, n letters w -/
def pd_S (o n : Nat) (w : Nat → Nat) (A : Nat → Prop) (U : State) (H : Heap) : Prop :=
  ∃ (v : Nat) (cd : Int32) (N : Nat) (f : Nat → Int32), pd_SS o v cd N f A U H ∧ pd_rep n n w cd N f
theorem pd_S.moved {o n : Nat} {w : Nat → Nat} {A : Nat → Prop} {u U : State} {H : Heap} (hvm : u.vm.Alike U.vm) (h : pd_S o n w A u H) : pd_S o n w A U H := by
  obtain ⟨v, cd, N, f, h1, h5⟩ := h
  exact ⟨v, cd, N, f, h1.moved hvm, h5⟩
theorem pd_S.kept {o n : Nat} {w : Nat → Nat} {A : Nat → Prop} {U : State} {H H1 : Heap} (h : pd_S o n w A U H) (hq : ∀ a : Nat, a < H.size → ¬ A a → H1[a]? = H[a]?) : pd_S o n w A U H1 := by
  obtain ⟨v, cd, N, f, h1, h5⟩ := h
  exact ⟨v, cd, N, f, h1.kept hq, h5⟩
theorem pd_S.narrow {o n : Nat} {w : Nat → Nat} {A B : Nat → Prop} {U : State} {H : Heap} (h : pd_S o n w A U H) (hAB : ∀ q, B q → A q) : pd_S o n w B U H := by
  obtain ⟨v, cd, N, f, h1, h5⟩ := h
  exact ⟨v, cd, N, f, h1.narrow hAB, h5⟩
/-- it stands below the heap's end: what is made later isn't it -/
theorem pd_S.old {o n : Nat} {w : Nat → Nat} {U : State} {H : Heap} (h : pd_S o n w pd_F U H) : pd_S o n w (va_A [] H.size) U H := by
  have hA : ∀ a : Nat, a < H.size → ¬ va_A [] H.size a := by
    intro a ha q
    rcases q with ⟨k, e, q⟩ | q
    · simp at q
    · omega
  obtain ⟨v, cd, N, f, ⟨⟨c1, a1, a2, a3, -⟩, ⟨b1, b2, b3, b4, b5, b6, b7, b8, b9, b10, -⟩, ⟨d1, d2, d3, d4, d5, d6, d7, d8, d9, d10, -⟩, ⟨e1, e2, e3, e4, e5, e6, e7, -⟩⟩, h5⟩ := h
  have ho := hA o (Array.getElem?_eq_some_iff.mp a1).1
  exact ⟨v, cd, N, f, ⟨⟨c1, a1, a2, a3, ho⟩, ⟨b1, b2, b3, b4, b5, b6, b7, b8, b9, b10, ho⟩, ⟨d1, d2, d3, d4, d5, d6, d7, d8, d9, d10, ho⟩, ⟨e1, e2, e3, e4, e5, e6, e7, hA v (Array.getElem?_eq_some_iff.mp e2).1⟩⟩, h5⟩
theorem pd_rep.cd {cap n : Nat} {w : Nat → Nat} {cd : Int32} {N : Nat} {f : Nat → Int32} (h : pd_rep cap n w cd N f) : cd = 0 ∨ cd = 1 := by
  rcases h with ⟨h, -⟩ | ⟨h, -⟩
  · exact Or.inl h
  · exact Or.inr h
/-- the receiver of a call -/
theorem pd_Orecv {E : String} {o : Nat} {A : Nat → Prop} {s : State} {H : Heap} {locs : List Loc} (h : va_O E o A s s.heap) (hS : va_S A s.heap H locs) : ∃ cell : Cell, H[o]? = some cell ∧ cell.vm.isStatics = false ∧ s.vm.findClass E = some cell.cls := by
  obtain ⟨cell, h1, h2, h3, -⟩ := h.kept hS.2.1
  exact ⟨cell, h1, h2, h3⟩
/-- the empty text -/
def pd_E (a v : Nat) (A : Nat → Prop) (U : State) (H : Heap) : Prop :=
  va_O "java/lang/String" a A U H ∧ va_OF "java/lang/String" "value" "[B" (.ref v) a A U H ∧ va_OF "java/lang/String" "coder" "B" (.int 0) a A U H ∧ va_T .byte v 0 (fun _ => .int 0) A U H
theorem pd_E.S {a v : Nat} {A : Nat → Prop} {U : State} {H : Heap} (h : pd_E a v A U H) (w : Nat → Nat) : pd_S a 0 w A U H :=
  ⟨v, 0, 0, fun _ => 0, ⟨h.1, h.2.1, h.2.2.1, h.2.2.2⟩, Or.inl ⟨rfl, rfl, fun j hj => absurd hj (Nat.not_lt_zero j)⟩⟩
def pd_yCSl : MethodName := ⟨"java/lang/CharSequence", "length", "()I"⟩
def pd_yCSc : MethodName := ⟨"java/lang/CharSequence", "charAt", "(I)C"⟩
/-- what holds of the start all through a run -/
def pd_Z (A : Nat → Prop) (U : State) (H : Heap) : Prop :=
  va_Z "java/lang/String" "COMPACT_STRINGS" "Z" (.int 1) A U H ∧
  va_Z "java/lang/StringUTF16" "$assertionsDisabled" "Z" (.int 1) A U H ∧
  va_Z "java/lang/StringUTF16" "HI_BYTE_SHIFT" "I" (.int 0) A U H ∧
  va_Z "java/lang/StringUTF16" "LO_BYTE_SHIFT" "I" (.int 8) A U H ∧
  va_Zq "jdk/internal/util/Preconditions" "SIOOBE_FORMATTER" "Ljava/util/function/BiFunction;" A U H ∧
  (∃ (t : Nat) (row : Nat → Nat), va_Z "PDF417ErrorCorrection" "EC_COEFFICIENTS" "[[I" (.ref t) A U H ∧ va_T (.array .int) t 9 (fun j => .ref (row j)) A U H ∧ ∀ i, i < 8 → va_T .int (row i) (2 * 2 ^ i) (fun j => .int (nI (pd_c i j))) A U H) ∧
  (∃ (a v a2 v2 : Nat), vk_R "java/lang/String" 7 "" a U ∧ vk_R "PdfParityDesk" 13 "" a2 U ∧ pd_E a v A U H ∧ pd_E a2 v2 A U H) ∧
  va_Nw (.castable "[B" "java/lang/Cloneable") U ∧
  va_Fw "java/lang/String" pd_yCSl yJ0_length U ∧ va_Fw "java/lang/String" pd_yCSc yJ0_charAt U
theorem pd_Z.warm {A : Nat → Prop} {s U : State} {H : Heap} (hW : s.WarmedH U.vm) (h : pd_Z A s H) : pd_Z A U H := by
  obtain ⟨h1, h2, h3, h4, h5, ⟨t, row, h6, h7, h8⟩, ⟨a, v, a2, v2, h9, h10, ⟨h11, h12, h13, h14⟩, ⟨i11, i12, i13, i14⟩⟩, h15, h16, h17⟩ := h
  have hv := hW.alike
  exact ⟨va_Z.moved hv h1, va_Z.moved hv h2, va_Z.moved hv h3, va_Z.moved hv h4, va_Zq.moved hv h5, ⟨t, row, va_Z.moved hv h6, va_T.moved hv h7, fun i hi => va_T.moved hv (h8 i hi)⟩,
    ⟨a, v, a2, v2, vk_R.warm hW h9, vk_R.warm hW h10, ⟨va_O.moved hv h11, va_OF.moved hv h12, va_OF.moved hv h13, va_T.moved hv h14⟩, ⟨va_O.moved hv i11, va_OF.moved hv i12, va_OF.moved hv i13, va_T.moved hv i14⟩⟩, va_Nw.warmC hW h15, va_Fw.moved (by decide +kernel) hv h16, va_Fw.moved (by decide +kernel) hv h17⟩
theorem pd_Z.same {A : Nat → Prop} {s U : State} {H : Heap} (hv : U.vm = s.vm) (h : pd_Z A s H) : pd_Z A U H := pd_Z.warm (by rw [hv]; exact State.WarmedH.refl s) h
theorem pd_Z.kept {A : Nat → Prop} {U : State} {H H1 : Heap} (h : pd_Z A U H) (hq : ∀ a : Nat, a < H.size → ¬ A a → H1[a]? = H[a]?) : pd_Z A U H1 := by
  obtain ⟨h1, h2, h3, h4, h5, ⟨t, row, h6, h7, h8⟩, ⟨a, v, a2, v2, h9, h10, ⟨h11, h12, h13, h14⟩, ⟨i11, i12, i13, i14⟩⟩, h15⟩ := h
  exact ⟨h1.kept hq, h2.kept hq, h3.kept hq, h4.kept hq, h5.kept hq, ⟨t, row, h6.kept hq, h7.kept hq, fun i hi => (h8 i hi).kept hq⟩,
    ⟨a, v, a2, v2, h9, h10, ⟨h11.kept hq, h12.kept hq, h13.kept hq, h14.kept hq⟩, ⟨i11.kept hq, i12.kept hq, i13.kept hq, i14.kept hq⟩⟩, h15⟩
theorem pd_Z.narrow {A B : Nat → Prop} {U : State} {H : Heap} (h : pd_Z A U H) (hq : ∀ q, B q → A q) : pd_Z B U H := by
  obtain ⟨h1, h2, h3, h4, h5, ⟨t, row, h6, h7, h8⟩, ⟨a, v, a2, v2, h9, h10, ⟨h11, h12, h13, h14⟩, ⟨i11, i12, i13, i14⟩⟩, h15⟩ := h
  exact ⟨h1.narrow hq, h2.narrow hq, h3.narrow hq, h4.narrow hq, h5.narrow hq, ⟨t, row, h6.narrow hq, h7.narrow hq, fun i hi => (h8 i hi).narrow hq⟩,
    ⟨a, v, a2, v2, h9, h10, ⟨h11.narrow hq, h12.narrow hq, h13.narrow hq, h14.narrow hq⟩, ⟨i11.narrow hq, i12.narrow hq, i13.narrow hq, i14.narrow hq⟩⟩, h15⟩
/-- at a call -/
theorem pd_Z.call {A A1 : Nat → Prop} {s U : State} {H : Heap} {locs : List Loc} (h : pd_Z A s s.heap) (hS : va_S A s.heap H locs) (hW : s.WarmedH U.vm) (hU : U.heap = H) (hA : ∀ q, A1 q → A q) : pd_Z A1 U U.heap := by
  subst hU
  exact pd_Z.warm hW ((h.kept hS.2.1).narrow hA)
theorem pd_T.call {A A1 : Nat → Prop} {s U : State} {H : Heap} {locs : List Loc} {ty : FieldType} {t N : Nat} {f : Nat → Value} (h : va_T ty t N f A s s.heap) (hS : va_S A s.heap H locs) (hW : s.WarmedH U.vm) (hU : U.heap = H) (hA : ∀ q, A1 q → A q) : va_T ty t N f A1 U U.heap := by
  subst hU
  exact va_T.moved hW.alike ((h.kept hS.2.1).narrow hA)
theorem pd_S.call {A A1 : Nat → Prop} {s U : State} {H : Heap} {locs : List Loc} {o n : Nat} {w : Nat → Nat} (h : pd_S o n w A s s.heap) (hS : va_S A s.heap H locs) (hW : s.WarmedH U.vm) (hU : U.heap = H) (hA : ∀ q, A1 q → A q) : pd_S o n w A1 U U.heap := by
  subst hU
  exact pd_S.moved hW.alike ((h.kept hS.2.1).narrow hA)
theorem pd_SS.call {A A1 : Nat → Prop} {s U : State} {H : Heap} {locs : List Loc} {o v N : Nat} {cd : Int32} {f : Nat → Int32} (h : pd_SS o v cd N f A s s.heap) (hS : va_S A s.heap H locs) (hW : s.WarmedH U.vm) (hU : U.heap = H) (hA : ∀ q, A1 q → A q) : pd_SS o v cd N f A1 U U.heap := by
  subst hU
  exact pd_SS.moved hW.alike ((h.kept hS.2.1).narrow hA)
/-- as it stands in the caller's heap H -/
theorem pd_T.now {A1 : Nat → Prop} {s U : State} {H : Heap} {ty : FieldType} {t N : Nat} {f : Nat → Value} (h : va_T ty t N f A1 s H) (hW : s.WarmedH U.vm) (hU : U.heap = H) : va_T ty t N f A1 U U.heap := by
  subst hU
  exact va_T.moved hW.alike h
theorem pd_S.now {A1 : Nat → Prop} {s U : State} {H : Heap} {o n : Nat} {w : Nat → Nat} (h : pd_S o n w A1 s H) (hW : s.WarmedH U.vm) (hU : U.heap = H) : pd_S o n w A1 U U.heap := by
  subst hU
  exact pd_S.moved hW.alike h
/-- a static that is carried alone -/
theorem pd_Zq {C n d : String} {A : Nat → Prop} {U : State} {H : Heap} (h : va_Zq C n d A U H) : ∃ fv : Value, fv.category = 1 ∧ va_Z C n d fv A U H := by
  rcases h with h | ⟨t, h⟩
  · exact ⟨.null, rfl, h⟩
  · exact ⟨.ref t, rfl, h⟩
/-- a world's array, for one who only reads it -/
theorem pd_Tof {D : va_G} {cl : List vw_C} {tys : List (ClassId × FieldType)} {s : State} {ws : va_W} {H : Heap} {A1 : Nat → Prop} (hK : va_K D cl tys s) (hP : va_P D cl ws H) (q0 t0 : Nat) {a : Nat} {cA : ClassId} {n : Nat} {f : Nat → Int32} {ty : FieldType} (ha : ws[q0]? = some (a, .inl (cA, n, .inl f))) (ht : tys[t0]? = some (cA, ty)) (hA : ¬ A1 a) : va_T ty a n (fun j => .int (f j)) A1 s H := by
  refine ⟨_, hP q0 _ ha, (hK.2 t0 _ ht).1 n _, (fun q => by cases q), ?_, ?_, fun j hj => ?_, hA⟩
  · exact Nat.le_of_eq (arrV_size _ _ _).symm
  · exact congrArg Nat.toInt32 (arrV_size _ _ _)
  · exact arrV_read _ _ hj
/-- an object's field, for one who only reads it -/
theorem pd_OFof {D : va_G} {tys : List (ClassId × FieldType)} {s : State} {args : Array Value} {ws : va_W} {H : Heap} {A1 : Nat → Prop} {cl : List vw_C} {C : String} {T : u_T} {N ci : Nat} (hts : ∀ w ∈ lw_all, w.before args s = true) (hin : ∀ w ∈ u_ws C T N, w ∈ lw_all) (hK : va_K D cl tys s) (hP : va_P D cl ws H) (q0 : Nat) {a : Nat} {fs : List Value} (he : ws[q0]? = some (a, .inr (ci, fs))) (hc : cl[ci]? = some (C, T, N)) (k : Nat) (hk : k < N) {v : Value} (hv : fs[k]? = some v) (hA : ¬ A1 a) : va_OF (T k).1 (T k).2.1 (T k).2.2.1 v a A1 s H := by
  obtain ⟨r, h1, cell, q1, q2, q3, q4⟩ := hP q0 _ he
  have hr : r = (C, T, N) := Option.some.inj (h1.symm.trans hc)
  subst hr
  obtain ⟨hS, hfc, kC, hkC, hkind⟩ := hK.1 ci _ hc
  obtain ⟨cf, kf, fi, f, hi, hsl⟩ := hS k hk
  refine ⟨cf, kf, fi, f, cell, hi, (u_facts hfc hkC (u_lays hts hin hk) hi).1, q1, (by rw [q3]; exact fun h => by cases h), ?_, hA⟩
  rw [hsl, q4 k hk]
  simp [vp_V, hv]
theorem pd_Oof {D : va_G} {tys : List (ClassId × FieldType)} {s : State} {ws : va_W} {H : Heap} {A1 : Nat → Prop} {cl : List vw_C} {C : String} {T : u_T} {N ci : Nat} (hK : va_K D cl tys s) (hP : va_P D cl ws H) (q0 : Nat) {a : Nat} {fs : List Value} (he : ws[q0]? = some (a, .inr (ci, fs))) (hc : cl[ci]? = some (C, T, N)) (hA : ¬ A1 a) : va_O C a A1 s H := by
  obtain ⟨cell, h1, h2, h3⟩ := va_recv hK hP hc he
  exact ⟨cell, h1, h2, h3, hA⟩
/-- a world's String and its bytes, for one who only reads them -/
theorem pd_Sof {D : va_G} {cB cC cI : ClassId} {s : State} {args : Array Value} {ws : va_W} {H : Heap} {A1 : Nat → Prop} (hts : ∀ w ∈ lw_all, w.before args s = true) (hK : pd_K D cB cC cI s) (hP : va_P D pd_cl ws H) (q0 q1 : Nat) {o v : Nat} {cd x y : Int32} {N n : Nat} {f : Nat → Int32} {w : Nat → Nat} (h0 : ws[q0]? = some (o, .inr (0, [.ref v, .int cd, .int x, .int y]))) (h1 : ws[q1]? = some (v, .inl (cB, N, .inl f))) (hr : pd_rep n n w cd N f) (ho : ¬ A1 o) (hv : ¬ A1 v) : pd_S o n w A1 s H :=
  ⟨v, cd, N, f, ⟨pd_Oof hK hP q0 h0 (C := RJ0) (T := TJ0) (N := 4) rfl ho, pd_OFof (C := RJ0) (T := TJ0) (N := 4) hts in_J0 hK hP q0 h0 rfl 0 (by decide) rfl ho, pd_OFof (C := RJ0) (T := TJ0) (N := 4) hts in_J0 hK hP q0 h0 rfl 1 (by decide) rfl ho, pd_Tof hK hP q1 0 h1 rfl hv⟩, hr⟩
/-- a private method of a superclass is selected -/
theorem pd_selsub {C : String} {y0 y : MethodName} {s : State} {args : Array Value} (h0 : (Cond.selects C y0 y0).before args s = true) (hc : y0.cls = y.cls) (hy : y.cls ≠ "java/lang/invoke/MethodHandle" ∧ y.cls ≠ "java/lang/invoke/VarHandle") (hpriv : (Cond.privateMethod y).before args s = true) (hinst : (Cond.instanceMethod y).before args s = true) : (Cond.selects C y y).before args s = true := by
  obtain ⟨c2, r2, m2, q1, q2, q3, q4, kP, hkP, hkPi⟩ := Cond.selects_spec h0
  obtain ⟨mk, methM, hnamed, hmethM, -, -⟩ := Cond.instanceMethod_spec hinst
  have hfound : s.methodFound? y.cls y.name y.desc = some mk := State.methodFound?_of_named hnamed hy
  have hcls : mk.cls = m2.cls := Option.some.inj ((findClass_of_methodNamed hnamed).symm.trans (hc ▸ findClass_of_methodNamed q3))
  have hsel : selectMethod {} s.vm c2 mk = .method mk := selectMethod_private hmethM (Cond.privateMethod_at hpriv mk methM hnamed hmethM)
  simp only [Cond.before, Cond.holds, Cond.value, q1, hfound, hnamed, hsel, hcls, hkP]
  simp [hkPi]
section PDW
variable {p : Program} {l : Launch} {e : Env} {R : Room} {s : State} {m : MethodId} {args : Array Value} {below : List Frame} {meth : Method} {c : Code} {H : Heap} {locs : List Loc} {cells slots : Nat} {Q : State → Prop}
variable {cc : ByteArray} {pc : Nat} {ls : Array Slot} {rest : List Value} {D : va_G} {cB cC cI : ClassId} {A : Nat → Prop} {a : Nat} {ws : va_W} {H0 : Heap}
/-- loops: by the measure n -/
theorem pd_loop (I : Nat → Heap → List Loc → Nat → Nat → JFrame → Prop)
    (h : ∀ n, (∀ k, k < n → ∀ H locs cells slots g, I k H locs cells slots g → W p l e R s m args below meth c H locs cells slots Q g) → ∀ H locs cells slots g, I n H locs cells slots g → W p l e R s m args below meth c H locs cells slots Q g)
    (n : Nat) {g : JFrame} (hi : I n H locs cells slots g) : W p l e R s m args below meth c H locs cells slots Q g := by
  induction n using Nat.strongRecOn generalizing H locs cells slots g with
  | ind n ih => exact h n (fun k hk H locs cells slots g hi => ih k hk hi) H locs cells slots g hi
theorem pd_newb (hexec : p.tables.exec = Jvm.exec) (hb : c.code = cc) (harr : (Cond.arrayClass .byte).before args s = true) (hK : pd_K D cB cC cI s) (hP : va_P D pd_cl ws H) (hD : va_D A ws) (hS : va_S A H0 H locs) (hA : ∀ q, H0.size ≤ q → A q)
    {n : Int32} {N : Nat} (hn : n = nI N) (hN : N ≤ 100000) (hcells : cells + 1 ≤ R.cells) (hslots : slots + N ≤ R.slots) (hdg : decode cc pc = .ok (.newarray .byte, 2))
    (kk : ∀ (q : Nat) (H1 : Heap), va_P D pd_cl (ws ++ [(q, .inl (cB, N, .inl (fun _ => 0)))]) H1 → va_D A (ws ++ [(q, .inl (cB, N, .inl (fun _ => 0)))]) → va_S A H0 H1 locs →
      W p l e R s m args below meth c H1 locs (cells + 1) (slots + N) Q (F0 m (pc + 2) ls (.ref q :: rest))) : W p l e R s m args below meth c H locs cells slots Q (F0 m pc ls (.int n :: rest)) := by
  subst hn
  refine va_newa (atype := .byte) (ty := .byte) (a0 := (N, .inl (fun _ => 0))) hexec hb harr rfl hK hP hD hS hA (fun cA => rfl) (nI_pos (by omega)) (nI_clamp (by omega)) (by show N * 1 ≤ _; omega) hcells hslots hdg (fun q cA H1 hK1 hP1 hD1 hS1 => ?_)
  have h1 := (hK1.2 3 _ rfl).2
  have h2 := (hK.2 0 _ rfl).2
  have h3 : cA = cB := Option.some.inj (h1.symm.trans h2)
  subst h3
  exact kk q H1 hP1 hD1 hS1
theorem pd_newc (hexec : p.tables.exec = Jvm.exec) (hb : c.code = cc) (harr : (Cond.arrayClass .char).before args s = true) (hK : pd_K D cB cC cI s) (hP : va_P D pd_cl ws H) (hD : va_D A ws) (hS : va_S A H0 H locs) (hA : ∀ q, H0.size ≤ q → A q)
    {n : Int32} {N : Nat} (hn : n = nI N) (hN : N ≤ 100000) (hcells : cells + 1 ≤ R.cells) (hslots : slots + N ≤ R.slots) (hdg : decode cc pc = .ok (.newarray .char, 2))
    (kk : ∀ (q : Nat) (H1 : Heap), va_P D pd_cl (ws ++ [(q, .inl (cC, N, .inl (fun _ => 0)))]) H1 → va_D A (ws ++ [(q, .inl (cC, N, .inl (fun _ => 0)))]) → va_S A H0 H1 locs →
      W p l e R s m args below meth c H1 locs (cells + 1) (slots + N) Q (F0 m (pc + 2) ls (.ref q :: rest))) : W p l e R s m args below meth c H locs cells slots Q (F0 m pc ls (.int n :: rest)) := by
  subst hn
  refine va_newa (atype := .char) (ty := .char) (a0 := (N, .inl (fun _ => 0))) hexec hb harr rfl hK hP hD hS hA (fun cA => rfl) (nI_pos (by omega)) (nI_clamp (by omega)) (by show N * 2 ≤ _; omega) hcells hslots hdg (fun q cA H1 hK1 hP1 hD1 hS1 => ?_)
  have h1 := (hK1.2 3 _ rfl).2
  have h2 := (hK.2 1 _ rfl).2
  have h3 : cA = cC := Option.some.inj (h1.symm.trans h2)
  subst h3
  exact kk q H1 hP1 hD1 hS1
theorem pd_newi (hexec : p.tables.exec = Jvm.exec) (hb : c.code = cc) (harr : (Cond.arrayClass .int).before args s = true) (hK : pd_K D cB cC cI s) (hP : va_P D pd_cl ws H) (hD : va_D A ws) (hS : va_S A H0 H locs) (hA : ∀ q, H0.size ≤ q → A q)
    {n : Int32} {N : Nat} (hn : n = nI N) (hN : N ≤ 100000) (hcells : cells + 1 ≤ R.cells) (hslots : slots + N ≤ R.slots) (hdg : decode cc pc = .ok (.newarray .int, 2))
    (kk : ∀ (q : Nat) (H1 : Heap), va_P D pd_cl (ws ++ [(q, .inl (cI, N, .inl (fun _ => 0)))]) H1 → va_D A (ws ++ [(q, .inl (cI, N, .inl (fun _ => 0)))]) → va_S A H0 H1 locs →
      W p l e R s m args below meth c H1 locs (cells + 1) (slots + N) Q (F0 m (pc + 2) ls (.ref q :: rest))) : W p l e R s m args below meth c H locs cells slots Q (F0 m pc ls (.int n :: rest)) := by
  subst hn
  refine va_newa (atype := .int) (ty := .int) (a0 := (N, .inl (fun _ => 0))) hexec hb harr rfl hK hP hD hS hA (fun cA => rfl) (nI_pos (by omega)) (nI_clamp (by omega)) (by show N * 4 ≤ _; omega) hcells hslots hdg (fun q cA H1 hK1 hP1 hD1 hS1 => ?_)
  have h1 := (hK1.2 3 _ rfl).2
  have h2 := (hK.2 2 _ rfl).2
  have h3 : cA = cI := Option.some.inj (h1.symm.trans h2)
  subst h3
  exact kk q H1 hP1 hD1 hS1
/-- aaload from a table of rows -/
theorem pd_tq (hexec : p.tables.exec = Jvm.exec) (hb : c.code = cc) {ty : FieldType} (hty : (FieldType.array ty).isReference = true) {t N : Nat} {f : Nat → Value} (hT : va_T (.array ty) t N f A s s.heap) (hS : va_S A s.heap H locs) {i : Int32} (hin : vp_in i N) {v : Value} (hv : f i.toNatClampNeg = v) (hdg : decode cc pc = .ok (.aaload, 1))
    (kk : W p l e R s m args below meth c H locs cells slots Q (F0 m (pc + 1) ls (v :: rest))) : W p l e R s m args below meth c H locs cells slots Q (F0 m pc ls (.int i :: .ref t :: rest)) := by
  obtain ⟨cell, h1, h2, h3, h4, h5, h6, h7⟩ := hT
  have hlt : i.toNatClampNeg < N := Nat.not_le.mp fun q => hin (Or.inr q)
  have hin' : ¬ (i < 0 ∨ cell.slots.size ≤ i.toNatClampNeg) := by
    intro q
    rcases q with q | q
    · exact hin (Or.inl q)
    · omega
  exact W.aald (v := v) (ty := .array ty) hexec hb (by rw [hS.2.1 t (Array.getElem?_eq_some_iff.mp h1).1 h7]; exact h1) h2 hty h3 hin' (by rw [h6 _ hlt, hv]) rfl rfl hdg kk
/-- arithmetic, the answer under a name of one's own -/
theorem pd_iadd (hexec : p.tables.exec = Jvm.exec) (hb : c.code = cc) {x y v : Int32} (hdg : decode cc pc = .ok (.iadd, 1)) (hv : x + y = v) (k : W p l e R s m args below meth c H locs cells slots Q (F0 m (pc + 1) ls (.int v :: rest))) : W p l e R s m args below meth c H locs cells slots Q (F0 m pc ls (.int y :: .int x :: rest)) := lv_iadd hexec hb hdg (by rw [hv]; exact k)
theorem pd_isub (hexec : p.tables.exec = Jvm.exec) (hb : c.code = cc) {x y v : Int32} (hdg : decode cc pc = .ok (.isub, 1)) (hv : x - y = v) (k : W p l e R s m args below meth c H locs cells slots Q (F0 m (pc + 1) ls (.int v :: rest))) : W p l e R s m args below meth c H locs cells slots Q (F0 m pc ls (.int y :: .int x :: rest)) := lv_isub hexec hb hdg (by rw [hv]; exact k)
theorem pd_imul (hexec : p.tables.exec = Jvm.exec) (hb : c.code = cc) {x y v : Int32} (hdg : decode cc pc = .ok (.imul, 1)) (hv : x * y = v) (k : W p l e R s m args below meth c H locs cells slots Q (F0 m (pc + 1) ls (.int v :: rest))) : W p l e R s m args below meth c H locs cells slots Q (F0 m pc ls (.int y :: .int x :: rest)) := lv_imul hexec hb hdg (by rw [hv]; exact k)
theorem pd_iand (hexec : p.tables.exec = Jvm.exec) (hb : c.code = cc) {x y v : Int32} (hdg : decode cc pc = .ok (.iand, 1)) (hv : x &&& y = v) (k : W p l e R s m args below meth c H locs cells slots Q (F0 m (pc + 1) ls (.int v :: rest))) : W p l e R s m args below meth c H locs cells slots Q (F0 m pc ls (.int y :: .int x :: rest)) := lv_iand hexec hb hdg (by rw [hv]; exact k)
theorem pd_ior (hexec : p.tables.exec = Jvm.exec) (hb : c.code = cc) {x y v : Int32} (hdg : decode cc pc = .ok (.ior, 1)) (hv : x ||| y = v) (k : W p l e R s m args below meth c H locs cells slots Q (F0 m (pc + 1) ls (.int v :: rest))) : W p l e R s m args below meth c H locs cells slots Q (F0 m pc ls (.int y :: .int x :: rest)) := lv_ior hexec hb hdg (by rw [hv]; exact k)
theorem pd_ishl (hexec : p.tables.exec = Jvm.exec) (hb : c.code = cc) {x y v : Int32} (hdg : decode cc pc = .ok (.ishl, 1)) (hv : x <<< (y &&& 31) = v) (k : W p l e R s m args below meth c H locs cells slots Q (F0 m (pc + 1) ls (.int v :: rest))) : W p l e R s m args below meth c H locs cells slots Q (F0 m pc ls (.int y :: .int x :: rest)) := lv_ishl hexec hb hdg (by rw [hv]; exact k)
theorem pd_ishr (hexec : p.tables.exec = Jvm.exec) (hb : c.code = cc) {x y v : Int32} (hdg : decode cc pc = .ok (.ishr, 1)) (hv : x >>> (y &&& 31) = v) (k : W p l e R s m args below meth c H locs cells slots Q (F0 m (pc + 1) ls (.int v :: rest))) : W p l e R s m args below meth c H locs cells slots Q (F0 m pc ls (.int y :: .int x :: rest)) := lv_ishr hexec hb hdg (by rw [hv]; exact k)
theorem pd_irem (hexec : p.tables.exec = Jvm.exec) (hb : c.code = cc) {x y v : Int32} (hdg : decode cc pc = .ok (.irem, 1)) (hne : ¬ y = 0) (hv : x - x / y * y = v) (k : W p l e R s m args below meth c H locs cells slots Q (F0 m (pc + 1) ls (.int v :: rest))) : W p l e R s m args below meth c H locs cells slots Q (F0 m pc ls (.int y :: .int x :: rest)) := lv_irem hexec hb hdg hne (by rw [hv]; exact k)
theorem pd_iald {cl : List vw_C} {tys : List (ClassId × FieldType)} (hexec : p.tables.exec = Jvm.exec) (hb : c.code = cc) (hK : va_K D cl tys s) (hP : va_P D cl ws H) (q0 t0 : Nat) {cA : ClassId} {n : Nat} {f : Nat → Int32} (ha : ws[q0]? = some (a, .inl (cA, n, .inl f))) (ht : tys[t0]? = some (cA, .int)) {i : Int32} (hin : vp_in i n) {v : Int32} (hv : f i.toNatClampNeg = v) (hdg : decode cc pc = .ok (.iaload, 1))
    (kk : W p l e R s m args below meth c H locs cells slots Q (F0 m (pc + 1) ls (.int v :: rest))) : W p l e R s m args below meth c H locs cells slots Q (F0 m pc ls (.int i :: .ref a :: rest)) := va_iald hexec hb hK hP q0 t0 ha ht hin hdg (by rw [hv]; exact kk)
theorem pd_bald {cl : List vw_C} {tys : List (ClassId × FieldType)} (hexec : p.tables.exec = Jvm.exec) (hb : c.code = cc) (hK : va_K D cl tys s) (hP : va_P D cl ws H) (q0 t0 : Nat) {cA : ClassId} {n : Nat} {f : Nat → Int32} (ha : ws[q0]? = some (a, .inl (cA, n, .inl f))) (ht : tys[t0]? = some (cA, .byte)) {i : Int32} (hin : vp_in i n) {v : Int32} (hv : f i.toNatClampNeg = v) (hdg : decode cc pc = .ok (.baload, 1))
    (kk : W p l e R s m args below meth c H locs cells slots Q (F0 m (pc + 1) ls (.int v :: rest))) : W p l e R s m args below meth c H locs cells slots Q (F0 m pc ls (.int i :: .ref a :: rest)) := va_bald hexec hb hK hP q0 t0 ha ht hin hdg (by rw [hv]; exact kk)
theorem pd_cald {cl : List vw_C} {tys : List (ClassId × FieldType)} (hexec : p.tables.exec = Jvm.exec) (hb : c.code = cc) (hK : va_K D cl tys s) (hP : va_P D cl ws H) (q0 t0 : Nat) {cA : ClassId} {n : Nat} {f : Nat → Int32} (ha : ws[q0]? = some (a, .inl (cA, n, .inl f))) (ht : tys[t0]? = some (cA, .char)) {i : Int32} (hin : vp_in i n) {v : Int32} (hv : f i.toNatClampNeg = v) (hdg : decode cc pc = .ok (.caload, 1))
    (kk : W p l e R s m args below meth c H locs cells slots Q (F0 m (pc + 1) ls (.int v :: rest))) : W p l e R s m args below meth c H locs cells slots Q (F0 m pc ls (.int i :: .ref a :: rest)) := va_cald hexec hb hK hP q0 t0 ha ht hin hdg (by rw [hv]; exact kk)
theorem pd_iast {cl : List vw_C} {tys : List (ClassId × FieldType)} (hexec : p.tables.exec = Jvm.exec) (hb : c.code = cc) (hK : va_K D cl tys s) (hP : va_P D cl ws H) (hD : va_D A ws) (hS : va_S A H0 H locs) (q0 t0 : Nat) {cA : ClassId} {n : Nat} {f f2 : Nat → Int32} (ha : ws[q0]? = some (a, .inl (cA, n, .inl f))) (ht : tys[t0]? = some (cA, .int)) {i : Int32} {x : Int32} (hin : vp_in i n) (hf : upd f i.toNatClampNeg x = f2) (hdg : decode cc pc = .ok (.iastore, 1))
    (kk : ∀ (H1 : Heap) (locs1 : List Loc), va_P D cl (ws.set q0 (a, .inl (cA, n, .inl f2))) H1 → va_D A (ws.set q0 (a, .inl (cA, n, .inl f2))) → va_S A H0 H1 locs1 → W p l e R s m args below meth c H1 locs1 cells slots Q (F0 m (pc + 1) ls rest)) : W p l e R s m args below meth c H locs cells slots Q (F0 m pc ls (.int x :: .int i :: .ref a :: rest)) := by
  subst hf
  exact va_iast hexec hb hK hP hD hS q0 t0 ha ht hin hdg kk
theorem pd_bast {cl : List vw_C} {tys : List (ClassId × FieldType)} (hexec : p.tables.exec = Jvm.exec) (hb : c.code = cc) (hK : va_K D cl tys s) (hP : va_P D cl ws H) (hD : va_D A ws) (hS : va_S A H0 H locs) (q0 t0 : Nat) {cA : ClassId} {n : Nat} {f f2 : Nat → Int32} (ha : ws[q0]? = some (a, .inl (cA, n, .inl f))) (ht : tys[t0]? = some (cA, .byte)) {i : Int32} {x : Int32} (hin : vp_in i n) (hf : upd f i.toNatClampNeg (vp_nar .byte x) = f2) (hdg : decode cc pc = .ok (.bastore, 1))
    (kk : ∀ (H1 : Heap) (locs1 : List Loc), va_P D cl (ws.set q0 (a, .inl (cA, n, .inl f2))) H1 → va_D A (ws.set q0 (a, .inl (cA, n, .inl f2))) → va_S A H0 H1 locs1 → W p l e R s m args below meth c H1 locs1 cells slots Q (F0 m (pc + 1) ls rest)) : W p l e R s m args below meth c H locs cells slots Q (F0 m pc ls (.int x :: .int i :: .ref a :: rest)) := by
  subst hf
  exact va_bast hexec hb hK hP hD hS q0 t0 ha ht hin hdg kk
theorem pd_cast {cl : List vw_C} {tys : List (ClassId × FieldType)} (hexec : p.tables.exec = Jvm.exec) (hb : c.code = cc) (hK : va_K D cl tys s) (hP : va_P D cl ws H) (hD : va_D A ws) (hS : va_S A H0 H locs) (q0 t0 : Nat) {cA : ClassId} {n : Nat} {f f2 : Nat → Int32} (ha : ws[q0]? = some (a, .inl (cA, n, .inl f))) (ht : tys[t0]? = some (cA, .char)) {i : Int32} {x : Int32} (hin : vp_in i n) (hf : upd f i.toNatClampNeg (vp_nar .char x) = f2) (hdg : decode cc pc = .ok (.castore, 1))
    (kk : ∀ (H1 : Heap) (locs1 : List Loc), va_P D cl (ws.set q0 (a, .inl (cA, n, .inl f2))) H1 → va_D A (ws.set q0 (a, .inl (cA, n, .inl f2))) → va_S A H0 H1 locs1 → W p l e R s m args below meth c H1 locs1 cells slots Q (F0 m (pc + 1) ls rest)) : W p l e R s m args below meth c H locs cells slots Q (F0 m pc ls (.int x :: .int i :: .ref a :: rest)) := by
  subst hf
  exact va_cast hexec hb hK hP hD hS q0 t0 ha ht hin hdg kk
theorem pd_in4 {a b c0 d : Cond} (h1 : a ∈ lw_all) (h2 : b ∈ lw_all) (h3 : c0 ∈ lw_all) (h4 : d ∈ lw_all) : ∀ w ∈ [a, b, c0, d], w ∈ lw_all := by
  intro w hw
  simp only [List.mem_cons, List.not_mem_nil, or_false] at hw
  rcases hw with e | e | e | e <;> rw [e] <;> assumption
theorem pd_in5 {a b c0 d e0 : Cond} (h1 : a ∈ lw_all) (h2 : b ∈ lw_all) (h3 : c0 ∈ lw_all) (h4 : d ∈ lw_all) (h5 : e0 ∈ lw_all) : ∀ w ∈ [a, b, c0, d, e0], w ∈ lw_all := by
  intro w hw
  simp only [List.mem_cons, List.not_mem_nil, or_false] at hw
  rcases hw with e | e | e | e | e <;> rw [e] <;> assumption
theorem pd_in6 {a b c0 d e0 f0 : Cond} (h1 : a ∈ lw_all) (h2 : b ∈ lw_all) (h3 : c0 ∈ lw_all) (h4 : d ∈ lw_all) (h5 : e0 ∈ lw_all) (h6 : f0 ∈ lw_all) : ∀ w ∈ [a, b, c0, d, e0, f0], w ∈ lw_all := by
  intro w hw
  simp only [List.mem_cons, List.not_mem_nil, or_false] at hw
  rcases hw with e | e | e | e | e | e <;> rw [e] <;> assumption
end PDW
/-- a static or special call's start, out of its parts -/
theorem pd_pre {s : State} {H : Heap} {As : List Value} {B : State → Prop} (hb : ∀ (a : Array Value) (U : State) (g : JFrame) (mk : MethodId), B U → B (U.calling g mk a)) (h : ∀ U : State, U.heap = H → s.WarmedH U.vm → B U) : PreS s H (va_Pc As B) As :=
  ⟨fun a U g mk q => ⟨q.1, hb a U g mk q.2⟩, fun U hU hW => ⟨rfl, h U hU hW⟩⟩
theorem pd_preV {s : State} {H : Heap} {C : String} {b : Nat} {As : List Value} {B : State → Prop} (hb : ∀ (a : Array Value) (U : State) (g : JFrame) (mk : MethodId), B U → B (U.calling g mk a)) (hr : ∃ cell : Cell, H[b]? = some cell ∧ cell.vm.isStatics = false ∧ s.vm.findClass C = some cell.cls) (h : ∀ U : State, U.heap = H → s.WarmedH U.vm → B U) : PreV s H C b (va_Pc (.ref b :: As) B) As :=
  ⟨fun a U g mk q => ⟨q.1, hb a U g mk q.2⟩, hr, fun U hU hW => ⟨rfl, h U hU hW⟩⟩
/-- behind a call that writes nothing -/
theorem pd_keep {D : va_G} {cl : List vw_C} {ws : va_W} {H H1 : Heap} (hP : va_P D cl ws H) (hk : ∀ q : Nat, q < H.size → ¬ pd_F q → H1[q]? = H[q]?) : va_P D cl ws H1 := hP.kept (fun k q h => hk q.1 (hP k q h).lt pd_Fno)
/-- what a mutating contract asks of the start: its world, apart; the constants -/
def pd_BA (D : va_G) (cB cC cI : ClassId) (ws : va_W) (sz : Nat) (U : State) : Prop := U.heap.size = sz ∧ va_P D pd_cl ws U.heap ∧ pd_K D cB cC cI U ∧ va_D (fun _ => True) ws ∧ pd_Z (va_A ws sz) U U.heap
theorem pd_BA.blind {D : va_G} {cB cC cI : ClassId} {ws : va_W} {sz : Nat} {U : State} {g : JFrame} {mk : MethodId} {a : Array Value} (h : pd_BA D cB cC cI ws sz U) : pd_BA D cB cC cI ws sz (U.calling g mk a) :=
  ⟨h.1, h.2.1, va_K.moved (u := U) (U := U.calling g mk a) (Vm.Alike.refl U.vm) h.2.2.1, h.2.2.2.1, pd_Z.same (s := U) (U := U.calling g mk a) rfl h.2.2.2.2⟩
theorem pd_BA.pass {D : va_G} {cB cC cI : ClassId} {wc : va_W} {s U : State} {H : Heap} {locs : List Loc} {A : Nat → Prop} (hPc : va_P D pd_cl wc H) (hDc : va_D A wc) (hK : pd_K D cB cC cI s) (hZ : pd_Z A s s.heap) (hS : va_S A s.heap H locs) (hF : ∀ q, va_A wc H.size q → A q) (hU : U.heap = H) (hW : s.WarmedH U.vm) : pd_BA D cB cC cI wc H.size U :=
  ⟨by rw [hU], by rw [hU]; exact hPc, va_K.moved hW.alike hK, hDc.weaken (fun _ _ _ _ => trivial), pd_Z.call hZ hS hW hU hF⟩
/-- a cell of the world isn't another's, nor a new one -/
theorem pd_notA {D : va_G} {cl : List vw_C} {A : Nat → Prop} {ws : va_W} {H : Heap} {a b i j : Nat} {e1 e2 e3 : va_E} (hD : va_D A ws) (hP : va_P D cl ws H) (hi : ws[i]? = some (a, e1)) (hj : ws[j]? = some (b, e2)) (hij : i ≠ j) : ¬ va_A [(b, e3)] H.size a := by
  intro q
  rcases q with ⟨k, e, q⟩ | q
  · have hk : k < 1 := (List.getElem?_eq_some_iff.mp q).1
    obtain rfl : k = 0 := by omega
    have h1 : (b, e3) = (a, e) := Option.some.inj q
    have h2 : b = a := congrArg Prod.fst h1
    exact hij (hD.1 i j _ _ hi hj h2.symm)
  · exact absurd (hP i _ hi).lt (Nat.not_lt.mpr q)
theorem pd_P0 {D : va_G} {cl : List vw_C} {H : Heap} : va_P D cl [] H := fun k q h => by simp at h
theorem pd_D0 {A : Nat → Prop} : va_D A [] := ⟨fun i j p q h => by simp at h, fun k q h => by simp at h⟩
end
section
/-! NUMBERS: what the JDK's and the law's instructions compute -/
theorem pd_lit2 : nI 2 = 2 := by decide
theorem pd_lit3 : nI 3 = 3 := by decide
theorem pd_lit255 : nI 255 = 255 := by decide
theorem pd_sh1 {n : Nat} (h : n < 2 ^ 30) : nI n <<< (nI 1 &&& 31) = nI (2 * n) := by
  rw [pk_shlN (nI 1 &&& 31) 1 (by decide) (by omega)]
  congr 1
  omega
theorem pd_sr1 {n : Nat} (h : n < 2 ^ 31) : nI n >>> (nI 1 &&& 31) = nI (n / 2) := by
  rw [pk_shrN h (nI 1 &&& 31) 1 (by decide)]
theorem pd_sr8 {n : Nat} (h : n < 2 ^ 31) : nI n >>> ((8 : Int32) &&& 31) = nI (n / 256) := by
  rw [pk_shrN h ((8 : Int32) &&& 31) 8 (by decide)]
theorem pd_sl8 {n : Nat} (h : n < 2 ^ 16) : nI n <<< ((8 : Int32) &&& 31) = nI (n * 256) := by
  rw [pk_shlN ((8 : Int32) &&& 31) 8 (by decide) (by omega)]
theorem pd_i2c {n : Nat} (h : n < 65536) : ((nI n).toUInt32 % 65536).toInt32 = nI n := by
  rw [pk_char, pk_tn (by omega), Nat.mod_eq_of_lt h]
theorem pd_vc {n : Nat} (h : n < 65536) : vp_nar .char (nI n) = nI n := by
  have h1 := pk_vc (nI n)
  rw [pd_i2c h] at h1
  exact h1
theorem pd_vb (n : Nat) : vp_nar .byte (sb_b n) = sb_b n := pk_vb (nI n)
theorem pd_bp (x : Int32) : x.toInt8.toInt32 &&& 255 = x &&& 255 := by
  apply Int32.toBitVec_inj.mp
  simp only [Int32.toBitVec_and]
  apply BitVec.eq_of_getLsbD_eq
  intro i hi
  have h255 : (255 : Int32).toBitVec.getLsbD i = decide (i < 8) := by
    have : ∀ j : Fin 32, (255 : Int32).toBitVec.getLsbD j.val = decide (j.val < 8) := by decide
    exact this ⟨i, hi⟩
  rw [BitVec.getLsbD_and, BitVec.getLsbD_and, h255]
  by_cases h : i < 8
  · simp [h, BitVec.getLsbD_signExtend, BitVec.getElem_signExtend, hi]
  · simp [h]
theorem pd_and255 {n : Nat} (h : n < 2 ^ 32) : sb_b n &&& nI 255 = nI (n % 256) := by
  rw [pd_lit255]
  exact (pd_bp (nI n)).trans (pk_andN h (m := 255) 8 (by decide))
theorem pd_nIor {a b : Nat} (ha : a < 2 ^ 32) (hb : b < 2 ^ 32) : nI a ||| nI b = nI (a ||| b) := by
  apply Int32.toBitVec_inj.mp
  apply BitVec.eq_of_toNat_eq
  rw [Int32.toBitVec_or, BitVec.toNat_or, pk_tn ha, pk_tn hb, pk_tn (Nat.or_lt_two_pow ha hb)]
theorem pd_or8 {a b : Nat} (ha : a < 256) (hb : b < 256) : nI a ||| nI (b * 256) = nI (a + 256 * b) := by
  rw [pd_nIor (by omega) (by omega)]
  congr 1
  have h := Nat.shiftLeft_add_eq_or_of_lt (i := 8) ha b
  rw [Nat.shiftLeft_eq] at h
  rw [Nat.or_comm, show (256 : Nat) = 2 ^ 8 by decide, ← h]
  omega
theorem pd_lohi {n : Nat} : n % 256 + 256 * (n / 256) = n := by omega
theorem pd_or0 (x : Int32) : x ||| 0 = x := by
  apply Int32.toBitVec_inj.mp
  simp
theorem pd_ornn {a b : Nat} (ha : a < 2 ^ 31) (hb : b < 2 ^ 31) : nI a ||| nI b = nI (a ||| b) ∧ a ||| b < 2 ^ 31 := ⟨pd_nIor (by omega) (by omega), Nat.or_lt_two_pow ha hb⟩
theorem pd_m31 (x : Int32) : x &&& 2147483647 = nI (x.toBitVec.toNat % 2147483648) := pk_and x 31 (by decide)
theorem pd_sub0 (x : Int32) : x - 0 = x := by simp
theorem pd_rem {a d : Nat} (ha : a < 2 ^ 31) (h0 : 0 < d) (hd : d < 2 ^ 31) : nI a - nI a / nI d * nI d = nI (a % d) := pk_rem ha h0 hd
/-- coderFromArrayLen -/
theorem pd_cfl0 (n : Nat) : ((nI n - nI n).toUInt32 >>> ((nI 31).toUInt32 &&& Int32.toUInt32 31)).toInt32 = 0 := by
  rw [Int32.sub_self]
  decide
theorem pd_cfl1 {n : Nat} (h0 : 0 < n) (h : n < 2 ^ 31) : ((nI n - nI (2 * n)).toUInt32 >>> ((nI 31).toUInt32 &&& Int32.toUInt32 31)).toInt32 = 1 := by
  apply Int32.toBitVec_inj.mp
  apply BitVec.eq_of_toNat_eq
  rw [pk_ushr _ _ 31 (by decide), Int32.toBitVec_sub, BitVec.toNat_sub, pk_tn (by omega), pk_tn (by omega)]
  show _ = 1
  omega
theorem pd_sl : ∀ n, n < 9 → (((nI n) &&& 31).toBitVec.smod 32).toNat = n := by decide
theorem pd_shl {a n : Nat} (hn : n < 9) (h : a * 2 ^ n < 2 ^ 32) : nI a <<< (nI n &&& 31) = nI (a * 2 ^ n) := pk_shlN (nI n &&& 31) n (pd_sl n hn) h
theorem pd_upd2 {f : Nat → Int32} {k j : Nat} {x y : Int32} (h : j ≠ k) (h2 : j ≠ k + 1) : upd (upd f k x) (k + 1) y j = f j := by
  rw [pk_un h2, pk_un h]
theorem pd_tv {f : Nat → Int32} {k : Nat} {v : Int32} (hk : k < 2 ^ 31) (h : f k = v) : (fun j => Value.int (f j)) (nI k).toNatClampNeg = .int v := (congrArg (fun z => Value.int (f z)) (nI_clamp hk)).trans (congrArg Value.int h)
theorem pd_av {f : Nat → Int32} {k : Nat} {v : Int32} (hk : k < 2 ^ 31) (h : f k = v) : f (nI k).toNatClampNeg = v := (congrArg f (nI_clamp hk)).trans h
theorem pd_put1 {w : Nat → Nat} {f1 : Nat → Int32} {j : Nat} (hf : ∀ i, i < j → w i < 256 ∧ f1 i = sb_b (w i)) (h : w j < 256) : ∀ i, i < j + 1 → w i < 256 ∧ upd f1 j (sb_b (w j)) i = sb_b (w i) := by
  intro i hi
  rcases Nat.lt_or_ge i j with q | q
  · rw [pk_un (Nat.ne_of_lt q)]
    exact hf i q
  · obtain rfl : i = j := by omega
    rw [pk_us]
    exact ⟨h, rfl⟩
theorem pd_put2 {w : Nat → Nat} {f1 : Nat → Int32} {j : Nat} (hf : ∀ i, i < j → f1 (2 * i) = sb_b (w i) ∧ f1 (2 * i + 1) = sb_b (w i / 256)) : ∀ i, i < j + 1 → (upd (upd f1 (2 * j) (sb_b (w j))) (2 * j + 1) (sb_b (w j / 256))) (2 * i) = sb_b (w i) ∧ (upd (upd f1 (2 * j) (sb_b (w j))) (2 * j + 1) (sb_b (w j / 256))) (2 * i + 1) = sb_b (w i / 256) := by
  intro i hi
  rcases Nat.lt_or_ge i j with q | q
  · rw [pk_un (by omega), pk_un (by omega), pk_un (by omega), pk_un (by omega)]
    exact hf i q
  · obtain rfl : i = j := by omega
    rw [pk_us, pk_un (by omega), pk_us]
    exact ⟨rfl, rfl⟩
theorem pd_cdn {cd : Int32} (h : cd = 0 ∨ cd = 1) : narrow .byte (.int cd) = .int cd := by
  rcases h with rfl | rfl <;> rfl
theorem pd_cdf {cd : Int32} (h : cd = 0 ∨ cd = 1) : fits .byte (.int cd) = true := by
  rcases h with rfl | rfl <;> decide
theorem pd_shrep {cap n : Nat} {w : Nat → Nat} {cd : Int32} {N : Nat} {f : Nat → Int32} (h : pd_rep cap n w cd N f) (hn : cap ≤ 1000) : nI N >>> (cd &&& 31) = nI cap := by
  rcases h with ⟨rfl, rfl, -⟩ | ⟨rfl, rfl, -⟩
  · exact sb_shr0 _
  · rw [pk_shrN (by omega) ((1 : Int32) &&& 31) 1 (by decide)]
    congr 1
    omega
theorem pd_sle {a b : Nat} (h : a ≤ b) (hb : b < 2 ^ 30) : nI a - nI b ≤ 0 := by
  rw [Int32.le_iff_toInt_le, pk_sub_toInt (by omega) hb]
  show (a : Int) - b ≤ 0
  omega
theorem pd_repfit {n : Nat} {w : Nat → Nat} {cd : Int32} {N : Nat} {f : Nat → Int32} (h : pd_rep n n w cd N f) (i : Nat) (hi : i < N) : fits .byte (.int (f i)) = true := by
  rcases h with ⟨-, rfl, h⟩ | ⟨-, rfl, h⟩
  · rw [(h i hi).2]
    exact sb_fitB _
  · rcases Nat.mod_two_eq_zero_or_one i with q | q
    · have h2 := (h (i / 2) (by omega)).2.1
      rw [show 2 * (i / 2) = i by omega] at h2
      rw [h2]
      exact sb_fitB _
    · have h2 := (h (i / 2) (by omega)).2.2
      rw [show 2 * (i / 2) + 1 = i by omega] at h2
      rw [h2]
      exact sb_fitB _
/-- one letter more, Latin-1 -/
theorem pd_repput0 {cap n : Nat} {w : Nat → Nat} {f : Nat → Int32} (hf : ∀ j, j < n → w j < 256 ∧ f j = sb_b (w j)) (h : w n < 256) : pd_rep cap (n + 1) w 0 cap (upd f n (sb_b (w n))) := Or.inl ⟨rfl, rfl, pd_put1 hf h⟩
theorem pd_repput1 {cap n : Nat} {w : Nat → Nat} {f : Nat → Int32} (hf : ∀ j, j < n → w j < 65536 ∧ f (2 * j) = sb_b (w j) ∧ f (2 * j + 1) = sb_b (w j / 256)) (h : w n < 65536) : pd_rep cap (n + 1) w 1 (2 * cap) (upd (upd f (2 * n) (sb_b (w n))) (2 * n + 1) (sb_b (w n / 256))) := by
  refine Or.inr ⟨rfl, rfl, fun i hi => ⟨?_, pd_put2 (fun i hi => (hf i hi).2) i hi⟩⟩
  rcases Nat.lt_or_ge i n with q | q
  · exact (hf i q).1
  · rw [show i = n by omega]
    exact h
theorem pd_repN {n : Nat} {w : Nat → Nat} {cd : Int32} {N : Nat} {f : Nat → Int32} (h : pd_rep n n w cd N f) (h0 : 0 < n) : (cd = 0 ∧ N = n) ∨ (cd = 1 ∧ N = 2 * n ∧ 0 < n) := by
  rcases h with ⟨h1, h2, -⟩ | ⟨h1, h2, -⟩
  · exact Or.inl ⟨h1, h2⟩
  · exact Or.inr ⟨h1, h2, h0⟩
end
section
/-! JDK LEAVES: checks of places, UTF-16 and Latin-1 bytes (written by gen/p06.py) -/
set_option maxHeartbeats 4000000 in
set_option maxRecDepth 100000 in
/-- Preconditions.checkIndex(i, n, f), i < n: i -/
theorem m_J2cin (l : Launch) (i n : Nat) (h : i < n) (hn : n < 2 ^ 31) : Met l yJ2_checkIndex (ws_ yJ2_checkIndex cJ2_checkIndex 3 (some .int)) ({ frames := 0, cells := 0, slots := 0, locals := 0 }) (va_Pc [.int (nI i), .int (nI n), .null] (fun U => True)) (va_Qi (fun (r : Int32) (_ : Unit) => r = nI i) (fun _ _ => True) pd_F) 0 0 pd_F := by
  refine Met.ofW (cc := cJ2_checkIndex) (maxL := 3) (ret := (some .int)) (by decide) rfl ?_
  intro p e s m args below meth c s₁ B hml hv
  obtain ⟨rfl, -⟩ := hv
  have hx := B.exec
  have hb := B.bytes
  have hr := B.returns
  have hts := atoms_spec (ws := (ws_ yJ2_checkIndex cJ2_checkIndex 3 (some .int))) B.pre
  have hts : ∀ w ∈ lw_all, w.before _ s = true := fun w h => hts w (List.mem_cons_of_mem _ h)
  have hown : s.vm.findClass RJ2 = some m.cls := findClass_of_methodNamed B.named
  have hlocks := B.notSynchronized
  have hS : va_S pd_F s.heap s.heap [] := va_S.rf
  have hl := lv_entry ([.int (nI i), .int (nI n), .null]) (n := 3) (Nat.le_of_ble_eq_true rfl)
  rw [lg_entry_eq]
  generalize (lg_sl ([.int (nI i), .int (nI n), .null]) ++ List.replicate (3 - (lg_sl ([.int (nI i), .int (nI n), .null])).length) Slot.unset).toArray = ls at hl ⊢
  have hl : lv_has ls 3 [(0, .int (nI i)), (1, .int (nI n)), (2, .null)] := hl
  refine lv_iload_n hx hb dJ2_checkIndex_0 rfl (lv_at hl 0 rfl) ?_
  refine lv_if_lt (tgt := 9) hx hb dJ2_checkIndex_1 (by decide) (fun c9 => absurd c9 (nI_pos (by omega))) (fun _ => ?_)
  refine lv_iload_n hx hb dJ2_checkIndex_4 rfl (lv_at hl 0 rfl) ?_
  refine lv_iload_n hx hb dJ2_checkIndex_5 rfl (lv_at hl 1 rfl) ?_
  refine lv_icmp_lt (tgt := 16) hx hb dJ2_checkIndex_6 (by decide) (fun _ => ?_) (fun c9 => absurd (nI_lt h hn) c9)
  refine lv_iload_n hx hb dJ2_checkIndex_16 rfl (lv_at hl 0 rfl) ?_
  exact W.iret (v := (nI i)) hx hb hr (fun t ht hW => ⟨⟨(nI i), (), rfl, rfl, trivial⟩, hS.F ht⟩) hS.2.2 dJ2_checkIndex_17
set_option maxHeartbeats 4000000 in
set_option maxRecDepth 100000 in
/-- Preconditions.checkFromIndexSize(0, c, n, f), c ≤ n: 0 -/
theorem m_J2cfn (l : Launch) (c0 n : Nat) (h : c0 ≤ n) (hn : n < 2 ^ 31) : Met l yJ2_checkFromIndexSize (ws_ yJ2_checkFromIndexSize cJ2_checkFromIndexSize 4 (some .int)) ({ frames := 0, cells := 0, slots := 0, locals := 0 }) (va_Pc [.int 0, .int (nI c0), .int (nI n), .null] (fun U => True)) (va_Qi (fun (r : Int32) (_ : Unit) => r = 0) (fun _ _ => True) pd_F) 0 0 pd_F := by
  refine Met.ofW (cc := cJ2_checkFromIndexSize) (maxL := 4) (ret := (some .int)) (by decide) rfl ?_
  intro p e s m args below meth c s₁ B hml hv
  obtain ⟨rfl, -⟩ := hv
  have hx := B.exec
  have hb := B.bytes
  have hr := B.returns
  have hts := atoms_spec (ws := (ws_ yJ2_checkFromIndexSize cJ2_checkFromIndexSize 4 (some .int))) B.pre
  have hts : ∀ w ∈ lw_all, w.before _ s = true := fun w h => hts w (List.mem_cons_of_mem _ h)
  have hown : s.vm.findClass RJ2 = some m.cls := findClass_of_methodNamed B.named
  have hlocks := B.notSynchronized
  have hS : va_S pd_F s.heap s.heap [] := va_S.rf
  have hl := lv_entry ([.int 0, .int (nI c0), .int (nI n), .null]) (n := 4) (Nat.le_of_ble_eq_true rfl)
  rw [lg_entry_eq]
  generalize (lg_sl ([.int 0, .int (nI c0), .int (nI n), .null]) ++ List.replicate (4 - (lg_sl ([.int 0, .int (nI c0), .int (nI n), .null])).length) Slot.unset).toArray = ls at hl ⊢
  have hl : lv_has ls 4 [(0, .int 0), (1, .int (nI c0)), (2, .int (nI n)), (3, .null)] := hl
  have ho := pd_ornn hn (Nat.lt_of_le_of_lt h hn)
  refine lv_iload_n hx hb dJ2_checkFromIndexSize_0 rfl (lv_at hl 2 rfl) ?_
  refine lv_iload_n hx hb dJ2_checkFromIndexSize_1 rfl (lv_at hl 0 rfl) ?_
  refine pd_ior (v := (nI n)) hx hb dJ2_checkFromIndexSize_2 (pd_or0 _) ?_
  refine lv_iload_n hx hb dJ2_checkFromIndexSize_3 rfl (lv_at hl 1 rfl) ?_
  refine pd_ior (v := (nI (n ||| c0))) hx hb dJ2_checkFromIndexSize_4 (ho.1) ?_
  refine lv_if_lt (tgt := 15) hx hb dJ2_checkFromIndexSize_5 (by decide) (fun c9 => absurd c9 (nI_pos ho.2)) (fun _ => ?_)
  refine lv_iload_n hx hb dJ2_checkFromIndexSize_8 rfl (lv_at hl 1 rfl) ?_
  refine lv_iload_n hx hb dJ2_checkFromIndexSize_9 rfl (lv_at hl 2 rfl) ?_
  refine lv_iload_n hx hb dJ2_checkFromIndexSize_10 rfl (lv_at hl 0 rfl) ?_
  refine pd_isub (v := (nI n)) hx hb dJ2_checkFromIndexSize_11 (pd_sub0 _) ?_
  refine lv_icmp_le (tgt := 23) hx hb dJ2_checkFromIndexSize_12 (by decide) (fun _ => ?_) (fun c9 => absurd (nI_le h hn) c9)
  refine lv_iload_n hx hb dJ2_checkFromIndexSize_23 rfl (lv_at hl 0 rfl) ?_
  exact W.iret (v := 0) hx hb hr (fun t ht hW => ⟨⟨0, (), rfl, rfl, trivial⟩, hS.F ht⟩) hS.2.2 dJ2_checkFromIndexSize_24
set_option maxHeartbeats 4000000 in
set_option maxRecDepth 100000 in
/-- Preconditions.checkIndex(i, n, f), i < n: i -/
theorem m_J2cir (l : Launch) (i n : Nat) (ft : Nat) (h : i < n) (hn : n < 2 ^ 31) : Met l yJ2_checkIndex (ws_ yJ2_checkIndex cJ2_checkIndex 3 (some .int)) ({ frames := 0, cells := 0, slots := 0, locals := 0 }) (va_Pc [.int (nI i), .int (nI n), .ref ft] (fun U => True)) (va_Qi (fun (r : Int32) (_ : Unit) => r = nI i) (fun _ _ => True) pd_F) 0 0 pd_F := by
  refine Met.ofW (cc := cJ2_checkIndex) (maxL := 3) (ret := (some .int)) (by decide) rfl ?_
  intro p e s m args below meth c s₁ B hml hv
  obtain ⟨rfl, -⟩ := hv
  have hx := B.exec
  have hb := B.bytes
  have hr := B.returns
  have hts := atoms_spec (ws := (ws_ yJ2_checkIndex cJ2_checkIndex 3 (some .int))) B.pre
  have hts : ∀ w ∈ lw_all, w.before _ s = true := fun w h => hts w (List.mem_cons_of_mem _ h)
  have hown : s.vm.findClass RJ2 = some m.cls := findClass_of_methodNamed B.named
  have hlocks := B.notSynchronized
  have hS : va_S pd_F s.heap s.heap [] := va_S.rf
  have hl := lv_entry ([.int (nI i), .int (nI n), .ref ft]) (n := 3) (Nat.le_of_ble_eq_true rfl)
  rw [lg_entry_eq]
  generalize (lg_sl ([.int (nI i), .int (nI n), .ref ft]) ++ List.replicate (3 - (lg_sl ([.int (nI i), .int (nI n), .ref ft])).length) Slot.unset).toArray = ls at hl ⊢
  have hl : lv_has ls 3 [(0, .int (nI i)), (1, .int (nI n)), (2, .ref ft)] := hl
  refine lv_iload_n hx hb dJ2_checkIndex_0 rfl (lv_at hl 0 rfl) ?_
  refine lv_if_lt (tgt := 9) hx hb dJ2_checkIndex_1 (by decide) (fun c9 => absurd c9 (nI_pos (by omega))) (fun _ => ?_)
  refine lv_iload_n hx hb dJ2_checkIndex_4 rfl (lv_at hl 0 rfl) ?_
  refine lv_iload_n hx hb dJ2_checkIndex_5 rfl (lv_at hl 1 rfl) ?_
  refine lv_icmp_lt (tgt := 16) hx hb dJ2_checkIndex_6 (by decide) (fun _ => ?_) (fun c9 => absurd (nI_lt h hn) c9)
  refine lv_iload_n hx hb dJ2_checkIndex_16 rfl (lv_at hl 0 rfl) ?_
  exact W.iret (v := (nI i)) hx hb hr (fun t ht hW => ⟨⟨(nI i), (), rfl, rfl, trivial⟩, hS.F ht⟩) hS.2.2 dJ2_checkIndex_17
set_option maxHeartbeats 4000000 in
set_option maxRecDepth 100000 in
/-- Preconditions.checkFromIndexSize(0, c, n, f), c ≤ n: 0 -/
theorem m_J2cfr (l : Launch) (c0 n : Nat) (ft : Nat) (h : c0 ≤ n) (hn : n < 2 ^ 31) : Met l yJ2_checkFromIndexSize (ws_ yJ2_checkFromIndexSize cJ2_checkFromIndexSize 4 (some .int)) ({ frames := 0, cells := 0, slots := 0, locals := 0 }) (va_Pc [.int 0, .int (nI c0), .int (nI n), .ref ft] (fun U => True)) (va_Qi (fun (r : Int32) (_ : Unit) => r = 0) (fun _ _ => True) pd_F) 0 0 pd_F := by
  refine Met.ofW (cc := cJ2_checkFromIndexSize) (maxL := 4) (ret := (some .int)) (by decide) rfl ?_
  intro p e s m args below meth c s₁ B hml hv
  obtain ⟨rfl, -⟩ := hv
  have hx := B.exec
  have hb := B.bytes
  have hr := B.returns
  have hts := atoms_spec (ws := (ws_ yJ2_checkFromIndexSize cJ2_checkFromIndexSize 4 (some .int))) B.pre
  have hts : ∀ w ∈ lw_all, w.before _ s = true := fun w h => hts w (List.mem_cons_of_mem _ h)
  have hown : s.vm.findClass RJ2 = some m.cls := findClass_of_methodNamed B.named
  have hlocks := B.notSynchronized
  have hS : va_S pd_F s.heap s.heap [] := va_S.rf
  have hl := lv_entry ([.int 0, .int (nI c0), .int (nI n), .ref ft]) (n := 4) (Nat.le_of_ble_eq_true rfl)
  rw [lg_entry_eq]
  generalize (lg_sl ([.int 0, .int (nI c0), .int (nI n), .ref ft]) ++ List.replicate (4 - (lg_sl ([.int 0, .int (nI c0), .int (nI n), .ref ft])).length) Slot.unset).toArray = ls at hl ⊢
  have hl : lv_has ls 4 [(0, .int 0), (1, .int (nI c0)), (2, .int (nI n)), (3, .ref ft)] := hl
  have ho := pd_ornn hn (Nat.lt_of_le_of_lt h hn)
  refine lv_iload_n hx hb dJ2_checkFromIndexSize_0 rfl (lv_at hl 2 rfl) ?_
  refine lv_iload_n hx hb dJ2_checkFromIndexSize_1 rfl (lv_at hl 0 rfl) ?_
  refine pd_ior (v := (nI n)) hx hb dJ2_checkFromIndexSize_2 (pd_or0 _) ?_
  refine lv_iload_n hx hb dJ2_checkFromIndexSize_3 rfl (lv_at hl 1 rfl) ?_
  refine pd_ior (v := (nI (n ||| c0))) hx hb dJ2_checkFromIndexSize_4 (ho.1) ?_
  refine lv_if_lt (tgt := 15) hx hb dJ2_checkFromIndexSize_5 (by decide) (fun c9 => absurd c9 (nI_pos ho.2)) (fun _ => ?_)
  refine lv_iload_n hx hb dJ2_checkFromIndexSize_8 rfl (lv_at hl 1 rfl) ?_
  refine lv_iload_n hx hb dJ2_checkFromIndexSize_9 rfl (lv_at hl 2 rfl) ?_
  refine lv_iload_n hx hb dJ2_checkFromIndexSize_10 rfl (lv_at hl 0 rfl) ?_
  refine pd_isub (v := (nI n)) hx hb dJ2_checkFromIndexSize_11 (pd_sub0 _) ?_
  refine lv_icmp_le (tgt := 23) hx hb dJ2_checkFromIndexSize_12 (by decide) (fun _ => ?_) (fun c9 => absurd (nI_le h hn) c9)
  refine lv_iload_n hx hb dJ2_checkFromIndexSize_23 rfl (lv_at hl 0 rfl) ?_
  exact W.iret (v := 0) hx hb hr (fun t ht hW => ⟨⟨0, (), rfl, rfl, trivial⟩, hS.F ht⟩) hS.2.2 dJ2_checkFromIndexSize_24
set_option maxHeartbeats 4000000 in
set_option maxRecDepth 100000 in
/-- String.checkIndex(i, n), i < n -/
theorem m_J0ci (l : Launch) (i n : Nat) (h : i < n) (hn : n < 2 ^ 31) : Met l yJ0_checkIndex (ws_ yJ0_checkIndex cJ0_checkIndex 2 (none)) ({ frames := 1, cells := 0, slots := 0, locals := 30 }) (va_Pc [.int (nI i), .int (nI n)] (fun U => pd_Z pd_F U U.heap)) (va_Qv (fun _ : Unit => True) (fun _ _ => True) pd_F) 0 0 pd_F := by
  refine Met.ofW (cc := cJ0_checkIndex) (maxL := 2) (ret := (none)) (by decide) rfl ?_
  intro p e s m args below meth c s₁ B hml hv
  obtain ⟨rfl, hZ⟩ := hv
  have hx := B.exec
  have hb := B.bytes
  have hr := B.returns
  have hts := atoms_spec (ws := (ws_ yJ0_checkIndex cJ0_checkIndex 2 (none))) B.pre
  have hts : ∀ w ∈ lw_all, w.before _ s = true := fun w h => hts w (List.mem_cons_of_mem _ h)
  have hown : s.vm.findClass RJ0 = some m.cls := findClass_of_methodNamed B.named
  have hlocks := B.notSynchronized
  have hS : va_S pd_F s.heap s.heap [] := va_S.rf
  have hl := lv_entry ([.int (nI i), .int (nI n)]) (n := 2) (Nat.le_of_ble_eq_true rfl)
  rw [lg_entry_eq]
  generalize (lg_sl ([.int (nI i), .int (nI n)]) ++ List.replicate (2 - (lg_sl ([.int (nI i), .int (nI n)])).length) Slot.unset).toArray = ls at hl ⊢
  have hl : lv_has ls 2 [(0, .int (nI i)), (1, .int (nI n))] := hl
  rcases hZ.2.2.2.2.1 with hq | ⟨ft, hq⟩
  · refine lv_iload_n hx hb dJ0_checkIndex_0 rfl (lv_at hl 0 rfl) ?_
    refine lv_iload_n hx hb dJ0_checkIndex_1 rfl (lv_at hl 1 rfl) ?_
    refine va_gets hx hb hq hS hown (hts _ q73) (fun _ h9 => h9) dJ0_checkIndex_2 ?_
    refine va_calli (va_runS (As := [.int (nI i), .int (nI n), .null]) (rest := []) ⟨hx, hb, hml, hown, hts⟩ (m_J2cin l i n h hn) (va_cwS 3 hts (lw_S q75 q76 q6 q77) rfl rfl rfl (by decide +kernel) ⟨Nat.le_of_ble_eq_true rfl, Nat.le_of_ble_eq_true rfl⟩) (pd_pre (fun a U g mk q => trivial) (fun U hU hW => trivial)) rfl rfl hl.1 rfl (lv_room (Nat.le_of_ble_eq_true rfl)) dJ0_checkIndex_5 ⟨Nat.le_of_ble_eq_true rfl, Nat.le_of_ble_eq_true rfl⟩) hS pd_Fin2 pd_Fin (fun r_1 u_1 t H1 locs ht hvm hw9 hB hz1 hk1 hS => ?_)
    generalize H1 = H at hS ⊢
    refine lv_pop hx hb dJ0_checkIndex_8 rfl ?_
    exact W.vret hx hb hr (fun t ht hW => ⟨⟨(), rfl, trivial, trivial⟩, hS.F ht⟩) hS.2.2 dJ0_checkIndex_9
  · refine lv_iload_n hx hb dJ0_checkIndex_0 rfl (lv_at hl 0 rfl) ?_
    refine lv_iload_n hx hb dJ0_checkIndex_1 rfl (lv_at hl 1 rfl) ?_
    refine va_gets hx hb hq hS hown (hts _ q73) (fun _ h9 => h9) dJ0_checkIndex_2 ?_
    refine va_calli (va_runS (As := [.int (nI i), .int (nI n), .ref ft]) (rest := []) ⟨hx, hb, hml, hown, hts⟩ (m_J2cir l i n ft h hn) (va_cwS 3 hts (lw_S q75 q76 q6 q77) rfl rfl rfl (by decide +kernel) ⟨Nat.le_of_ble_eq_true rfl, Nat.le_of_ble_eq_true rfl⟩) (pd_pre (fun a U g mk q => trivial) (fun U hU hW => trivial)) rfl rfl hl.1 rfl (lv_room (Nat.le_of_ble_eq_true rfl)) dJ0_checkIndex_5 ⟨Nat.le_of_ble_eq_true rfl, Nat.le_of_ble_eq_true rfl⟩) hS pd_Fin2 pd_Fin (fun r_1 u_1 t H1 locs ht hvm hw9 hB hz1 hk1 hS => ?_)
    generalize H1 = H at hS ⊢
    refine lv_pop hx hb dJ0_checkIndex_8 rfl ?_
    exact W.vret hx hb hr (fun t ht hW => ⟨⟨(), rfl, trivial, trivial⟩, hS.F ht⟩) hS.2.2 dJ0_checkIndex_9
set_option maxHeartbeats 4000000 in
set_option maxRecDepth 100000 in
/-- String.checkBoundsOffCount(0, c, n), c ≤ n -/
theorem m_J0cb (l : Launch) (c0 n : Nat) (h : c0 ≤ n) (hn : n < 2 ^ 31) : Met l yJ0_checkBoundsOffCount (ws_ yJ0_checkBoundsOffCount cJ0_checkBoundsOffCount 3 (some .int)) ({ frames := 1, cells := 0, slots := 0, locals := 30 }) (va_Pc [.int 0, .int (nI c0), .int (nI n)] (fun U => pd_Z pd_F U U.heap)) (va_Qi (fun (r : Int32) (_ : Unit) => r = 0) (fun _ _ => True) pd_F) 0 0 pd_F := by
  refine Met.ofW (cc := cJ0_checkBoundsOffCount) (maxL := 3) (ret := (some .int)) (by decide) rfl ?_
  intro p e s m args below meth c s₁ B hml hv
  obtain ⟨rfl, hZ⟩ := hv
  have hx := B.exec
  have hb := B.bytes
  have hr := B.returns
  have hts := atoms_spec (ws := (ws_ yJ0_checkBoundsOffCount cJ0_checkBoundsOffCount 3 (some .int))) B.pre
  have hts : ∀ w ∈ lw_all, w.before _ s = true := fun w h => hts w (List.mem_cons_of_mem _ h)
  have hown : s.vm.findClass RJ0 = some m.cls := findClass_of_methodNamed B.named
  have hlocks := B.notSynchronized
  have hS : va_S pd_F s.heap s.heap [] := va_S.rf
  have hl := lv_entry ([.int 0, .int (nI c0), .int (nI n)]) (n := 3) (Nat.le_of_ble_eq_true rfl)
  rw [lg_entry_eq]
  generalize (lg_sl ([.int 0, .int (nI c0), .int (nI n)]) ++ List.replicate (3 - (lg_sl ([.int 0, .int (nI c0), .int (nI n)])).length) Slot.unset).toArray = ls at hl ⊢
  have hl : lv_has ls 3 [(0, .int 0), (1, .int (nI c0)), (2, .int (nI n))] := hl
  rcases hZ.2.2.2.2.1 with hq | ⟨ft, hq⟩
  · refine lv_iload_n hx hb dJ0_checkBoundsOffCount_0 rfl (lv_at hl 0 rfl) ?_
    refine lv_iload_n hx hb dJ0_checkBoundsOffCount_1 rfl (lv_at hl 1 rfl) ?_
    refine lv_iload_n hx hb dJ0_checkBoundsOffCount_2 rfl (lv_at hl 2 rfl) ?_
    refine va_gets hx hb hq hS hown (hts _ q73) (fun _ h9 => h9) dJ0_checkBoundsOffCount_3 ?_
    refine va_calli (va_runS (As := [.int 0, .int (nI c0), .int (nI n), .null]) (rest := []) ⟨hx, hb, hml, hown, hts⟩ (m_J2cfn l c0 n h hn) (va_cwS 4 hts (lw_S q209 q210 q6 q211) rfl rfl rfl (by decide +kernel) ⟨Nat.le_of_ble_eq_true rfl, Nat.le_of_ble_eq_true rfl⟩) (pd_pre (fun a U g mk q => trivial) (fun U hU hW => trivial)) rfl rfl hl.1 rfl (lv_room (Nat.le_of_ble_eq_true rfl)) dJ0_checkBoundsOffCount_6 ⟨Nat.le_of_ble_eq_true rfl, Nat.le_of_ble_eq_true rfl⟩) hS pd_Fin2 pd_Fin (fun r_1 u_1 t H1 locs ht hvm hw9 hB hz1 hk1 hS => ?_)
    generalize H1 = H at hS ⊢
    exact W.iret (v := r_1) hx hb hr (fun t ht hW => ⟨⟨r_1, (), rfl, hw9, trivial⟩, hS.F ht⟩) hS.2.2 dJ0_checkBoundsOffCount_9
  · refine lv_iload_n hx hb dJ0_checkBoundsOffCount_0 rfl (lv_at hl 0 rfl) ?_
    refine lv_iload_n hx hb dJ0_checkBoundsOffCount_1 rfl (lv_at hl 1 rfl) ?_
    refine lv_iload_n hx hb dJ0_checkBoundsOffCount_2 rfl (lv_at hl 2 rfl) ?_
    refine va_gets hx hb hq hS hown (hts _ q73) (fun _ h9 => h9) dJ0_checkBoundsOffCount_3 ?_
    refine va_calli (va_runS (As := [.int 0, .int (nI c0), .int (nI n), .ref ft]) (rest := []) ⟨hx, hb, hml, hown, hts⟩ (m_J2cfr l c0 n ft h hn) (va_cwS 4 hts (lw_S q209 q210 q6 q211) rfl rfl rfl (by decide +kernel) ⟨Nat.le_of_ble_eq_true rfl, Nat.le_of_ble_eq_true rfl⟩) (pd_pre (fun a U g mk q => trivial) (fun U hU hW => trivial)) rfl rfl hl.1 rfl (lv_room (Nat.le_of_ble_eq_true rfl)) dJ0_checkBoundsOffCount_6 ⟨Nat.le_of_ble_eq_true rfl, Nat.le_of_ble_eq_true rfl⟩) hS pd_Fin2 pd_Fin (fun r_1 u_1 t H1 locs ht hvm hw9 hB hz1 hk1 hS => ?_)
    generalize H1 = H at hS ⊢
    exact W.iret (v := r_1) hx hb hr (fun t ht hW => ⟨⟨r_1, (), rfl, hw9, trivial⟩, hS.F ht⟩) hS.2.2 dJ0_checkBoundsOffCount_9
set_option maxHeartbeats 4000000 in
set_option maxRecDepth 100000 in
/-- String.rangeCheck(a, 0, c): null -/
theorem m_J0rc (l : Launch) (a0 c0 n : Nat) (f : Nat → Value) (h : c0 ≤ n) (hn : n < 2 ^ 31) : Met l yJ0_rangeCheck (ws_ yJ0_rangeCheck cJ0_rangeCheck 3 (some (.object "java/lang/Void"))) ({ frames := 2, cells := 0, slots := 0, locals := 60 }) (va_Pc [.ref a0, .int 0, .int (nI c0)] (fun U => pd_Z pd_F U U.heap ∧ va_T .char a0 n f pd_F U U.heap)) (va_Qq (fun (r : Option Nat) (_ : Unit) => r = none) (fun _ _ => True) pd_F) 0 0 pd_F := by
  refine Met.ofW (cc := cJ0_rangeCheck) (maxL := 3) (ret := (some (.object "java/lang/Void"))) (by decide) rfl ?_
  intro p e s m args below meth c s₁ B hml hv
  obtain ⟨rfl, hZ, hT⟩ := hv
  have hx := B.exec
  have hb := B.bytes
  have hr := B.returns
  have hts := atoms_spec (ws := (ws_ yJ0_rangeCheck cJ0_rangeCheck 3 (some (.object "java/lang/Void")))) B.pre
  have hts : ∀ w ∈ lw_all, w.before _ s = true := fun w h => hts w (List.mem_cons_of_mem _ h)
  have hown : s.vm.findClass RJ0 = some m.cls := findClass_of_methodNamed B.named
  have hlocks := B.notSynchronized
  have hS : va_S pd_F s.heap s.heap [] := va_S.rf
  have hl := lv_entry ([.ref a0, .int 0, .int (nI c0)]) (n := 3) (Nat.le_of_ble_eq_true rfl)
  rw [lg_entry_eq]
  generalize (lg_sl ([.ref a0, .int 0, .int (nI c0)]) ++ List.replicate (3 - (lg_sl ([.ref a0, .int 0, .int (nI c0)])).length) Slot.unset).toArray = ls at hl ⊢
  have hl : lv_has ls 3 [(0, .ref a0), (1, .int 0), (2, .int (nI c0))] := hl
  refine lv_iload_n hx hb dJ0_rangeCheck_0 rfl (lv_at hl 1 rfl) ?_
  refine lv_iload_n hx hb dJ0_rangeCheck_1 rfl (lv_at hl 2 rfl) ?_
  refine lv_aload_n hx hb dJ0_rangeCheck_2 rfl (lv_at hl 0 rfl) ?_
  refine va_tlen (v := (nI n)) hx hb hT hS (rfl) dJ0_rangeCheck_3 ?_
  refine va_calli (va_runS (As := [.int 0, .int (nI c0), .int (nI n)]) (rest := []) ⟨hx, hb, hml, hown, hts⟩ (m_J0cb l c0 n h hn) (va_cwS 3 hts (lw_S q206 q207 q4 q208) rfl rfl rfl (by decide +kernel) ⟨Nat.le_of_ble_eq_true rfl, Nat.le_of_ble_eq_true rfl⟩) (pd_pre (fun a U g mk q => pd_Z.same (s := U) (U := U.calling g mk a) rfl q) (fun U hU hW => pd_Z.call hZ hS hW hU pd_Fin)) rfl rfl hl.1 rfl (lv_room (Nat.le_of_ble_eq_true rfl)) dJ0_rangeCheck_4 ⟨Nat.le_of_ble_eq_true rfl, Nat.le_of_ble_eq_true rfl⟩) hS pd_Fin2 pd_Fin (fun r_1 u_1 t H1 locs ht hvm hw9 hB hz1 hk1 hS => ?_)
  generalize H1 = H at hS ⊢
  refine lv_pop hx hb dJ0_rangeCheck_7 rfl ?_
  refine lv_null hx hb dJ0_rangeCheck_8 ?_
  exact W.aret (v := .null) hx hb hr (Or.inl ⟨_, rfl⟩) (Or.inl rfl) (fun t ht hW => ⟨⟨none, (), rfl, rfl, trivial⟩, hS.F ht⟩) hS.2.2 dJ0_rangeCheck_9
set_option maxHeartbeats 4000000 in
set_option maxRecDepth 100000 in
/-- StringUTF16.length(bytes) -/
theorem m_J3len (l : Launch) (v0 n : Nat) (f : Nat → Value) (hn : n < 2 ^ 31) : Met l yJ3_length (ws_ yJ3_length cJ3_length 1 (some .int)) ({ frames := 0, cells := 0, slots := 0, locals := 0 }) (va_Pc [.ref v0] (fun U => va_T .byte v0 n f pd_F U U.heap)) (va_Qi (fun (r : Int32) (_ : Unit) => r = nI (n / 2)) (fun _ _ => True) pd_F) 0 0 pd_F := by
  refine Met.ofW (cc := cJ3_length) (maxL := 1) (ret := (some .int)) (by decide) rfl ?_
  intro p e s m args below meth c s₁ B hml hv
  obtain ⟨rfl, hT⟩ := hv
  have hx := B.exec
  have hb := B.bytes
  have hr := B.returns
  have hts := atoms_spec (ws := (ws_ yJ3_length cJ3_length 1 (some .int))) B.pre
  have hts : ∀ w ∈ lw_all, w.before _ s = true := fun w h => hts w (List.mem_cons_of_mem _ h)
  have hown : s.vm.findClass RJ3 = some m.cls := findClass_of_methodNamed B.named
  have hlocks := B.notSynchronized
  have hS : va_S pd_F s.heap s.heap [] := va_S.rf
  have hl := lv_entry ([.ref v0]) (n := 1) (Nat.le_of_ble_eq_true rfl)
  rw [lg_entry_eq]
  generalize (lg_sl ([.ref v0]) ++ List.replicate (1 - (lg_sl ([.ref v0])).length) Slot.unset).toArray = ls at hl ⊢
  have hl : lv_has ls 1 [(0, .ref v0)] := hl
  refine lv_aload_n hx hb dJ3_length_0 rfl (lv_at hl 0 rfl) ?_
  refine va_tlen (v := (nI n)) hx hb hT hS (rfl) dJ3_length_1 ?_
  refine lv_iconst (v := (nI 1)) hx hb dJ3_length_2 (by decide) ?_
  refine pd_ishr (v := (nI (n / 2))) hx hb dJ3_length_3 (pd_sr1 hn) ?_
  exact W.iret (v := (nI (n / 2))) hx hb hr (fun t ht hW => ⟨⟨(nI (n / 2)), (), rfl, rfl, trivial⟩, hS.F ht⟩) hS.2.2 dJ3_length_4
set_option maxHeartbeats 4000000 in
set_option maxRecDepth 100000 in
/-- StringUTF16.checkIndex(i, bytes) -/
theorem m_J3ci (l : Launch) (i v0 n : Nat) (f : Nat → Value) (h : i < n / 2) (hn : n < 2 ^ 31) : Met l yJ3_checkIndex (ws_ yJ3_checkIndex cJ3_checkIndex 2 (none)) ({ frames := 2, cells := 0, slots := 0, locals := 60 }) (va_Pc [.int (nI i), .ref v0] (fun U => pd_Z pd_F U U.heap ∧ va_T .byte v0 n f pd_F U U.heap)) (va_Qv (fun _ : Unit => True) (fun _ _ => True) pd_F) 0 0 pd_F := by
  refine Met.ofW (cc := cJ3_checkIndex) (maxL := 2) (ret := (none)) (by decide) rfl ?_
  intro p e s m args below meth c s₁ B hml hv
  obtain ⟨rfl, hZ, hT⟩ := hv
  have hx := B.exec
  have hb := B.bytes
  have hr := B.returns
  have hts := atoms_spec (ws := (ws_ yJ3_checkIndex cJ3_checkIndex 2 (none))) B.pre
  have hts : ∀ w ∈ lw_all, w.before _ s = true := fun w h => hts w (List.mem_cons_of_mem _ h)
  have hown : s.vm.findClass RJ3 = some m.cls := findClass_of_methodNamed B.named
  have hlocks := B.notSynchronized
  have hS : va_S pd_F s.heap s.heap [] := va_S.rf
  have hl := lv_entry ([.int (nI i), .ref v0]) (n := 2) (Nat.le_of_ble_eq_true rfl)
  rw [lg_entry_eq]
  generalize (lg_sl ([.int (nI i), .ref v0]) ++ List.replicate (2 - (lg_sl ([.int (nI i), .ref v0])).length) Slot.unset).toArray = ls at hl ⊢
  have hl : lv_has ls 2 [(0, .int (nI i)), (1, .ref v0)] := hl
  refine lv_iload_n hx hb dJ3_checkIndex_0 rfl (lv_at hl 0 rfl) ?_
  refine lv_aload_n hx hb dJ3_checkIndex_1 rfl (lv_at hl 1 rfl) ?_
  refine va_calli (va_runS (As := [.ref v0]) (rest := [.int (nI i)]) ⟨hx, hb, hml, hown, hts⟩ (m_J3len l v0 n f hn) (va_cwS 1 hts (lw_S q84 q85 q7 q86) rfl rfl rfl (by decide +kernel) ⟨Nat.le_of_ble_eq_true rfl, Nat.le_of_ble_eq_true rfl⟩) (pd_pre (fun a U g mk q => va_T.moved (u := U) (U := U.calling g mk a) (Vm.Alike.refl U.vm) q) (fun U hU hW => pd_T.call hT hS hW hU pd_Fin)) rfl rfl hl.1 rfl (lv_room (Nat.le_of_ble_eq_true rfl)) dJ3_checkIndex_2 ⟨Nat.le_of_ble_eq_true rfl, Nat.le_of_ble_eq_true rfl⟩) hS pd_Fin2 pd_Fin (fun r_1 u_1 t H1 locs ht hvm hw9 hB hz1 hk1 hS => ?_)
  generalize H1 = H at hS ⊢
  obtain rfl : r_1 = (nI (n / 2)) := hw9
  refine va_callv (va_runS (As := [.int (nI i), .int (nI (n / 2))]) (rest := []) ⟨hx, hb, hml, hown, hts⟩ (m_J0ci l i (n / 2) h (by omega)) (va_cwS 2 hts (lw_S q87 q71 q4 q72) rfl rfl rfl (by decide +kernel) ⟨Nat.le_of_ble_eq_true rfl, Nat.le_of_ble_eq_true rfl⟩) (pd_pre (fun a U g mk q => pd_Z.same (s := U) (U := U.calling g mk a) rfl q) (fun U hU hW => pd_Z.call hZ hS hW hU pd_Fin)) rfl rfl hl.1 rfl (lv_room (Nat.le_of_ble_eq_true rfl)) dJ3_checkIndex_5 ⟨Nat.le_of_ble_eq_true rfl, Nat.le_of_ble_eq_true rfl⟩) hS pd_Fin2 pd_Fin (fun u_2 t H1 locs ht hvm hw9 hB hz1 hk1 hS => ?_)
  generalize H1 = H at hS ⊢
  exact W.vret hx hb hr (fun t ht hW => ⟨⟨(), rfl, trivial, trivial⟩, hS.F ht⟩) hS.2.2 dJ3_checkIndex_8
set_option maxHeartbeats 4000000 in
set_option maxRecDepth 100000 in
/-- StringUTF16.checkBoundsOffCount(0, c, bytes) -/
theorem m_J3cb (l : Launch) (c0 v0 n : Nat) (f : Nat → Value) (h : c0 ≤ n / 2) (hn : n < 2 ^ 31) : Met l yJ3_checkBoundsOffCount (ws_ yJ3_checkBoundsOffCount cJ3_checkBoundsOffCount 3 (none)) ({ frames := 2, cells := 0, slots := 0, locals := 60 }) (va_Pc [.int 0, .int (nI c0), .ref v0] (fun U => pd_Z pd_F U U.heap ∧ va_T .byte v0 n f pd_F U U.heap)) (va_Qv (fun _ : Unit => True) (fun _ _ => True) pd_F) 0 0 pd_F := by
  refine Met.ofW (cc := cJ3_checkBoundsOffCount) (maxL := 3) (ret := (none)) (by decide) rfl ?_
  intro p e s m args below meth c s₁ B hml hv
  obtain ⟨rfl, hZ, hT⟩ := hv
  have hx := B.exec
  have hb := B.bytes
  have hr := B.returns
  have hts := atoms_spec (ws := (ws_ yJ3_checkBoundsOffCount cJ3_checkBoundsOffCount 3 (none))) B.pre
  have hts : ∀ w ∈ lw_all, w.before _ s = true := fun w h => hts w (List.mem_cons_of_mem _ h)
  have hown : s.vm.findClass RJ3 = some m.cls := findClass_of_methodNamed B.named
  have hlocks := B.notSynchronized
  have hS : va_S pd_F s.heap s.heap [] := va_S.rf
  have hl := lv_entry ([.int 0, .int (nI c0), .ref v0]) (n := 3) (Nat.le_of_ble_eq_true rfl)
  rw [lg_entry_eq]
  generalize (lg_sl ([.int 0, .int (nI c0), .ref v0]) ++ List.replicate (3 - (lg_sl ([.int 0, .int (nI c0), .ref v0])).length) Slot.unset).toArray = ls at hl ⊢
  have hl : lv_has ls 3 [(0, .int 0), (1, .int (nI c0)), (2, .ref v0)] := hl
  refine lv_iload_n hx hb dJ3_checkBoundsOffCount_0 rfl (lv_at hl 0 rfl) ?_
  refine lv_iload_n hx hb dJ3_checkBoundsOffCount_1 rfl (lv_at hl 1 rfl) ?_
  refine lv_aload_n hx hb dJ3_checkBoundsOffCount_2 rfl (lv_at hl 2 rfl) ?_
  refine va_calli (va_runS (As := [.ref v0]) (rest := [.int (nI c0), .int 0]) ⟨hx, hb, hml, hown, hts⟩ (m_J3len l v0 n f hn) (va_cwS 1 hts (lw_S q84 q85 q7 q86) rfl rfl rfl (by decide +kernel) ⟨Nat.le_of_ble_eq_true rfl, Nat.le_of_ble_eq_true rfl⟩) (pd_pre (fun a U g mk q => va_T.moved (u := U) (U := U.calling g mk a) (Vm.Alike.refl U.vm) q) (fun U hU hW => pd_T.call hT hS hW hU pd_Fin)) rfl rfl hl.1 rfl (lv_room (Nat.le_of_ble_eq_true rfl)) dJ3_checkBoundsOffCount_3 ⟨Nat.le_of_ble_eq_true rfl, Nat.le_of_ble_eq_true rfl⟩) hS pd_Fin2 pd_Fin (fun r_1 u_1 t H1 locs ht hvm hw9 hB hz1 hk1 hS => ?_)
  generalize H1 = H at hS ⊢
  obtain rfl : r_1 = (nI (n / 2)) := hw9
  refine va_calli (va_runS (As := [.int 0, .int (nI c0), .int (nI (n / 2))]) (rest := []) ⟨hx, hb, hml, hown, hts⟩ (m_J0cb l c0 (n / 2) h (by omega)) (va_cwS 3 hts (lw_S q242 q207 q4 q208) rfl rfl rfl (by decide +kernel) ⟨Nat.le_of_ble_eq_true rfl, Nat.le_of_ble_eq_true rfl⟩) (pd_pre (fun a U g mk q => pd_Z.same (s := U) (U := U.calling g mk a) rfl q) (fun U hU hW => pd_Z.call hZ hS hW hU pd_Fin)) rfl rfl hl.1 rfl (lv_room (Nat.le_of_ble_eq_true rfl)) dJ3_checkBoundsOffCount_6 ⟨Nat.le_of_ble_eq_true rfl, Nat.le_of_ble_eq_true rfl⟩) hS pd_Fin2 pd_Fin (fun r_2 u_2 t H1 locs ht hvm hw9 hB hz1 hk1 hS => ?_)
  generalize H1 = H at hS ⊢
  refine lv_pop hx hb dJ3_checkBoundsOffCount_9 rfl ?_
  exact W.vret hx hb hr (fun t ht hW => ⟨⟨(), rfl, trivial, trivial⟩, hS.F ht⟩) hS.2.2 dJ3_checkBoundsOffCount_10
set_option maxHeartbeats 4000000 in
set_option maxRecDepth 100000 in
/-- StringUTF16.newBytesLength(n) -/
theorem m_J3nbl (l : Launch) (n : Nat) (hn : n ≤ 1000) : Met l yJ3_newBytesLength (ws_ yJ3_newBytesLength cJ3_newBytesLength 1 (some .int)) ({ frames := 0, cells := 0, slots := 0, locals := 0 }) (va_Pc [.int (nI n)] (fun U => True)) (va_Qi (fun (r : Int32) (_ : Unit) => r = nI (2 * n)) (fun _ _ => True) pd_F) 0 0 pd_F := by
  refine Met.ofW (cc := cJ3_newBytesLength) (maxL := 1) (ret := (some .int)) (by decide) rfl ?_
  intro p e s m args below meth c s₁ B hml hv
  obtain ⟨rfl, -⟩ := hv
  have hx := B.exec
  have hb := B.bytes
  have hr := B.returns
  have hts := atoms_spec (ws := (ws_ yJ3_newBytesLength cJ3_newBytesLength 1 (some .int))) B.pre
  have hts : ∀ w ∈ lw_all, w.before _ s = true := fun w h => hts w (List.mem_cons_of_mem _ h)
  have hown : s.vm.findClass RJ3 = some m.cls := findClass_of_methodNamed B.named
  have hlocks := B.notSynchronized
  have hS : va_S pd_F s.heap s.heap [] := va_S.rf
  have hl := lv_entry ([.int (nI n)]) (n := 1) (Nat.le_of_ble_eq_true rfl)
  rw [lg_entry_eq]
  generalize (lg_sl ([.int (nI n)]) ++ List.replicate (1 - (lg_sl ([.int (nI n)])).length) Slot.unset).toArray = ls at hl ⊢
  have hl : lv_has ls 1 [(0, .int (nI n))] := hl
  refine lv_iload_n hx hb dJ3_newBytesLength_0 rfl (lv_at hl 0 rfl) ?_
  refine lv_if_ge (tgt := 12) hx hb dJ3_newBytesLength_1 (by decide) (fun _ => ?_) (fun c9 => absurd (nI_pos' (by omega)) c9)
  refine lv_iload_n hx hb dJ3_newBytesLength_12 rfl (lv_at hl 0 rfl) ?_
  refine lv_ldc hx hb hown (hts _ q232) dJ3_newBytesLength_13 ?_
  refine lv_icmp_lt (tgt := 55) hx hb dJ3_newBytesLength_15 (by decide) (fun _ => ?_) (fun c9 => absurd (nI_lt (a := n) (b := 1073741823) (by omega) (by decide)) c9)
  refine lv_iload_n hx hb dJ3_newBytesLength_55 rfl (lv_at hl 0 rfl) ?_
  refine lv_iconst (v := (nI 1)) hx hb dJ3_newBytesLength_56 (by decide) ?_
  refine pd_ishl (v := (nI (2 * n))) hx hb dJ3_newBytesLength_57 (pd_sh1 (by omega)) ?_
  exact W.iret (v := (nI (2 * n))) hx hb hr (fun t ht hW => ⟨⟨(nI (2 * n)), (), rfl, rfl, trivial⟩, hS.F ht⟩) hS.2.2 dJ3_newBytesLength_58
set_option maxHeartbeats 4000000 in
set_option maxRecDepth 100000 in
/-- StringUTF16.newBytesFor(n): 2 n new bytes -/
theorem m_J3nbf (l : Launch) (D : va_G) (cB cC cI : ClassId) (sz n : Nat) (hn : n ≤ 1000) : Met l yJ3_newBytesFor (ws_ yJ3_newBytesFor cJ3_newBytesFor 1 (some (.array .byte))) ({ frames := 1, cells := 1, slots := 2 * n, locals := 40 }) (va_Pc [.int (nI n)] (fun U => pd_BA D cB cC cI [] sz U)) (va_Qr (fun _ : Unit => True) (fun _ a t => va_P D pd_cl [(a, .inl (cB, 2 * n, .inl (fun _ => 0)))] t.heap ∧ va_D (va_A [] sz) [(a, .inl (cB, 2 * n, .inl (fun _ => 0)))]) (va_A [] sz)) 1 (2 * n) (va_A [] sz) := by
  refine Met.ofW (cc := cJ3_newBytesFor) (maxL := 1) (ret := (some (.array .byte))) (by decide) rfl ?_
  intro p e s m args below meth c s₁ B hml hv
  obtain ⟨rfl, hBA⟩ := hv
  have hx := B.exec
  have hb := B.bytes
  have hr := B.returns
  have hts := atoms_spec (ws := (ws_ yJ3_newBytesFor cJ3_newBytesFor 1 (some (.array .byte)))) B.pre
  have hts : ∀ w ∈ lw_all, w.before _ s = true := fun w h => hts w (List.mem_cons_of_mem _ h)
  have hown : s.vm.findClass RJ3 = some m.cls := findClass_of_methodNamed B.named
  have hlocks := B.notSynchronized
  obtain ⟨hsz, hP, hK, hD0, hZ⟩ := hBA
  subst hsz
  have hD := hD0.self (sz := s.heap.size)
  generalize hAe : va_A [] s.heap.size = A at hD hZ ⊢
  have hA : ∀ q : Nat, s.heap.size ≤ q → A q := fun q h => by rw [← hAe]; exact Or.inr h
  have hS : va_S A s.heap s.heap [] := va_S.rf
  have hP : va_P D pd_cl [] s.heap := hP
  have hl := lv_entry ([.int (nI n)]) (n := 1) (Nat.le_of_ble_eq_true rfl)
  rw [lg_entry_eq]
  generalize (lg_sl ([.int (nI n)]) ++ List.replicate (1 - (lg_sl ([.int (nI n)])).length) Slot.unset).toArray = ls at hl ⊢
  have hl : lv_has ls 1 [(0, .int (nI n))] := hl
  refine lv_iload_n hx hb dJ3_newBytesFor_0 rfl (lv_at hl 0 rfl) ?_
  refine va_calli (va_runS (As := [.int (nI n)]) (rest := []) ⟨hx, hb, hml, hown, hts⟩ (m_J3nbl l n hn) (va_cwS 1 hts (lw_S q229 q230 q7 q231) rfl rfl rfl (by decide +kernel) ⟨Nat.le_of_ble_eq_true rfl, Nat.le_of_ble_eq_true rfl⟩) (pd_pre (fun a U g mk q => trivial) (fun U hU hW => trivial)) rfl rfl hl.1 rfl (lv_room (Nat.le_of_ble_eq_true rfl)) dJ3_newBytesFor_1 ⟨Nat.le_of_ble_eq_true rfl, Nat.zero_le _⟩) hS pd_Fin2 pd_Fin (fun r_1 u_1 t H1 locs ht hvm hw9 hB hz1 hk1 hS => ?_)
  have hP := pd_keep hP hk1
  generalize H1 = H at hP hS ⊢
  obtain rfl : r_1 = (nI (2 * n)) := hw9
  refine pd_newb (N := 2 * n) hx hb (hts _ q39) hK hP hD hS hA (rfl) (by omega) (by show 0 + 0 + 1 ≤ 1; omega) (by show 0 + 0 + 2 * n ≤ 2 * n; omega) dJ3_newBytesFor_4 (fun qa H hP hD hS => ?_)
  have hP : va_P D pd_cl [(qa, .inl (cB, 2 * n, .inl (fun _ => 0)))] H := hP
  have hD : va_D A [(qa, .inl (cB, 2 * n, .inl (fun _ => 0)))] := hD
  refine W.widen (k := 1) (n := 2 * n) (by omega) (by omega) ?_
  exact W.aret (v := .ref qa) hx hb hr (Or.inr ⟨_, rfl⟩) (Or.inr ⟨_, rfl⟩) (fun t ht hW => ⟨⟨(), qa, rfl, trivial, by rw [ht]; exact hP, hD⟩, hS.F ht⟩) hS.2.2 dJ3_newBytesFor_6
set_option maxHeartbeats 4000000 in
set_option maxRecDepth 100000 in
/-- StringUTF16.putChar(bytes, i, ch) -/
theorem m_J3pc (l : Launch) (D : va_G) (cB cC cI : ClassId) (sz v0 n i ch : Nat) (f : Nat → Int32) (h : 2 * i + 1 < n) (hn : n ≤ 10000) (hc : ch < 65536) : Met l yJ3_putChar (ws_ yJ3_putChar cJ3_putChar 3 (none)) ({ frames := 0, cells := 0, slots := 0, locals := 0 }) (va_Pc [.ref v0, .int (nI i), .int (nI ch)] (fun U => pd_BA D cB cC cI [(v0, .inl (cB, n, .inl (f)))] sz U)) (va_Qv (fun _ : Unit => True) (fun _ t => va_P D pd_cl [(v0, .inl (cB, n, .inl (upd (upd f (2 * i) (sb_b ch)) (2 * i + 1) (sb_b (ch / 256)))))] t.heap ∧ va_D (va_A [(v0, .inl (cB, n, .inl (f)))] sz) [(v0, .inl (cB, n, .inl (upd (upd f (2 * i) (sb_b ch)) (2 * i + 1) (sb_b (ch / 256)))))]) (va_A [(v0, .inl (cB, n, .inl (f)))] sz)) 0 0 (va_A [(v0, .inl (cB, n, .inl (f)))] sz) := by
  refine Met.ofW (cc := cJ3_putChar) (maxL := 3) (ret := (none)) (by decide) rfl ?_
  intro p e s m args below meth c s₁ B hml hv
  obtain ⟨rfl, hBA⟩ := hv
  have hx := B.exec
  have hb := B.bytes
  have hr := B.returns
  have hts := atoms_spec (ws := (ws_ yJ3_putChar cJ3_putChar 3 (none))) B.pre
  have hts : ∀ w ∈ lw_all, w.before _ s = true := fun w h => hts w (List.mem_cons_of_mem _ h)
  have hown : s.vm.findClass RJ3 = some m.cls := findClass_of_methodNamed B.named
  have hlocks := B.notSynchronized
  obtain ⟨hsz, hP, hK, hD0, hZ⟩ := hBA
  subst hsz
  have hD := hD0.self (sz := s.heap.size)
  generalize hAe : va_A [(v0, .inl (cB, n, .inl (f)))] s.heap.size = A at hD hZ ⊢
  have hA : ∀ q : Nat, s.heap.size ≤ q → A q := fun q h => by rw [← hAe]; exact Or.inr h
  have hS : va_S A s.heap s.heap [] := va_S.rf
  have hP : va_P D pd_cl [(v0, .inl (cB, n, .inl (f)))] s.heap := hP
  have hl := lv_entry ([.ref v0, .int (nI i), .int (nI ch)]) (n := 3) (Nat.le_of_ble_eq_true rfl)
  rw [lg_entry_eq]
  generalize (lg_sl ([.ref v0, .int (nI i), .int (nI ch)]) ++ List.replicate (3 - (lg_sl ([.ref v0, .int (nI i), .int (nI ch)])).length) Slot.unset).toArray = ls at hl ⊢
  have hl : lv_has ls 3 [(0, .ref v0), (1, .int (nI i)), (2, .int (nI ch))] := hl
  refine va_gets hx hb hZ.2.1 hS hown (hts _ q91) (fun _ h9 => h9) dJ3_putChar_0 ?_
  refine lv_if_ne (tgt := 28) hx hb dJ3_putChar_3 (by decide) (fun _ => ?_) (fun c9 => absurd c9 (by decide))
  refine lv_iload_n hx hb dJ3_putChar_28 rfl (lv_at hl 1 rfl) ?_
  refine lv_iconst (v := (nI 1)) hx hb dJ3_putChar_29 (by decide) ?_
  refine pd_ishl (v := (nI (2 * i))) hx hb dJ3_putChar_30 (pd_sh1 (by omega)) ?_
  refine lv_istore_n (lv' := [(1, .int (nI (2 * i))), (0, .ref v0), (2, .int (nI ch))]) hx hb dJ3_putChar_31 rfl hl (by decide) rfl (fun ls hl => ?_)
  refine lv_aload_n hx hb dJ3_putChar_32 rfl (lv_at hl 1 rfl) ?_
  refine lv_iload_n hx hb dJ3_putChar_33 rfl (lv_at hl 0 rfl) ?_
  refine lv_iinc (v := (nI (2 * i + 1))) (lv' := [(1, .int (nI (2 * i + 1))), (0, .ref v0), (2, .int (nI ch))]) hx hb dJ3_putChar_34 hl (k := 0) rfl (nI_1 _) (by decide) rfl (fun ls hl => ?_)
  refine lv_iload_n hx hb dJ3_putChar_37 rfl (lv_at hl 2 rfl) ?_
  refine va_gets hx hb hZ.2.2.1 hS hown (hts _ q93) (fun _ h9 => h9) dJ3_putChar_38 ?_
  refine pd_ishr (v := (nI ch)) hx hb dJ3_putChar_41 (sb_shr0 _) ?_
  refine lv_i2b (v := (sb_b ch)) hx hb dJ3_putChar_42 (rfl) ?_
  refine pd_bast (f2 := upd f (2 * i) (sb_b ch)) hx hb hK hP hD hS 0 0 rfl rfl (vp_in_nI (by omega) (by omega)) (by rw [nI_clamp (by omega), pd_vb]) dJ3_putChar_43 (fun H locs hP hD hS => ?_)
  have hP : va_P D pd_cl [(v0, .inl (cB, n, .inl (upd f (2 * i) (sb_b ch))))] H := hP
  have hD : va_D A [(v0, .inl (cB, n, .inl (upd f (2 * i) (sb_b ch))))] := hD
  refine lv_aload_n hx hb dJ3_putChar_44 rfl (lv_at hl 1 rfl) ?_
  refine lv_iload_n hx hb dJ3_putChar_45 rfl (lv_at hl 0 rfl) ?_
  refine lv_iload_n hx hb dJ3_putChar_46 rfl (lv_at hl 2 rfl) ?_
  refine va_gets hx hb hZ.2.2.2.1 hS hown (hts _ q95) (fun _ h9 => h9) dJ3_putChar_47 ?_
  refine pd_ishr (v := (nI (ch / 256))) hx hb dJ3_putChar_50 (pd_sr8 (by omega)) ?_
  refine lv_i2b (v := (sb_b (ch / 256))) hx hb dJ3_putChar_51 (rfl) ?_
  refine pd_bast (f2 := upd (upd f (2 * i) (sb_b ch)) (2 * i + 1) (sb_b (ch / 256))) hx hb hK hP hD hS 0 0 rfl rfl (vp_in_nI (by omega) (by omega)) (by rw [nI_clamp (by omega), pd_vb]) dJ3_putChar_52 (fun H locs hP hD hS => ?_)
  have hP : va_P D pd_cl [(v0, .inl (cB, n, .inl (upd (upd f (2 * i) (sb_b ch)) (2 * i + 1) (sb_b (ch / 256)))))] H := hP
  have hD : va_D A [(v0, .inl (cB, n, .inl (upd (upd f (2 * i) (sb_b ch)) (2 * i + 1) (sb_b (ch / 256)))))] := hD
  exact W.vret hx hb hr (fun t ht hW => ⟨⟨(), rfl, trivial, by rw [ht]; exact hP, hD⟩, hS.F ht⟩) hS.2.2 dJ3_putChar_53
set_option maxHeartbeats 4000000 in
set_option maxRecDepth 100000 in
/-- StringUTF16.getChar(bytes, i) -/
theorem m_J3gc (l : Launch) (v0 n i ch : Nat) (f : Nat → Int32) (h : 2 * i + 1 < n) (hn : n < 2 ^ 30) (hc : ch < 65536) (h0 : f (2 * i) = sb_b ch) (h1 : f (2 * i + 1) = sb_b (ch / 256)) : Met l yJ3_getChar (ws_ yJ3_getChar cJ3_getChar 2 (some .char)) ({ frames := 0, cells := 0, slots := 0, locals := 0 }) (va_Pc [.ref v0, .int (nI i)] (fun U => pd_Z pd_F U U.heap ∧ va_T .byte v0 n (fun j => .int (f j)) pd_F U U.heap)) (va_Qi (fun (r : Int32) (_ : Unit) => r = nI ch) (fun _ _ => True) pd_F) 0 0 pd_F := by
  refine Met.ofW (cc := cJ3_getChar) (maxL := 2) (ret := (some .char)) (by decide) rfl ?_
  intro p e s m args below meth c s₁ B hml hv
  obtain ⟨rfl, hZ, hT⟩ := hv
  have hx := B.exec
  have hb := B.bytes
  have hr := B.returns
  have hts := atoms_spec (ws := (ws_ yJ3_getChar cJ3_getChar 2 (some .char))) B.pre
  have hts : ∀ w ∈ lw_all, w.before _ s = true := fun w h => hts w (List.mem_cons_of_mem _ h)
  have hown : s.vm.findClass RJ3 = some m.cls := findClass_of_methodNamed B.named
  have hlocks := B.notSynchronized
  have hS : va_S pd_F s.heap s.heap [] := va_S.rf
  have hl := lv_entry ([.ref v0, .int (nI i)]) (n := 2) (Nat.le_of_ble_eq_true rfl)
  rw [lg_entry_eq]
  generalize (lg_sl ([.ref v0, .int (nI i)]) ++ List.replicate (2 - (lg_sl ([.ref v0, .int (nI i)])).length) Slot.unset).toArray = ls at hl ⊢
  have hl : lv_has ls 2 [(0, .ref v0), (1, .int (nI i))] := hl
  refine va_gets hx hb hZ.2.1 hS hown (hts _ q91) (fun _ h9 => h9) dJ3_getChar_0 ?_
  refine lv_if_ne (tgt := 28) hx hb dJ3_getChar_3 (by decide) (fun _ => ?_) (fun c9 => absurd c9 (by decide))
  refine lv_iload_n hx hb dJ3_getChar_28 rfl (lv_at hl 1 rfl) ?_
  refine lv_iconst (v := (nI 1)) hx hb dJ3_getChar_29 (by decide) ?_
  refine pd_ishl (v := (nI (2 * i))) hx hb dJ3_getChar_30 (pd_sh1 (by omega)) ?_
  refine lv_istore_n (lv' := [(1, .int (nI (2 * i))), (0, .ref v0)]) hx hb dJ3_getChar_31 rfl hl (by decide) rfl (fun ls hl => ?_)
  refine lv_aload_n hx hb dJ3_getChar_32 rfl (lv_at hl 1 rfl) ?_
  refine lv_iload_n hx hb dJ3_getChar_33 rfl (lv_at hl 0 rfl) ?_
  refine lv_iinc (v := (nI (2 * i + 1))) (lv' := [(1, .int (nI (2 * i + 1))), (0, .ref v0)]) hx hb dJ3_getChar_34 hl (k := 0) rfl (nI_1 _) (by decide) rfl (fun ls hl => ?_)
  refine va_tb (v := .int (sb_b ch)) hx hb hT hS (vp_in_nI (by omega) (by omega)) (pd_tv (by omega) h0) dJ3_getChar_37 ?_
  refine lv_sipush (v := (nI 255)) hx hb dJ3_getChar_38 (by decide) ?_
  refine pd_iand (v := (nI (ch % 256))) hx hb dJ3_getChar_41 (pd_and255 (by omega)) ?_
  refine va_gets hx hb hZ.2.2.1 hS hown (hts _ q93) (fun _ h9 => h9) dJ3_getChar_42 ?_
  refine pd_ishl (v := (nI (ch % 256))) hx hb dJ3_getChar_45 (sb_shl0 _) ?_
  refine lv_aload_n hx hb dJ3_getChar_46 rfl (lv_at hl 1 rfl) ?_
  refine lv_iload_n hx hb dJ3_getChar_47 rfl (lv_at hl 0 rfl) ?_
  refine va_tb (v := .int (sb_b (ch / 256))) hx hb hT hS (vp_in_nI (by omega) (by omega)) (pd_tv (by omega) h1) dJ3_getChar_48 ?_
  refine lv_sipush (v := (nI 255)) hx hb dJ3_getChar_49 (by decide) ?_
  refine pd_iand (v := (nI (ch / 256))) hx hb dJ3_getChar_52 ((pd_and255 (by omega)).trans (congrArg nI (by omega))) ?_
  refine va_gets hx hb hZ.2.2.2.1 hS hown (hts _ q95) (fun _ h9 => h9) dJ3_getChar_53 ?_
  refine pd_ishl (v := (nI (ch / 256 * 256))) hx hb dJ3_getChar_56 (pd_sl8 (by omega)) ?_
  refine pd_ior (v := (nI ch)) hx hb dJ3_getChar_57 ((pd_or8 (by omega) (by omega)).trans (congrArg nI pd_lohi)) ?_
  refine lv_i2c (v := (nI ch)) hx hb dJ3_getChar_58 (pd_i2c hc) ?_
  exact W.zret (v := (nI ch)) hx hb hr ((pk_charN hc).1) (fun t ht hW => ⟨⟨(nI ch), (), rfl, rfl, trivial⟩, hS.F ht⟩) hS.2.2 dJ3_getChar_59
set_option maxHeartbeats 4000000 in
set_option maxRecDepth 100000 in
/-- StringUTF16.charAt(bytes, i) -/
theorem m_J3ca (l : Launch) (v0 n i ch : Nat) (f : Nat → Int32) (h : 2 * i + 1 < n) (hn : n < 2 ^ 30) (hc : ch < 65536) (h0 : f (2 * i) = sb_b ch) (h1 : f (2 * i + 1) = sb_b (ch / 256)) : Met l yJ3_charAt (ws_ yJ3_charAt cJ3_charAt 2 (some .char)) ({ frames := 3, cells := 0, slots := 0, locals := 90 }) (va_Pc [.ref v0, .int (nI i)] (fun U => pd_Z pd_F U U.heap ∧ va_T .byte v0 n (fun j => .int (f j)) pd_F U U.heap)) (va_Qi (fun (r : Int32) (_ : Unit) => r = nI ch) (fun _ _ => True) pd_F) 0 0 pd_F := by
  refine Met.ofW (cc := cJ3_charAt) (maxL := 2) (ret := (some .char)) (by decide) rfl ?_
  intro p e s m args below meth c s₁ B hml hv
  obtain ⟨rfl, hZ, hT⟩ := hv
  have hx := B.exec
  have hb := B.bytes
  have hr := B.returns
  have hts := atoms_spec (ws := (ws_ yJ3_charAt cJ3_charAt 2 (some .char))) B.pre
  have hts : ∀ w ∈ lw_all, w.before _ s = true := fun w h => hts w (List.mem_cons_of_mem _ h)
  have hown : s.vm.findClass RJ3 = some m.cls := findClass_of_methodNamed B.named
  have hlocks := B.notSynchronized
  have hS : va_S pd_F s.heap s.heap [] := va_S.rf
  have hl := lv_entry ([.ref v0, .int (nI i)]) (n := 2) (Nat.le_of_ble_eq_true rfl)
  rw [lg_entry_eq]
  generalize (lg_sl ([.ref v0, .int (nI i)]) ++ List.replicate (2 - (lg_sl ([.ref v0, .int (nI i)])).length) Slot.unset).toArray = ls at hl ⊢
  have hl : lv_has ls 2 [(0, .ref v0), (1, .int (nI i))] := hl
  refine lv_iload_n hx hb dJ3_charAt_0 rfl (lv_at hl 1 rfl) ?_
  refine lv_aload_n hx hb dJ3_charAt_1 rfl (lv_at hl 0 rfl) ?_
  refine va_callv (va_runS (As := [.int (nI i), .ref v0]) (rest := []) ⟨hx, hb, hml, hown, hts⟩ (m_J3ci l i v0 n (fun j => .int (f j)) (by omega) (by omega)) (va_cwS 2 hts (lw_S q81 q82 q7 q83) rfl rfl rfl (by decide +kernel) ⟨Nat.le_of_ble_eq_true rfl, Nat.le_of_ble_eq_true rfl⟩) (pd_pre (fun a U g mk q => ⟨pd_Z.same (s := U) (U := U.calling g mk a) rfl q.1, va_T.moved (u := U) (U := U.calling g mk a) (Vm.Alike.refl U.vm) q.2⟩) (fun U hU hW => ⟨pd_Z.call hZ hS hW hU pd_Fin, pd_T.call hT hS hW hU pd_Fin⟩)) rfl rfl hl.1 rfl (lv_room (Nat.le_of_ble_eq_true rfl)) dJ3_charAt_2 ⟨Nat.le_of_ble_eq_true rfl, Nat.le_of_ble_eq_true rfl⟩) hS pd_Fin2 pd_Fin (fun u_1 t H1 locs ht hvm hw9 hB hz1 hk1 hS => ?_)
  generalize H1 = H at hS ⊢
  refine lv_aload_n hx hb dJ3_charAt_5 rfl (lv_at hl 0 rfl) ?_
  refine lv_iload_n hx hb dJ3_charAt_6 rfl (lv_at hl 1 rfl) ?_
  refine va_calli (va_runS (As := [.ref v0, .int (nI i)]) (rest := []) ⟨hx, hb, hml, hown, hts⟩ (m_J3gc l v0 n i ch f h hn hc h0 h1) (va_cwS 2 hts (lw_S q88 q89 q7 q90) rfl rfl rfl (by decide +kernel) ⟨Nat.le_of_ble_eq_true rfl, Nat.le_of_ble_eq_true rfl⟩) (pd_pre (fun a U g mk q => ⟨pd_Z.same (s := U) (U := U.calling g mk a) rfl q.1, va_T.moved (u := U) (U := U.calling g mk a) (Vm.Alike.refl U.vm) q.2⟩) (fun U hU hW => ⟨pd_Z.call hZ hS hW hU pd_Fin, pd_T.call hT hS hW hU pd_Fin⟩)) rfl rfl hl.1 rfl (lv_room (Nat.le_of_ble_eq_true rfl)) dJ3_charAt_7 ⟨Nat.le_of_ble_eq_true rfl, Nat.le_of_ble_eq_true rfl⟩) hS pd_Fin2 pd_Fin (fun r_2 u_2 t H1 locs ht hvm hw9 hB hz1 hk1 hS => ?_)
  generalize H1 = H at hS ⊢
  obtain rfl : r_2 = (nI ch) := hw9
  exact W.zret (v := (nI ch)) hx hb hr ((pk_charN hc).1) (fun t ht hW => ⟨⟨(nI ch), (), rfl, rfl, trivial⟩, hS.F ht⟩) hS.2.2 dJ3_charAt_10
set_option maxHeartbeats 4000000 in
set_option maxRecDepth 100000 in
/-- StringLatin1.charAt(bytes, i) -/
theorem m_J1ca (l : Launch) (v0 n i ch : Nat) (f : Nat → Int32) (h : i < n) (hn : n < 2 ^ 31) (hc : ch < 256) (h0 : f i = sb_b ch) : Met l yJ1_charAt (ws_ yJ1_charAt cJ1_charAt 2 (some .char)) ({ frames := 2, cells := 0, slots := 0, locals := 60 }) (va_Pc [.ref v0, .int (nI i)] (fun U => pd_Z pd_F U U.heap ∧ va_T .byte v0 n (fun j => .int (f j)) pd_F U U.heap)) (va_Qi (fun (r : Int32) (_ : Unit) => r = nI ch) (fun _ _ => True) pd_F) 0 0 pd_F := by
  refine Met.ofW (cc := cJ1_charAt) (maxL := 2) (ret := (some .char)) (by decide) rfl ?_
  intro p e s m args below meth c s₁ B hml hv
  obtain ⟨rfl, hZ, hT⟩ := hv
  have hx := B.exec
  have hb := B.bytes
  have hr := B.returns
  have hts := atoms_spec (ws := (ws_ yJ1_charAt cJ1_charAt 2 (some .char))) B.pre
  have hts : ∀ w ∈ lw_all, w.before _ s = true := fun w h => hts w (List.mem_cons_of_mem _ h)
  have hown : s.vm.findClass RJ1 = some m.cls := findClass_of_methodNamed B.named
  have hlocks := B.notSynchronized
  have hS : va_S pd_F s.heap s.heap [] := va_S.rf
  have hl := lv_entry ([.ref v0, .int (nI i)]) (n := 2) (Nat.le_of_ble_eq_true rfl)
  rw [lg_entry_eq]
  generalize (lg_sl ([.ref v0, .int (nI i)]) ++ List.replicate (2 - (lg_sl ([.ref v0, .int (nI i)])).length) Slot.unset).toArray = ls at hl ⊢
  have hl : lv_has ls 2 [(0, .ref v0), (1, .int (nI i))] := hl
  refine lv_iload_n hx hb dJ1_charAt_0 rfl (lv_at hl 1 rfl) ?_
  refine lv_aload_n hx hb dJ1_charAt_1 rfl (lv_at hl 0 rfl) ?_
  refine va_tlen (v := (nI n)) hx hb hT hS (rfl) dJ1_charAt_2 ?_
  refine va_callv (va_runS (As := [.int (nI i), .int (nI n)]) (rest := []) ⟨hx, hb, hml, hown, hts⟩ (m_J0ci l i n h hn) (va_cwS 2 hts (lw_S q70 q71 q4 q72) rfl rfl rfl (by decide +kernel) ⟨Nat.le_of_ble_eq_true rfl, Nat.le_of_ble_eq_true rfl⟩) (pd_pre (fun a U g mk q => pd_Z.same (s := U) (U := U.calling g mk a) rfl q) (fun U hU hW => pd_Z.call hZ hS hW hU pd_Fin)) rfl rfl hl.1 rfl (lv_room (Nat.le_of_ble_eq_true rfl)) dJ1_charAt_3 ⟨Nat.le_of_ble_eq_true rfl, Nat.le_of_ble_eq_true rfl⟩) hS pd_Fin2 pd_Fin (fun u_1 t H1 locs ht hvm hw9 hB hz1 hk1 hS => ?_)
  generalize H1 = H at hS ⊢
  refine lv_aload_n hx hb dJ1_charAt_6 rfl (lv_at hl 0 rfl) ?_
  refine lv_iload_n hx hb dJ1_charAt_7 rfl (lv_at hl 1 rfl) ?_
  refine va_tb (v := .int (sb_b ch)) hx hb hT hS (vp_in_nI h hn) (pd_tv (by omega) h0) dJ1_charAt_8 ?_
  refine lv_sipush (v := (nI 255)) hx hb dJ1_charAt_9 (by decide) ?_
  refine pd_iand (v := (nI ch)) hx hb dJ1_charAt_12 ((pd_and255 (by omega)).trans (congrArg nI (by omega))) ?_
  refine lv_i2c (v := (nI ch)) hx hb dJ1_charAt_13 (pd_i2c (by omega)) ?_
  exact W.zret (v := (nI ch)) hx hb hr ((pk_charN (by omega)).1) (fun t ht hW => ⟨⟨(nI ch), (), rfl, rfl, trivial⟩, hS.F ht⟩) hS.2.2 dJ1_charAt_14
set_option maxHeartbeats 4000000 in
set_option maxRecDepth 100000 in
/-- StringLatin1.canEncode(ch) -/
theorem m_J1ce (l : Launch) (ch : Nat) (hc : ch < 65536) : Met l yJ1_canEncode (ws_ yJ1_canEncode cJ1_canEncode 1 (some .boolean)) ({ frames := 0, cells := 0, slots := 0, locals := 0 }) (va_Pc [.int (nI ch)] (fun U => True)) (va_Qi (fun (r : Int32) (_ : Unit) => r = if ch < 256 then 1 else 0) (fun _ _ => True) pd_F) 0 0 pd_F := by
  refine Met.ofW (cc := cJ1_canEncode) (maxL := 1) (ret := (some .boolean)) (by decide) rfl ?_
  intro p e s m args below meth c s₁ B hml hv
  obtain ⟨rfl, -⟩ := hv
  have hx := B.exec
  have hb := B.bytes
  have hr := B.returns
  have hts := atoms_spec (ws := (ws_ yJ1_canEncode cJ1_canEncode 1 (some .boolean))) B.pre
  have hts : ∀ w ∈ lw_all, w.before _ s = true := fun w h => hts w (List.mem_cons_of_mem _ h)
  have hown : s.vm.findClass RJ1 = some m.cls := findClass_of_methodNamed B.named
  have hlocks := B.notSynchronized
  have hS : va_S pd_F s.heap s.heap [] := va_S.rf
  have hl := lv_entry ([.int (nI ch)]) (n := 1) (Nat.le_of_ble_eq_true rfl)
  rw [lg_entry_eq]
  generalize (lg_sl ([.int (nI ch)]) ++ List.replicate (1 - (lg_sl ([.int (nI ch)])).length) Slot.unset).toArray = ls at hl ⊢
  have hl : lv_has ls 1 [(0, .int (nI ch))] := hl
  refine lv_iload_n hx hb dJ1_canEncode_0 rfl (lv_at hl 0 rfl) ?_
  refine lv_sipush (v := (nI 255)) hx hb dJ1_canEncode_1 (by decide) ?_
  refine lv_icmp_gt (tgt := 11) hx hb dJ1_canEncode_4 (by decide) (fun c1 => ?_) (fun c1 => ?_)
  · have c2 : ¬ ch < 256 := fun z => absurd ((nI_ltI (a := 255) (b := ch) (by decide) (by omega)).mp c1) (by omega)
    refine lv_iconst (v := 0) hx hb dJ1_canEncode_11 (by decide) ?_
    exact W.zret (v := 0) hx hb hr (rfl) (fun t ht hW => ⟨⟨0, (), rfl, (if_neg c2).symm, trivial⟩, hS.F ht⟩) hS.2.2 dJ1_canEncode_12
  · have c2 : ch < 256 := Nat.lt_of_not_le (fun z => c1 (nI_lt (a := 255) (b := ch) (by omega) (by omega)))
    refine lv_iconst (v := (nI 1)) hx hb dJ1_canEncode_7 (by decide) ?_
    refine lv_goto (tgt := 12) hx hb dJ1_canEncode_8 (by decide) ?_
    exact W.zret (v := (nI 1)) hx hb hr (rfl) (fun t ht hW => ⟨⟨(nI 1), (), rfl, (if_pos c2).symm, trivial⟩, hS.F ht⟩) hS.2.2 dJ1_canEncode_12
set_option maxHeartbeats 4000000 in
set_option maxRecDepth 100000 in
/-- StringUTF16.coderFromArrayLen(bytes, n) -/
theorem m_J3cfl (l : Launch) (v0 N n : Nat) (f : Nat → Value) (cd : Int32) (hn : n < 2 ^ 30) (h : (cd = 0 ∧ N = n) ∨ (cd = 1 ∧ N = 2 * n ∧ 0 < n)) : Met l yJ3_coderFromArrayLen (ws_ yJ3_coderFromArrayLen cJ3_coderFromArrayLen 2 (some .byte)) ({ frames := 0, cells := 0, slots := 0, locals := 0 }) (va_Pc [.ref v0, .int (nI n)] (fun U => va_T .byte v0 N f pd_F U U.heap)) (va_Qi (fun (r : Int32) (_ : Unit) => r = cd) (fun _ _ => True) pd_F) 0 0 pd_F := by
  refine Met.ofW (cc := cJ3_coderFromArrayLen) (maxL := 2) (ret := (some .byte)) (by decide) rfl ?_
  intro p e s m args below meth c s₁ B hml hv
  obtain ⟨rfl, hT⟩ := hv
  have hx := B.exec
  have hb := B.bytes
  have hr := B.returns
  have hts := atoms_spec (ws := (ws_ yJ3_coderFromArrayLen cJ3_coderFromArrayLen 2 (some .byte))) B.pre
  have hts : ∀ w ∈ lw_all, w.before _ s = true := fun w h => hts w (List.mem_cons_of_mem _ h)
  have hown : s.vm.findClass RJ3 = some m.cls := findClass_of_methodNamed B.named
  have hlocks := B.notSynchronized
  have hS : va_S pd_F s.heap s.heap [] := va_S.rf
  have hl := lv_entry ([.ref v0, .int (nI n)]) (n := 2) (Nat.le_of_ble_eq_true rfl)
  rw [lg_entry_eq]
  generalize (lg_sl ([.ref v0, .int (nI n)]) ++ List.replicate (2 - (lg_sl ([.ref v0, .int (nI n)])).length) Slot.unset).toArray = ls at hl ⊢
  have hl : lv_has ls 2 [(0, .ref v0), (1, .int (nI n))] := hl
  refine lv_iload_n hx hb dJ3_coderFromArrayLen_0 rfl (lv_at hl 1 rfl) ?_
  refine lv_aload_n hx hb dJ3_coderFromArrayLen_1 rfl (lv_at hl 0 rfl) ?_
  refine va_tlen (v := (nI N)) hx hb hT hS (rfl) dJ3_coderFromArrayLen_2 ?_
  refine pd_isub (v := (nI n - nI N)) hx hb dJ3_coderFromArrayLen_3 (rfl) ?_
  refine lv_bipush (v := (nI 31)) hx hb dJ3_coderFromArrayLen_4 (by decide) ?_
  have hc9 : ((nI n - nI N).toUInt32 >>> ((nI 31).toUInt32 &&& Int32.toUInt32 31)).toInt32 = cd := by
    rcases h with ⟨h1, h2⟩ | ⟨h1, h2, h0⟩
    · rw [h1, h2]; exact pd_cfl0 _
    · rw [h1, h2]; exact pd_cfl1 h0 (by omega)
  have hc8 : cd.toInt8.toInt32 = cd := by
    rcases h with ⟨h1, -⟩ | ⟨h1, -⟩ <;> rw [h1] <;> decide
  have hc7 : narrow .byte (.int cd) = .int cd := pd_cdn (h.imp And.left And.left)
  refine lv_iushr (v := cd) hx hb dJ3_coderFromArrayLen_6 (hc9) ?_
  refine lv_i2b (v := cd) hx hb dJ3_coderFromArrayLen_7 (hc8) ?_
  exact W.zret (v := cd) hx hb hr (hc7) (fun t ht hW => ⟨⟨cd, (), rfl, rfl, trivial⟩, hS.F ht⟩) hS.2.2 dJ3_coderFromArrayLen_8
end
section
/-! JDK LOOPS: char[] to bytes, Latin-1 to UTF-16 (written by gen/p07.py) -/
set_option maxHeartbeats 4000000 in
set_option maxRecDepth 100000 in
/-- StringUTF16.compress(chars, 0, bytes, 0, n): the count of the first letters below 256 -/
theorem m_J3cp2 (l : Launch) (D : va_G) (cB cC cI : ClassId) (sz a0 n0 v0 n : Nat) (w : Nat → Nat) (f0 : Nat → Int32) (hn0 : n ≤ n0) (hn : n0 ≤ 1000) (hw : ∀ j, j < n → w j < 65536) : Met l yJ3_compress_2 (ws_ yJ3_compress_2 cJ3_compress_2 7 (some .int)) ({ frames := 0, cells := 0, slots := 0, locals := 0 }) (va_Pc [.ref a0, .int 0, .ref v0, .int 0, .int (nI n)] (fun U => pd_BA D cB cC cI [(v0, .inl (cB, n, .inl (f0)))] sz U ∧ va_T .char a0 n0 (fun j => .int (nI (w j))) (va_A [(v0, .inl (cB, n, .inl (f0)))] sz) U U.heap)) (va_Qi (fun (r : Int32) (j : Nat) => r = nI j ∧ j ≤ n ∧ (∀ i, i < j → w i < 256) ∧ (j < n → 256 ≤ w j)) (fun j t => ∃ f1 : Nat → Int32, va_P D pd_cl [(v0, .inl (cB, n, .inl (f1)))] t.heap ∧ va_D (va_A [(v0, .inl (cB, n, .inl (f0)))] sz) [(v0, .inl (cB, n, .inl (f1)))] ∧ ∀ i, i < j → f1 i = sb_b (w i)) (va_A [(v0, .inl (cB, n, .inl (f0)))] sz)) 0 0 (va_A [(v0, .inl (cB, n, .inl (f0)))] sz) := by
  refine Met.ofW (cc := cJ3_compress_2) (maxL := 7) (ret := (some .int)) (by decide) rfl ?_
  intro p e s m args below meth c s₁ B hml hv
  obtain ⟨rfl, hBA, hT⟩ := hv
  have hx := B.exec
  have hb := B.bytes
  have hr := B.returns
  have hts := atoms_spec (ws := (ws_ yJ3_compress_2 cJ3_compress_2 7 (some .int))) B.pre
  have hts : ∀ w ∈ lw_all, w.before _ s = true := fun w h => hts w (List.mem_cons_of_mem _ h)
  have hown : s.vm.findClass RJ3 = some m.cls := findClass_of_methodNamed B.named
  have hlocks := B.notSynchronized
  obtain ⟨hsz, hP, hK, hD0, hZ⟩ := hBA
  subst hsz
  have hD := hD0.self (sz := s.heap.size)
  generalize hAe : va_A [(v0, .inl (cB, n, .inl (f0)))] s.heap.size = A at hD hZ hT ⊢
  have hA : ∀ q : Nat, s.heap.size ≤ q → A q := fun q h => by rw [← hAe]; exact Or.inr h
  have hS : va_S A s.heap s.heap [] := va_S.rf
  have hP : va_P D pd_cl [(v0, .inl (cB, n, .inl (f0)))] s.heap := hP
  have hl := lv_entry ([.ref a0, .int 0, .ref v0, .int 0, .int (nI n)]) (n := 7) (Nat.le_of_ble_eq_true rfl)
  rw [lg_entry_eq]
  generalize (lg_sl ([.ref a0, .int 0, .ref v0, .int 0, .int (nI n)]) ++ List.replicate (7 - (lg_sl ([.ref a0, .int 0, .ref v0, .int 0, .int (nI n)])).length) Slot.unset).toArray = ls at hl ⊢
  have hl : lv_has ls 7 [(0, .ref a0), (1, .int 0), (2, .ref v0), (3, .int 0), (4, .int (nI n))] := hl
  refine lv_iconst (v := 0) hx hb dJ3_compress_2_0 (by decide) ?_
  refine lv_istore (lv' := [(5, .int 0), (0, .ref a0), (1, .int 0), (2, .ref v0), (3, .int 0), (4, .int (nI n))]) hx hb dJ3_compress_2_1 hl (by decide) rfl (fun ls hl => ?_)
  refine pd_loop (fun k H locs cs sl g => ∃ (j : Nat) (f1 : Nat → Int32) (ls : Array Slot), n - j = k ∧ g = F0 m 3 ls [] ∧ cs = 0 ∧ sl = 0 ∧ (j ≤ n) ∧ (∀ i, i < j → w i < 256 ∧ f1 i = sb_b (w i)) ∧ lv_has ls 7 [(5, .int (nI j)), (0, .ref a0), (1, .int (nI j)), (2, .ref v0), (3, .int (nI j)), (4, .int (nI n))] ∧ va_P D pd_cl [(v0, .inl (cB, n, .inl (f1)))] H ∧ va_D A [(v0, .inl (cB, n, .inl (f1)))] ∧ va_S A s.heap H locs) ?_ _ (⟨0, f0, ls, rfl, rfl, rfl, rfl, Nat.zero_le _, fun i hi => absurd hi (Nat.not_lt_zero i), lv_sub hl [0, 1, 2, 3, 4, 5] rfl, hP.sub [0] rfl, hD.sub [0] (by decide) rfl, hS⟩)
  intro k ih H locs cs sl g hI
  obtain ⟨j, f1, ls, rfl, rfl, rfl, rfl, hj, hf, hl, hP, hD, hS⟩ := hI
  refine lv_iload hx hb dJ3_compress_2_3 (lv_at hl 0 rfl) ?_
  refine lv_iload hx hb dJ3_compress_2_5 (lv_at hl 5 rfl) ?_
  refine lv_icmp_ge (tgt := 44) hx hb dJ3_compress_2_7 (by decide) (fun c1 => ?_) (fun c1 => ?_)
  · have hjn : j = n := Nat.le_antisymm hj ((nI_leI (by omega) (by omega)).mp c1)
    refine lv_iload hx hb dJ3_compress_2_44 (lv_at hl 5 rfl) ?_
    exact W.iret (v := (nI n)) hx hb hr (fun t ht hW => ⟨⟨(nI n), n, rfl, ⟨rfl, Nat.le_refl _, fun i hi => (hf i (by omega)).1, fun h => absurd h (Nat.lt_irrefl _)⟩, f1, by rw [ht]; exact hP, hD, fun i hi => (hf i (by omega)).2⟩, hS.F ht⟩) hS.2.2 dJ3_compress_2_46
  · have hjn : j < n := Nat.lt_of_not_le (fun z => c1 (nI_le z (by omega)))
    have hwj := hw j hjn
    refine lv_aload_n hx hb dJ3_compress_2_10 rfl (lv_at hl 1 rfl) ?_
    refine lv_iload_n hx hb dJ3_compress_2_11 rfl (lv_at hl 2 rfl) ?_
    refine va_tc (v := .int (nI (w j))) hx hb hT hS (vp_in_nI (by omega) (by omega)) (congrArg (fun z => Value.int (nI (w z))) (nI_clamp (by omega))) dJ3_compress_2_12 ?_
    refine lv_istore (lv' := [(6, .int (nI (w j))), (5, .int (nI j)), (0, .ref a0), (1, .int (nI j)), (2, .ref v0), (3, .int (nI j)), (4, .int (nI n))]) hx hb dJ3_compress_2_13 hl (by decide) rfl (fun ls hl => ?_)
    refine lv_iload hx hb dJ3_compress_2_15 (lv_at hl 0 rfl) ?_
    refine lv_sipush (v := (nI 255)) hx hb dJ3_compress_2_17 (by decide) ?_
    refine lv_icmp_le (tgt := 26) hx hb dJ3_compress_2_20 (by decide) (fun c2 => ?_) (fun c2 => ?_)
    · have h255 : w j < 256 := Nat.lt_succ_of_le ((nI_leI (b := 255) (by omega) (by decide)).mp c2)
      refine lv_aload_n hx hb dJ3_compress_2_26 rfl (lv_at hl 4 rfl) ?_
      refine lv_iload_n hx hb dJ3_compress_2_27 rfl (lv_at hl 5 rfl) ?_
      refine lv_iload hx hb dJ3_compress_2_28 (lv_at hl 0 rfl) ?_
      refine lv_i2b (v := (sb_b (w j))) hx hb dJ3_compress_2_30 (rfl) ?_
      refine pd_bast (f2 := upd f1 j (sb_b (w j))) hx hb hK hP hD hS 0 0 rfl rfl (vp_in_nI hjn (by omega)) (by rw [nI_clamp (by omega), pd_vb]) dJ3_compress_2_31 (fun H locs hP hD hS => ?_)
      have hP : va_P D pd_cl [(v0, .inl (cB, n, .inl (upd f1 j (sb_b (w j)))))] H := hP
      have hD : va_D A [(v0, .inl (cB, n, .inl (upd f1 j (sb_b (w j)))))] := hD
      refine lv_iinc (v := (nI (j + 1))) (lv' := [(1, .int (nI (j + 1))), (6, .int (nI (w j))), (5, .int (nI j)), (0, .ref a0), (2, .ref v0), (3, .int (nI j)), (4, .int (nI n))]) hx hb dJ3_compress_2_32 hl (k := 3) rfl (nI_1 j) (by decide) rfl (fun ls hl => ?_)
      refine lv_iinc (v := (nI (j + 1))) (lv' := [(3, .int (nI (j + 1))), (1, .int (nI (j + 1))), (6, .int (nI (w j))), (5, .int (nI j)), (0, .ref a0), (2, .ref v0), (4, .int (nI n))]) hx hb dJ3_compress_2_35 hl (k := 5) rfl (nI_1 j) (by decide) rfl (fun ls hl => ?_)
      refine lv_iinc (v := (nI (j + 1))) (lv' := [(5, .int (nI (j + 1))), (3, .int (nI (j + 1))), (1, .int (nI (j + 1))), (6, .int (nI (w j))), (0, .ref a0), (2, .ref v0), (4, .int (nI n))]) hx hb dJ3_compress_2_38 hl (k := 3) rfl (nI_1 j) (by decide) rfl (fun ls hl => ?_)
      refine lv_goto (tgt := 3) hx hb dJ3_compress_2_41 (by decide) ?_
      exact ih _ (by omega) _ _ _ _ _ ⟨j + 1, upd f1 j (sb_b (w j)), ls, rfl, rfl, rfl, rfl, hjn, pd_put1 hf h255, lv_sub hl [0, 4, 2, 5, 1, 6] rfl, hP.sub [0] rfl, hD.sub [0] (by decide) rfl, hS⟩
    · have h255 : 256 ≤ w j := Nat.le_of_not_lt (fun z => c2 (nI_le (b := 255) (by omega) (by decide)))
      refine lv_iload hx hb dJ3_compress_2_23 (lv_at hl 1 rfl) ?_
      exact W.iret (v := (nI j)) hx hb hr (fun t ht hW => ⟨⟨(nI j), j, rfl, ⟨rfl, hj, fun i hi => (hf i hi).1, fun _ => h255⟩, f1, by rw [ht]; exact hP, hD, fun i hi => (hf i hi).2⟩, hS.F ht⟩) hS.2.2 dJ3_compress_2_25
set_option maxHeartbeats 4000000 in
set_option maxRecDepth 100000 in
/-- StringUTF16.toBytes(chars, 0, n): 2 n new bytes -/
theorem m_J3tb (l : Launch) (D : va_G) (cB cC cI : ClassId) (sz a0 n0 n : Nat) (w : Nat → Nat) (hn0 : n ≤ n0) (hn : n0 ≤ 1000) (hw : ∀ j, j < n → w j < 65536) : Met l yJ3_toBytes (ws_ yJ3_toBytes cJ3_toBytes 5 (some (.array .byte))) ({ frames := 2, cells := 1, slots := 2 * n, locals := 70 }) (va_Pc [.ref a0, .int 0, .int (nI n)] (fun U => pd_BA D cB cC cI [] sz U ∧ va_T .char a0 n0 (fun j => .int (nI (w j))) (va_A [] sz) U U.heap)) (va_Qr (fun _ : Unit => True) (fun _ v0 t => ∃ f1 : Nat → Int32, va_P D pd_cl [(v0, .inl (cB, 2 * n, .inl (f1)))] t.heap ∧ va_D (va_A [] sz) [(v0, .inl (cB, 2 * n, .inl (f1)))] ∧ ∀ i, i < n → f1 (2 * i) = sb_b (w i) ∧ f1 (2 * i + 1) = sb_b (w i / 256)) (va_A [] sz)) 1 (2 * n) (va_A [] sz) := by
  refine Met.ofW (cc := cJ3_toBytes) (maxL := 5) (ret := (some (.array .byte))) (by decide) rfl ?_
  intro p e s m args below meth c s₁ B hml hv
  obtain ⟨rfl, hBA, hT⟩ := hv
  have hx := B.exec
  have hb := B.bytes
  have hr := B.returns
  have hts := atoms_spec (ws := (ws_ yJ3_toBytes cJ3_toBytes 5 (some (.array .byte)))) B.pre
  have hts : ∀ w ∈ lw_all, w.before _ s = true := fun w h => hts w (List.mem_cons_of_mem _ h)
  have hown : s.vm.findClass RJ3 = some m.cls := findClass_of_methodNamed B.named
  have hlocks := B.notSynchronized
  obtain ⟨hsz, hP, hK, hD0, hZ⟩ := hBA
  subst hsz
  have hD := hD0.self (sz := s.heap.size)
  generalize hAe : va_A [] s.heap.size = A at hD hZ hT ⊢
  have hA : ∀ q : Nat, s.heap.size ≤ q → A q := fun q h => by rw [← hAe]; exact Or.inr h
  have hS : va_S A s.heap s.heap [] := va_S.rf
  have hP : va_P D pd_cl [] s.heap := hP
  have hl := lv_entry ([.ref a0, .int 0, .int (nI n)]) (n := 5) (Nat.le_of_ble_eq_true rfl)
  rw [lg_entry_eq]
  generalize (lg_sl ([.ref a0, .int 0, .int (nI n)]) ++ List.replicate (5 - (lg_sl ([.ref a0, .int 0, .int (nI n)])).length) Slot.unset).toArray = ls at hl ⊢
  have hl : lv_has ls 5 [(0, .ref a0), (1, .int 0), (2, .int (nI n))] := hl
  refine lv_iload_n hx hb dJ3_toBytes_0 rfl (lv_at hl 2 rfl) ?_
  have hPc := hP.sub (ws' := []) [] rfl
  have hDc := hD.sub (ws' := []) [] (by decide) rfl
  have hFc := va_free (wc := []) hD hS hA [] rfl
  refine va_callr (va_runS (As := [.int (nI n)]) (rest := []) ⟨hx, hb, hml, hown, hts⟩ (m_J3nbf l D cB cC cI _ n (by omega)) (va_cwS 1 hts (lw_S q226 q227 q7 q228) rfl rfl rfl (by decide +kernel) ⟨Nat.le_of_ble_eq_true rfl, Nat.le_of_ble_eq_true rfl⟩) (pd_pre (fun a U g mk q => pd_BA.blind q) (fun U hU hW => pd_BA.pass hPc hDc hK hZ hS hFc hU hW)) rfl rfl hl.1 rfl (lv_room (Nat.le_of_ble_eq_true rfl)) dJ3_toBytes_1 ⟨Nat.le_of_ble_eq_true rfl, by show 0 + 2 * n ≤ 2 * n; omega⟩) hS (fun q _ h => hFc q h) hFc (fun u_1 v0 t H1 locs ht hvm hw9 hB hz1 hk1 hS => ?_)
  obtain ⟨hP1, hD1⟩ := hB
  rw [ht] at hP1
  obtain ⟨hP, hD⟩ := va_join (wr := []) (w1 := [(v0, .inl (cB, 2 * n, .inl (fun _ => 0)))]) hP hD [] [] rfl rfl (by decide) (by decide) hk1 hFc hP1 hD1
  generalize H1 = H at hP hS ⊢
  have hP : va_P D pd_cl [(v0, .inl (cB, 2 * n, .inl (fun _ => 0)))] H := hP
  have hD : va_D A [(v0, .inl (cB, 2 * n, .inl (fun _ => 0)))] := hD
  refine lv_astore_n (lv' := [(3, .ref v0), (0, .ref a0), (1, .int 0), (2, .int (nI n))]) hx hb dJ3_toBytes_4 rfl hl (by decide) rfl (fun ls hl => ?_)
  refine lv_iconst (v := 0) hx hb dJ3_toBytes_5 (by decide) ?_
  refine lv_istore (lv' := [(4, .int 0), (3, .ref v0), (0, .ref a0), (1, .int 0), (2, .int (nI n))]) hx hb dJ3_toBytes_6 hl (by decide) rfl (fun ls hl => ?_)
  refine pd_loop (fun k H locs cs sl g => ∃ (j : Nat) (f1 : Nat → Int32) (ls : Array Slot), n - j = k ∧ g = F0 m 8 ls [] ∧ cs = 1 ∧ sl = 2 * n ∧ (j ≤ n) ∧ (∀ i, i < j → f1 (2 * i) = sb_b (w i) ∧ f1 (2 * i + 1) = sb_b (w i / 256)) ∧ lv_has ls 5 [(4, .int (nI j)), (3, .ref v0), (0, .ref a0), (1, .int (nI j)), (2, .int (nI n))] ∧ va_P D pd_cl [(v0, .inl (cB, 2 * n, .inl (f1)))] H ∧ va_D A [(v0, .inl (cB, 2 * n, .inl (f1)))] ∧ va_S A s.heap H locs) ?_ _ (⟨0, fun _ => 0, ls, rfl, rfl, rfl, by show 0 + 2 * n = 2 * n; omega, Nat.zero_le _, fun i hi => absurd hi (Nat.not_lt_zero i), lv_sub hl [0, 1, 2, 3, 4] rfl, hP.sub [0] rfl, hD.sub [0] (by decide) rfl, hS⟩)
  intro k ih H locs cs sl g hI
  obtain ⟨j, f1, ls, rfl, rfl, rfl, rfl, hj, hf, hl, hP, hD, hS⟩ := hI
  refine lv_iload hx hb dJ3_toBytes_8 (lv_at hl 0 rfl) ?_
  refine lv_iload_n hx hb dJ3_toBytes_10 rfl (lv_at hl 4 rfl) ?_
  refine lv_icmp_ge (tgt := 32) hx hb dJ3_toBytes_11 (by decide) (fun c1 => ?_) (fun c1 => ?_)
  · have hjn : j = n := Nat.le_antisymm hj ((nI_leI (by omega) (by omega)).mp c1)
    refine lv_aload_n hx hb dJ3_toBytes_32 rfl (lv_at hl 1 rfl) ?_
    exact W.aret (v := .ref v0) hx hb hr (Or.inr ⟨_, rfl⟩) (Or.inr ⟨_, rfl⟩) (fun t ht hW => ⟨⟨(), v0, rfl, trivial, f1, by rw [ht]; exact hP, hD, fun i hi => hf i (by omega)⟩, hS.F ht⟩) hS.2.2 dJ3_toBytes_33
  · have hjn : j < n := Nat.lt_of_not_le (fun z => c1 (nI_le z (by omega)))
    refine lv_aload_n hx hb dJ3_toBytes_14 rfl (lv_at hl 1 rfl) ?_
    refine lv_iload hx hb dJ3_toBytes_15 (lv_at hl 0 rfl) ?_
    refine lv_aload_n hx hb dJ3_toBytes_17 rfl (lv_at hl 2 rfl) ?_
    refine lv_iload_n hx hb dJ3_toBytes_18 rfl (lv_at hl 3 rfl) ?_
    refine va_tc (v := .int (nI (w j))) hx hb hT hS (vp_in_nI (by omega) (by omega)) (congrArg (fun z => Value.int (nI (w z))) (nI_clamp (by omega))) dJ3_toBytes_19 ?_
    have hPc := hP.sub (ws' := [(v0, .inl (cB, 2 * n, .inl (f1)))]) [0] rfl
    have hDc := hD.sub (ws' := [(v0, .inl (cB, 2 * n, .inl (f1)))]) [0] (by decide) rfl
    have hFc := va_free (wc := [(v0, .inl (cB, 2 * n, .inl (f1)))]) hD hS hA [0] rfl
    refine va_callv (va_runS (As := [.ref v0, .int (nI j), .int (nI (w j))]) (rest := []) ⟨hx, hb, hml, hown, hts⟩ (m_J3pc l D cB cC cI _ v0 (2 * n) j (w j) f1 (by omega) (by omega) (hw j hjn)) (va_cwS 3 hts (lw_S q233 q234 q7 q235) rfl rfl rfl (by decide +kernel) ⟨Nat.le_of_ble_eq_true rfl, Nat.le_of_ble_eq_true rfl⟩) (pd_pre (fun a U g mk q => pd_BA.blind q) (fun U hU hW => pd_BA.pass hPc hDc hK hZ hS hFc hU hW)) rfl rfl hl.1 rfl (lv_room (Nat.le_of_ble_eq_true rfl)) dJ3_toBytes_20 ⟨by show 1 + 0 ≤ 1; omega, by show 2 * n + 0 ≤ 2 * n; omega⟩) hS (fun q _ h => hFc q h) hFc (fun u_2 t H1 locs ht hvm hw9 hB hz1 hk1 hS => ?_)
    obtain ⟨hP1, hD1⟩ := hB
    rw [ht] at hP1
    obtain ⟨hP, hD⟩ := va_join (wr := []) (w1 := [(v0, .inl (cB, 2 * n, .inl (upd (upd f1 (2 * j) (sb_b (w j))) (2 * j + 1) (sb_b (w j / 256)))))]) hP hD [0] [] rfl rfl (by decide) (by decide) hk1 hFc hP1 hD1
    generalize H1 = H at hP hS ⊢
    have hP : va_P D pd_cl [(v0, .inl (cB, 2 * n, .inl (upd (upd f1 (2 * j) (sb_b (w j))) (2 * j + 1) (sb_b (w j / 256)))))] H := hP
    have hD : va_D A [(v0, .inl (cB, 2 * n, .inl (upd (upd f1 (2 * j) (sb_b (w j))) (2 * j + 1) (sb_b (w j / 256)))))] := hD
    refine lv_iinc (v := (nI (j + 1))) (lv' := [(1, .int (nI (j + 1))), (4, .int (nI j)), (3, .ref v0), (0, .ref a0), (2, .int (nI n))]) hx hb dJ3_toBytes_23 hl (k := 3) rfl (nI_1 j) (by decide) rfl (fun ls hl => ?_)
    refine lv_iinc (v := (nI (j + 1))) (lv' := [(4, .int (nI (j + 1))), (1, .int (nI (j + 1))), (3, .ref v0), (0, .ref a0), (2, .int (nI n))]) hx hb dJ3_toBytes_26 hl (k := 1) rfl (nI_1 j) (by decide) rfl (fun ls hl => ?_)
    refine lv_goto (tgt := 8) hx hb dJ3_toBytes_29 (by decide) ?_
    exact ih _ (by omega) _ _ _ _ _ ⟨j + 1, upd (upd f1 (2 * j) (sb_b (w j))) (2 * j + 1) (sb_b (w j / 256)), ls, rfl, rfl, rfl, rfl, hjn, pd_put2 hf, lv_sub hl [0, 2, 3, 1, 4] rfl, hP.sub [0] rfl, hD.sub [0] (by decide) rfl, hS⟩
set_option maxHeartbeats 4000000 in
set_option maxRecDepth 100000 in
/-- StringUTF16.compress(chars, 0, n): the bytes of n letters, n > 0 -/
theorem m_J3cp (l : Launch) (D : va_G) (cB cC cI : ClassId) (sz a0 n0 n : Nat) (w : Nat → Nat) (h0 : 0 < n) (hn0 : n ≤ n0) (hn : n0 ≤ 1000) (hw : ∀ j, j < n → w j < 65536) : Met l yJ3_compress (ws_ yJ3_compress cJ3_compress 6 (some (.array .byte))) ({ frames := 3, cells := 2, slots := 3 * n, locals := 100 }) (va_Pc [.ref a0, .int 0, .int (nI n)] (fun U => pd_BA D cB cC cI [] sz U ∧ va_T .char a0 n0 (fun j => .int (nI (w j))) (va_A [] sz) U U.heap)) (va_Qr (fun _ : Unit => True) (fun _ v0 t => ∃ (cd : Int32) (N : Nat) (f1 : Nat → Int32), va_P D pd_cl [(v0, .inl (cB, N, .inl (f1)))] t.heap ∧ va_D (va_A [] sz) [(v0, .inl (cB, N, .inl (f1)))] ∧ pd_rep n n w cd N f1) (va_A [] sz)) 2 (3 * n) (va_A [] sz) := by
  refine Met.ofW (cc := cJ3_compress) (maxL := 6) (ret := (some (.array .byte))) (by decide) rfl ?_
  intro p e s m args below meth c s₁ B hml hv
  obtain ⟨rfl, hBA, hT⟩ := hv
  have hx := B.exec
  have hb := B.bytes
  have hr := B.returns
  have hts := atoms_spec (ws := (ws_ yJ3_compress cJ3_compress 6 (some (.array .byte)))) B.pre
  have hts : ∀ w ∈ lw_all, w.before _ s = true := fun w h => hts w (List.mem_cons_of_mem _ h)
  have hown : s.vm.findClass RJ3 = some m.cls := findClass_of_methodNamed B.named
  have hlocks := B.notSynchronized
  obtain ⟨hsz, hP, hK, hD0, hZ⟩ := hBA
  subst hsz
  have hD := hD0.self (sz := s.heap.size)
  generalize hAe : va_A [] s.heap.size = A at hD hZ hT ⊢
  have hA : ∀ q : Nat, s.heap.size ≤ q → A q := fun q h => by rw [← hAe]; exact Or.inr h
  have hS : va_S A s.heap s.heap [] := va_S.rf
  have hP : va_P D pd_cl [] s.heap := hP
  have hl := lv_entry ([.ref a0, .int 0, .int (nI n)]) (n := 6) (Nat.le_of_ble_eq_true rfl)
  rw [lg_entry_eq]
  generalize (lg_sl ([.ref a0, .int 0, .int (nI n)]) ++ List.replicate (6 - (lg_sl ([.ref a0, .int 0, .int (nI n)])).length) Slot.unset).toArray = ls at hl ⊢
  have hl : lv_has ls 6 [(0, .ref a0), (1, .int 0), (2, .int (nI n))] := hl
  refine lv_iload_n hx hb dJ3_compress_0 rfl (lv_at hl 2 rfl) ?_
  refine pd_newb (N := n) hx hb (hts _ q39) hK hP hD hS hA (rfl) (by omega) (by show 0 + 1 ≤ 2; omega) (by show 0 + n ≤ 3 * n; omega) dJ3_compress_1 (fun v0 H hP hD hS => ?_)
  have hP : va_P D pd_cl [(v0, .inl (cB, n, .inl (fun _ => 0)))] H := hP
  have hD : va_D A [(v0, .inl (cB, n, .inl (fun _ => 0)))] := hD
  refine lv_astore_n (lv' := [(3, .ref v0), (0, .ref a0), (1, .int 0), (2, .int (nI n))]) hx hb dJ3_compress_3 rfl hl (by decide) rfl (fun ls hl => ?_)
  refine lv_aload_n hx hb dJ3_compress_4 rfl (lv_at hl 1 rfl) ?_
  refine lv_iload_n hx hb dJ3_compress_5 rfl (lv_at hl 2 rfl) ?_
  refine lv_aload_n hx hb dJ3_compress_6 rfl (lv_at hl 0 rfl) ?_
  refine lv_iconst (v := 0) hx hb dJ3_compress_7 (by decide) ?_
  refine lv_iload_n hx hb dJ3_compress_8 rfl (lv_at hl 3 rfl) ?_
  have hPc := hP.sub (ws' := [(v0, .inl (cB, n, .inl (fun _ => 0)))]) [0] rfl
  have hDc := hD.sub (ws' := [(v0, .inl (cB, n, .inl (fun _ => 0)))]) [0] (by decide) rfl
  have hFc := va_free (wc := [(v0, .inl (cB, n, .inl (fun _ => 0)))]) hD hS hA [0] rfl
  refine va_calli (va_runS (As := [.ref a0, .int 0, .ref v0, .int 0, .int (nI n)]) (rest := []) ⟨hx, hb, hml, hown, hts⟩ (m_J3cp2 l D cB cC cI _ a0 n0 v0 n w (fun _ => 0) hn0 hn hw) (va_cwS 5 hts (lw_S q220 q221 q7 q222) rfl rfl rfl (by decide +kernel) ⟨Nat.le_of_ble_eq_true rfl, Nat.le_of_ble_eq_true rfl⟩) (pd_pre (fun a U g mk q => ⟨pd_BA.blind q.1, va_T.moved (u := U) (U := U.calling g mk a) (Vm.Alike.refl U.vm) q.2⟩) (fun U hU hW => ⟨pd_BA.pass hPc hDc hK hZ hS hFc hU hW, pd_T.call hT hS hW hU hFc⟩)) rfl rfl hl.1 rfl (lv_room (Nat.le_of_ble_eq_true rfl)) dJ3_compress_9 ⟨by show 0 + 1 + 0 ≤ 2; omega, by show 0 + n + 0 ≤ 3 * n; omega⟩) hS (fun q _ h => hFc q h) hFc (fun r9 j t H1 locs ht hvm hw9 hB hz1 hk1 hS => ?_)
  obtain ⟨hr9, hj, hlo, hhi⟩ : r9 = nI j ∧ j ≤ n ∧ (∀ i, i < j → w i < 256) ∧ (j < n → 256 ≤ w j) := hw9
  obtain rfl : r9 = (nI j) := hr9
  obtain ⟨f1, hP1, hD1, hf⟩ := hB
  rw [ht] at hP1
  obtain ⟨hP, hD⟩ := va_join (wr := []) (w1 := [(v0, .inl (cB, n, .inl (f1)))]) hP hD [0] [] rfl rfl (by decide) (by decide) hk1 hFc hP1 hD1
  generalize H1 = H at hP hS ⊢
  have hP : va_P D pd_cl [(v0, .inl (cB, n, .inl (f1)))] H := hP
  have hD : va_D A [(v0, .inl (cB, n, .inl (f1)))] := hD
  refine lv_istore (lv' := [(4, .int (nI j)), (3, .ref v0), (0, .ref a0), (1, .int 0), (2, .int (nI n))]) hx hb dJ3_compress_12 hl (by decide) rfl (fun ls hl => ?_)
  refine lv_iload hx hb dJ3_compress_14 (lv_at hl 0 rfl) ?_
  refine lv_iload_n hx hb dJ3_compress_16 rfl (lv_at hl 4 rfl) ?_
  refine lv_icmp_eq (tgt := 57) hx hb dJ3_compress_17 (by decide) (fun c1 => ?_) (fun c1 => ?_)
  · have hjn : j = n := (nI_eq (by omega) (by omega)).mp c1
    refine lv_aload_n hx hb dJ3_compress_57 rfl (lv_at hl 1 rfl) ?_
    refine W.widen (k := 2) (n := 3 * n) (by omega) (by omega) ?_
    exact W.aret (v := .ref v0) hx hb hr (Or.inr ⟨_, rfl⟩) (Or.inr ⟨_, rfl⟩) (fun t ht hW => ⟨⟨(), v0, rfl, trivial, 0, n, f1, by rw [ht]; exact hP, hD, Or.inl ⟨rfl, rfl, fun i hi => ⟨hlo i (by omega), hf i (by omega)⟩⟩⟩, hS.F ht⟩) hS.2.2 dJ3_compress_58
  · have hjn : j < n := Nat.lt_of_le_of_ne hj (fun z => c1 (by rw [z]))
    refine lv_aload_n hx hb dJ3_compress_20 rfl (lv_at hl 2 rfl) ?_
    refine lv_iload_n hx hb dJ3_compress_21 rfl (lv_at hl 3 rfl) ?_
    refine lv_iload_n hx hb dJ3_compress_22 rfl (lv_at hl 4 rfl) ?_
    have hPc := hP.sub (ws' := []) [] rfl
    have hDc := hD.sub (ws' := []) [] (by decide) rfl
    have hFc := va_free (wc := []) hD hS hA [] rfl
    refine va_callr (va_runS (As := [.ref a0, .int 0, .int (nI n)]) (rest := []) ⟨hx, hb, hml, hown, hts⟩ (m_J3tb l D cB cC cI _ a0 n0 n w hn0 hn hw) (va_cwS 3 hts (lw_S q223 q224 q7 q225) rfl rfl rfl (by decide +kernel) ⟨Nat.le_of_ble_eq_true rfl, Nat.le_of_ble_eq_true rfl⟩) (pd_pre (fun a U g mk q => ⟨pd_BA.blind q.1, va_T.moved (u := U) (U := U.calling g mk a) (Vm.Alike.refl U.vm) q.2⟩) (fun U hU hW => ⟨pd_BA.pass hPc hDc hK hZ hS hFc hU hW, pd_T.call hT hS hW hU hFc⟩)) rfl rfl hl.1 rfl (lv_room (Nat.le_of_ble_eq_true rfl)) dJ3_compress_23 ⟨by show 0 + 1 + 0 + 1 ≤ 2; omega, by show 0 + n + 0 + 2 * n ≤ 3 * n; omega⟩) hS (fun q _ h => hFc q h) hFc (fun u_2 v2 t H1 locs ht hvm hw9 hB hz1 hk1 hS => ?_)
    obtain ⟨f2, hP1, hD1, hf2⟩ := hB
    rw [ht] at hP1
    obtain ⟨hP, hD⟩ := va_join (wr := [(v0, .inl (cB, n, .inl (f1)))]) (w1 := [(v2, .inl (cB, 2 * n, .inl (f2)))]) hP hD [] [0] rfl rfl (by decide) (by decide) hk1 hFc hP1 hD1
    generalize H1 = H at hP hS ⊢
    have hP : va_P D pd_cl [(v0, .inl (cB, n, .inl (f1))), (v2, .inl (cB, 2 * n, .inl (f2)))] H := hP
    have hD : va_D A [(v0, .inl (cB, n, .inl (f1))), (v2, .inl (cB, 2 * n, .inl (f2)))] := hD
    refine lv_astore (lv' := [(5, .ref v2), (4, .int (nI j)), (3, .ref v0), (0, .ref a0), (1, .int 0), (2, .int (nI n))]) hx hb dJ3_compress_26 hl (by decide) rfl (fun ls hl => ?_)
    refine lv_aload hx hb dJ3_compress_28 (lv_at hl 0 rfl) ?_
    refine lv_iload hx hb dJ3_compress_30 (lv_at hl 1 rfl) ?_
    have hT2 : va_T .byte v2 (2 * n) (fun i => .int (f2 i)) pd_F s H := pd_Tof hK hP 1 0 rfl rfl pd_Fno
    refine va_calli (va_runS (As := [.ref v2, .int (nI j)]) (rest := []) ⟨hx, hb, hml, hown, hts⟩ (m_J3gc l v2 (2 * n) j (w j) f2 (by omega) (by omega) (hw j hjn) (hf2 j hjn).1 (hf2 j hjn).2) (va_cwS 2 hts (lw_S q88 q89 q7 q90) rfl rfl rfl (by decide +kernel) ⟨Nat.le_of_ble_eq_true rfl, Nat.le_of_ble_eq_true rfl⟩) (pd_pre (fun a U g mk q => ⟨pd_Z.same (s := U) (U := U.calling g mk a) rfl q.1, va_T.moved (u := U) (U := U.calling g mk a) (Vm.Alike.refl U.vm) q.2⟩) (fun U hU hW => ⟨pd_Z.call hZ hS hW hU pd_Fin, pd_T.now (hT2) hW hU⟩)) rfl rfl hl.1 rfl (lv_room (Nat.le_of_ble_eq_true rfl)) dJ3_compress_32 ⟨by show 0 + 1 + 0 + 1 + 0 ≤ 2; omega, by show 0 + n + 0 + 2 * n + 0 ≤ 3 * n; omega⟩) hS pd_Fin2 pd_Fin (fun r_3 u_3 t H1 locs ht hvm hw9 hB hz1 hk1 hS => ?_)
    have hP := pd_keep hP hk1
    generalize H1 = H at hP hS ⊢
    obtain rfl : r_3 = (nI (w j)) := hw9
    refine lv_sipush (v := (nI 255)) hx hb dJ3_compress_35 (by decide) ?_
    refine lv_icmp_gt (tgt := 54) hx hb dJ3_compress_38 (by decide) (fun _ => ?_) (fun c9 => absurd (nI_lt (a := 255) (by have := hhi hjn; omega) (by have := hw j hjn; omega)) c9)
    refine lv_aload hx hb dJ3_compress_54 (lv_at hl 0 rfl) ?_
    have hP9 := hP.sub (ws' := [(v2, .inl (cB, 2 * n, .inl (f2)))]) [1] rfl
    have hD9 := hD.sub (ws' := [(v2, .inl (cB, 2 * n, .inl (f2)))]) [1] (by decide) rfl
    refine W.widen (k := 2) (n := 3 * n) (by omega) (by omega) ?_
    exact W.aret (v := .ref v2) hx hb hr (Or.inr ⟨_, rfl⟩) (Or.inr ⟨_, rfl⟩) (fun t ht hW => ⟨⟨(), v2, rfl, trivial, 1, 2 * n, f2, by rw [ht]; exact hP9, hD9, Or.inr ⟨rfl, rfl, fun i hi => ⟨hw i hi, hf2 i hi⟩⟩⟩, hS.F ht⟩) hS.2.2 dJ3_compress_56
set_option maxHeartbeats 4000000 in
set_option maxRecDepth 100000 in
/-- StringUTF16.inflate(src, 0, dst, 0, n) -/
theorem m_J3inf (l : Launch) (D : va_G) (cB cC cI : ClassId) (sz a0 n0 v0 N n : Nat) (w : Nat → Nat) (fs f0 : Nat → Int32) (hn0 : n ≤ n0) (hn : n0 ≤ 1000) (hN : 2 * n ≤ N) (hN2 : N ≤ 5000) (hw : ∀ j, j < n → w j < 256 ∧ fs j = sb_b (w j)) : Met l yJ3_inflate (ws_ yJ3_inflate cJ3_inflate 6 (none)) ({ frames := 3, cells := 0, slots := 0, locals := 90 }) (va_Pc [.ref a0, .int 0, .ref v0, .int 0, .int (nI n)] (fun U => pd_BA D cB cC cI [(v0, .inl (cB, N, .inl (f0)))] sz U ∧ va_T .byte a0 n0 (fun j => .int (fs j)) (va_A [(v0, .inl (cB, N, .inl (f0)))] sz) U U.heap)) (va_Qv (fun _ : Unit => True) (fun _ t => ∃ f1 : Nat → Int32, va_P D pd_cl [(v0, .inl (cB, N, .inl (f1)))] t.heap ∧ va_D (va_A [(v0, .inl (cB, N, .inl (f0)))] sz) [(v0, .inl (cB, N, .inl (f1)))] ∧ ∀ i, i < n → f1 (2 * i) = sb_b (w i) ∧ f1 (2 * i + 1) = sb_b (w i / 256)) (va_A [(v0, .inl (cB, N, .inl (f0)))] sz)) 0 0 (va_A [(v0, .inl (cB, N, .inl (f0)))] sz) := by
  refine Met.ofW (cc := cJ3_inflate) (maxL := 6) (ret := (none)) (by decide) rfl ?_
  intro p e s m args below meth c s₁ B hml hv
  obtain ⟨rfl, hBA, hT⟩ := hv
  have hx := B.exec
  have hb := B.bytes
  have hr := B.returns
  have hts := atoms_spec (ws := (ws_ yJ3_inflate cJ3_inflate 6 (none))) B.pre
  have hts : ∀ w ∈ lw_all, w.before _ s = true := fun w h => hts w (List.mem_cons_of_mem _ h)
  have hown : s.vm.findClass RJ3 = some m.cls := findClass_of_methodNamed B.named
  have hlocks := B.notSynchronized
  obtain ⟨hsz, hP, hK, hD0, hZ⟩ := hBA
  subst hsz
  have hD := hD0.self (sz := s.heap.size)
  generalize hAe : va_A [(v0, .inl (cB, N, .inl (f0)))] s.heap.size = A at hD hZ hT ⊢
  have hA : ∀ q : Nat, s.heap.size ≤ q → A q := fun q h => by rw [← hAe]; exact Or.inr h
  have hS : va_S A s.heap s.heap [] := va_S.rf
  have hP : va_P D pd_cl [(v0, .inl (cB, N, .inl (f0)))] s.heap := hP
  have hl := lv_entry ([.ref a0, .int 0, .ref v0, .int 0, .int (nI n)]) (n := 6) (Nat.le_of_ble_eq_true rfl)
  rw [lg_entry_eq]
  generalize (lg_sl ([.ref a0, .int 0, .ref v0, .int 0, .int (nI n)]) ++ List.replicate (6 - (lg_sl ([.ref a0, .int 0, .ref v0, .int 0, .int (nI n)])).length) Slot.unset).toArray = ls at hl ⊢
  have hl : lv_has ls 6 [(0, .ref a0), (1, .int 0), (2, .ref v0), (3, .int 0), (4, .int (nI n))] := hl
  refine lv_iload_n hx hb dJ3_inflate_0 rfl (lv_at hl 3 rfl) ?_
  refine lv_iload hx hb dJ3_inflate_1 (lv_at hl 4 rfl) ?_
  refine lv_aload_n hx hb dJ3_inflate_3 rfl (lv_at hl 2 rfl) ?_
  have hT2 : va_T .byte v0 N (fun i => .int (f0 i)) pd_F s s.heap := pd_Tof hK hP 0 0 rfl rfl pd_Fno
  refine va_callv (va_runS (As := [.int 0, .int (nI n), .ref v0]) (rest := []) ⟨hx, hb, hml, hown, hts⟩ (m_J3cb l n v0 N (fun i => .int (f0 i)) (by omega) (by omega)) (va_cwS 3 hts (lw_S q239 q240 q7 q241) rfl rfl rfl (by decide +kernel) ⟨Nat.le_of_ble_eq_true rfl, Nat.le_of_ble_eq_true rfl⟩) (pd_pre (fun a U g mk q => ⟨pd_Z.same (s := U) (U := U.calling g mk a) rfl q.1, va_T.moved (u := U) (U := U.calling g mk a) (Vm.Alike.refl U.vm) q.2⟩) (fun U hU hW => ⟨pd_Z.call hZ hS hW hU pd_Fin, pd_T.now (hT2) hW hU⟩)) rfl rfl hl.1 rfl (lv_room (Nat.le_of_ble_eq_true rfl)) dJ3_inflate_4 ⟨Nat.le_of_ble_eq_true rfl, Nat.le_of_ble_eq_true rfl⟩) hS pd_Fin2 pd_Fin (fun u_1 t H1 locs ht hvm hw9 hB hz1 hk1 hS => ?_)
  have hP := pd_keep hP hk1
  generalize H1 = H at hP hS ⊢
  refine lv_iconst (v := 0) hx hb dJ3_inflate_7 (by decide) ?_
  refine lv_istore (lv' := [(5, .int 0), (0, .ref a0), (1, .int 0), (2, .ref v0), (3, .int 0), (4, .int (nI n))]) hx hb dJ3_inflate_8 hl (by decide) rfl (fun ls hl => ?_)
  refine pd_loop (fun k H locs cs sl g => ∃ (j : Nat) (f1 : Nat → Int32) (ls : Array Slot), n - j = k ∧ g = F0 m 10 ls [] ∧ cs = 0 ∧ sl = 0 ∧ (j ≤ n) ∧ (∀ i, i < j → f1 (2 * i) = sb_b (w i) ∧ f1 (2 * i + 1) = sb_b (w i / 256)) ∧ lv_has ls 6 [(5, .int (nI j)), (0, .ref a0), (1, .int (nI j)), (2, .ref v0), (3, .int (nI j)), (4, .int (nI n))] ∧ va_P D pd_cl [(v0, .inl (cB, N, .inl (f1)))] H ∧ va_D A [(v0, .inl (cB, N, .inl (f1)))] ∧ va_S A s.heap H locs) ?_ _ (⟨0, f0, ls, rfl, rfl, rfl, rfl, Nat.zero_le _, fun i hi => absurd hi (Nat.not_lt_zero i), lv_sub hl [0, 1, 2, 3, 4, 5] rfl, hP.sub [0] rfl, hD.sub [0] (by decide) rfl, hS⟩)
  intro k ih H locs cs sl g hI
  obtain ⟨j, f1, ls, rfl, rfl, rfl, rfl, hj, hf, hl, hP, hD, hS⟩ := hI
  refine lv_iload hx hb dJ3_inflate_10 (lv_at hl 0 rfl) ?_
  refine lv_iload hx hb dJ3_inflate_12 (lv_at hl 5 rfl) ?_
  refine lv_icmp_ge (tgt := 41) hx hb dJ3_inflate_14 (by decide) (fun c1 => ?_) (fun c1 => ?_)
  · have hjn : j = n := Nat.le_antisymm hj ((nI_leI (by omega) (by omega)).mp c1)
    exact W.vret hx hb hr (fun t ht hW => ⟨⟨(), rfl, trivial, f1, by rw [ht]; exact hP, hD, fun i hi => hf i (by omega)⟩, hS.F ht⟩) hS.2.2 dJ3_inflate_41
  · have hjn : j < n := Nat.lt_of_not_le (fun z => c1 (nI_le z (by omega)))
    have hwj := hw j hjn
    refine lv_aload_n hx hb dJ3_inflate_17 rfl (lv_at hl 3 rfl) ?_
    refine lv_iload_n hx hb dJ3_inflate_18 rfl (lv_at hl 4 rfl) ?_
    refine lv_iinc (v := (nI (j + 1))) (lv' := [(3, .int (nI (j + 1))), (5, .int (nI j)), (0, .ref a0), (1, .int (nI j)), (2, .ref v0), (4, .int (nI n))]) hx hb dJ3_inflate_19 hl (k := 4) rfl (nI_1 j) (by decide) rfl (fun ls hl => ?_)
    refine lv_aload_n hx hb dJ3_inflate_22 rfl (lv_at hl 2 rfl) ?_
    refine lv_iload_n hx hb dJ3_inflate_23 rfl (lv_at hl 3 rfl) ?_
    refine lv_iinc (v := (nI (j + 1))) (lv' := [(1, .int (nI (j + 1))), (3, .int (nI (j + 1))), (5, .int (nI j)), (0, .ref a0), (2, .ref v0), (4, .int (nI n))]) hx hb dJ3_inflate_24 hl (k := 3) rfl (nI_1 j) (by decide) rfl (fun ls hl => ?_)
    refine va_tb (v := .int (sb_b (w j))) hx hb hT hS (vp_in_nI (by omega) (by omega)) (pd_tv (by omega) hwj.2) dJ3_inflate_27 ?_
    refine lv_sipush (v := (nI 255)) hx hb dJ3_inflate_28 (by decide) ?_
    refine pd_iand (v := (nI (w j))) hx hb dJ3_inflate_31 ((pd_and255 (by omega)).trans (congrArg nI (by omega))) ?_
    have hPc := hP.sub (ws' := [(v0, .inl (cB, N, .inl (f1)))]) [0] rfl
    have hDc := hD.sub (ws' := [(v0, .inl (cB, N, .inl (f1)))]) [0] (by decide) rfl
    have hFc := va_free (wc := [(v0, .inl (cB, N, .inl (f1)))]) hD hS hA [0] rfl
    refine va_callv (va_runS (As := [.ref v0, .int (nI j), .int (nI (w j))]) (rest := []) ⟨hx, hb, hml, hown, hts⟩ (m_J3pc l D cB cC cI _ v0 N j (w j) f1 (by omega) (by omega) (by omega)) (va_cwS 3 hts (lw_S q233 q234 q7 q235) rfl rfl rfl (by decide +kernel) ⟨Nat.le_of_ble_eq_true rfl, Nat.le_of_ble_eq_true rfl⟩) (pd_pre (fun a U g mk q => pd_BA.blind q) (fun U hU hW => pd_BA.pass hPc hDc hK hZ hS hFc hU hW)) rfl rfl hl.1 rfl (lv_room (Nat.le_of_ble_eq_true rfl)) dJ3_inflate_32 ⟨Nat.le_of_ble_eq_true rfl, Nat.le_of_ble_eq_true rfl⟩) hS (fun q _ h => hFc q h) hFc (fun u_2 t H1 locs ht hvm hw9 hB hz1 hk1 hS => ?_)
    obtain ⟨hP1, hD1⟩ := hB
    rw [ht] at hP1
    obtain ⟨hP, hD⟩ := va_join (wr := []) (w1 := [(v0, .inl (cB, N, .inl (upd (upd f1 (2 * j) (sb_b (w j))) (2 * j + 1) (sb_b (w j / 256)))))]) hP hD [0] [] rfl rfl (by decide) (by decide) hk1 hFc hP1 hD1
    generalize H1 = H at hP hS ⊢
    have hP : va_P D pd_cl [(v0, .inl (cB, N, .inl (upd (upd f1 (2 * j) (sb_b (w j))) (2 * j + 1) (sb_b (w j / 256)))))] H := hP
    have hD : va_D A [(v0, .inl (cB, N, .inl (upd (upd f1 (2 * j) (sb_b (w j))) (2 * j + 1) (sb_b (w j / 256)))))] := hD
    refine lv_iinc (v := (nI (j + 1))) (lv' := [(5, .int (nI (j + 1))), (1, .int (nI (j + 1))), (3, .int (nI (j + 1))), (0, .ref a0), (2, .ref v0), (4, .int (nI n))]) hx hb dJ3_inflate_35 hl (k := 2) rfl (nI_1 j) (by decide) rfl (fun ls hl => ?_)
    refine lv_goto (tgt := 10) hx hb dJ3_inflate_38 (by decide) ?_
    exact ih _ (by omega) _ _ _ _ _ ⟨j + 1, upd (upd f1 (2 * j) (sb_b (w j))) (2 * j + 1) (sb_b (w j / 256)), ls, rfl, rfl, rfl, rfl, hjn, pd_put2 hf, lv_sub hl [0, 3, 1, 4, 2, 5] rfl, hP.sub [0] rfl, hD.sub [0] (by decide) rfl, hS⟩
set_option maxHeartbeats 4000000 in
set_option maxRecDepth 100000 in
/-- StringLatin1.inflate(src, 0, dst, 0, n) -/
theorem m_J1inf (l : Launch) (D : va_G) (cB cC cI : ClassId) (sz a0 n0 v0 N n : Nat) (w : Nat → Nat) (fs f0 : Nat → Int32) (hn0 : n ≤ n0) (hn : n0 ≤ 1000) (hN : 2 * n ≤ N) (hN2 : N ≤ 5000) (hw : ∀ j, j < n → w j < 256 ∧ fs j = sb_b (w j)) : Met l yJ1_inflate (ws_ yJ1_inflate cJ1_inflate 5 (none)) ({ frames := 4, cells := 0, slots := 0, locals := 120 }) (va_Pc [.ref a0, .int 0, .ref v0, .int 0, .int (nI n)] (fun U => pd_BA D cB cC cI [(v0, .inl (cB, N, .inl (f0)))] sz U ∧ va_T .byte a0 n0 (fun j => .int (fs j)) (va_A [(v0, .inl (cB, N, .inl (f0)))] sz) U U.heap)) (va_Qv (fun _ : Unit => True) (fun _ t => ∃ f1 : Nat → Int32, va_P D pd_cl [(v0, .inl (cB, N, .inl (f1)))] t.heap ∧ va_D (va_A [(v0, .inl (cB, N, .inl (f0)))] sz) [(v0, .inl (cB, N, .inl (f1)))] ∧ ∀ i, i < n → f1 (2 * i) = sb_b (w i) ∧ f1 (2 * i + 1) = sb_b (w i / 256)) (va_A [(v0, .inl (cB, N, .inl (f0)))] sz)) 0 0 (va_A [(v0, .inl (cB, N, .inl (f0)))] sz) := by
  refine Met.ofW (cc := cJ1_inflate) (maxL := 5) (ret := (none)) (by decide) rfl ?_
  intro p e s m args below meth c s₁ B hml hv
  obtain ⟨rfl, hBA, hT⟩ := hv
  have hx := B.exec
  have hb := B.bytes
  have hr := B.returns
  have hts := atoms_spec (ws := (ws_ yJ1_inflate cJ1_inflate 5 (none))) B.pre
  have hts : ∀ w ∈ lw_all, w.before _ s = true := fun w h => hts w (List.mem_cons_of_mem _ h)
  have hown : s.vm.findClass RJ1 = some m.cls := findClass_of_methodNamed B.named
  have hlocks := B.notSynchronized
  obtain ⟨hsz, hP, hK, hD0, hZ⟩ := hBA
  subst hsz
  have hD := hD0.self (sz := s.heap.size)
  generalize hAe : va_A [(v0, .inl (cB, N, .inl (f0)))] s.heap.size = A at hD hZ hT ⊢
  have hA : ∀ q : Nat, s.heap.size ≤ q → A q := fun q h => by rw [← hAe]; exact Or.inr h
  have hS : va_S A s.heap s.heap [] := va_S.rf
  have hP : va_P D pd_cl [(v0, .inl (cB, N, .inl (f0)))] s.heap := hP
  have hl := lv_entry ([.ref a0, .int 0, .ref v0, .int 0, .int (nI n)]) (n := 5) (Nat.le_of_ble_eq_true rfl)
  rw [lg_entry_eq]
  generalize (lg_sl ([.ref a0, .int 0, .ref v0, .int 0, .int (nI n)]) ++ List.replicate (5 - (lg_sl ([.ref a0, .int 0, .ref v0, .int 0, .int (nI n)])).length) Slot.unset).toArray = ls at hl ⊢
  have hl : lv_has ls 5 [(0, .ref a0), (1, .int 0), (2, .ref v0), (3, .int 0), (4, .int (nI n))] := hl
  refine lv_aload_n hx hb dJ1_inflate_0 rfl (lv_at hl 0 rfl) ?_
  refine lv_iload_n hx hb dJ1_inflate_1 rfl (lv_at hl 1 rfl) ?_
  refine lv_aload_n hx hb dJ1_inflate_2 rfl (lv_at hl 2 rfl) ?_
  refine lv_iload_n hx hb dJ1_inflate_3 rfl (lv_at hl 3 rfl) ?_
  refine lv_iload hx hb dJ1_inflate_4 (lv_at hl 4 rfl) ?_
  have hPc := hP.sub (ws' := [(v0, .inl (cB, N, .inl (f0)))]) [0] rfl
  have hDc := hD.sub (ws' := [(v0, .inl (cB, N, .inl (f0)))]) [0] (by decide) rfl
  have hFc := va_free (wc := [(v0, .inl (cB, N, .inl (f0)))]) hD hS hA [0] rfl
  refine va_callv (va_runS (As := [.ref a0, .int 0, .ref v0, .int 0, .int (nI n)]) (rest := []) ⟨hx, hb, hml, hown, hts⟩ (m_J3inf l D cB cC cI _ a0 n0 v0 N n w fs f0 hn0 hn hN hN2 hw) (va_cwS 5 hts (lw_S q380 q381 q7 q382) rfl rfl rfl (by decide +kernel) ⟨Nat.le_of_ble_eq_true rfl, Nat.le_of_ble_eq_true rfl⟩) (pd_pre (fun a U g mk q => ⟨pd_BA.blind q.1, va_T.moved (u := U) (U := U.calling g mk a) (Vm.Alike.refl U.vm) q.2⟩) (fun U hU hW => ⟨pd_BA.pass hPc hDc hK hZ hS hFc hU hW, pd_T.call hT hS hW hU hFc⟩)) rfl rfl hl.1 rfl (lv_room (Nat.le_of_ble_eq_true rfl)) dJ1_inflate_6 ⟨Nat.le_of_ble_eq_true rfl, Nat.le_of_ble_eq_true rfl⟩) hS (fun q _ h => hFc q h) hFc (fun u_1 t H1 locs ht hvm hw9 hB hz1 hk1 hS => ?_)
  obtain ⟨f1, hP1, hD1, hf⟩ := hB
  rw [ht] at hP1
  obtain ⟨hP, hD⟩ := va_join (wr := []) (w1 := [(v0, .inl (cB, N, .inl (f1)))]) hP hD [0] [] rfl rfl (by decide) (by decide) hk1 hFc hP1 hD1
  generalize H1 = H at hP hS ⊢
  have hP : va_P D pd_cl [(v0, .inl (cB, N, .inl (f1)))] H := hP
  have hD : va_D A [(v0, .inl (cB, N, .inl (f1)))] := hD
  exact W.vret hx hb hr (fun t ht hW => ⟨⟨(), rfl, trivial, f1, by rw [ht]; exact hP, hD, hf⟩, hS.F ht⟩) hS.2.2 dJ1_inflate_9
set_option maxHeartbeats 4000000 in
set_option maxRecDepth 100000 in
/-- StringUTF16.putCharSB(bytes, i, ch) -/
theorem m_J3psb (l : Launch) (D : va_G) (cB cC cI : ClassId) (sz v0 n i ch : Nat) (f : Nat → Int32) (h : 2 * i + 1 < n) (hn : n ≤ 10000) (hc : ch < 65536) : Met l yJ3_putCharSB (ws_ yJ3_putCharSB cJ3_putCharSB 3 (none)) ({ frames := 3, cells := 0, slots := 0, locals := 90 }) (va_Pc [.ref v0, .int (nI i), .int (nI ch)] (fun U => pd_BA D cB cC cI [(v0, .inl (cB, n, .inl (f)))] sz U)) (va_Qv (fun _ : Unit => True) (fun _ t => va_P D pd_cl [(v0, .inl (cB, n, .inl (upd (upd f (2 * i) (sb_b ch)) (2 * i + 1) (sb_b (ch / 256)))))] t.heap ∧ va_D (va_A [(v0, .inl (cB, n, .inl (f)))] sz) [(v0, .inl (cB, n, .inl (upd (upd f (2 * i) (sb_b ch)) (2 * i + 1) (sb_b (ch / 256)))))]) (va_A [(v0, .inl (cB, n, .inl (f)))] sz)) 0 0 (va_A [(v0, .inl (cB, n, .inl (f)))] sz) := by
  refine Met.ofW (cc := cJ3_putCharSB) (maxL := 3) (ret := (none)) (by decide) rfl ?_
  intro p e s m args below meth c s₁ B hml hv
  obtain ⟨rfl, hBA⟩ := hv
  have hx := B.exec
  have hb := B.bytes
  have hr := B.returns
  have hts := atoms_spec (ws := (ws_ yJ3_putCharSB cJ3_putCharSB 3 (none))) B.pre
  have hts : ∀ w ∈ lw_all, w.before _ s = true := fun w h => hts w (List.mem_cons_of_mem _ h)
  have hown : s.vm.findClass RJ3 = some m.cls := findClass_of_methodNamed B.named
  have hlocks := B.notSynchronized
  obtain ⟨hsz, hP, hK, hD0, hZ⟩ := hBA
  subst hsz
  have hD := hD0.self (sz := s.heap.size)
  generalize hAe : va_A [(v0, .inl (cB, n, .inl (f)))] s.heap.size = A at hD hZ ⊢
  have hA : ∀ q : Nat, s.heap.size ≤ q → A q := fun q h => by rw [← hAe]; exact Or.inr h
  have hS : va_S A s.heap s.heap [] := va_S.rf
  have hP : va_P D pd_cl [(v0, .inl (cB, n, .inl (f)))] s.heap := hP
  have hl := lv_entry ([.ref v0, .int (nI i), .int (nI ch)]) (n := 3) (Nat.le_of_ble_eq_true rfl)
  rw [lg_entry_eq]
  generalize (lg_sl ([.ref v0, .int (nI i), .int (nI ch)]) ++ List.replicate (3 - (lg_sl ([.ref v0, .int (nI i), .int (nI ch)])).length) Slot.unset).toArray = ls at hl ⊢
  have hl : lv_has ls 3 [(0, .ref v0), (1, .int (nI i)), (2, .int (nI ch))] := hl
  refine lv_iload_n hx hb dJ3_putCharSB_0 rfl (lv_at hl 1 rfl) ?_
  refine lv_aload_n hx hb dJ3_putCharSB_1 rfl (lv_at hl 0 rfl) ?_
  have hT2 : va_T .byte v0 n (fun j => .int (f j)) pd_F s s.heap := pd_Tof hK hP 0 0 rfl rfl pd_Fno
  refine va_callv (va_runS (As := [.int (nI i), .ref v0]) (rest := []) ⟨hx, hb, hml, hown, hts⟩ (m_J3ci l i v0 n (fun j => .int (f j)) (by omega) (by omega)) (va_cwS 2 hts (lw_S q81 q82 q7 q83) rfl rfl rfl (by decide +kernel) ⟨Nat.le_of_ble_eq_true rfl, Nat.le_of_ble_eq_true rfl⟩) (pd_pre (fun a U g mk q => ⟨pd_Z.same (s := U) (U := U.calling g mk a) rfl q.1, va_T.moved (u := U) (U := U.calling g mk a) (Vm.Alike.refl U.vm) q.2⟩) (fun U hU hW => ⟨pd_Z.call hZ hS hW hU pd_Fin, pd_T.now (hT2) hW hU⟩)) rfl rfl hl.1 rfl (lv_room (Nat.le_of_ble_eq_true rfl)) dJ3_putCharSB_2 ⟨Nat.le_of_ble_eq_true rfl, Nat.le_of_ble_eq_true rfl⟩) hS pd_Fin2 pd_Fin (fun u_1 t H1 locs ht hvm hw9 hB hz1 hk1 hS => ?_)
  have hP := pd_keep hP hk1
  generalize H1 = H at hP hS ⊢
  refine lv_aload_n hx hb dJ3_putCharSB_5 rfl (lv_at hl 0 rfl) ?_
  refine lv_iload_n hx hb dJ3_putCharSB_6 rfl (lv_at hl 1 rfl) ?_
  refine lv_iload_n hx hb dJ3_putCharSB_7 rfl (lv_at hl 2 rfl) ?_
  have hPc := hP.sub (ws' := [(v0, .inl (cB, n, .inl (f)))]) [0] rfl
  have hDc := hD.sub (ws' := [(v0, .inl (cB, n, .inl (f)))]) [0] (by decide) rfl
  have hFc := va_free (wc := [(v0, .inl (cB, n, .inl (f)))]) hD hS hA [0] rfl
  refine va_callv (va_runS (As := [.ref v0, .int (nI i), .int (nI ch)]) (rest := []) ⟨hx, hb, hml, hown, hts⟩ (m_J3pc l D cB cC cI _ v0 n i ch f h hn hc) (va_cwS 3 hts (lw_S q233 q234 q7 q235) rfl rfl rfl (by decide +kernel) ⟨Nat.le_of_ble_eq_true rfl, Nat.le_of_ble_eq_true rfl⟩) (pd_pre (fun a U g mk q => pd_BA.blind q) (fun U hU hW => pd_BA.pass hPc hDc hK hZ hS hFc hU hW)) rfl rfl hl.1 rfl (lv_room (Nat.le_of_ble_eq_true rfl)) dJ3_putCharSB_8 ⟨Nat.le_of_ble_eq_true rfl, Nat.le_of_ble_eq_true rfl⟩) hS (fun q _ h => hFc q h) hFc (fun u_2 t H1 locs ht hvm hw9 hB hz1 hk1 hS => ?_)
  obtain ⟨hP1, hD1⟩ := hB
  rw [ht] at hP1
  obtain ⟨hP, hD⟩ := va_join (wr := []) (w1 := [(v0, .inl (cB, n, .inl (upd (upd f (2 * i) (sb_b ch)) (2 * i + 1) (sb_b (ch / 256)))))]) hP hD [0] [] rfl rfl (by decide) (by decide) hk1 hFc hP1 hD1
  generalize H1 = H at hP hS ⊢
  have hP : va_P D pd_cl [(v0, .inl (cB, n, .inl (upd (upd f (2 * i) (sb_b ch)) (2 * i + 1) (sb_b (ch / 256)))))] H := hP
  have hD : va_D A [(v0, .inl (cB, n, .inl (upd (upd f (2 * i) (sb_b ch)) (2 * i + 1) (sb_b (ch / 256)))))] := hD
  exact W.vret hx hb hr (fun t ht hW => ⟨⟨(), rfl, trivial, by rw [ht]; exact hP, hD⟩, hS.F ht⟩) hS.2.2 dJ3_putCharSB_11
end
section
/-! String, AbstractStringBuilder, StringBuilder, Arrays.copyOfRange (written by gen/p08.py) -/
set_option maxHeartbeats 4000000 in
set_option maxRecDepth 100000 in
/-- String.coder() -/
theorem m_J0cod (l : Launch) (o v N : Nat) (cd : Int32) (f : Nat → Int32) (hcd : cd = 0 ∨ cd = 1) : Met l yJ0_coder (ws_ yJ0_coder cJ0_coder 1 (some .byte)) ({ frames := 0, cells := 0, slots := 0, locals := 0 }) (va_Pc [.ref o] (fun U => pd_Z pd_F U U.heap ∧ pd_SS o v cd N f pd_F U U.heap)) (va_Qi (fun (r : Int32) (_ : Unit) => r = cd) (fun _ _ => True) pd_F) 0 0 pd_F := by
  refine Met.ofW (cc := cJ0_coder) (maxL := 1) (ret := (some .byte)) (by decide) rfl ?_
  intro p e s m args below meth c s₁ B hml hv
  obtain ⟨rfl, hZ, hSS⟩ := hv
  have hx := B.exec
  have hb := B.bytes
  have hr := B.returns
  have hts := atoms_spec (ws := (ws_ yJ0_coder cJ0_coder 1 (some .byte))) B.pre
  have hts : ∀ w ∈ lw_all, w.before _ s = true := fun w h => hts w (List.mem_cons_of_mem _ h)
  have hown : s.vm.findClass RJ0 = some m.cls := findClass_of_methodNamed B.named
  have hlocks := B.notSynchronized
  have hS : va_S pd_F s.heap s.heap [] := va_S.rf
  have hl := lv_entry ([.ref o]) (n := 1) (Nat.le_of_ble_eq_true rfl)
  rw [lg_entry_eq]
  generalize (lg_sl ([.ref o]) ++ List.replicate (1 - (lg_sl ([.ref o])).length) Slot.unset).toArray = ls at hl ⊢
  have hl : lv_has ls 1 [(0, .ref o)] := hl
  refine va_gets hx hb hZ.1 hS hown (hts _ q57) (fun _ h9 => h9) dJ0_coder_0 ?_
  refine lv_if_eq (tgt := 13) hx hb dJ0_coder_3 (by decide) (fun c9 => absurd c9 (by decide)) (fun _ => ?_)
  refine lv_aload_n hx hb dJ0_coder_6 rfl (lv_at hl 0 rfl) ?_
  refine vk_getf hx hb (hSS.2.2.1) hS hown (hts _ q248) (fun _ h9 => h9) dJ0_coder_7 ?_
  refine lv_goto (tgt := 14) hx hb dJ0_coder_10 (by decide) ?_
  exact W.zret (v := cd) hx hb hr (pd_cdn hcd) (fun t ht hW => ⟨⟨cd, (), rfl, rfl, trivial⟩, hS.F ht⟩) hS.2.2 dJ0_coder_14
set_option maxHeartbeats 4000000 in
set_option maxRecDepth 100000 in
/-- String.isLatin1() -/
theorem m_J0isl (l : Launch) (o v N : Nat) (cd : Int32) (f : Nat → Int32) (hcd : cd = 0 ∨ cd = 1) : Met l yJ0_isLatin1 (ws_ yJ0_isLatin1 cJ0_isLatin1 1 (some .boolean)) ({ frames := 0, cells := 0, slots := 0, locals := 0 }) (va_Pc [.ref o] (fun U => pd_Z pd_F U U.heap ∧ pd_SS o v cd N f pd_F U U.heap)) (va_Qi (fun (r : Int32) (_ : Unit) => r = if cd = 0 then 1 else 0) (fun _ _ => True) pd_F) 0 0 pd_F := by
  refine Met.ofW (cc := cJ0_isLatin1) (maxL := 1) (ret := (some .boolean)) (by decide) rfl ?_
  intro p e s m args below meth c s₁ B hml hv
  obtain ⟨rfl, hZ, hSS⟩ := hv
  have hx := B.exec
  have hb := B.bytes
  have hr := B.returns
  have hts := atoms_spec (ws := (ws_ yJ0_isLatin1 cJ0_isLatin1 1 (some .boolean))) B.pre
  have hts : ∀ w ∈ lw_all, w.before _ s = true := fun w h => hts w (List.mem_cons_of_mem _ h)
  have hown : s.vm.findClass RJ0 = some m.cls := findClass_of_methodNamed B.named
  have hlocks := B.notSynchronized
  have hS : va_S pd_F s.heap s.heap [] := va_S.rf
  have hl := lv_entry ([.ref o]) (n := 1) (Nat.le_of_ble_eq_true rfl)
  rw [lg_entry_eq]
  generalize (lg_sl ([.ref o]) ++ List.replicate (1 - (lg_sl ([.ref o])).length) Slot.unset).toArray = ls at hl ⊢
  have hl : lv_has ls 1 [(0, .ref o)] := hl
  refine va_gets hx hb hZ.1 hS hown (hts _ q57) (fun _ h9 => h9) dJ0_isLatin1_0 ?_
  refine lv_if_eq (tgt := 17) hx hb dJ0_isLatin1_3 (by decide) (fun c9 => absurd c9 (by decide)) (fun _ => ?_)
  refine lv_aload_n hx hb dJ0_isLatin1_6 rfl (lv_at hl 0 rfl) ?_
  refine vk_getf hx hb (hSS.2.2.1) hS hown (hts _ q248) (fun _ h9 => h9) dJ0_isLatin1_7 ?_
  refine lv_if_ne (tgt := 17) hx hb dJ0_isLatin1_10 (by decide) (fun c1 => ?_) (fun c1 => ?_)
  · refine lv_iconst (v := 0) hx hb dJ0_isLatin1_17 (by decide) ?_
    exact W.zret (v := 0) hx hb hr (rfl) (fun t ht hW => ⟨⟨0, (), rfl, (if_neg c1).symm, trivial⟩, hS.F ht⟩) hS.2.2 dJ0_isLatin1_18
  · refine lv_iconst (v := (nI 1)) hx hb dJ0_isLatin1_13 (by decide) ?_
    refine lv_goto (tgt := 18) hx hb dJ0_isLatin1_14 (by decide) ?_
    exact W.zret (v := (nI 1)) hx hb hr (rfl) (fun t ht hW => ⟨⟨(nI 1), (), rfl, (if_pos c1).symm, trivial⟩, hS.F ht⟩) hS.2.2 dJ0_isLatin1_18
set_option maxHeartbeats 4000000 in
set_option maxRecDepth 100000 in
/-- String.length() -/
theorem m_J0len (l : Launch) (o n : Nat) (w : Nat → Nat) (hn : n ≤ 1000) : Met l yJ0_length (ws_ yJ0_length cJ0_length 1 (some .int)) ({ frames := 1, cells := 0, slots := 0, locals := 30 }) (va_Pc [.ref o] (fun U => pd_Z pd_F U U.heap ∧ pd_S o n w pd_F U U.heap)) (va_Qi (fun (r : Int32) (_ : Unit) => r = nI n) (fun _ _ => True) pd_F) 0 0 pd_F := by
  refine Met.ofW (cc := cJ0_length) (maxL := 1) (ret := (some .int)) (by decide) rfl ?_
  intro p e s m args below meth c s₁ B hml hv
  obtain ⟨rfl, hZ, hSt⟩ := hv
  have hx := B.exec
  have hb := B.bytes
  have hr := B.returns
  have hts := atoms_spec (ws := (ws_ yJ0_length cJ0_length 1 (some .int))) B.pre
  have hts : ∀ w ∈ lw_all, w.before _ s = true := fun w h => hts w (List.mem_cons_of_mem _ h)
  have hown : s.vm.findClass RJ0 = some m.cls := findClass_of_methodNamed B.named
  have hlocks := B.notSynchronized
  have hS : va_S pd_F s.heap s.heap [] := va_S.rf
  have hl := lv_entry ([.ref o]) (n := 1) (Nat.le_of_ble_eq_true rfl)
  rw [lg_entry_eq]
  generalize (lg_sl ([.ref o]) ++ List.replicate (1 - (lg_sl ([.ref o])).length) Slot.unset).toArray = ls at hl ⊢
  have hl : lv_has ls 1 [(0, .ref o)] := hl
  obtain ⟨v, cd, N, f, hSS, hrep⟩ := hSt
  refine lv_aload_n hx hb dJ0_length_0 rfl (lv_at hl 0 rfl) ?_
  refine vk_getf hx hb (hSS.2.1) hS hown (hts _ q247) (fun _ h9 => h9) dJ0_length_1 ?_
  refine va_tlen (v := (nI N)) hx hb hSS.2.2.2 hS (rfl) dJ0_length_4 ?_
  refine lv_aload_n hx hb dJ0_length_5 rfl (lv_at hl 0 rfl) ?_
  refine va_calli (va_runV (As := []) (rest := [.int (nI N)]) ⟨hx, hb, hml, hown, hts⟩ (m_J0cod l o v N cd f hrep.cd) (cwV 0 hts (lw_V q53 q54 q55 q4 q56) rfl rfl rfl (by decide +kernel) ⟨Nat.le_of_ble_eq_true rfl, Nat.le_of_ble_eq_true rfl⟩) (pd_preV (fun a U g mk q => ⟨pd_Z.same (s := U) (U := U.calling g mk a) rfl q.1, pd_SS.moved (u := U) (U := U.calling g mk a) (Vm.Alike.refl U.vm) q.2⟩) (pd_Orecv hSS.1 hS) (fun U hU hW => ⟨pd_Z.call hZ hS hW hU pd_Fin, pd_SS.call hSS hS hW hU pd_Fin⟩)) rfl rfl hl.1 rfl (lv_room (Nat.le_of_ble_eq_true rfl)) dJ0_length_6 ⟨Nat.le_of_ble_eq_true rfl, Nat.le_of_ble_eq_true rfl⟩) hS pd_Fin2 pd_Fin (fun r_1 u_1 t H1 locs ht hvm hw9 hB hz1 hk1 hS => ?_)
  generalize H1 = H at hS ⊢
  rw [show r_1 = cd from hw9]
  refine pd_ishr (v := (nI n)) hx hb dJ0_length_9 (pd_shrep hrep hn) ?_
  exact W.iret (v := (nI n)) hx hb hr (fun t ht hW => ⟨⟨(nI n), (), rfl, rfl, trivial⟩, hS.F ht⟩) hS.2.2 dJ0_length_10
set_option maxHeartbeats 4000000 in
set_option maxRecDepth 100000 in
/-- String.charAt(i) -/
theorem m_J0ca (l : Launch) (o n i : Nat) (w : Nat → Nat) (h : i < n) (hn : n ≤ 1000) : Met l yJ0_charAt (ws_ yJ0_charAt cJ0_charAt 2 (some .char)) ({ frames := 4, cells := 0, slots := 0, locals := 120 }) (va_Pc [.ref o, .int (nI i)] (fun U => pd_Z pd_F U U.heap ∧ pd_S o n w pd_F U U.heap)) (va_Qi (fun (r : Int32) (_ : Unit) => r = nI (w i)) (fun _ _ => True) pd_F) 0 0 pd_F := by
  refine Met.ofW (cc := cJ0_charAt) (maxL := 2) (ret := (some .char)) (by decide) rfl ?_
  intro p e s m args below meth c s₁ B hml hv
  obtain ⟨rfl, hZ, hSt⟩ := hv
  have hx := B.exec
  have hb := B.bytes
  have hr := B.returns
  have hts := atoms_spec (ws := (ws_ yJ0_charAt cJ0_charAt 2 (some .char))) B.pre
  have hts : ∀ w ∈ lw_all, w.before _ s = true := fun w h => hts w (List.mem_cons_of_mem _ h)
  have hown : s.vm.findClass RJ0 = some m.cls := findClass_of_methodNamed B.named
  have hlocks := B.notSynchronized
  have hS : va_S pd_F s.heap s.heap [] := va_S.rf
  have hl := lv_entry ([.ref o, .int (nI i)]) (n := 2) (Nat.le_of_ble_eq_true rfl)
  rw [lg_entry_eq]
  generalize (lg_sl ([.ref o, .int (nI i)]) ++ List.replicate (2 - (lg_sl ([.ref o, .int (nI i)])).length) Slot.unset).toArray = ls at hl ⊢
  have hl : lv_has ls 2 [(0, .ref o), (1, .int (nI i))] := hl
  obtain ⟨v, cd, N, f, hSS, hrep⟩ := hSt
  refine lv_aload_n hx hb dJ0_charAt_0 rfl (lv_at hl 0 rfl) ?_
  refine va_calli (va_runV (As := []) (rest := []) ⟨hx, hb, hml, hown, hts⟩ (m_J0isl l o v N cd f hrep.cd) (cwV 0 hts (lw_V q63 q64 q65 q4 q66) rfl rfl rfl (by decide +kernel) ⟨Nat.le_of_ble_eq_true rfl, Nat.le_of_ble_eq_true rfl⟩) (pd_preV (fun a U g mk q => ⟨pd_Z.same (s := U) (U := U.calling g mk a) rfl q.1, pd_SS.moved (u := U) (U := U.calling g mk a) (Vm.Alike.refl U.vm) q.2⟩) (pd_Orecv hSS.1 hS) (fun U hU hW => ⟨pd_Z.call hZ hS hW hU pd_Fin, pd_SS.call hSS hS hW hU pd_Fin⟩)) rfl rfl hl.1 rfl (lv_room (Nat.le_of_ble_eq_true rfl)) dJ0_charAt_1 ⟨Nat.le_of_ble_eq_true rfl, Nat.le_of_ble_eq_true rfl⟩) hS pd_Fin2 pd_Fin (fun r_1 u_1 t H1 locs ht hvm hw9 hB hz1 hk1 hS => ?_)
  generalize H1 = H at hS ⊢
  rcases hrep with ⟨hcd, hN, hf⟩ | ⟨hcd, hN, hf⟩
  · rw [show r_1 = 1 from hw9.trans (if_pos hcd)]
    refine lv_if_eq (tgt := 16) hx hb dJ0_charAt_4 (by decide) (fun c9 => absurd c9 (by decide)) (fun _ => ?_)
    refine lv_aload_n hx hb dJ0_charAt_7 rfl (lv_at hl 0 rfl) ?_
    refine vk_getf hx hb (hSS.2.1) hS hown (hts _ q247) (fun _ h9 => h9) dJ0_charAt_8 ?_
    refine lv_iload_n hx hb dJ0_charAt_11 rfl (lv_at hl 1 rfl) ?_
    have hfi := hf i h
    refine va_calli (va_runS (As := [.ref v, .int (nI i)]) (rest := []) ⟨hx, hb, hml, hown, hts⟩ (m_J1ca l v N i (w i) f (by omega) (by omega) hfi.1 hfi.2) (va_cwS 2 hts (lw_S q67 q68 q5 q69) rfl rfl rfl (by decide +kernel) ⟨Nat.le_of_ble_eq_true rfl, Nat.le_of_ble_eq_true rfl⟩) (pd_pre (fun a U g mk q => ⟨pd_Z.same (s := U) (U := U.calling g mk a) rfl q.1, va_T.moved (u := U) (U := U.calling g mk a) (Vm.Alike.refl U.vm) q.2⟩) (fun U hU hW => ⟨pd_Z.call hZ hS hW hU pd_Fin, pd_T.call hSS.2.2.2 hS hW hU pd_Fin⟩)) rfl rfl hl.1 rfl (lv_room (Nat.le_of_ble_eq_true rfl)) dJ0_charAt_12 ⟨Nat.le_of_ble_eq_true rfl, Nat.le_of_ble_eq_true rfl⟩) hS pd_Fin2 pd_Fin (fun r_2 u_2 t H1 locs ht hvm hw9 hB hz1 hk1 hS => ?_)
    generalize H1 = H at hS ⊢
    obtain rfl : r_2 = (nI (w i)) := hw9
    exact W.zret (v := (nI (w i))) hx hb hr ((pk_charN (by omega)).1) (fun t ht hW => ⟨⟨(nI (w i)), (), rfl, rfl, trivial⟩, hS.F ht⟩) hS.2.2 dJ0_charAt_15
  · rw [show r_1 = 0 from hw9.trans (if_neg (by rw [hcd]; decide))]
    refine lv_if_eq (tgt := 16) hx hb dJ0_charAt_4 (by decide) (fun _ => ?_) (fun c9 => absurd (rfl) c9)
    refine lv_aload_n hx hb dJ0_charAt_16 rfl (lv_at hl 0 rfl) ?_
    refine vk_getf hx hb (hSS.2.1) hS hown (hts _ q247) (fun _ h9 => h9) dJ0_charAt_17 ?_
    refine lv_iload_n hx hb dJ0_charAt_20 rfl (lv_at hl 1 rfl) ?_
    have hfi := hf i h
    refine va_calli (va_runS (As := [.ref v, .int (nI i)]) (rest := []) ⟨hx, hb, hml, hown, hts⟩ (m_J3ca l v N i (w i) f (by omega) (by omega) hfi.1 hfi.2.1 hfi.2.2) (va_cwS 2 hts (lw_S q78 q79 q7 q80) rfl rfl rfl (by decide +kernel) ⟨Nat.le_of_ble_eq_true rfl, Nat.le_of_ble_eq_true rfl⟩) (pd_pre (fun a U g mk q => ⟨pd_Z.same (s := U) (U := U.calling g mk a) rfl q.1, va_T.moved (u := U) (U := U.calling g mk a) (Vm.Alike.refl U.vm) q.2⟩) (fun U hU hW => ⟨pd_Z.call hZ hS hW hU pd_Fin, pd_T.call hSS.2.2.2 hS hW hU pd_Fin⟩)) rfl rfl hl.1 rfl (lv_room (Nat.le_of_ble_eq_true rfl)) dJ0_charAt_21 ⟨Nat.le_of_ble_eq_true rfl, Nat.le_of_ble_eq_true rfl⟩) hS pd_Fin2 pd_Fin (fun r_2 u_2 t H1 locs ht hvm hw9 hB hz1 hk1 hS => ?_)
    generalize H1 = H at hS ⊢
    obtain rfl : r_2 = (nI (w i)) := hw9
    exact W.zret (v := (nI (w i))) hx hb hr ((pk_charN hfi.1).1) (fun t ht hW => ⟨⟨(nI (w i)), (), rfl, rfl, trivial⟩, hS.F ht⟩) hS.2.2 dJ0_charAt_24
set_option maxHeartbeats 4000000 in
set_option maxRecDepth 100000 in
/-- Arrays.copyOfRange(bytes, 0, its length): a clone -/
theorem m_J12cr (l : Launch) (D : va_G) (cB cC cI : ClassId) (sz a0 n : Nat) (f : Nat → Int32) (hn : n ≤ 5000) (hf : ∀ i, i < n → fits .byte (.int (f i)) = true) : Met l yJ12_copyOfRange (ws_ yJ12_copyOfRange cJ12_copyOfRange 3 (some (.array .byte))) ({ frames := 1, cells := 1, slots := n, locals := 40 }) (va_Pc [.ref a0, .int 0, .int (nI n)] (fun U => pd_BA D cB cC cI [(a0, .inl (cB, n, .inl (f)))] sz U)) (va_Qr (fun _ : Unit => True) (fun _ v2 t => va_P D pd_cl [(a0, .inl (cB, n, .inl (f))), (v2, .inl (cB, n, .inl (f)))] t.heap ∧ va_D (va_A [(a0, .inl (cB, n, .inl (f)))] sz) [(a0, .inl (cB, n, .inl (f))), (v2, .inl (cB, n, .inl (f)))]) (va_A [(a0, .inl (cB, n, .inl (f)))] sz)) 1 n (va_A [(a0, .inl (cB, n, .inl (f)))] sz) := by
  refine Met.ofW (cc := cJ12_copyOfRange) (maxL := 3) (ret := (some (.array .byte))) (by decide) rfl ?_
  intro p e s m args below meth c s₁ B hml hv
  obtain ⟨rfl, hBA⟩ := hv
  have hx := B.exec
  have hb := B.bytes
  have hr := B.returns
  have hts := atoms_spec (ws := (ws_ yJ12_copyOfRange cJ12_copyOfRange 3 (some (.array .byte)))) B.pre
  have hts : ∀ w ∈ lw_all, w.before _ s = true := fun w h => hts w (List.mem_cons_of_mem _ h)
  have hown : s.vm.findClass RJ12 = some m.cls := findClass_of_methodNamed B.named
  have hlocks := B.notSynchronized
  obtain ⟨hsz, hP, hK, hD0, hZ⟩ := hBA
  subst hsz
  have hD := hD0.self (sz := s.heap.size)
  generalize hAe : va_A [(a0, .inl (cB, n, .inl (f)))] s.heap.size = A at hD hZ ⊢
  have hA : ∀ q : Nat, s.heap.size ≤ q → A q := fun q h => by rw [← hAe]; exact Or.inr h
  have hS : va_S A s.heap s.heap [] := va_S.rf
  have hP : va_P D pd_cl [(a0, .inl (cB, n, .inl (f)))] s.heap := hP
  have hl := lv_entry ([.ref a0, .int 0, .int (nI n)]) (n := 3) (Nat.le_of_ble_eq_true rfl)
  rw [lg_entry_eq]
  generalize (lg_sl ([.ref a0, .int 0, .int (nI n)]) ++ List.replicate (3 - (lg_sl ([.ref a0, .int 0, .int (nI n)])).length) Slot.unset).toArray = ls at hl ⊢
  have hl : lv_has ls 3 [(0, .ref a0), (1, .int 0), (2, .int (nI n))] := hl
  refine lv_iload_n hx hb dJ12_copyOfRange_0 rfl (lv_at hl 1 rfl) ?_
  refine lv_if_ne (tgt := 10) hx hb dJ12_copyOfRange_1 (by decide) (fun c9 => absurd (rfl) c9) (fun _ => ?_)
  refine lv_iload_n hx hb dJ12_copyOfRange_4 rfl (lv_at hl 2 rfl) ?_
  refine lv_aload_n hx hb dJ12_copyOfRange_5 rfl (lv_at hl 0 rfl) ?_
  refine va_alen (v := (nI n)) hx hb hK hP 0 0 rfl rfl (rfl) dJ12_copyOfRange_6 ?_
  refine lv_icmp_eq (tgt := 17) hx hb dJ12_copyOfRange_7 (by decide) (fun _ => ?_) (fun c9 => absurd (rfl) c9)
  refine lv_aload_n hx hb dJ12_copyOfRange_17 rfl (lv_at hl 0 rfl) ?_
  have hnb : s.vm.findClass "[B" = some cB := (hK.2 0 _ rfl).2
  refine va_clone (ad := "[B") hx hb (hml.trans hl.1.symm) hown (hts _ q354) (hts _ q355) (hts _ q356) (hts _ q357) (hts _ q358) hZ.2.2.2.2.2.2.2.1 hK hP hD hS hA 0 0 rfl rfl hnb (va_fit (fun i hi => hf i hi)) (Nat.le_of_ble_eq_true rfl) (Nat.le_of_ble_eq_true rfl) (by show 0 + 1 ≤ 1; omega) (by show 0 + n ≤ n; omega) dJ12_copyOfRange_18 (fun v2 H hK9 hP hD hS => ?_)
  have hP : va_P D pd_cl [(a0, .inl (cB, n, .inl (f))), (v2, .inl (cB, n, .inl (f)))] H := hP
  have hD : va_D A [(a0, .inl (cB, n, .inl (f))), (v2, .inl (cB, n, .inl (f)))] := hD
  refine va_castA hx hb hown (hts _ q360) hP 1 rfl hnb dJ12_copyOfRange_21 ?_
  refine W.widen (k := 1) (n := n) (by show 0 + 1 ≤ 1; omega) (by show 0 + n ≤ n; omega) ?_
  exact W.aret (v := .ref v2) hx hb hr (Or.inr ⟨_, rfl⟩) (Or.inr ⟨_, rfl⟩) (fun t ht hW => ⟨⟨(), v2, rfl, trivial, by rw [ht]; exact hP, hD⟩, hS.F ht⟩) hS.2.2 dJ12_copyOfRange_24
set_option maxHeartbeats 4000000 in
set_option maxRecDepth 100000 in
/-- AbstractStringBuilder.isLatin1() -/
theorem m_J9isl (l : Launch) (D : va_G) (cB cC cI : ClassId) (sb v : Nat) (cd : Int32) (x y : Int32)  : Met l yJ9_isLatin1 (ws_ yJ9_isLatin1 cJ9_isLatin1 1 (some .boolean)) ({ frames := 0, cells := 0, slots := 0, locals := 0 }) (va_Pc [.ref sb] (fun U => pd_Z pd_F U U.heap ∧ pd_K D cB cC cI U ∧ va_P D pd_cl [(sb, .inr (1, [.ref v, .int cd, .int x, .int y]))] U.heap)) (va_Qi (fun (r : Int32) (_ : Unit) => r = if cd = 0 then 1 else 0) (fun _ _ => True) pd_F) 0 0 pd_F := by
  refine Met.ofW (cc := cJ9_isLatin1) (maxL := 1) (ret := (some .boolean)) (by decide) rfl ?_
  intro p e s m args below meth c s₁ B hml hv
  obtain ⟨rfl, hZ, hK, hP⟩ := hv
  have hx := B.exec
  have hb := B.bytes
  have hr := B.returns
  have hts := atoms_spec (ws := (ws_ yJ9_isLatin1 cJ9_isLatin1 1 (some .boolean))) B.pre
  have hts : ∀ w ∈ lw_all, w.before _ s = true := fun w h => hts w (List.mem_cons_of_mem _ h)
  have hown : s.vm.findClass RJ9 = some m.cls := findClass_of_methodNamed B.named
  have hlocks := B.notSynchronized
  have hS : va_S pd_F s.heap s.heap [] := va_S.rf
  have hl := lv_entry ([.ref sb]) (n := 1) (Nat.le_of_ble_eq_true rfl)
  rw [lg_entry_eq]
  generalize (lg_sl ([.ref sb]) ++ List.replicate (1 - (lg_sl ([.ref sb])).length) Slot.unset).toArray = ls at hl ⊢
  have hl : lv_has ls 1 [(0, .ref sb)] := hl
  refine va_gets hx hb hZ.1 hS hown (hts _ q311) (fun _ h9 => h9) dJ9_isLatin1_0 ?_
  refine lv_if_eq (tgt := 17) hx hb dJ9_isLatin1_3 (by decide) (fun c9 => absurd c9 (by decide)) (fun _ => ?_)
  refine lv_aload_n hx hb dJ9_isLatin1_6 rfl (lv_at hl 0 rfl) ?_
  refine va_get (D := D) (ci := 1) (v := .int cd) (C := RJ10) (T := TJ10) (N := 4) hx hb hts in_J10 hown hK hP 0 rfl rfl 1 (by decide) (hts _ q314) (fun _ h9 => h9) rfl dJ9_isLatin1_7 ?_
  refine lv_if_ne (tgt := 17) hx hb dJ9_isLatin1_10 (by decide) (fun c1 => ?_) (fun c1 => ?_)
  · refine lv_iconst (v := 0) hx hb dJ9_isLatin1_17 (by decide) ?_
    exact W.zret (v := 0) hx hb hr (rfl) (fun t ht hW => ⟨⟨0, (), rfl, (if_neg c1).symm, trivial⟩, hS.F ht⟩) hS.2.2 dJ9_isLatin1_18
  · refine lv_iconst (v := (nI 1)) hx hb dJ9_isLatin1_13 (by decide) ?_
    refine lv_goto (tgt := 18) hx hb dJ9_isLatin1_14 (by decide) ?_
    exact W.zret (v := (nI 1)) hx hb hr (rfl) (fun t ht hW => ⟨⟨(nI 1), (), rfl, (if_pos c1).symm, trivial⟩, hS.F ht⟩) hS.2.2 dJ9_isLatin1_18
set_option maxHeartbeats 4000000 in
set_option maxRecDepth 100000 in
/-- AbstractStringBuilder.getValue() -/
theorem m_J9gv (l : Launch) (D : va_G) (cB cC cI : ClassId) (sb v : Nat) (cd : Int32) (x y : Int32)  : Met l yJ9_getValue (ws_ yJ9_getValue cJ9_getValue 1 (some (.array .byte))) ({ frames := 0, cells := 0, slots := 0, locals := 0 }) (va_Pc [.ref sb] (fun U => pd_K D cB cC cI U ∧ va_P D pd_cl [(sb, .inr (1, [.ref v, .int cd, .int x, .int y]))] U.heap)) (va_Qr (fun _ : Unit => True) (fun _ a _ => a = v) pd_F) 0 0 pd_F := by
  refine Met.ofW (cc := cJ9_getValue) (maxL := 1) (ret := (some (.array .byte))) (by decide) rfl ?_
  intro p e s m args below meth c s₁ B hml hv
  obtain ⟨rfl, hK, hP⟩ := hv
  have hx := B.exec
  have hb := B.bytes
  have hr := B.returns
  have hts := atoms_spec (ws := (ws_ yJ9_getValue cJ9_getValue 1 (some (.array .byte)))) B.pre
  have hts : ∀ w ∈ lw_all, w.before _ s = true := fun w h => hts w (List.mem_cons_of_mem _ h)
  have hown : s.vm.findClass RJ9 = some m.cls := findClass_of_methodNamed B.named
  have hlocks := B.notSynchronized
  have hS : va_S pd_F s.heap s.heap [] := va_S.rf
  have hl := lv_entry ([.ref sb]) (n := 1) (Nat.le_of_ble_eq_true rfl)
  rw [lg_entry_eq]
  generalize (lg_sl ([.ref sb]) ++ List.replicate (1 - (lg_sl ([.ref sb])).length) Slot.unset).toArray = ls at hl ⊢
  have hl : lv_has ls 1 [(0, .ref sb)] := hl
  refine lv_aload_n hx hb dJ9_getValue_0 rfl (lv_at hl 0 rfl) ?_
  refine va_get (D := D) (ci := 1) (v := .ref v) (C := RJ10) (T := TJ10) (N := 4) hx hb hts in_J10 hown hK hP 0 rfl rfl 0 (by decide) (hts _ q313) (fun _ h9 => h9) rfl dJ9_getValue_1 ?_
  exact W.aret (v := .ref v) hx hb hr (Or.inr ⟨_, rfl⟩) (Or.inr ⟨_, rfl⟩) (fun t ht hW => ⟨⟨(), v, rfl, trivial, rfl⟩, hS.F ht⟩) hS.2.2 dJ9_getValue_4
set_option maxHeartbeats 4000000 in
set_option maxRecDepth 100000 in
/-- AbstractStringBuilder.length() -/
theorem m_J9len (l : Launch) (D : va_G) (cB cC cI : ClassId) (sb v : Nat) (cd : Int32) (x y : Int32)  : Met l yJ9_length (ws_ yJ9_length cJ9_length 1 (some .int)) ({ frames := 0, cells := 0, slots := 0, locals := 0 }) (va_Pc [.ref sb] (fun U => pd_K D cB cC cI U ∧ va_P D pd_cl [(sb, .inr (1, [.ref v, .int cd, .int x, .int y]))] U.heap)) (va_Qi (fun (r : Int32) (_ : Unit) => r = y) (fun _ _ => True) pd_F) 0 0 pd_F := by
  refine Met.ofW (cc := cJ9_length) (maxL := 1) (ret := (some .int)) (by decide) rfl ?_
  intro p e s m args below meth c s₁ B hml hv
  obtain ⟨rfl, hK, hP⟩ := hv
  have hx := B.exec
  have hb := B.bytes
  have hr := B.returns
  have hts := atoms_spec (ws := (ws_ yJ9_length cJ9_length 1 (some .int))) B.pre
  have hts : ∀ w ∈ lw_all, w.before _ s = true := fun w h => hts w (List.mem_cons_of_mem _ h)
  have hown : s.vm.findClass RJ9 = some m.cls := findClass_of_methodNamed B.named
  have hlocks := B.notSynchronized
  have hS : va_S pd_F s.heap s.heap [] := va_S.rf
  have hl := lv_entry ([.ref sb]) (n := 1) (Nat.le_of_ble_eq_true rfl)
  rw [lg_entry_eq]
  generalize (lg_sl ([.ref sb]) ++ List.replicate (1 - (lg_sl ([.ref sb])).length) Slot.unset).toArray = ls at hl ⊢
  have hl : lv_has ls 1 [(0, .ref sb)] := hl
  refine lv_aload_n hx hb dJ9_length_0 rfl (lv_at hl 0 rfl) ?_
  refine va_get (D := D) (ci := 1) (v := .int y) (C := RJ10) (T := TJ10) (N := 4) hx hb hts in_J10 hown hK hP 0 rfl rfl 3 (by decide) (hts _ q316) (fun _ h9 => h9) rfl dJ9_length_1 ?_
  exact W.iret (v := y) hx hb hr (fun t ht hW => ⟨⟨y, (), rfl, rfl, trivial⟩, hS.F ht⟩) hS.2.2 dJ9_length_4
set_option maxHeartbeats 4000000 in
set_option maxRecDepth 100000 in
/-- StringBuilder.length() -/
theorem m_J10len (l : Launch) (D : va_G) (cB cC cI : ClassId) (sb v : Nat) (cd : Int32) (x y : Int32)  : Met l yJ10_length (ws_ yJ10_length cJ10_length 1 (some .int)) ({ frames := 1, cells := 0, slots := 0, locals := 30 }) (va_Pc [.ref sb] (fun U => pd_K D cB cC cI U ∧ va_P D pd_cl [(sb, .inr (1, [.ref v, .int cd, .int x, .int y]))] U.heap)) (va_Qi (fun (r : Int32) (_ : Unit) => r = y) (fun _ _ => True) pd_F) 0 0 pd_F := by
  refine Met.ofW (cc := cJ10_length) (maxL := 1) (ret := (some .int)) (by decide) rfl ?_
  intro p e s m args below meth c s₁ B hml hv
  obtain ⟨rfl, hK, hP⟩ := hv
  have hx := B.exec
  have hb := B.bytes
  have hr := B.returns
  have hts := atoms_spec (ws := (ws_ yJ10_length cJ10_length 1 (some .int))) B.pre
  have hts : ∀ w ∈ lw_all, w.before _ s = true := fun w h => hts w (List.mem_cons_of_mem _ h)
  have hown : s.vm.findClass RJ10 = some m.cls := findClass_of_methodNamed B.named
  have hlocks := B.notSynchronized
  have hS : va_S pd_F s.heap s.heap [] := va_S.rf
  have hl := lv_entry ([.ref sb]) (n := 1) (Nat.le_of_ble_eq_true rfl)
  rw [lg_entry_eq]
  generalize (lg_sl ([.ref sb]) ++ List.replicate (1 - (lg_sl ([.ref sb])).length) Slot.unset).toArray = ls at hl ⊢
  have hl : lv_has ls 1 [(0, .ref sb)] := hl
  refine lv_aload_n hx hb dJ10_length_0 rfl (lv_at hl 0 rfl) ?_
  refine va_calli (va_runSU (hK.1 1 _ rfl).2 (As := []) (rest := []) ⟨hx, hb, hml, hown, hts⟩ (m_J9len l D cB cC cI sb v cd x y) (va_cwSU 0 hts (lw_app (pd_in5 q276 q425 q277 q278 q14) (lw_meth q279)) rfl rfl rfl (by decide +kernel) ⟨Nat.le_of_ble_eq_true rfl, Nat.le_of_ble_eq_true rfl⟩) (pd_preV (fun a U g mk q => ⟨va_K.moved (u := U) (U := U.calling g mk a) (Vm.Alike.refl U.vm) q.1, q.2⟩) (va_recv hK hP (ci := 1) (q0 := 0) rfl rfl) (fun U hU hW => ⟨va_K.moved hW.alike hK, by rw [hU]; exact hP⟩)) rfl rfl hl.1 rfl (lv_room (Nat.le_of_ble_eq_true rfl)) dJ10_length_1 ⟨Nat.le_of_ble_eq_true rfl, Nat.le_of_ble_eq_true rfl⟩) hS pd_Fin2 pd_Fin (fun r_1 u_1 t H1 locs ht hvm hw9 hB hz1 hk1 hS => ?_)
  have hP := pd_keep hP hk1
  generalize H1 = H at hP hS ⊢
  exact W.iret (v := r_1) hx hb hr (fun t ht hW => ⟨⟨r_1, (), rfl, hw9, trivial⟩, hS.F ht⟩) hS.2.2 dJ10_length_4
set_option maxHeartbeats 4000000 in
set_option maxRecDepth 100000 in
/-- AbstractStringBuilder.ensureCapacityInternal(mn): enough already -/
theorem m_J9eci (l : Launch) (D : va_G) (cB cC cI : ClassId) (sb v : Nat) (cd : Int32) (x y : Int32) (N cap mn : Nat) (f : Nat → Int32) (hcap : nI N >>> (cd &&& 31) = nI cap) (h : mn ≤ cap) (hc : cap < 2 ^ 30) : Met l yJ9_ensureCapacityInternal (ws_ yJ9_ensureCapacityInternal cJ9_ensureCapacityInternal 3 (none)) ({ frames := 0, cells := 0, slots := 0, locals := 0 }) (va_Pc [.ref sb, .int (nI mn)] (fun U => pd_K D cB cC cI U ∧ va_P D pd_cl [(sb, .inr (1, [.ref v, .int cd, .int x, .int y])), (v, .inl (cB, N, .inl (f)))] U.heap)) (va_Qv (fun _ : Unit => True) (fun _ _ => True) pd_F) 0 0 pd_F := by
  refine Met.ofW (cc := cJ9_ensureCapacityInternal) (maxL := 3) (ret := (none)) (by decide) rfl ?_
  intro p e s m args below meth c s₁ B hml hv
  obtain ⟨rfl, hK, hP⟩ := hv
  have hx := B.exec
  have hb := B.bytes
  have hr := B.returns
  have hts := atoms_spec (ws := (ws_ yJ9_ensureCapacityInternal cJ9_ensureCapacityInternal 3 (none))) B.pre
  have hts : ∀ w ∈ lw_all, w.before _ s = true := fun w h => hts w (List.mem_cons_of_mem _ h)
  have hown : s.vm.findClass RJ9 = some m.cls := findClass_of_methodNamed B.named
  have hlocks := B.notSynchronized
  have hS : va_S pd_F s.heap s.heap [] := va_S.rf
  have hl := lv_entry ([.ref sb, .int (nI mn)]) (n := 3) (Nat.le_of_ble_eq_true rfl)
  rw [lg_entry_eq]
  generalize (lg_sl ([.ref sb, .int (nI mn)]) ++ List.replicate (3 - (lg_sl ([.ref sb, .int (nI mn)])).length) Slot.unset).toArray = ls at hl ⊢
  have hl : lv_has ls 3 [(0, .ref sb), (1, .int (nI mn))] := hl
  refine lv_aload_n hx hb dJ9_ensureCapacityInternal_0 rfl (lv_at hl 0 rfl) ?_
  refine va_get (D := D) (ci := 1) (v := .ref v) (C := RJ10) (T := TJ10) (N := 4) hx hb hts in_J10 hown hK hP 0 rfl rfl 0 (by decide) (hts _ q313) (fun _ h9 => h9) rfl dJ9_ensureCapacityInternal_1 ?_
  refine va_alen (v := (nI N)) hx hb hK hP 1 0 rfl rfl (rfl) dJ9_ensureCapacityInternal_4 ?_
  refine lv_aload_n hx hb dJ9_ensureCapacityInternal_5 rfl (lv_at hl 0 rfl) ?_
  refine va_get (D := D) (ci := 1) (v := .int cd) (C := RJ10) (T := TJ10) (N := 4) hx hb hts in_J10 hown hK hP 0 rfl rfl 1 (by decide) (hts _ q314) (fun _ h9 => h9) rfl dJ9_ensureCapacityInternal_6 ?_
  refine pd_ishr (v := (nI cap)) hx hb dJ9_ensureCapacityInternal_9 (hcap) ?_
  refine lv_istore_n (lv' := [(2, .int (nI cap)), (0, .ref sb), (1, .int (nI mn))]) hx hb dJ9_ensureCapacityInternal_10 rfl hl (by decide) rfl (fun ls hl => ?_)
  refine lv_iload_n hx hb dJ9_ensureCapacityInternal_11 rfl (lv_at hl 2 rfl) ?_
  refine lv_iload_n hx hb dJ9_ensureCapacityInternal_12 rfl (lv_at hl 0 rfl) ?_
  refine pd_isub (v := (nI mn - nI cap)) hx hb dJ9_ensureCapacityInternal_13 (rfl) ?_
  refine lv_if_le (tgt := 38) hx hb dJ9_ensureCapacityInternal_14 (by decide) (fun _ => ?_) (fun c9 => absurd (pd_sle h hc) c9)
  exact W.vret hx hb hr (fun t ht hW => ⟨⟨(), rfl, trivial, trivial⟩, hS.F ht⟩) hS.2.2 dJ9_ensureCapacityInternal_38
set_option maxHeartbeats 4000000 in
set_option maxRecDepth 100000 in
/-- AbstractStringBuilder(k) -/
theorem m_J9init (l : Launch) (D : va_G) (cB cC cI : ClassId) (sz sb k0 : Nat) (hk : k0 ≤ 5000) : Met l yJ9_init (ws_ yJ9_init cJ9_init 2 (none)) ({ frames := 1, cells := 1, slots := k0, locals := 40 }) (va_Pc [.ref sb, .int (nI k0)] (fun U => pd_BA D cB cC cI [(sb, .inr (1, [.null, .int 0, .int 0, .int 0]))] sz U)) (va_Qv (fun _ : Unit => True) (fun _ t => ∃ v : Nat, va_P D pd_cl [(sb, .inr (1, [.ref v, .int 0, .int 0, .int 0])), (v, .inl (cB, k0, .inl (fun _ => 0)))] t.heap ∧ va_D (va_A [(sb, .inr (1, [.null, .int 0, .int 0, .int 0]))] sz) [(sb, .inr (1, [.ref v, .int 0, .int 0, .int 0])), (v, .inl (cB, k0, .inl (fun _ => 0)))]) (va_A [(sb, .inr (1, [.null, .int 0, .int 0, .int 0]))] sz)) 1 k0 (va_A [(sb, .inr (1, [.null, .int 0, .int 0, .int 0]))] sz) := by
  refine Met.ofW (cc := cJ9_init) (maxL := 2) (ret := (none)) (by decide) rfl ?_
  intro p e s m args below meth c s₁ B hml hv
  obtain ⟨rfl, hBA⟩ := hv
  have hx := B.exec
  have hb := B.bytes
  have hr := B.returns
  have hts := atoms_spec (ws := (ws_ yJ9_init cJ9_init 2 (none))) B.pre
  have hts : ∀ w ∈ lw_all, w.before _ s = true := fun w h => hts w (List.mem_cons_of_mem _ h)
  have hown : s.vm.findClass RJ9 = some m.cls := findClass_of_methodNamed B.named
  have hlocks := B.notSynchronized
  obtain ⟨hsz, hP, hK, hD0, hZ⟩ := hBA
  subst hsz
  have hD := hD0.self (sz := s.heap.size)
  generalize hAe : va_A [(sb, .inr (1, [.null, .int 0, .int 0, .int 0]))] s.heap.size = A at hD hZ ⊢
  have hA : ∀ q : Nat, s.heap.size ≤ q → A q := fun q h => by rw [← hAe]; exact Or.inr h
  have hS : va_S A s.heap s.heap [] := va_S.rf
  have hP : va_P D pd_cl [(sb, .inr (1, [.null, .int 0, .int 0, .int 0]))] s.heap := hP
  have hl := lv_entry ([.ref sb, .int (nI k0)]) (n := 2) (Nat.le_of_ble_eq_true rfl)
  rw [lg_entry_eq]
  generalize (lg_sl ([.ref sb, .int (nI k0)]) ++ List.replicate (2 - (lg_sl ([.ref sb, .int (nI k0)])).length) Slot.unset).toArray = ls at hl ⊢
  have hl : lv_has ls 2 [(0, .ref sb), (1, .int (nI k0))] := hl
  refine lv_aload_n hx hb dJ9_init_0 rfl (lv_at hl 0 rfl) ?_
  refine W.objInit hx hb hown (hts _ q310) (hts _ q25) (hts _ q26) rfl (by rw [hml]; exact hl.1) rfl dJ9_init_1 (Nat.le_of_ble_eq_true rfl) (Nat.le_of_ble_eq_true rfl) ?_
  refine W.eq (g2 := F0 m 4 ls []) rfl ?_
  refine va_gets hx hb hZ.1 hS hown (hts _ q311) (fun _ h9 => h9) dJ9_init_4 ?_
  refine lv_if_eq (tgt := 25) hx hb dJ9_init_7 (by decide) (fun c9 => absurd c9 (by decide)) (fun _ => ?_)
  refine lv_aload_n hx hb dJ9_init_10 rfl (lv_at hl 0 rfl) ?_
  refine lv_iload_n hx hb dJ9_init_11 rfl (lv_at hl 1 rfl) ?_
  refine pd_newb (N := k0) hx hb (hts _ q39) hK hP hD hS hA (rfl) (by omega) (by show 0 + 1 ≤ 1; omega) (by show 0 + k0 ≤ k0; omega) dJ9_init_12 (fun v H hP hD hS => ?_)
  have hP : va_P D pd_cl [(sb, .inr (1, [.null, .int 0, .int 0, .int 0])), (v, .inl (cB, k0, .inl (fun _ => 0)))] H := hP
  have hD : va_D A [(sb, .inr (1, [.null, .int 0, .int 0, .int 0])), (v, .inl (cB, k0, .inl (fun _ => 0)))] := hD
  refine va_put (D := D) (ci := 1) (v := .ref v) (ty := .array .byte) (C := RJ10) (T := TJ10) (N := 4) hx hb hts in_J10 tyJ10 tyJ10_ok nmJ10 hown hK hP hD hS 0 rfl rfl 0 (by decide) (hts _ q313) (fun _ h9 => h9) rfl (by decide +kernel) (rfl) (rfl) (Nat.le_of_ble_eq_true rfl) dJ9_init_14 (fun H locs hP hD hS => ?_)
  have hP : va_P D pd_cl [(sb, .inr (1, [.ref v, .int 0, .int 0, .int 0])), (v, .inl (cB, k0, .inl (fun _ => 0)))] H := hP
  have hD : va_D A [(sb, .inr (1, [.ref v, .int 0, .int 0, .int 0])), (v, .inl (cB, k0, .inl (fun _ => 0)))] := hD
  refine lv_aload_n hx hb dJ9_init_17 rfl (lv_at hl 0 rfl) ?_
  refine lv_iconst (v := 0) hx hb dJ9_init_18 (by decide) ?_
  refine va_put (D := D) (ci := 1) (v := .int 0) (ty := .byte) (C := RJ10) (T := TJ10) (N := 4) hx hb hts in_J10 tyJ10 tyJ10_ok nmJ10 hown hK hP hD hS 0 rfl rfl 1 (by decide) (hts _ q314) (fun _ h9 => h9) rfl (by decide +kernel) (rfl) (rfl) (Nat.le_of_ble_eq_true rfl) dJ9_init_19 (fun H locs hP hD hS => ?_)
  have hP : va_P D pd_cl [(sb, .inr (1, [.ref v, .int 0, .int 0, .int 0])), (v, .inl (cB, k0, .inl (fun _ => 0)))] H := hP
  have hD : va_D A [(sb, .inr (1, [.ref v, .int 0, .int 0, .int 0])), (v, .inl (cB, k0, .inl (fun _ => 0)))] := hD
  refine lv_goto (tgt := 38) hx hb dJ9_init_22 (by decide) ?_
  refine W.widen (k := 1) (n := k0) (by show 0 + 1 ≤ 1; omega) (by show 0 + k0 ≤ k0; omega) ?_
  exact W.vret hx hb hr (fun t ht hW => ⟨⟨(), rfl, trivial, v, by rw [ht]; exact hP, hD⟩, hS.F ht⟩) hS.2.2 dJ9_init_38
set_option maxHeartbeats 4000000 in
set_option maxRecDepth 100000 in
/-- StringBuilder(k) -/
theorem m_J10init (l : Launch) (D : va_G) (cB cC cI : ClassId) (sz sb k0 : Nat) (hk : k0 ≤ 5000) : Met l yJ10_init (ws_ yJ10_init cJ10_init 2 (none)) ({ frames := 2, cells := 1, slots := k0, locals := 70 }) (va_Pc [.ref sb, .int (nI k0)] (fun U => pd_BA D cB cC cI [(sb, .inr (1, [.null, .int 0, .int 0, .int 0]))] sz U)) (va_Qv (fun _ : Unit => True) (fun _ t => ∃ v : Nat, va_P D pd_cl [(sb, .inr (1, [.ref v, .int 0, .int 0, .int 0])), (v, .inl (cB, k0, .inl (fun _ => 0)))] t.heap ∧ va_D (va_A [(sb, .inr (1, [.null, .int 0, .int 0, .int 0]))] sz) [(sb, .inr (1, [.ref v, .int 0, .int 0, .int 0])), (v, .inl (cB, k0, .inl (fun _ => 0)))]) (va_A [(sb, .inr (1, [.null, .int 0, .int 0, .int 0]))] sz)) 1 k0 (va_A [(sb, .inr (1, [.null, .int 0, .int 0, .int 0]))] sz) := by
  refine Met.ofW (cc := cJ10_init) (maxL := 2) (ret := (none)) (by decide) rfl ?_
  intro p e s m args below meth c s₁ B hml hv
  obtain ⟨rfl, hBA⟩ := hv
  have hx := B.exec
  have hb := B.bytes
  have hr := B.returns
  have hts := atoms_spec (ws := (ws_ yJ10_init cJ10_init 2 (none))) B.pre
  have hts : ∀ w ∈ lw_all, w.before _ s = true := fun w h => hts w (List.mem_cons_of_mem _ h)
  have hown : s.vm.findClass RJ10 = some m.cls := findClass_of_methodNamed B.named
  have hlocks := B.notSynchronized
  obtain ⟨hsz, hP, hK, hD0, hZ⟩ := hBA
  subst hsz
  have hD := hD0.self (sz := s.heap.size)
  generalize hAe : va_A [(sb, .inr (1, [.null, .int 0, .int 0, .int 0]))] s.heap.size = A at hD hZ ⊢
  have hA : ∀ q : Nat, s.heap.size ≤ q → A q := fun q h => by rw [← hAe]; exact Or.inr h
  have hS : va_S A s.heap s.heap [] := va_S.rf
  have hP : va_P D pd_cl [(sb, .inr (1, [.null, .int 0, .int 0, .int 0]))] s.heap := hP
  have hl := lv_entry ([.ref sb, .int (nI k0)]) (n := 2) (Nat.le_of_ble_eq_true rfl)
  rw [lg_entry_eq]
  generalize (lg_sl ([.ref sb, .int (nI k0)]) ++ List.replicate (2 - (lg_sl ([.ref sb, .int (nI k0)])).length) Slot.unset).toArray = ls at hl ⊢
  have hl : lv_has ls 2 [(0, .ref sb), (1, .int (nI k0))] := hl
  refine lv_aload_n hx hb dJ10_init_0 rfl (lv_at hl 0 rfl) ?_
  refine lv_iload_n hx hb dJ10_init_1 rfl (lv_at hl 1 rfl) ?_
  have hPc := hP.sub (ws' := [(sb, .inr (1, [.null, .int 0, .int 0, .int 0]))]) [0] rfl
  have hDc := hD.sub (ws' := [(sb, .inr (1, [.null, .int 0, .int 0, .int 0]))]) [0] (by decide) rfl
  have hFc := va_free (wc := [(sb, .inr (1, [.null, .int 0, .int 0, .int 0]))]) hD hS hA [0] rfl
  refine va_callv (va_runI (As := [.int (nI k0)]) (rest := []) ⟨hx, hb, hml, hown, hts⟩ (m_J9init l D cB cC cI _ sb k0 hk) (cwI 1 hts (lw_meth q309) rfl rfl rfl (hts _ q14) (hts _ q307) (hts _ q308) rfl (by decide +kernel) ⟨Nat.le_of_ble_eq_true rfl, Nat.le_of_ble_eq_true rfl⟩) (pd_pre (fun a U g mk q => pd_BA.blind q) (fun U hU hW => pd_BA.pass hPc hDc hK hZ hS hFc hU hW)) rfl rfl hl.1 rfl (lv_room (Nat.le_of_ble_eq_true rfl)) dJ10_init_2 ⟨by show 0 + 1 ≤ 1; omega, by show 0 + k0 ≤ k0; omega⟩) hS (fun q _ h => hFc q h) hFc (fun u_1 t H1 locs ht hvm hw9 hB hz1 hk1 hS => ?_)
  obtain ⟨v, hP1, hD1⟩ := hB
  rw [ht] at hP1
  obtain ⟨hP, hD⟩ := va_join (wr := []) (w1 := [(sb, .inr (1, [.ref v, .int 0, .int 0, .int 0])), (v, .inl (cB, k0, .inl (fun _ => 0)))]) hP hD [0] [] rfl rfl (by decide) (by decide) hk1 hFc hP1 hD1
  generalize H1 = H at hP hS ⊢
  have hP : va_P D pd_cl [(sb, .inr (1, [.ref v, .int 0, .int 0, .int 0])), (v, .inl (cB, k0, .inl (fun _ => 0)))] H := hP
  have hD : va_D A [(sb, .inr (1, [.ref v, .int 0, .int 0, .int 0])), (v, .inl (cB, k0, .inl (fun _ => 0)))] := hD
  refine W.widen (k := 1) (n := k0) (by show 0 + 1 ≤ 1; omega) (by show 0 + k0 ≤ k0; omega) ?_
  exact W.vret hx hb hr (fun t ht hW => ⟨⟨(), rfl, trivial, v, by rw [ht]; exact hP, hD⟩, hS.F ht⟩) hS.2.2 dJ10_init_5
set_option maxHeartbeats 4000000 in
set_option maxRecDepth 100000 in
/-- AbstractStringBuilder.inflate() -/
theorem m_J9inf (l : Launch) (D : va_G) (cB cC cI : ClassId) (sz sb v n cap : Nat) (w : Nat → Nat) (f : Nat → Int32) (hn : n ≤ cap) (hc : cap ≤ 1000) (hf : ∀ j, j < n → w j < 256 ∧ f j = sb_b (w j)) : Met l yJ9_inflate (ws_ yJ9_inflate cJ9_inflate 2 (none)) ({ frames := 5, cells := 1, slots := 2 * cap, locals := 150 }) (va_Pc [.ref sb] (fun U => pd_BA D cB cC cI [(sb, .inr (1, [.ref v, .int 0, .int 0, .int (nI n)])), (v, .inl (cB, cap, .inl (f)))] sz U)) (va_Qv (fun _ : Unit => True) (fun _ t => ∃ (v2 : Nat) (f2 : Nat → Int32), va_P D pd_cl [(sb, .inr (1, [.ref v2, .int 1, .int 0, .int (nI n)])), (v2, .inl (cB, 2 * cap, .inl (f2)))] t.heap ∧ va_D (va_A [(sb, .inr (1, [.ref v, .int 0, .int 0, .int (nI n)])), (v, .inl (cB, cap, .inl (f)))] sz) [(sb, .inr (1, [.ref v2, .int 1, .int 0, .int (nI n)])), (v2, .inl (cB, 2 * cap, .inl (f2)))] ∧ ∀ i, i < n → f2 (2 * i) = sb_b (w i) ∧ f2 (2 * i + 1) = sb_b (w i / 256)) (va_A [(sb, .inr (1, [.ref v, .int 0, .int 0, .int (nI n)])), (v, .inl (cB, cap, .inl (f)))] sz)) 1 (2 * cap) (va_A [(sb, .inr (1, [.ref v, .int 0, .int 0, .int (nI n)])), (v, .inl (cB, cap, .inl (f)))] sz) := by
  refine Met.ofW (cc := cJ9_inflate) (maxL := 2) (ret := (none)) (by decide) rfl ?_
  intro p e s m args below meth c s₁ B hml hv
  obtain ⟨rfl, hBA⟩ := hv
  have hx := B.exec
  have hb := B.bytes
  have hr := B.returns
  have hts := atoms_spec (ws := (ws_ yJ9_inflate cJ9_inflate 2 (none))) B.pre
  have hts : ∀ w ∈ lw_all, w.before _ s = true := fun w h => hts w (List.mem_cons_of_mem _ h)
  have hown : s.vm.findClass RJ9 = some m.cls := findClass_of_methodNamed B.named
  have hlocks := B.notSynchronized
  obtain ⟨hsz, hP, hK, hD0, hZ⟩ := hBA
  subst hsz
  have hD := hD0.self (sz := s.heap.size)
  generalize hAe : va_A [(sb, .inr (1, [.ref v, .int 0, .int 0, .int (nI n)])), (v, .inl (cB, cap, .inl (f)))] s.heap.size = A at hD hZ ⊢
  have hA : ∀ q : Nat, s.heap.size ≤ q → A q := fun q h => by rw [← hAe]; exact Or.inr h
  have hS : va_S A s.heap s.heap [] := va_S.rf
  have hP : va_P D pd_cl [(sb, .inr (1, [.ref v, .int 0, .int 0, .int (nI n)])), (v, .inl (cB, cap, .inl (f)))] s.heap := hP
  have hl := lv_entry ([.ref sb]) (n := 2) (Nat.le_of_ble_eq_true rfl)
  rw [lg_entry_eq]
  generalize (lg_sl ([.ref sb]) ++ List.replicate (2 - (lg_sl ([.ref sb])).length) Slot.unset).toArray = ls at hl ⊢
  have hl : lv_has ls 2 [(0, .ref sb)] := hl
  refine lv_aload_n hx hb dJ9_inflate_0 rfl (lv_at hl 0 rfl) ?_
  have hPo := hP.sub (ws' := [(sb, .inr (1, [.ref v, .int 0, .int 0, .int (nI n)]))]) [0] rfl
  refine va_calli (va_runU (As := []) (rest := []) ⟨hx, hb, hml, hown, hts⟩ (m_J9isl l D cB cC cI sb v 0 0 (nI n)) (va_cwU (C := RJ10) (owner := "java/lang/AbstractStringBuilder") 0 hts (lw_app (pd_in5 q365 q367 q368 q366 q14) (lw_meth q369)) rfl rfl rfl rfl (by decide +kernel) ⟨Nat.le_of_ble_eq_true rfl, Nat.le_of_ble_eq_true rfl⟩) (pd_preV (fun a U g mk q => ⟨pd_Z.same (s := U) (U := U.calling g mk a) rfl q.1, va_K.moved (u := U) (U := U.calling g mk a) (Vm.Alike.refl U.vm) q.2.1, q.2.2⟩) (va_recv hK hP (ci := 1) (q0 := 0) rfl rfl) (fun U hU hW => ⟨pd_Z.call hZ hS hW hU pd_Fin, va_K.moved hW.alike hK, by rw [hU]; exact hPo⟩)) rfl rfl hl.1 rfl (lv_room (Nat.le_of_ble_eq_true rfl)) dJ9_inflate_1 ⟨Nat.le_of_ble_eq_true rfl, Nat.zero_le _⟩) hS pd_Fin2 pd_Fin (fun r_1 u_1 t H1 locs ht hvm hw9 hB hz1 hk1 hS => ?_)
  have hP := pd_keep hP hk1
  generalize H1 = H at hP hS ⊢
  rw [show r_1 = 1 from hw9.trans (if_pos rfl)]
  refine lv_if_ne (tgt := 8) hx hb dJ9_inflate_4 (by decide) (fun _ => ?_) (fun c9 => absurd c9 (by decide))
  refine lv_aload_n hx hb dJ9_inflate_8 rfl (lv_at hl 0 rfl) ?_
  refine va_get (D := D) (ci := 1) (v := .ref v) (C := RJ10) (T := TJ10) (N := 4) hx hb hts in_J10 hown hK hP 0 rfl rfl 0 (by decide) (hts _ q313) (fun _ h9 => h9) rfl dJ9_inflate_9 ?_
  refine va_alen (v := (nI cap)) hx hb hK hP 1 0 rfl rfl (rfl) dJ9_inflate_12 ?_
  have hPc := hP.sub (ws' := []) [] rfl
  have hDc := hD.sub (ws' := []) [] (by decide) rfl
  have hFc := va_free (wc := []) hD hS hA [] rfl
  refine va_callr (va_runS (As := [.int (nI cap)]) (rest := []) ⟨hx, hb, hml, hown, hts⟩ (m_J3nbf l D cB cC cI _ cap hc) (va_cwS 1 hts (lw_S q312 q227 q7 q228) rfl rfl rfl (by decide +kernel) ⟨Nat.le_of_ble_eq_true rfl, Nat.le_of_ble_eq_true rfl⟩) (pd_pre (fun a U g mk q => pd_BA.blind q) (fun U hU hW => pd_BA.pass hPc hDc hK hZ hS hFc hU hW)) rfl rfl hl.1 rfl (lv_room (Nat.le_of_ble_eq_true rfl)) dJ9_inflate_13 ⟨by show 0 + 0 + 1 ≤ 1; omega, by show 0 + 0 + 2 * cap ≤ 2 * cap; omega⟩) hS (fun q _ h => hFc q h) hFc (fun u_2 v2 t H1 locs ht hvm hw9 hB hz1 hk1 hS => ?_)
  obtain ⟨hP1, hD1⟩ := hB
  rw [ht] at hP1
  obtain ⟨hP, hD⟩ := va_join (wr := [(sb, .inr (1, [.ref v, .int 0, .int 0, .int (nI n)])), (v, .inl (cB, cap, .inl (f)))]) (w1 := [(v2, .inl (cB, 2 * cap, .inl (fun _ => 0)))]) hP hD [] [0, 1] rfl rfl (by decide) (by decide) hk1 hFc hP1 hD1
  generalize H1 = H at hP hS ⊢
  have hP : va_P D pd_cl [(sb, .inr (1, [.ref v, .int 0, .int 0, .int (nI n)])), (v, .inl (cB, cap, .inl (f))), (v2, .inl (cB, 2 * cap, .inl (fun _ => 0)))] H := hP
  have hD : va_D A [(sb, .inr (1, [.ref v, .int 0, .int 0, .int (nI n)])), (v, .inl (cB, cap, .inl (f))), (v2, .inl (cB, 2 * cap, .inl (fun _ => 0)))] := hD
  refine lv_astore_n (lv' := [(1, .ref v2), (0, .ref sb)]) hx hb dJ9_inflate_16 rfl hl (by decide) rfl (fun ls hl => ?_)
  refine lv_aload_n hx hb dJ9_inflate_17 rfl (lv_at hl 1 rfl) ?_
  refine va_get (D := D) (ci := 1) (v := .ref v) (C := RJ10) (T := TJ10) (N := 4) hx hb hts in_J10 hown hK hP 0 rfl rfl 0 (by decide) (hts _ q313) (fun _ h9 => h9) rfl dJ9_inflate_18 ?_
  refine lv_iconst (v := 0) hx hb dJ9_inflate_21 (by decide) ?_
  refine lv_aload_n hx hb dJ9_inflate_22 rfl (lv_at hl 0 rfl) ?_
  refine lv_iconst (v := 0) hx hb dJ9_inflate_23 (by decide) ?_
  refine lv_aload_n hx hb dJ9_inflate_24 rfl (lv_at hl 1 rfl) ?_
  refine va_get (D := D) (ci := 1) (v := .int (nI n)) (C := RJ10) (T := TJ10) (N := 4) hx hb hts in_J10 hown hK hP 0 rfl rfl 3 (by decide) (hts _ q316) (fun _ h9 => h9) rfl dJ9_inflate_25 ?_
  have hT2 : va_T .byte v cap (fun i => .int (f i)) (va_A [(v2, .inl (cB, 2 * cap, .inl (fun _ => 0)))] H.size) s H := pd_Tof hK hP 1 0 rfl rfl (pd_notA (i := 1) (j := 2) hD hP rfl rfl (by decide))
  have hPc := hP.sub (ws' := [(v2, .inl (cB, 2 * cap, .inl (fun _ => 0)))]) [2] rfl
  have hDc := hD.sub (ws' := [(v2, .inl (cB, 2 * cap, .inl (fun _ => 0)))]) [2] (by decide) rfl
  have hFc := va_free (wc := [(v2, .inl (cB, 2 * cap, .inl (fun _ => 0)))]) hD hS hA [2] rfl
  refine va_callv (va_runS (As := [.ref v, .int 0, .ref v2, .int 0, .int (nI n)]) (rest := []) ⟨hx, hb, hml, hown, hts⟩ (m_J1inf l D cB cC cI _ v cap v2 (2 * cap) n w f (fun _ => 0) hn hc (by omega) (by omega) hf) (va_cwS 5 hts (lw_S q377 q378 q5 q379) rfl rfl rfl (by decide +kernel) ⟨Nat.le_of_ble_eq_true rfl, Nat.le_of_ble_eq_true rfl⟩) (pd_pre (fun a U g mk q => ⟨pd_BA.blind q.1, va_T.moved (u := U) (U := U.calling g mk a) (Vm.Alike.refl U.vm) q.2⟩) (fun U hU hW => ⟨pd_BA.pass hPc hDc hK hZ hS hFc hU hW, pd_T.now (hT2) hW hU⟩)) rfl rfl hl.1 rfl (lv_room (Nat.le_of_ble_eq_true rfl)) dJ9_inflate_28 ⟨by show 0 + 0 + 1 + 0 ≤ 1; omega, by show 0 + 0 + 2 * cap + 0 ≤ 2 * cap; omega⟩) hS (fun q _ h => hFc q h) hFc (fun u_3 t H1 locs ht hvm hw9 hB hz1 hk1 hS => ?_)
  obtain ⟨f2, hP1, hD1, hf2⟩ := hB
  rw [ht] at hP1
  obtain ⟨hP, hD⟩ := va_join (wr := [(sb, .inr (1, [.ref v, .int 0, .int 0, .int (nI n)])), (v, .inl (cB, cap, .inl (f)))]) (w1 := [(v2, .inl (cB, 2 * cap, .inl (f2)))]) hP hD [2] [0, 1] rfl rfl (by decide) (by decide) hk1 hFc hP1 hD1
  generalize H1 = H at hP hS ⊢
  have hP : va_P D pd_cl [(sb, .inr (1, [.ref v, .int 0, .int 0, .int (nI n)])), (v, .inl (cB, cap, .inl (f))), (v2, .inl (cB, 2 * cap, .inl (f2)))] H := hP
  have hD : va_D A [(sb, .inr (1, [.ref v, .int 0, .int 0, .int (nI n)])), (v, .inl (cB, cap, .inl (f))), (v2, .inl (cB, 2 * cap, .inl (f2)))] := hD
  refine lv_aload_n hx hb dJ9_inflate_31 rfl (lv_at hl 1 rfl) ?_
  refine lv_aload_n hx hb dJ9_inflate_32 rfl (lv_at hl 0 rfl) ?_
  refine va_put (D := D) (ci := 1) (v := .ref v2) (ty := .array .byte) (C := RJ10) (T := TJ10) (N := 4) hx hb hts in_J10 tyJ10 tyJ10_ok nmJ10 hown hK hP hD hS 0 rfl rfl 0 (by decide) (hts _ q313) (fun _ h9 => h9) rfl (by decide +kernel) (rfl) (rfl) (Nat.le_of_ble_eq_true rfl) dJ9_inflate_33 (fun H locs hP hD hS => ?_)
  have hP : va_P D pd_cl [(sb, .inr (1, [.ref v2, .int 0, .int 0, .int (nI n)])), (v, .inl (cB, cap, .inl (f))), (v2, .inl (cB, 2 * cap, .inl (f2)))] H := hP
  have hD : va_D A [(sb, .inr (1, [.ref v2, .int 0, .int 0, .int (nI n)])), (v, .inl (cB, cap, .inl (f))), (v2, .inl (cB, 2 * cap, .inl (f2)))] := hD
  refine lv_aload_n hx hb dJ9_inflate_36 rfl (lv_at hl 1 rfl) ?_
  refine lv_iconst (v := (nI 1)) hx hb dJ9_inflate_37 (by decide) ?_
  refine va_put (D := D) (ci := 1) (v := .int (nI 1)) (ty := .byte) (C := RJ10) (T := TJ10) (N := 4) hx hb hts in_J10 tyJ10 tyJ10_ok nmJ10 hown hK hP hD hS 0 rfl rfl 1 (by decide) (hts _ q314) (fun _ h9 => h9) rfl (by decide +kernel) (rfl) (rfl) (Nat.le_of_ble_eq_true rfl) dJ9_inflate_38 (fun H locs hP hD hS => ?_)
  have hP : va_P D pd_cl [(sb, .inr (1, [.ref v2, .int (nI 1), .int 0, .int (nI n)])), (v, .inl (cB, cap, .inl (f))), (v2, .inl (cB, 2 * cap, .inl (f2)))] H := hP
  have hD : va_D A [(sb, .inr (1, [.ref v2, .int (nI 1), .int 0, .int (nI n)])), (v, .inl (cB, cap, .inl (f))), (v2, .inl (cB, 2 * cap, .inl (f2)))] := hD
  have hP9 := hP.sub (ws' := [(sb, .inr (1, [.ref v2, .int 1, .int 0, .int (nI n)])), (v2, .inl (cB, 2 * cap, .inl (f2)))]) [0, 2] rfl
  have hD9 := hD.sub (ws' := [(sb, .inr (1, [.ref v2, .int 1, .int 0, .int (nI n)])), (v2, .inl (cB, 2 * cap, .inl (f2)))]) [0, 2] (by decide) rfl
  refine W.widen (k := 1) (n := 2 * cap) (by omega) (by omega) ?_
  exact W.vret hx hb hr (fun t ht hW => ⟨⟨(), rfl, trivial, v2, f2, by rw [ht]; exact hP9, hD9, hf2⟩, hS.F ht⟩) hS.2.2 dJ9_inflate_41
set_option maxHeartbeats 4000000 in
set_option maxRecDepth 100000 in
/-- AbstractStringBuilder.append(w n) -/
theorem m_J9app (l : Launch) (D : va_G) (cB cC cI : ClassId) (sz sb v n cap N : Nat) (w : Nat → Nat) (cd : Int32) (f : Nat → Int32) (hn : n < cap) (hc : cap ≤ 1000) (hw : w n < 65536) (hrep : pd_rep cap n w cd N f) : Met l yJ9_append (ws_ yJ9_append cJ9_append 2 (some (.object "java/lang/AbstractStringBuilder"))) ({ frames := 6, cells := 1, slots := 2 * cap, locals := 180 }) (va_Pc [.ref sb, .int (nI (w n))] (fun U => pd_BA D cB cC cI [(sb, .inr (1, [.ref v, .int cd, .int 0, .int (nI n)])), (v, .inl (cB, N, .inl (f)))] sz U)) (va_Qr (fun _ : Unit => True) (fun _ a t => a = sb ∧ ∃ (v2 : Nat) (cd2 : Int32) (N2 : Nat) (f2 : Nat → Int32), va_P D pd_cl [(sb, .inr (1, [.ref v2, .int cd2, .int 0, .int (nI (n + 1))])), (v2, .inl (cB, N2, .inl (f2)))] t.heap ∧ va_D (va_A [(sb, .inr (1, [.ref v, .int cd, .int 0, .int (nI n)])), (v, .inl (cB, N, .inl (f)))] sz) [(sb, .inr (1, [.ref v2, .int cd2, .int 0, .int (nI (n + 1))])), (v2, .inl (cB, N2, .inl (f2)))] ∧ pd_rep cap (n + 1) w cd2 N2 f2) (va_A [(sb, .inr (1, [.ref v, .int cd, .int 0, .int (nI n)])), (v, .inl (cB, N, .inl (f)))] sz)) 1 (2 * cap) (va_A [(sb, .inr (1, [.ref v, .int cd, .int 0, .int (nI n)])), (v, .inl (cB, N, .inl (f)))] sz) := by
  refine Met.ofW (cc := cJ9_append) (maxL := 2) (ret := (some (.object "java/lang/AbstractStringBuilder"))) (by decide) rfl ?_
  intro p e s m args below meth c s₁ B hml hv
  obtain ⟨rfl, hBA⟩ := hv
  have hx := B.exec
  have hb := B.bytes
  have hr := B.returns
  have hts := atoms_spec (ws := (ws_ yJ9_append cJ9_append 2 (some (.object "java/lang/AbstractStringBuilder")))) B.pre
  have hts : ∀ w ∈ lw_all, w.before _ s = true := fun w h => hts w (List.mem_cons_of_mem _ h)
  have hown : s.vm.findClass RJ9 = some m.cls := findClass_of_methodNamed B.named
  have hlocks := B.notSynchronized
  obtain ⟨hsz, hP, hK, hD0, hZ⟩ := hBA
  subst hsz
  have hD := hD0.self (sz := s.heap.size)
  generalize hAe : va_A [(sb, .inr (1, [.ref v, .int cd, .int 0, .int (nI n)])), (v, .inl (cB, N, .inl (f)))] s.heap.size = A at hD hZ ⊢
  have hA : ∀ q : Nat, s.heap.size ≤ q → A q := fun q h => by rw [← hAe]; exact Or.inr h
  have hS : va_S A s.heap s.heap [] := va_S.rf
  have hP : va_P D pd_cl [(sb, .inr (1, [.ref v, .int cd, .int 0, .int (nI n)])), (v, .inl (cB, N, .inl (f)))] s.heap := hP
  have hl := lv_entry ([.ref sb, .int (nI (w n))]) (n := 2) (Nat.le_of_ble_eq_true rfl)
  rw [lg_entry_eq]
  generalize (lg_sl ([.ref sb, .int (nI (w n))]) ++ List.replicate (2 - (lg_sl ([.ref sb, .int (nI (w n))])).length) Slot.unset).toArray = ls at hl ⊢
  have hl : lv_has ls 2 [(0, .ref sb), (1, .int (nI (w n)))] := hl
  refine lv_aload_n hx hb dJ9_append_0 rfl (lv_at hl 0 rfl) ?_
  refine lv_aload_n hx hb dJ9_append_1 rfl (lv_at hl 0 rfl) ?_
  refine va_get (D := D) (ci := 1) (v := .int (nI n)) (C := RJ10) (T := TJ10) (N := 4) hx hb hts in_J10 hown hK hP 0 rfl rfl 3 (by decide) (hts _ q316) (fun _ h9 => h9) rfl dJ9_append_2 ?_
  refine lv_iconst (v := (nI 1)) hx hb dJ9_append_5 (by decide) ?_
  refine pd_iadd (v := (nI (n + 1))) hx hb dJ9_append_6 (nI_1 n) ?_
  have hPo := hP.sub (ws' := [(sb, .inr (1, [.ref v, .int cd, .int 0, .int (nI n)]))]) [0] rfl
  refine va_callv (va_runU (As := [.int (nI (n + 1))]) (rest := []) ⟨hx, hb, hml, hown, hts⟩ (m_J9eci l D cB cC cI sb v cd 0 (nI n) N cap (n + 1) f (pd_shrep hrep hc) hn (by omega)) (va_cwU (C := RJ10) (owner := "java/lang/AbstractStringBuilder") 1 hts (lw_app (pd_in5 q332 q428 qs1 q334 q14) (lw_meth q335)) rfl rfl rfl rfl (by decide +kernel) ⟨Nat.le_of_ble_eq_true rfl, Nat.le_of_ble_eq_true rfl⟩) (pd_preV (fun a U g mk q => ⟨va_K.moved (u := U) (U := U.calling g mk a) (Vm.Alike.refl U.vm) q.1, q.2⟩) (va_recv hK hP (ci := 1) (q0 := 0) rfl rfl) (fun U hU hW => ⟨va_K.moved hW.alike hK, by rw [hU]; exact hP⟩)) rfl rfl hl.1 rfl (lv_room (Nat.le_of_ble_eq_true rfl)) dJ9_append_7 ⟨Nat.le_of_ble_eq_true rfl, Nat.zero_le _⟩) hS pd_Fin2 pd_Fin (fun u_1 t H1 locs ht hvm hw9 hB hz1 hk1 hS => ?_)
  have hP := pd_keep hP hk1
  generalize H1 = H at hP hS ⊢
  refine lv_aload_n hx hb dJ9_append_10 rfl (lv_at hl 0 rfl) ?_
  have hPo := hP.sub (ws' := [(sb, .inr (1, [.ref v, .int cd, .int 0, .int (nI n)]))]) [0] rfl
  refine va_calli (va_runU (As := []) (rest := []) ⟨hx, hb, hml, hown, hts⟩ (m_J9isl l D cB cC cI sb v cd 0 (nI n)) (va_cwU (C := RJ10) (owner := "java/lang/AbstractStringBuilder") 0 hts (lw_app (pd_in5 q365 q367 q368 q366 q14) (lw_meth q369)) rfl rfl rfl rfl (by decide +kernel) ⟨Nat.le_of_ble_eq_true rfl, Nat.le_of_ble_eq_true rfl⟩) (pd_preV (fun a U g mk q => ⟨pd_Z.same (s := U) (U := U.calling g mk a) rfl q.1, va_K.moved (u := U) (U := U.calling g mk a) (Vm.Alike.refl U.vm) q.2.1, q.2.2⟩) (va_recv hK hP (ci := 1) (q0 := 0) rfl rfl) (fun U hU hW => ⟨pd_Z.call hZ hS hW hU pd_Fin, va_K.moved hW.alike hK, by rw [hU]; exact hPo⟩)) rfl rfl hl.1 rfl (lv_room (Nat.le_of_ble_eq_true rfl)) dJ9_append_11 ⟨by show 0 + 0 + 0 ≤ 1; omega, Nat.zero_le _⟩) hS pd_Fin2 pd_Fin (fun r_2 u_2 t H1 locs ht hvm hw9 hB hz1 hk1 hS => ?_)
  have hP := pd_keep hP hk1
  generalize H1 = H at hP hS ⊢
  rcases hrep with ⟨rfl, hN, hf⟩ | ⟨rfl, rfl, hf⟩
  · obtain rfl : cap = N := hN.symm
    rw [show r_2 = 1 from hw9.trans (if_pos rfl)]
    refine lv_if_eq (tgt := 45) hx hb dJ9_append_14 (by decide) (fun c9 => absurd c9 (by decide)) (fun _ => ?_)
    refine lv_iload_n hx hb dJ9_append_17 rfl (lv_at hl 1 rfl) ?_
    refine va_calli (va_runS (As := [.int (nI (w n))]) (rest := []) ⟨hx, hb, hml, hown, hts⟩ (m_J1ce l (w n) hw) (va_cwS 1 hts (lw_S q370 q371 q5 q372) rfl rfl rfl (by decide +kernel) ⟨Nat.le_of_ble_eq_true rfl, Nat.le_of_ble_eq_true rfl⟩) (pd_pre (fun a U g mk q => trivial) (fun U hU hW => trivial)) rfl rfl hl.1 rfl (lv_room (Nat.le_of_ble_eq_true rfl)) dJ9_append_18 ⟨by show 0 + 0 + 0 + 0 ≤ 1; omega, Nat.zero_le _⟩) hS pd_Fin2 pd_Fin (fun r_3 u_3 t H1 locs ht hvm hw9 hB hz1 hk1 hS => ?_)
    have hP := pd_keep hP hk1
    generalize H1 = H at hP hS ⊢
    rcases Nat.lt_or_ge (w n) 256 with h256 | h256
    · rw [show r_3 = 1 from hw9.trans (if_pos h256)]
      refine lv_if_eq (tgt := 45) hx hb dJ9_append_21 (by decide) (fun c9 => absurd c9 (by decide)) (fun _ => ?_)
      refine lv_aload_n hx hb dJ9_append_24 rfl (lv_at hl 0 rfl) ?_
      refine va_get (D := D) (ci := 1) (v := .ref v) (C := RJ10) (T := TJ10) (N := 4) hx hb hts in_J10 hown hK hP 0 rfl rfl 0 (by decide) (hts _ q313) (fun _ h9 => h9) rfl dJ9_append_25 ?_
      refine lv_aload_n hx hb dJ9_append_28 rfl (lv_at hl 0 rfl) ?_
      refine lv_dup hx hb dJ9_append_29 rfl ?_
      refine va_get (D := D) (ci := 1) (v := .int (nI n)) (C := RJ10) (T := TJ10) (N := 4) hx hb hts in_J10 hown hK hP 0 rfl rfl 3 (by decide) (hts _ q316) (fun _ h9 => h9) rfl dJ9_append_30 ?_
      refine lv_dup_x1 hx hb dJ9_append_33 rfl rfl ?_
      refine lv_iconst (v := (nI 1)) hx hb dJ9_append_34 (by decide) ?_
      refine pd_iadd (v := (nI (n + 1))) hx hb dJ9_append_35 (nI_1 n) ?_
      refine va_put (D := D) (ci := 1) (v := .int (nI (n + 1))) (ty := .int) (C := RJ10) (T := TJ10) (N := 4) hx hb hts in_J10 tyJ10 tyJ10_ok nmJ10 hown hK hP hD hS 0 rfl rfl 3 (by decide) (hts _ q316) (fun _ h9 => h9) rfl (by decide +kernel) (rfl) (rfl) (Nat.le_of_ble_eq_true rfl) dJ9_append_36 (fun H locs hP hD hS => ?_)
      have hP : va_P D pd_cl [(sb, .inr (1, [.ref v, .int 0, .int 0, .int (nI (n + 1))])), (v, .inl (cB, cap, .inl (f)))] H := hP
      have hD : va_D A [(sb, .inr (1, [.ref v, .int 0, .int 0, .int (nI (n + 1))])), (v, .inl (cB, cap, .inl (f)))] := hD
      refine lv_iload_n hx hb dJ9_append_39 rfl (lv_at hl 1 rfl) ?_
      refine lv_i2b (v := (sb_b (w n))) hx hb dJ9_append_40 (rfl) ?_
      refine pd_bast (f2 := upd f n (sb_b (w n))) hx hb hK hP hD hS 1 0 rfl rfl (vp_in_nI hn (by omega)) (by rw [nI_clamp (by omega), pd_vb]) dJ9_append_41 (fun H locs hP hD hS => ?_)
      have hP : va_P D pd_cl [(sb, .inr (1, [.ref v, .int 0, .int 0, .int (nI (n + 1))])), (v, .inl (cB, cap, .inl (upd f n (sb_b (w n)))))] H := hP
      have hD : va_D A [(sb, .inr (1, [.ref v, .int 0, .int 0, .int (nI (n + 1))])), (v, .inl (cB, cap, .inl (upd f n (sb_b (w n)))))] := hD
      refine lv_goto (tgt := 75) hx hb dJ9_append_42 (by decide) ?_
      refine lv_aload_n hx hb dJ9_append_75 rfl (lv_at hl 0 rfl) ?_
      refine W.widen (k := 1) (n := 2 * cap) (by omega) (by omega) ?_
      exact W.aret (v := .ref sb) hx hb hr (Or.inl ⟨_, rfl⟩) (Or.inr ⟨_, rfl⟩) (fun t ht hW => ⟨⟨(), sb, rfl, trivial, rfl, v, 0, cap, upd f n (sb_b (w n)), by rw [ht]; exact hP, hD, pd_repput0 hf h256⟩, hS.F ht⟩) hS.2.2 dJ9_append_76
    · rw [show r_3 = 0 from hw9.trans (if_neg (by omega))]
      refine lv_if_eq (tgt := 45) hx hb dJ9_append_21 (by decide) (fun _ => ?_) (fun c9 => absurd (rfl) c9)
      refine lv_aload_n hx hb dJ9_append_45 rfl (lv_at hl 0 rfl) ?_
      have hPo := hP.sub (ws' := [(sb, .inr (1, [.ref v, .int 0, .int 0, .int (nI n)]))]) [0] rfl
      refine va_calli (va_runU (As := []) (rest := []) ⟨hx, hb, hml, hown, hts⟩ (m_J9isl l D cB cC cI sb v 0 0 (nI n)) (va_cwU (C := RJ10) (owner := "java/lang/AbstractStringBuilder") 0 hts (lw_app (pd_in5 q365 q367 q368 q366 q14) (lw_meth q369)) rfl rfl rfl rfl (by decide +kernel) ⟨Nat.le_of_ble_eq_true rfl, Nat.le_of_ble_eq_true rfl⟩) (pd_preV (fun a U g mk q => ⟨pd_Z.same (s := U) (U := U.calling g mk a) rfl q.1, va_K.moved (u := U) (U := U.calling g mk a) (Vm.Alike.refl U.vm) q.2.1, q.2.2⟩) (va_recv hK hP (ci := 1) (q0 := 0) rfl rfl) (fun U hU hW => ⟨pd_Z.call hZ hS hW hU pd_Fin, va_K.moved hW.alike hK, by rw [hU]; exact hPo⟩)) rfl rfl hl.1 rfl (lv_room (Nat.le_of_ble_eq_true rfl)) dJ9_append_46 ⟨by show 0 + 0 + 0 + 0 + 0 ≤ 1; omega, Nat.zero_le _⟩) hS pd_Fin2 pd_Fin (fun r_4 u_4 t H1 locs ht hvm hw9 hB hz1 hk1 hS => ?_)
      have hP := pd_keep hP hk1
      generalize H1 = H at hP hS ⊢
      rw [show r_4 = 1 from hw9.trans (if_pos rfl)]
      refine lv_if_eq (tgt := 56) hx hb dJ9_append_49 (by decide) (fun c9 => absurd c9 (by decide)) (fun _ => ?_)
      refine lv_aload_n hx hb dJ9_append_52 rfl (lv_at hl 0 rfl) ?_
      have hPc := hP.sub (ws' := [(sb, .inr (1, [.ref v, .int 0, .int 0, .int (nI n)])), (v, .inl (cB, cap, .inl (f)))]) [0, 1] rfl
      have hDc := hD.sub (ws' := [(sb, .inr (1, [.ref v, .int 0, .int 0, .int (nI n)])), (v, .inl (cB, cap, .inl (f)))]) [0, 1] (by decide) rfl
      have hFc := va_free (wc := [(sb, .inr (1, [.ref v, .int 0, .int 0, .int (nI n)])), (v, .inl (cB, cap, .inl (f)))]) hD hS hA [0, 1] rfl
      refine va_callv (va_runU (As := []) (rest := []) ⟨hx, hb, hml, hown, hts⟩ (m_J9inf l D cB cC cI _ sb v n cap w f (Nat.le_of_lt hn) hc hf) (va_cwU (C := RJ10) (owner := "java/lang/AbstractStringBuilder") 0 hts (lw_app (pd_in5 q373 q430 qs2 q375 q14) (lw_meth q376)) rfl rfl rfl rfl (by decide +kernel) ⟨Nat.le_of_ble_eq_true rfl, Nat.le_of_ble_eq_true rfl⟩) (pd_preV (fun a U g mk q => pd_BA.blind q) (va_recv hK hP (ci := 1) (q0 := 0) rfl rfl) (fun U hU hW => pd_BA.pass hPc hDc hK hZ hS hFc hU hW)) rfl rfl hl.1 rfl (lv_room (Nat.le_of_ble_eq_true rfl)) dJ9_append_53 ⟨by show 0 + 0 + 0 + 0 + 0 + 1 ≤ 1; omega, by show 0 + 0 + 0 + 0 + 0 + 2 * cap ≤ 2 * cap; omega⟩) hS (fun q _ h => hFc q h) hFc (fun u_5 t H1 locs ht hvm hw9 hB hz1 hk1 hS => ?_)
      obtain ⟨v2, f2, hP1, hD1, hf2⟩ := hB
      rw [ht] at hP1
      obtain ⟨hP, hD⟩ := va_join (wr := []) (w1 := [(sb, .inr (1, [.ref v2, .int 1, .int 0, .int (nI n)])), (v2, .inl (cB, 2 * cap, .inl (f2)))]) hP hD [0, 1] [] rfl rfl (by decide) (by decide) hk1 hFc hP1 hD1
      generalize H1 = H at hP hS ⊢
      have hP : va_P D pd_cl [(sb, .inr (1, [.ref v2, .int 1, .int 0, .int (nI n)])), (v2, .inl (cB, 2 * cap, .inl (f2)))] H := hP
      have hD : va_D A [(sb, .inr (1, [.ref v2, .int 1, .int 0, .int (nI n)])), (v2, .inl (cB, 2 * cap, .inl (f2)))] := hD
      refine lv_aload_n hx hb dJ9_append_56 rfl (lv_at hl 0 rfl) ?_
      refine va_get (D := D) (ci := 1) (v := .ref v2) (C := RJ10) (T := TJ10) (N := 4) hx hb hts in_J10 hown hK hP 0 rfl rfl 0 (by decide) (hts _ q313) (fun _ h9 => h9) rfl dJ9_append_57 ?_
      refine lv_aload_n hx hb dJ9_append_60 rfl (lv_at hl 0 rfl) ?_
      refine lv_dup hx hb dJ9_append_61 rfl ?_
      refine va_get (D := D) (ci := 1) (v := .int (nI n)) (C := RJ10) (T := TJ10) (N := 4) hx hb hts in_J10 hown hK hP 0 rfl rfl 3 (by decide) (hts _ q316) (fun _ h9 => h9) rfl dJ9_append_62 ?_
      refine lv_dup_x1 hx hb dJ9_append_65 rfl rfl ?_
      refine lv_iconst (v := (nI 1)) hx hb dJ9_append_66 (by decide) ?_
      refine pd_iadd (v := (nI (n + 1))) hx hb dJ9_append_67 (nI_1 n) ?_
      refine va_put (D := D) (ci := 1) (v := .int (nI (n + 1))) (ty := .int) (C := RJ10) (T := TJ10) (N := 4) hx hb hts in_J10 tyJ10 tyJ10_ok nmJ10 hown hK hP hD hS 0 rfl rfl 3 (by decide) (hts _ q316) (fun _ h9 => h9) rfl (by decide +kernel) (rfl) (rfl) (Nat.le_of_ble_eq_true rfl) dJ9_append_68 (fun H locs hP hD hS => ?_)
      have hP : va_P D pd_cl [(sb, .inr (1, [.ref v2, .int 1, .int 0, .int (nI (n + 1))])), (v2, .inl (cB, 2 * cap, .inl (f2)))] H := hP
      have hD : va_D A [(sb, .inr (1, [.ref v2, .int 1, .int 0, .int (nI (n + 1))])), (v2, .inl (cB, 2 * cap, .inl (f2)))] := hD
      refine lv_iload_n hx hb dJ9_append_71 rfl (lv_at hl 1 rfl) ?_
      have hPc := hP.sub (ws' := [(v2, .inl (cB, 2 * cap, .inl (f2)))]) [1] rfl
      have hDc := hD.sub (ws' := [(v2, .inl (cB, 2 * cap, .inl (f2)))]) [1] (by decide) rfl
      have hFc := va_free (wc := [(v2, .inl (cB, 2 * cap, .inl (f2)))]) hD hS hA [1] rfl
      refine va_callv (va_runS (As := [.ref v2, .int (nI n), .int (nI (w n))]) (rest := []) ⟨hx, hb, hml, hown, hts⟩ (m_J3psb l D cB cC cI _ v2 (2 * cap) n (w n) f2 (by omega) (by omega) hw) (va_cwS 3 hts (lw_S q383 q384 q7 q385) rfl rfl rfl (by decide +kernel) ⟨Nat.le_of_ble_eq_true rfl, Nat.le_of_ble_eq_true rfl⟩) (pd_pre (fun a U g mk q => pd_BA.blind q) (fun U hU hW => pd_BA.pass hPc hDc hK hZ hS hFc hU hW)) rfl rfl hl.1 rfl (lv_room (Nat.le_of_ble_eq_true rfl)) dJ9_append_72 ⟨by show 0 + 0 + 0 + 0 + 0 + 1 + 0 ≤ 1; omega, by show 0 + 0 + 0 + 0 + 0 + 2 * cap + 0 ≤ 2 * cap; omega⟩) hS (fun q _ h => hFc q h) hFc (fun u_6 t H1 locs ht hvm hw9 hB hz1 hk1 hS => ?_)
      obtain ⟨hP1, hD1⟩ := hB
      rw [ht] at hP1
      obtain ⟨hP, hD⟩ := va_join (wr := [(sb, .inr (1, [.ref v2, .int 1, .int 0, .int (nI (n + 1))]))]) (w1 := [(v2, .inl (cB, 2 * cap, .inl (upd (upd f2 (2 * n) (sb_b (w n))) (2 * n + 1) (sb_b (w n / 256)))))]) hP hD [1] [0] rfl rfl (by decide) (by decide) hk1 hFc hP1 hD1
      generalize H1 = H at hP hS ⊢
      have hP : va_P D pd_cl [(sb, .inr (1, [.ref v2, .int 1, .int 0, .int (nI (n + 1))])), (v2, .inl (cB, 2 * cap, .inl (upd (upd f2 (2 * n) (sb_b (w n))) (2 * n + 1) (sb_b (w n / 256)))))] H := hP
      have hD : va_D A [(sb, .inr (1, [.ref v2, .int 1, .int 0, .int (nI (n + 1))])), (v2, .inl (cB, 2 * cap, .inl (upd (upd f2 (2 * n) (sb_b (w n))) (2 * n + 1) (sb_b (w n / 256)))))] := hD
      refine lv_aload_n hx hb dJ9_append_75 rfl (lv_at hl 0 rfl) ?_
      refine W.widen (k := 1) (n := 2 * cap) (by omega) (by omega) ?_
      exact W.aret (v := .ref sb) hx hb hr (Or.inl ⟨_, rfl⟩) (Or.inr ⟨_, rfl⟩) (fun t ht hW => ⟨⟨(), sb, rfl, trivial, rfl, v2, 1, 2 * cap, upd (upd f2 (2 * n) (sb_b (w n))) (2 * n + 1) (sb_b (w n / 256)), by rw [ht]; exact hP, hD, pd_repput1 (fun j hj => ⟨Nat.lt_trans (hf j hj).1 (by decide), hf2 j hj⟩) hw⟩, hS.F ht⟩) hS.2.2 dJ9_append_76
  · rw [show r_2 = 0 from hw9.trans (if_neg (by decide))]
    refine lv_if_eq (tgt := 45) hx hb dJ9_append_14 (by decide) (fun _ => ?_) (fun c9 => absurd (rfl) c9)
    refine lv_aload_n hx hb dJ9_append_45 rfl (lv_at hl 0 rfl) ?_
    have hPo := hP.sub (ws' := [(sb, .inr (1, [.ref v, .int 1, .int 0, .int (nI n)]))]) [0] rfl
    refine va_calli (va_runU (As := []) (rest := []) ⟨hx, hb, hml, hown, hts⟩ (m_J9isl l D cB cC cI sb v 1 0 (nI n)) (va_cwU (C := RJ10) (owner := "java/lang/AbstractStringBuilder") 0 hts (lw_app (pd_in5 q365 q367 q368 q366 q14) (lw_meth q369)) rfl rfl rfl rfl (by decide +kernel) ⟨Nat.le_of_ble_eq_true rfl, Nat.le_of_ble_eq_true rfl⟩) (pd_preV (fun a U g mk q => ⟨pd_Z.same (s := U) (U := U.calling g mk a) rfl q.1, va_K.moved (u := U) (U := U.calling g mk a) (Vm.Alike.refl U.vm) q.2.1, q.2.2⟩) (va_recv hK hP (ci := 1) (q0 := 0) rfl rfl) (fun U hU hW => ⟨pd_Z.call hZ hS hW hU pd_Fin, va_K.moved hW.alike hK, by rw [hU]; exact hPo⟩)) rfl rfl hl.1 rfl (lv_room (Nat.le_of_ble_eq_true rfl)) dJ9_append_46 ⟨by show 0 + 0 + 0 + 0 ≤ 1; omega, Nat.zero_le _⟩) hS pd_Fin2 pd_Fin (fun r_3 u_3 t H1 locs ht hvm hw9 hB hz1 hk1 hS => ?_)
    have hP := pd_keep hP hk1
    generalize H1 = H at hP hS ⊢
    rw [show r_3 = 0 from hw9.trans (if_neg (by decide))]
    refine lv_if_eq (tgt := 56) hx hb dJ9_append_49 (by decide) (fun _ => ?_) (fun c9 => absurd (rfl) c9)
    refine lv_aload_n hx hb dJ9_append_56 rfl (lv_at hl 0 rfl) ?_
    refine va_get (D := D) (ci := 1) (v := .ref v) (C := RJ10) (T := TJ10) (N := 4) hx hb hts in_J10 hown hK hP 0 rfl rfl 0 (by decide) (hts _ q313) (fun _ h9 => h9) rfl dJ9_append_57 ?_
    refine lv_aload_n hx hb dJ9_append_60 rfl (lv_at hl 0 rfl) ?_
    refine lv_dup hx hb dJ9_append_61 rfl ?_
    refine va_get (D := D) (ci := 1) (v := .int (nI n)) (C := RJ10) (T := TJ10) (N := 4) hx hb hts in_J10 hown hK hP 0 rfl rfl 3 (by decide) (hts _ q316) (fun _ h9 => h9) rfl dJ9_append_62 ?_
    refine lv_dup_x1 hx hb dJ9_append_65 rfl rfl ?_
    refine lv_iconst (v := (nI 1)) hx hb dJ9_append_66 (by decide) ?_
    refine pd_iadd (v := (nI (n + 1))) hx hb dJ9_append_67 (nI_1 n) ?_
    refine va_put (D := D) (ci := 1) (v := .int (nI (n + 1))) (ty := .int) (C := RJ10) (T := TJ10) (N := 4) hx hb hts in_J10 tyJ10 tyJ10_ok nmJ10 hown hK hP hD hS 0 rfl rfl 3 (by decide) (hts _ q316) (fun _ h9 => h9) rfl (by decide +kernel) (rfl) (rfl) (Nat.le_of_ble_eq_true rfl) dJ9_append_68 (fun H locs hP hD hS => ?_)
    have hP : va_P D pd_cl [(sb, .inr (1, [.ref v, .int 1, .int 0, .int (nI (n + 1))])), (v, .inl (cB, 2 * cap, .inl (f)))] H := hP
    have hD : va_D A [(sb, .inr (1, [.ref v, .int 1, .int 0, .int (nI (n + 1))])), (v, .inl (cB, 2 * cap, .inl (f)))] := hD
    refine lv_iload_n hx hb dJ9_append_71 rfl (lv_at hl 1 rfl) ?_
    have hPc := hP.sub (ws' := [(v, .inl (cB, 2 * cap, .inl (f)))]) [1] rfl
    have hDc := hD.sub (ws' := [(v, .inl (cB, 2 * cap, .inl (f)))]) [1] (by decide) rfl
    have hFc := va_free (wc := [(v, .inl (cB, 2 * cap, .inl (f)))]) hD hS hA [1] rfl
    refine va_callv (va_runS (As := [.ref v, .int (nI n), .int (nI (w n))]) (rest := []) ⟨hx, hb, hml, hown, hts⟩ (m_J3psb l D cB cC cI _ v (2 * cap) n (w n) f (by omega) (by omega) hw) (va_cwS 3 hts (lw_S q383 q384 q7 q385) rfl rfl rfl (by decide +kernel) ⟨Nat.le_of_ble_eq_true rfl, Nat.le_of_ble_eq_true rfl⟩) (pd_pre (fun a U g mk q => pd_BA.blind q) (fun U hU hW => pd_BA.pass hPc hDc hK hZ hS hFc hU hW)) rfl rfl hl.1 rfl (lv_room (Nat.le_of_ble_eq_true rfl)) dJ9_append_72 ⟨by show 0 + 0 + 0 + 0 + 0 ≤ 1; omega, Nat.zero_le _⟩) hS (fun q _ h => hFc q h) hFc (fun u_4 t H1 locs ht hvm hw9 hB hz1 hk1 hS => ?_)
    obtain ⟨hP1, hD1⟩ := hB
    rw [ht] at hP1
    obtain ⟨hP, hD⟩ := va_join (wr := [(sb, .inr (1, [.ref v, .int 1, .int 0, .int (nI (n + 1))]))]) (w1 := [(v, .inl (cB, 2 * cap, .inl (upd (upd f (2 * n) (sb_b (w n))) (2 * n + 1) (sb_b (w n / 256)))))]) hP hD [1] [0] rfl rfl (by decide) (by decide) hk1 hFc hP1 hD1
    generalize H1 = H at hP hS ⊢
    have hP : va_P D pd_cl [(sb, .inr (1, [.ref v, .int 1, .int 0, .int (nI (n + 1))])), (v, .inl (cB, 2 * cap, .inl (upd (upd f (2 * n) (sb_b (w n))) (2 * n + 1) (sb_b (w n / 256)))))] H := hP
    have hD : va_D A [(sb, .inr (1, [.ref v, .int 1, .int 0, .int (nI (n + 1))])), (v, .inl (cB, 2 * cap, .inl (upd (upd f (2 * n) (sb_b (w n))) (2 * n + 1) (sb_b (w n / 256)))))] := hD
    refine lv_aload_n hx hb dJ9_append_75 rfl (lv_at hl 0 rfl) ?_
    refine W.widen (k := 1) (n := 2 * cap) (by omega) (by omega) ?_
    exact W.aret (v := .ref sb) hx hb hr (Or.inl ⟨_, rfl⟩) (Or.inr ⟨_, rfl⟩) (fun t ht hW => ⟨⟨(), sb, rfl, trivial, rfl, v, 1, 2 * cap, upd (upd f (2 * n) (sb_b (w n))) (2 * n + 1) (sb_b (w n / 256)), by rw [ht]; exact hP, hD, pd_repput1 hf hw⟩, hS.F ht⟩) hS.2.2 dJ9_append_76
set_option maxHeartbeats 4000000 in
set_option maxRecDepth 100000 in
/-- StringBuilder.append(w n) -/
theorem m_J10app (l : Launch) (D : va_G) (cB cC cI : ClassId) (sz sb v n cap N : Nat) (w : Nat → Nat) (cd : Int32) (f : Nat → Int32) (hn : n < cap) (hc : cap ≤ 1000) (hw : w n < 65536) (hrep : pd_rep cap n w cd N f) : Met l yJ10_append (ws_ yJ10_append cJ10_append 2 (some (.object "java/lang/StringBuilder"))) ({ frames := 7, cells := 1, slots := 2 * cap, locals := 210 }) (va_Pc [.ref sb, .int (nI (w n))] (fun U => pd_BA D cB cC cI [(sb, .inr (1, [.ref v, .int cd, .int 0, .int (nI n)])), (v, .inl (cB, N, .inl (f)))] sz U)) (va_Qr (fun _ : Unit => True) (fun _ a t => a = sb ∧ ∃ (v2 : Nat) (cd2 : Int32) (N2 : Nat) (f2 : Nat → Int32), va_P D pd_cl [(sb, .inr (1, [.ref v2, .int cd2, .int 0, .int (nI (n + 1))])), (v2, .inl (cB, N2, .inl (f2)))] t.heap ∧ va_D (va_A [(sb, .inr (1, [.ref v, .int cd, .int 0, .int (nI n)])), (v, .inl (cB, N, .inl (f)))] sz) [(sb, .inr (1, [.ref v2, .int cd2, .int 0, .int (nI (n + 1))])), (v2, .inl (cB, N2, .inl (f2)))] ∧ pd_rep cap (n + 1) w cd2 N2 f2) (va_A [(sb, .inr (1, [.ref v, .int cd, .int 0, .int (nI n)])), (v, .inl (cB, N, .inl (f)))] sz)) 1 (2 * cap) (va_A [(sb, .inr (1, [.ref v, .int cd, .int 0, .int (nI n)])), (v, .inl (cB, N, .inl (f)))] sz) := by
  refine Met.ofW (cc := cJ10_append) (maxL := 2) (ret := (some (.object "java/lang/StringBuilder"))) (by decide) rfl ?_
  intro p e s m args below meth c s₁ B hml hv
  obtain ⟨rfl, hBA⟩ := hv
  have hx := B.exec
  have hb := B.bytes
  have hr := B.returns
  have hts := atoms_spec (ws := (ws_ yJ10_append cJ10_append 2 (some (.object "java/lang/StringBuilder")))) B.pre
  have hts : ∀ w ∈ lw_all, w.before _ s = true := fun w h => hts w (List.mem_cons_of_mem _ h)
  have hown : s.vm.findClass RJ10 = some m.cls := findClass_of_methodNamed B.named
  have hlocks := B.notSynchronized
  obtain ⟨hsz, hP, hK, hD0, hZ⟩ := hBA
  subst hsz
  have hD := hD0.self (sz := s.heap.size)
  generalize hAe : va_A [(sb, .inr (1, [.ref v, .int cd, .int 0, .int (nI n)])), (v, .inl (cB, N, .inl (f)))] s.heap.size = A at hD hZ ⊢
  have hA : ∀ q : Nat, s.heap.size ≤ q → A q := fun q h => by rw [← hAe]; exact Or.inr h
  have hS : va_S A s.heap s.heap [] := va_S.rf
  have hP : va_P D pd_cl [(sb, .inr (1, [.ref v, .int cd, .int 0, .int (nI n)])), (v, .inl (cB, N, .inl (f)))] s.heap := hP
  have hl := lv_entry ([.ref sb, .int (nI (w n))]) (n := 2) (Nat.le_of_ble_eq_true rfl)
  rw [lg_entry_eq]
  generalize (lg_sl ([.ref sb, .int (nI (w n))]) ++ List.replicate (2 - (lg_sl ([.ref sb, .int (nI (w n))])).length) Slot.unset).toArray = ls at hl ⊢
  have hl : lv_has ls 2 [(0, .ref sb), (1, .int (nI (w n)))] := hl
  refine lv_aload_n hx hb dJ10_append_0 rfl (lv_at hl 0 rfl) ?_
  refine lv_iload_n hx hb dJ10_append_1 rfl (lv_at hl 1 rfl) ?_
  have hPc := hP.sub (ws' := [(sb, .inr (1, [.ref v, .int cd, .int 0, .int (nI n)])), (v, .inl (cB, N, .inl (f)))]) [0, 1] rfl
  have hDc := hD.sub (ws' := [(sb, .inr (1, [.ref v, .int cd, .int 0, .int (nI n)])), (v, .inl (cB, N, .inl (f)))]) [0, 1] (by decide) rfl
  have hFc := va_free (wc := [(sb, .inr (1, [.ref v, .int cd, .int 0, .int (nI n)])), (v, .inl (cB, N, .inl (f)))]) hD hS hA [0, 1] rfl
  refine va_callr (va_runSU (hK.1 1 _ rfl).2 (As := [.int (nI (w n))]) (rest := []) ⟨hx, hb, hml, hown, hts⟩ (m_J9app l D cB cC cI _ sb v n cap N w cd f hn hc hw hrep) (va_cwSU 1 hts (lw_app (pd_in5 q329 q427 q277 q330 q14) (lw_meth q331)) rfl rfl rfl (by decide +kernel) ⟨Nat.le_of_ble_eq_true rfl, Nat.le_of_ble_eq_true rfl⟩) (pd_preV (fun a U g mk q => pd_BA.blind q) (va_recv hK hP (ci := 1) (q0 := 0) rfl rfl) (fun U hU hW => pd_BA.pass hPc hDc hK hZ hS hFc hU hW)) rfl rfl hl.1 rfl (lv_room (Nat.le_of_ble_eq_true rfl)) dJ10_append_2 ⟨by show 0 + 1 ≤ 1; omega, by show 0 + 2 * cap ≤ 2 * cap; omega⟩) hS (fun q _ h => hFc q h) hFc (fun u_1 r_1 t H1 locs ht hvm hw9 hB hz1 hk1 hS => ?_)
  obtain ⟨ha9, v2, cd2, N2, f2, hP1, hD1, hrep2⟩ := hB
  rw [ht] at hP1
  obtain ⟨hP, hD⟩ := va_join (wr := []) (w1 := [(sb, .inr (1, [.ref v2, .int cd2, .int 0, .int (nI (n + 1))])), (v2, .inl (cB, N2, .inl (f2)))]) hP hD [0, 1] [] rfl rfl (by decide) (by decide) hk1 hFc hP1 hD1
  generalize H1 = H at hP hS ⊢
  have hP : va_P D pd_cl [(sb, .inr (1, [.ref v2, .int cd2, .int 0, .int (nI (n + 1))])), (v2, .inl (cB, N2, .inl (f2)))] H := hP
  have hD : va_D A [(sb, .inr (1, [.ref v2, .int cd2, .int 0, .int (nI (n + 1))])), (v2, .inl (cB, N2, .inl (f2)))] := hD
  refine lv_pop hx hb dJ10_append_5 rfl ?_
  refine lv_aload_n hx hb dJ10_append_6 rfl (lv_at hl 0 rfl) ?_
  refine W.widen (k := 1) (n := 2 * cap) (by omega) (by omega) ?_
  exact W.aret (v := .ref sb) hx hb hr (Or.inl ⟨_, rfl⟩) (Or.inr ⟨_, rfl⟩) (fun t ht hW => ⟨⟨(), sb, rfl, trivial, rfl, v2, cd2, N2, f2, by rw [ht]; exact hP, hD, hrep2⟩, hS.F ht⟩) hS.2.2 dJ10_append_7
end
section
/-! Strings made: out of char[], out of a builder (written by gen/p09.py) -/
set_option maxHeartbeats 4000000 in
set_option maxRecDepth 100000 in
/-- String(chars, 0, n, null) -/
theorem m_J0i2 (l : Launch) (D : va_G) (cB cC cI : ClassId) (sz o a0 n0 n : Nat) (w : Nat → Nat) (hn0 : n ≤ n0) (hn : n0 ≤ 1000) (hw : ∀ j, j < n → w j < 65536) : Met l yJ0_init_2 (ws_ yJ0_init_2 cJ0_init_2 6 (none)) ({ frames := 4, cells := 2, slots := 3 * n, locals := 130 }) (va_Pc [.ref o, .ref a0, .int 0, .int (nI n), .null] (fun U => pd_BA D cB cC cI [(o, .inr (0, [.null, .int 0, .int 0, .int 0]))] sz U ∧ va_T .char a0 n0 (fun j => .int (nI (w j))) (va_A [(o, .inr (0, [.null, .int 0, .int 0, .int 0]))] sz) U U.heap)) (va_Qv (fun _ : Unit => True) (fun _ t => pd_S o n w pd_F t t.heap) (va_A [(o, .inr (0, [.null, .int 0, .int 0, .int 0]))] sz)) 2 (3 * n) (va_A [(o, .inr (0, [.null, .int 0, .int 0, .int 0]))] sz) := by
  refine Met.ofW (cc := cJ0_init_2) (maxL := 6) (ret := (none)) (by decide) rfl ?_
  intro p e s m args below meth c s₁ B hml hv
  obtain ⟨rfl, hBA, hT⟩ := hv
  have hx := B.exec
  have hb := B.bytes
  have hr := B.returns
  have hts := atoms_spec (ws := (ws_ yJ0_init_2 cJ0_init_2 6 (none))) B.pre
  have hts : ∀ w ∈ lw_all, w.before _ s = true := fun w h => hts w (List.mem_cons_of_mem _ h)
  have hown : s.vm.findClass RJ0 = some m.cls := findClass_of_methodNamed B.named
  have hlocks := B.notSynchronized
  have hin : meth.name = "<init>" := (name_of_methodNamed B.named B.method).1
  obtain ⟨hsz, hP, hK, hD0, hZ⟩ := hBA
  subst hsz
  have hD := hD0.self (sz := s.heap.size)
  generalize hAe : va_A [(o, .inr (0, [.null, .int 0, .int 0, .int 0]))] s.heap.size = A at hD hZ hT ⊢
  have hA : ∀ q : Nat, s.heap.size ≤ q → A q := fun q h => by rw [← hAe]; exact Or.inr h
  have hS : va_S A s.heap s.heap [] := va_S.rf
  have hP : va_P D pd_cl [(o, .inr (0, [.null, .int 0, .int 0, .int 0]))] s.heap := hP
  have hl := lv_entry ([.ref o, .ref a0, .int 0, .int (nI n), .null]) (n := 6) (Nat.le_of_ble_eq_true rfl)
  rw [lg_entry_eq]
  generalize (lg_sl ([.ref o, .ref a0, .int 0, .int (nI n), .null]) ++ List.replicate (6 - (lg_sl ([.ref o, .ref a0, .int 0, .int (nI n), .null])).length) Slot.unset).toArray = ls at hl ⊢
  have hl : lv_has ls 6 [(0, .ref o), (1, .ref a0), (2, .int 0), (3, .int (nI n)), (4, .null)] := hl
  refine lv_aload_n hx hb dJ0_init_2_0 rfl (lv_at hl 0 rfl) ?_
  refine W.objInit hx hb hown (hts _ q215) (hts _ q25) (hts _ q26) rfl (by rw [hml]; exact hl.1) rfl dJ0_init_2_1 (Nat.le_of_ble_eq_true rfl) (Nat.le_of_ble_eq_true rfl) ?_
  refine W.eq (g2 := F0 m 4 ls []) rfl ?_
  refine lv_iload_n hx hb dJ0_init_2_4 rfl (lv_at hl 3 rfl) ?_
  rcases Nat.eq_zero_or_pos n with h0 | h0
  · subst h0
    obtain ⟨-, -, -, -, -, -, ⟨qe, v9, qe2, v92, hR, -, hE, -⟩, -⟩ := id hZ
    refine lv_if_ne (tgt := 27) hx hb dJ0_init_2_5 (by decide) (fun c9 => absurd (nI_0) c9) (fun _ => ?_)
    refine lv_aload_n hx hb dJ0_init_2_8 rfl (lv_at hl 0 rfl) ?_
    refine va_ldcS hx hb hown (hR) dJ0_init_2_9 ?_
    refine vk_getf hx hb (hE.2.1) hS hown (hts _ q247) (fun _ h9 => h9) dJ0_init_2_11 ?_
    refine va_putF (D := D) (ci := 0) (v := .ref v9) (ty := .array .byte) (C := RJ0) (T := TJ0) (N := 4) hx hb hts in_J0 tyJ0 tyJ0_ok nmJ0 hown hK hP hD hS 0 rfl rfl 0 (by decide) (hts _ q247) (fun _ h9 => h9) rfl hin rfl (by decide +kernel) (rfl) (rfl) (Nat.le_of_ble_eq_true rfl) dJ0_init_2_14 (fun H locs hP hD hS => ?_)
    have hP : va_P D pd_cl [(o, .inr (0, [.ref v9, .int 0, .int 0, .int 0]))] H := hP
    have hD : va_D A [(o, .inr (0, [.ref v9, .int 0, .int 0, .int 0]))] := hD
    refine lv_aload_n hx hb dJ0_init_2_17 rfl (lv_at hl 0 rfl) ?_
    refine va_ldcS hx hb hown (hR) dJ0_init_2_18 ?_
    refine vk_getf hx hb (hE.2.2.1) hS hown (hts _ q248) (fun _ h9 => h9) dJ0_init_2_20 ?_
    refine va_putF (D := D) (ci := 0) (v := .int 0) (ty := .byte) (C := RJ0) (T := TJ0) (N := 4) hx hb hts in_J0 tyJ0 tyJ0_ok nmJ0 hown hK hP hD hS 0 rfl rfl 1 (by decide) (hts _ q248) (fun _ h9 => h9) rfl hin rfl (by decide +kernel) (rfl) (rfl) (Nat.le_of_ble_eq_true rfl) dJ0_init_2_23 (fun H locs hP hD hS => ?_)
    have hP : va_P D pd_cl [(o, .inr (0, [.ref v9, .int 0, .int 0, .int 0]))] H := hP
    have hD : va_D A [(o, .inr (0, [.ref v9, .int 0, .int 0, .int 0]))] := hD
    have hSt9 : pd_S o 0 w pd_F s H := ⟨v9, 0, 0, fun _ => 0, ⟨pd_Oof hK hP 0 rfl (C := RJ0) (T := TJ0) (N := 4) rfl pd_Fno, pd_OFof (C := RJ0) (T := TJ0) (N := 4) hts in_J0 hK hP 0 rfl rfl 0 (by decide) rfl pd_Fno, pd_OFof (C := RJ0) (T := TJ0) (N := 4) hts in_J0 hK hP 0 rfl rfl 1 (by decide) rfl pd_Fno, (hE.2.2.2.kept hS.2.1).narrow pd_Fin⟩, Or.inl ⟨rfl, rfl, fun j hj => absurd hj (Nat.not_lt_zero j)⟩⟩
    refine W.widen (k := 2) (n := 3 * 0) (by omega) (by omega) ?_
    exact W.vret hx hb hr (fun t ht hW => ⟨⟨(), rfl, trivial, pd_S.now hSt9 hW ht⟩, hS.F ht⟩) hS.2.2 dJ0_init_2_26
  · refine lv_if_ne (tgt := 27) hx hb dJ0_init_2_5 (by decide) (fun _ => ?_) (fun c9 => absurd c9 (nI_ne0 h0 (by omega)))
    refine va_gets hx hb hZ.1 hS hown (hts _ q57) (fun _ h9 => h9) dJ0_init_2_27 ?_
    refine lv_if_eq (tgt := 58) hx hb dJ0_init_2_30 (by decide) (fun c9 => absurd c9 (by decide)) (fun _ => ?_)
    refine lv_aload_n hx hb dJ0_init_2_33 rfl (lv_at hl 1 rfl) ?_
    refine lv_iload_n hx hb dJ0_init_2_34 rfl (lv_at hl 2 rfl) ?_
    refine lv_iload_n hx hb dJ0_init_2_35 rfl (lv_at hl 3 rfl) ?_
    have hPc := hP.sub (ws' := []) [] rfl
    have hDc := hD.sub (ws' := []) [] (by decide) rfl
    have hFc := va_free (wc := []) hD hS hA [] rfl
    refine va_callr (va_runS (As := [.ref a0, .int 0, .int (nI n)]) (rest := []) ⟨hx, hb, hml, hown, hts⟩ (m_J3cp l D cB cC cI _ a0 n0 n w h0 hn0 hn hw) (va_cwS 3 hts (lw_S q217 q218 q7 q219) rfl rfl rfl (by decide +kernel) ⟨Nat.le_of_ble_eq_true rfl, Nat.le_of_ble_eq_true rfl⟩) (pd_pre (fun a U g mk q => ⟨pd_BA.blind q.1, va_T.moved (u := U) (U := U.calling g mk a) (Vm.Alike.refl U.vm) q.2⟩) (fun U hU hW => ⟨pd_BA.pass hPc hDc hK hZ hS hFc hU hW, pd_T.call hT hS hW hU hFc⟩)) rfl rfl hl.1 rfl (lv_room (Nat.le_of_ble_eq_true rfl)) dJ0_init_2_36 ⟨by show 0 + 2 ≤ 2; omega, by show 0 + 3 * n ≤ 3 * n; omega⟩) hS (fun q _ h => hFc q h) hFc (fun u_1 v2 t H1 locs ht hvm hw9 hB hz1 hk1 hS => ?_)
    obtain ⟨cd, N, f1, hP1, hD1, hrep⟩ := hB
    rw [ht] at hP1
    obtain ⟨hP, hD⟩ := va_join (wr := [(o, .inr (0, [.null, .int 0, .int 0, .int 0]))]) (w1 := [(v2, .inl (cB, N, .inl (f1)))]) hP hD [] [0] rfl rfl (by decide) (by decide) hk1 hFc hP1 hD1
    generalize H1 = H at hP hS ⊢
    have hP : va_P D pd_cl [(o, .inr (0, [.null, .int 0, .int 0, .int 0])), (v2, .inl (cB, N, .inl (f1)))] H := hP
    have hD : va_D A [(o, .inr (0, [.null, .int 0, .int 0, .int 0])), (v2, .inl (cB, N, .inl (f1)))] := hD
    refine lv_astore (lv' := [(5, .ref v2), (0, .ref o), (1, .ref a0), (2, .int 0), (3, .int (nI n)), (4, .null)]) hx hb dJ0_init_2_39 hl (by decide) rfl (fun ls hl => ?_)
    refine lv_aload_n hx hb dJ0_init_2_41 rfl (lv_at hl 1 rfl) ?_
    refine lv_aload hx hb dJ0_init_2_42 (lv_at hl 0 rfl) ?_
    refine lv_iload_n hx hb dJ0_init_2_44 rfl (lv_at hl 4 rfl) ?_
    have hT2 : va_T .byte v2 N (fun i => .int (f1 i)) pd_F s H := pd_Tof hK hP 1 0 rfl rfl pd_Fno
    refine va_calli (va_runS (As := [.ref v2, .int (nI n)]) (rest := [.ref o]) ⟨hx, hb, hml, hown, hts⟩ (m_J3cfl l v2 N n (fun i => .int (f1 i)) cd (by omega) (pd_repN hrep h0)) (va_cwS 2 hts (lw_S q243 q244 q7 q245) rfl rfl rfl (by decide +kernel) ⟨Nat.le_of_ble_eq_true rfl, Nat.le_of_ble_eq_true rfl⟩) (pd_pre (fun a U g mk q => va_T.moved (u := U) (U := U.calling g mk a) (Vm.Alike.refl U.vm) q) (fun U hU hW => pd_T.now (hT2) hW hU)) rfl rfl hl.1 rfl (lv_room (Nat.le_of_ble_eq_true rfl)) dJ0_init_2_45 ⟨by show 0 + 2 + 0 ≤ 2; omega, by show 0 + 3 * n + 0 ≤ 3 * n; omega⟩) hS pd_Fin2 pd_Fin (fun r9 u_2 t H1 locs ht hvm hw9 hB hz1 hk1 hS => ?_)
    have hP := pd_keep hP hk1
    generalize H1 = H at hP hS ⊢
    rw [show r9 = cd from hw9]
    refine va_putF (D := D) (ci := 0) (v := .int cd) (ty := .byte) (C := RJ0) (T := TJ0) (N := 4) hx hb hts in_J0 tyJ0 tyJ0_ok nmJ0 hown hK hP hD hS 0 rfl rfl 1 (by decide) (hts _ q248) (fun _ h9 => h9) rfl hin rfl (by decide +kernel) (pd_cdn hrep.cd) (pd_cdf hrep.cd) (Nat.le_of_ble_eq_true rfl) dJ0_init_2_48 (fun H locs hP hD hS => ?_)
    have hP : va_P D pd_cl [(o, .inr (0, [.null, .int cd, .int 0, .int 0])), (v2, .inl (cB, N, .inl (f1)))] H := hP
    have hD : va_D A [(o, .inr (0, [.null, .int cd, .int 0, .int 0])), (v2, .inl (cB, N, .inl (f1)))] := hD
    refine lv_aload_n hx hb dJ0_init_2_51 rfl (lv_at hl 1 rfl) ?_
    refine lv_aload hx hb dJ0_init_2_52 (lv_at hl 0 rfl) ?_
    refine va_putF (D := D) (ci := 0) (v := .ref v2) (ty := .array .byte) (C := RJ0) (T := TJ0) (N := 4) hx hb hts in_J0 tyJ0 tyJ0_ok nmJ0 hown hK hP hD hS 0 rfl rfl 0 (by decide) (hts _ q247) (fun _ h9 => h9) rfl hin rfl (by decide +kernel) (rfl) (rfl) (Nat.le_of_ble_eq_true rfl) dJ0_init_2_54 (fun H locs hP hD hS => ?_)
    have hP : va_P D pd_cl [(o, .inr (0, [.ref v2, .int cd, .int 0, .int 0])), (v2, .inl (cB, N, .inl (f1)))] H := hP
    have hD : va_D A [(o, .inr (0, [.ref v2, .int cd, .int 0, .int 0])), (v2, .inl (cB, N, .inl (f1)))] := hD
    have hSt9 : pd_S o n w pd_F s H := pd_Sof hts hK hP 0 1 rfl rfl hrep pd_Fno pd_Fno
    refine W.widen (k := 2) (n := 3 * n) (by omega) (by omega) ?_
    exact W.vret hx hb hr (fun t ht hW => ⟨⟨(), rfl, trivial, pd_S.now hSt9 hW ht⟩, hS.F ht⟩) hS.2.2 dJ0_init_2_57
set_option maxHeartbeats 4000000 in
set_option maxRecDepth 100000 in
/-- String(chars, 0, n) -/
theorem m_J0i (l : Launch) (D : va_G) (cB cC cI : ClassId) (sz o a0 n0 n : Nat) (w : Nat → Nat) (hn0 : n ≤ n0) (hn : n0 ≤ 1000) (hw : ∀ j, j < n → w j < 65536) : Met l yJ0_init (ws_ yJ0_init cJ0_init 4 (none)) ({ frames := 5, cells := 2, slots := 3 * n, locals := 160 }) (va_Pc [.ref o, .ref a0, .int 0, .int (nI n)] (fun U => pd_BA D cB cC cI [(o, .inr (0, [.null, .int 0, .int 0, .int 0]))] sz U ∧ va_T .char a0 n0 (fun j => .int (nI (w j))) (va_A [(o, .inr (0, [.null, .int 0, .int 0, .int 0]))] sz) U U.heap)) (va_Qv (fun _ : Unit => True) (fun _ t => pd_S o n w pd_F t t.heap) (va_A [(o, .inr (0, [.null, .int 0, .int 0, .int 0]))] sz)) 2 (3 * n) (va_A [(o, .inr (0, [.null, .int 0, .int 0, .int 0]))] sz) := by
  refine Met.ofW (cc := cJ0_init) (maxL := 4) (ret := (none)) (by decide) rfl ?_
  intro p e s m args below meth c s₁ B hml hv
  obtain ⟨rfl, hBA, hT⟩ := hv
  have hx := B.exec
  have hb := B.bytes
  have hr := B.returns
  have hts := atoms_spec (ws := (ws_ yJ0_init cJ0_init 4 (none))) B.pre
  have hts : ∀ w ∈ lw_all, w.before _ s = true := fun w h => hts w (List.mem_cons_of_mem _ h)
  have hown : s.vm.findClass RJ0 = some m.cls := findClass_of_methodNamed B.named
  have hlocks := B.notSynchronized
  have hin : meth.name = "<init>" := (name_of_methodNamed B.named B.method).1
  obtain ⟨hsz, hP, hK, hD0, hZ⟩ := hBA
  subst hsz
  have hD := hD0.self (sz := s.heap.size)
  generalize hAe : va_A [(o, .inr (0, [.null, .int 0, .int 0, .int 0]))] s.heap.size = A at hD hZ hT ⊢
  have hA : ∀ q : Nat, s.heap.size ≤ q → A q := fun q h => by rw [← hAe]; exact Or.inr h
  have hS : va_S A s.heap s.heap [] := va_S.rf
  have hP : va_P D pd_cl [(o, .inr (0, [.null, .int 0, .int 0, .int 0]))] s.heap := hP
  have hl := lv_entry ([.ref o, .ref a0, .int 0, .int (nI n)]) (n := 4) (Nat.le_of_ble_eq_true rfl)
  rw [lg_entry_eq]
  generalize (lg_sl ([.ref o, .ref a0, .int 0, .int (nI n)]) ++ List.replicate (4 - (lg_sl ([.ref o, .ref a0, .int 0, .int (nI n)])).length) Slot.unset).toArray = ls at hl ⊢
  have hl : lv_has ls 4 [(0, .ref o), (1, .ref a0), (2, .int 0), (3, .int (nI n))] := hl
  refine lv_aload_n hx hb dJ0_init_0 rfl (lv_at hl 0 rfl) ?_
  refine lv_aload_n hx hb dJ0_init_1 rfl (lv_at hl 1 rfl) ?_
  refine lv_iload_n hx hb dJ0_init_2 rfl (lv_at hl 2 rfl) ?_
  refine lv_iload_n hx hb dJ0_init_3 rfl (lv_at hl 3 rfl) ?_
  refine lv_aload_n hx hb dJ0_init_4 rfl (lv_at hl 1 rfl) ?_
  refine lv_iload_n hx hb dJ0_init_5 rfl (lv_at hl 2 rfl) ?_
  refine lv_iload_n hx hb dJ0_init_6 rfl (lv_at hl 3 rfl) ?_
  refine va_callq (va_runS (As := [.ref a0, .int 0, .int (nI n)]) (rest := [.int (nI n), .int 0, .ref a0, .ref o]) ⟨hx, hb, hml, hown, hts⟩ (m_J0rc l a0 n n0 (fun j => .int (nI (w j))) hn0 (by omega)) (va_cwS 3 hts (lw_S q203 q204 q4 q205) rfl rfl rfl (by decide +kernel) ⟨Nat.le_of_ble_eq_true rfl, Nat.le_of_ble_eq_true rfl⟩) (pd_pre (fun a U g mk q => ⟨pd_Z.same (s := U) (U := U.calling g mk a) rfl q.1, va_T.moved (u := U) (U := U.calling g mk a) (Vm.Alike.refl U.vm) q.2⟩) (fun U hU hW => ⟨pd_Z.call hZ hS hW hU pd_Fin, pd_T.call hT hS hW hU pd_Fin⟩)) rfl rfl hl.1 rfl (lv_room (Nat.le_of_ble_eq_true rfl)) dJ0_init_7 ⟨Nat.le_of_ble_eq_true rfl, Nat.zero_le _⟩) hS pd_Fin2 pd_Fin (fun r9 u_1 t H1 locs ht hvm hw9 hB hz1 hk1 hS => ?_)
  have hP := pd_keep hP hk1
  generalize H1 = H at hP hS ⊢
  obtain rfl : r9 = none := hw9
  have hPc := hP.sub (ws' := [(o, .inr (0, [.null, .int 0, .int 0, .int 0]))]) [0] rfl
  have hDc := hD.sub (ws' := [(o, .inr (0, [.null, .int 0, .int 0, .int 0]))]) [0] (by decide) rfl
  have hFc := va_free (wc := [(o, .inr (0, [.null, .int 0, .int 0, .int 0]))]) hD hS hA [0] rfl
  refine va_callv (va_runI (As := [.ref a0, .int 0, .int (nI n), .null]) (rest := []) ⟨hx, hb, hml, hown, hts⟩ (m_J0i2 l D cB cC cI _ o a0 n0 n w hn0 hn hw) (cwI 4 hts (lw_meth q214) rfl rfl rfl (hts _ q4) (hts _ q212) (hts _ q213) rfl (by decide +kernel) ⟨Nat.le_of_ble_eq_true rfl, Nat.le_of_ble_eq_true rfl⟩) (pd_pre (fun a U g mk q => ⟨pd_BA.blind q.1, va_T.moved (u := U) (U := U.calling g mk a) (Vm.Alike.refl U.vm) q.2⟩) (fun U hU hW => ⟨pd_BA.pass hPc hDc hK hZ hS hFc hU hW, pd_T.call hT hS hW hU hFc⟩)) rfl rfl hl.1 rfl (lv_room (Nat.le_of_ble_eq_true rfl)) dJ0_init_10 ⟨by show 0 + 0 + 2 ≤ 2; omega, by show 0 + 0 + 3 * n ≤ 3 * n; omega⟩) hS (fun q _ h => hFc q h) hFc (fun u_2 t H1 locs ht hvm hw9 hB hz1 hk1 hS => ?_)
  have hSt9 : pd_S o n w pd_F s H1 := by rw [← ht]; exact pd_S.moved hvm.symm hB
  refine W.widen (k := 2) (n := 3 * n) (by omega) (by omega) ?_
  exact W.vret hx hb hr (fun t ht hW => ⟨⟨(), rfl, trivial, pd_S.now hSt9 hW ht⟩, hS.F ht⟩) hS.2.2 dJ0_init_13
set_option maxHeartbeats 4000000 in
set_option maxRecDepth 100000 in
/-- String(AbstractStringBuilder, null) -/
theorem m_J0i4 (l : Launch) (D : va_G) (cB cC cI : ClassId) (sz o sb v n N : Nat) (w : Nat → Nat) (cd : Int32) (f : Nat → Int32) (hn : n ≤ 1000) (hrep : pd_rep n n w cd N f) : Met l yJ0_init_4 (ws_ yJ0_init_4 cJ0_init_4 5 (none)) ({ frames := 2, cells := 1, slots := N, locals := 80 }) (va_Pc [.ref o, .ref sb, .null] (fun U => pd_BA D cB cC cI [(o, .inr (0, [.null, .int 0, .int 0, .int 0])), (sb, .inr (1, [.ref v, .int cd, .int 0, .int (nI n)])), (v, .inl (cB, N, .inl (f)))] sz U)) (va_Qv (fun _ : Unit => True) (fun _ t => ∃ v2 : Nat, va_P D pd_cl [(o, .inr (0, [.ref v2, .int cd, .int 0, .int 0])), (v2, .inl (cB, N, .inl (f)))] t.heap ∧ va_D (va_A [(o, .inr (0, [.null, .int 0, .int 0, .int 0])), (sb, .inr (1, [.ref v, .int cd, .int 0, .int (nI n)])), (v, .inl (cB, N, .inl (f)))] sz) [(o, .inr (0, [.ref v2, .int cd, .int 0, .int 0])), (v2, .inl (cB, N, .inl (f)))]) (va_A [(o, .inr (0, [.null, .int 0, .int 0, .int 0])), (sb, .inr (1, [.ref v, .int cd, .int 0, .int (nI n)])), (v, .inl (cB, N, .inl (f)))] sz)) 1 N (va_A [(o, .inr (0, [.null, .int 0, .int 0, .int 0])), (sb, .inr (1, [.ref v, .int cd, .int 0, .int (nI n)])), (v, .inl (cB, N, .inl (f)))] sz) := by
  refine Met.ofW (cc := cJ0_init_4) (maxL := 5) (ret := (none)) (by decide) rfl ?_
  intro p e s m args below meth c s₁ B hml hv
  obtain ⟨rfl, hBA⟩ := hv
  have hx := B.exec
  have hb := B.bytes
  have hr := B.returns
  have hts := atoms_spec (ws := (ws_ yJ0_init_4 cJ0_init_4 5 (none))) B.pre
  have hts : ∀ w ∈ lw_all, w.before _ s = true := fun w h => hts w (List.mem_cons_of_mem _ h)
  have hown : s.vm.findClass RJ0 = some m.cls := findClass_of_methodNamed B.named
  have hlocks := B.notSynchronized
  have hin : meth.name = "<init>" := (name_of_methodNamed B.named B.method).1
  obtain ⟨hsz, hP, hK, hD0, hZ⟩ := hBA
  subst hsz
  have hD := hD0.self (sz := s.heap.size)
  generalize hAe : va_A [(o, .inr (0, [.null, .int 0, .int 0, .int 0])), (sb, .inr (1, [.ref v, .int cd, .int 0, .int (nI n)])), (v, .inl (cB, N, .inl (f)))] s.heap.size = A at hD hZ ⊢
  have hA : ∀ q : Nat, s.heap.size ≤ q → A q := fun q h => by rw [← hAe]; exact Or.inr h
  have hS : va_S A s.heap s.heap [] := va_S.rf
  have hP : va_P D pd_cl [(o, .inr (0, [.null, .int 0, .int 0, .int 0])), (sb, .inr (1, [.ref v, .int cd, .int 0, .int (nI n)])), (v, .inl (cB, N, .inl (f)))] s.heap := hP
  have hl := lv_entry ([.ref o, .ref sb, .null]) (n := 5) (Nat.le_of_ble_eq_true rfl)
  rw [lg_entry_eq]
  generalize (lg_sl ([.ref o, .ref sb, .null]) ++ List.replicate (5 - (lg_sl ([.ref o, .ref sb, .null])).length) Slot.unset).toArray = ls at hl ⊢
  have hl : lv_has ls 5 [(0, .ref o), (1, .ref sb), (2, .null)] := hl
  refine lv_aload_n hx hb dJ0_init_4_0 rfl (lv_at hl 0 rfl) ?_
  refine W.objInit hx hb hown (hts _ q215) (hts _ q25) (hts _ q26) rfl (by rw [hml]; exact hl.1) rfl dJ0_init_4_1 (Nat.le_of_ble_eq_true rfl) (Nat.le_of_ble_eq_true rfl) ?_
  refine W.eq (g2 := F0 m 4 ls []) rfl ?_
  refine lv_aload_n hx hb dJ0_init_4_4 rfl (lv_at hl 1 rfl) ?_
  have hPo := hP.sub (ws' := [(sb, .inr (1, [.ref v, .int cd, .int 0, .int (nI n)]))]) [1] rfl
  refine va_callr (va_runU (As := []) (rest := []) ⟨hx, hb, hml, hown, hts⟩ (m_J9gv l D cB cC cI sb v cd 0 (nI n)) (va_cwU (C := RJ10) (owner := "java/lang/AbstractStringBuilder") 0 hts (lw_app (pd_in5 q397 q399 q400 q398 q14) (lw_meth q401)) rfl rfl rfl rfl (by decide +kernel) ⟨Nat.le_of_ble_eq_true rfl, Nat.le_of_ble_eq_true rfl⟩) (pd_preV (fun a U g mk q => ⟨va_K.moved (u := U) (U := U.calling g mk a) (Vm.Alike.refl U.vm) q.1, q.2⟩) (va_recv hK hP (ci := 1) (q0 := 1) rfl rfl) (fun U hU hW => ⟨va_K.moved hW.alike hK, by rw [hU]; exact hPo⟩)) rfl rfl hl.1 rfl (lv_room (Nat.le_of_ble_eq_true rfl)) dJ0_init_4_5 ⟨Nat.le_of_ble_eq_true rfl, Nat.zero_le _⟩) hS pd_Fin2 pd_Fin (fun u_1 rv t H1 locs ht hvm hw9 hB hz1 hk1 hS => ?_)
  rw [show rv = v from hB]
  have hP := pd_keep hP hk1
  generalize H1 = H at hP hS ⊢
  refine lv_astore_n (lv' := [(3, .ref v), (0, .ref o), (1, .ref sb), (2, .null)]) hx hb dJ0_init_4_8 rfl hl (by decide) rfl (fun ls hl => ?_)
  refine lv_aload_n hx hb dJ0_init_4_9 rfl (lv_at hl 2 rfl) ?_
  have hPo := hP.sub (ws' := [(sb, .inr (1, [.ref v, .int cd, .int 0, .int (nI n)]))]) [1] rfl
  refine va_calli (va_runU (As := []) (rest := []) ⟨hx, hb, hml, hown, hts⟩ (m_J10len l D cB cC cI sb v cd 0 (nI n)) (va_cwO (C := RJ10) (owner := "java/lang/AbstractStringBuilder") 0 hts (lw_app (pd_in6 q402 q425 q278 q431 q273 q15) (lw_meth q275)) rfl rfl rfl q279 (by decide +kernel) ⟨Nat.le_of_ble_eq_true rfl, Nat.le_of_ble_eq_true rfl⟩) (pd_preV (fun a U g mk q => ⟨va_K.moved (u := U) (U := U.calling g mk a) (Vm.Alike.refl U.vm) q.1, q.2⟩) (va_recv hK hP (ci := 1) (q0 := 1) rfl rfl) (fun U hU hW => ⟨va_K.moved hW.alike hK, by rw [hU]; exact hPo⟩)) rfl rfl hl.1 rfl (lv_room (Nat.le_of_ble_eq_true rfl)) dJ0_init_4_10 ⟨by show 0 + 0 + 0 ≤ 1; omega, Nat.zero_le _⟩) hS pd_Fin2 pd_Fin (fun r9 u_2 t H1 locs ht hvm hw9 hB hz1 hk1 hS => ?_)
  have hP := pd_keep hP hk1
  generalize H1 = H at hP hS ⊢
  obtain rfl : r9 = (nI n) := hw9
  refine lv_istore (lv' := [(4, .int (nI n)), (3, .ref v), (0, .ref o), (1, .ref sb), (2, .null)]) hx hb dJ0_init_4_13 hl (by decide) rfl (fun ls hl => ?_)
  refine lv_aload_n hx hb dJ0_init_4_15 rfl (lv_at hl 3 rfl) ?_
  have hPo := hP.sub (ws' := [(sb, .inr (1, [.ref v, .int cd, .int 0, .int (nI n)]))]) [1] rfl
  refine va_calli (va_runU (As := []) (rest := []) ⟨hx, hb, hml, hown, hts⟩ (m_J9isl l D cB cC cI sb v cd 0 (nI n)) (va_cwU (C := RJ10) (owner := "java/lang/AbstractStringBuilder") 0 hts (lw_app (pd_in5 q403 q367 q368 q366 q14) (lw_meth q369)) rfl rfl rfl rfl (by decide +kernel) ⟨Nat.le_of_ble_eq_true rfl, Nat.le_of_ble_eq_true rfl⟩) (pd_preV (fun a U g mk q => ⟨pd_Z.same (s := U) (U := U.calling g mk a) rfl q.1, va_K.moved (u := U) (U := U.calling g mk a) (Vm.Alike.refl U.vm) q.2.1, q.2.2⟩) (va_recv hK hP (ci := 1) (q0 := 1) rfl rfl) (fun U hU hW => ⟨pd_Z.call hZ hS hW hU pd_Fin, va_K.moved hW.alike hK, by rw [hU]; exact hPo⟩)) rfl rfl hl.1 rfl (lv_room (Nat.le_of_ble_eq_true rfl)) dJ0_init_4_16 ⟨by show 0 + 0 + 0 + 0 ≤ 1; omega, Nat.zero_le _⟩) hS pd_Fin2 pd_Fin (fun r8 u_3 t H1 locs ht hvm hw9 hB hz1 hk1 hS => ?_)
  have hP := pd_keep hP hk1
  generalize H1 = H at hP hS ⊢
  rcases id hrep with ⟨hcd, hN, -⟩ | ⟨hcd, hN, -⟩
  · subst hcd
    obtain rfl : n = N := hN.symm
    rw [show r8 = 1 from hw9.trans (if_pos rfl)]
    refine lv_if_eq (tgt := 41) hx hb dJ0_init_4_19 (by decide) (fun c9 => absurd c9 (by decide)) (fun _ => ?_)
    refine lv_aload_n hx hb dJ0_init_4_22 rfl (lv_at hl 2 rfl) ?_
    refine lv_iconst (v := 0) hx hb dJ0_init_4_23 (by decide) ?_
    refine va_putF (D := D) (ci := 0) (v := .int 0) (ty := .byte) (C := RJ0) (T := TJ0) (N := 4) hx hb hts in_J0 tyJ0 tyJ0_ok nmJ0 hown hK hP hD hS 0 rfl rfl 1 (by decide) (hts _ q248) (fun _ h9 => h9) rfl hin rfl (by decide +kernel) (rfl) (rfl) (Nat.le_of_ble_eq_true rfl) dJ0_init_4_24 (fun H locs hP hD hS => ?_)
    have hP : va_P D pd_cl [(o, .inr (0, [.null, .int 0, .int 0, .int 0])), (sb, .inr (1, [.ref v, .int 0, .int 0, .int (nI n)])), (v, .inl (cB, n, .inl (f)))] H := hP
    have hD : va_D A [(o, .inr (0, [.null, .int 0, .int 0, .int 0])), (sb, .inr (1, [.ref v, .int 0, .int 0, .int (nI n)])), (v, .inl (cB, n, .inl (f)))] := hD
    refine lv_aload_n hx hb dJ0_init_4_27 rfl (lv_at hl 2 rfl) ?_
    refine lv_aload_n hx hb dJ0_init_4_28 rfl (lv_at hl 1 rfl) ?_
    refine lv_iconst (v := 0) hx hb dJ0_init_4_29 (by decide) ?_
    refine lv_iload hx hb dJ0_init_4_30 (lv_at hl 0 rfl) ?_
    have hPc := hP.sub (ws' := [(v, .inl (cB, n, .inl (f)))]) [2] rfl
    have hDc := hD.sub (ws' := [(v, .inl (cB, n, .inl (f)))]) [2] (by decide) rfl
    have hFc := va_free (wc := [(v, .inl (cB, n, .inl (f)))]) hD hS hA [2] rfl
    refine va_callr (va_runS (As := [.ref v, .int 0, .int (nI n)]) (rest := [.ref o]) ⟨hx, hb, hml, hown, hts⟩ (m_J12cr l D cB cC cI _ v (n) f (by omega) (pd_repfit hrep)) (va_cwS 3 hts (lw_S q404 q405 q17 q406) rfl rfl rfl (by decide +kernel) ⟨Nat.le_of_ble_eq_true rfl, Nat.le_of_ble_eq_true rfl⟩) (pd_pre (fun a U g mk q => pd_BA.blind q) (fun U hU hW => pd_BA.pass hPc hDc hK hZ hS hFc hU hW)) rfl rfl hl.1 rfl (lv_room (Nat.le_of_ble_eq_true rfl)) dJ0_init_4_32 ⟨by show 0 + 0 + 0 + 0 + 1 ≤ 1; omega, by show 0 + 0 + 0 + 0 + (n) ≤ (n); omega⟩) hS (fun q _ h => hFc q h) hFc (fun u_4 v2 t H1 locs ht hvm hw9 hB hz1 hk1 hS => ?_)
    obtain ⟨hP1, hD1⟩ := hB
    rw [ht] at hP1
    obtain ⟨hP, hD⟩ := va_join (wr := [(o, .inr (0, [.null, .int 0, .int 0, .int 0])), (sb, .inr (1, [.ref v, .int 0, .int 0, .int (nI n)]))]) (w1 := [(v, .inl (cB, n, .inl (f))), (v2, .inl (cB, n, .inl (f)))]) hP hD [2] [0, 1] rfl rfl (by decide) (by decide) hk1 hFc hP1 hD1
    generalize H1 = H at hP hS ⊢
    have hP : va_P D pd_cl [(o, .inr (0, [.null, .int 0, .int 0, .int 0])), (sb, .inr (1, [.ref v, .int 0, .int 0, .int (nI n)])), (v, .inl (cB, n, .inl (f))), (v2, .inl (cB, n, .inl (f)))] H := hP
    have hD : va_D A [(o, .inr (0, [.null, .int 0, .int 0, .int 0])), (sb, .inr (1, [.ref v, .int 0, .int 0, .int (nI n)])), (v, .inl (cB, n, .inl (f))), (v2, .inl (cB, n, .inl (f)))] := hD
    refine va_putF (D := D) (ci := 0) (v := .ref v2) (ty := .array .byte) (C := RJ0) (T := TJ0) (N := 4) hx hb hts in_J0 tyJ0 tyJ0_ok nmJ0 hown hK hP hD hS 0 rfl rfl 0 (by decide) (hts _ q247) (fun _ h9 => h9) rfl hin rfl (by decide +kernel) (rfl) (rfl) (Nat.le_of_ble_eq_true rfl) dJ0_init_4_35 (fun H locs hP hD hS => ?_)
    have hP : va_P D pd_cl [(o, .inr (0, [.ref v2, .int 0, .int 0, .int 0])), (sb, .inr (1, [.ref v, .int 0, .int 0, .int (nI n)])), (v, .inl (cB, n, .inl (f))), (v2, .inl (cB, n, .inl (f)))] H := hP
    have hD : va_D A [(o, .inr (0, [.ref v2, .int 0, .int 0, .int 0])), (sb, .inr (1, [.ref v, .int 0, .int 0, .int (nI n)])), (v, .inl (cB, n, .inl (f))), (v2, .inl (cB, n, .inl (f)))] := hD
    refine lv_goto (tgt := 97) hx hb dJ0_init_4_38 (by decide) ?_
    have hP9 := hP.sub (ws' := [(o, .inr (0, [.ref v2, .int 0, .int 0, .int 0])), (v2, .inl (cB, n, .inl (f)))]) [0, 3] rfl
    have hD9 := hD.sub (ws' := [(o, .inr (0, [.ref v2, .int 0, .int 0, .int 0])), (v2, .inl (cB, n, .inl (f)))]) [0, 3] (by decide) rfl
    refine W.widen (k := 1) (n := n) (by omega) (by omega) ?_
    exact W.vret hx hb hr (fun t ht hW => ⟨⟨(), rfl, trivial, v2, by rw [ht]; exact hP9, hD9⟩, hS.F ht⟩) hS.2.2 dJ0_init_4_97
  · subst hcd
    subst hN
    rw [show r8 = 0 from hw9.trans (if_neg (by decide))]
    refine lv_if_eq (tgt := 41) hx hb dJ0_init_4_19 (by decide) (fun _ => ?_) (fun c9 => absurd (rfl) c9)
    refine va_gets hx hb hZ.1 hS hown (hts _ q57) (fun _ h9 => h9) dJ0_init_4_41 ?_
    refine lv_if_eq (tgt := 79) hx hb dJ0_init_4_44 (by decide) (fun c9 => absurd c9 (by decide)) (fun _ => ?_)
    refine lv_aload_n hx hb dJ0_init_4_47 rfl (lv_at hl 3 rfl) ?_
    refine va_get (D := D) (ci := 1) (v := .int 0) (C := RJ10) (T := TJ10) (N := 4) hx hb hts in_J10 hown hK hP 1 rfl rfl 2 (by decide) (hts _ q315) (fun _ h9 => h9) rfl dJ0_init_4_48 ?_
    refine lv_if_eq (tgt := 79) hx hb dJ0_init_4_51 (by decide) (fun _ => ?_) (fun c9 => absurd (rfl) c9)
    refine lv_aload_n hx hb dJ0_init_4_79 rfl (lv_at hl 2 rfl) ?_
    refine lv_iconst (v := (nI 1)) hx hb dJ0_init_4_80 (by decide) ?_
    refine va_putF (D := D) (ci := 0) (v := .int (nI 1)) (ty := .byte) (C := RJ0) (T := TJ0) (N := 4) hx hb hts in_J0 tyJ0 tyJ0_ok nmJ0 hown hK hP hD hS 0 rfl rfl 1 (by decide) (hts _ q248) (fun _ h9 => h9) rfl hin rfl (by decide +kernel) (rfl) (rfl) (Nat.le_of_ble_eq_true rfl) dJ0_init_4_81 (fun H locs hP hD hS => ?_)
    have hP : va_P D pd_cl [(o, .inr (0, [.null, .int (nI 1), .int 0, .int 0])), (sb, .inr (1, [.ref v, .int 1, .int 0, .int (nI n)])), (v, .inl (cB, 2 * n, .inl (f)))] H := hP
    have hD : va_D A [(o, .inr (0, [.null, .int (nI 1), .int 0, .int 0])), (sb, .inr (1, [.ref v, .int 1, .int 0, .int (nI n)])), (v, .inl (cB, 2 * n, .inl (f)))] := hD
    refine lv_aload_n hx hb dJ0_init_4_84 rfl (lv_at hl 2 rfl) ?_
    refine lv_aload_n hx hb dJ0_init_4_85 rfl (lv_at hl 1 rfl) ?_
    refine lv_iconst (v := 0) hx hb dJ0_init_4_86 (by decide) ?_
    refine lv_iload hx hb dJ0_init_4_87 (lv_at hl 0 rfl) ?_
    refine lv_iconst (v := (nI 1)) hx hb dJ0_init_4_89 (by decide) ?_
    refine pd_ishl (v := (nI (2 * n))) hx hb dJ0_init_4_90 (pd_sh1 (by omega)) ?_
    have hPc := hP.sub (ws' := [(v, .inl (cB, 2 * n, .inl (f)))]) [2] rfl
    have hDc := hD.sub (ws' := [(v, .inl (cB, 2 * n, .inl (f)))]) [2] (by decide) rfl
    have hFc := va_free (wc := [(v, .inl (cB, 2 * n, .inl (f)))]) hD hS hA [2] rfl
    refine va_callr (va_runS (As := [.ref v, .int 0, .int (nI (2 * n))]) (rest := [.ref o]) ⟨hx, hb, hml, hown, hts⟩ (m_J12cr l D cB cC cI _ v (2 * n) f (by omega) (pd_repfit hrep)) (va_cwS 3 hts (lw_S q404 q405 q17 q406) rfl rfl rfl (by decide +kernel) ⟨Nat.le_of_ble_eq_true rfl, Nat.le_of_ble_eq_true rfl⟩) (pd_pre (fun a U g mk q => pd_BA.blind q) (fun U hU hW => pd_BA.pass hPc hDc hK hZ hS hFc hU hW)) rfl rfl hl.1 rfl (lv_room (Nat.le_of_ble_eq_true rfl)) dJ0_init_4_91 ⟨by show 0 + 0 + 0 + 0 + 1 ≤ 1; omega, by show 0 + 0 + 0 + 0 + (2 * n) ≤ (2 * n); omega⟩) hS (fun q _ h => hFc q h) hFc (fun u_4 v2 t H1 locs ht hvm hw9 hB hz1 hk1 hS => ?_)
    obtain ⟨hP1, hD1⟩ := hB
    rw [ht] at hP1
    obtain ⟨hP, hD⟩ := va_join (wr := [(o, .inr (0, [.null, .int (nI 1), .int 0, .int 0])), (sb, .inr (1, [.ref v, .int 1, .int 0, .int (nI n)]))]) (w1 := [(v, .inl (cB, 2 * n, .inl (f))), (v2, .inl (cB, 2 * n, .inl (f)))]) hP hD [2] [0, 1] rfl rfl (by decide) (by decide) hk1 hFc hP1 hD1
    generalize H1 = H at hP hS ⊢
    have hP : va_P D pd_cl [(o, .inr (0, [.null, .int (nI 1), .int 0, .int 0])), (sb, .inr (1, [.ref v, .int 1, .int 0, .int (nI n)])), (v, .inl (cB, 2 * n, .inl (f))), (v2, .inl (cB, 2 * n, .inl (f)))] H := hP
    have hD : va_D A [(o, .inr (0, [.null, .int (nI 1), .int 0, .int 0])), (sb, .inr (1, [.ref v, .int 1, .int 0, .int (nI n)])), (v, .inl (cB, 2 * n, .inl (f))), (v2, .inl (cB, 2 * n, .inl (f)))] := hD
    refine va_putF (D := D) (ci := 0) (v := .ref v2) (ty := .array .byte) (C := RJ0) (T := TJ0) (N := 4) hx hb hts in_J0 tyJ0 tyJ0_ok nmJ0 hown hK hP hD hS 0 rfl rfl 0 (by decide) (hts _ q247) (fun _ h9 => h9) rfl hin rfl (by decide +kernel) (rfl) (rfl) (Nat.le_of_ble_eq_true rfl) dJ0_init_4_94 (fun H locs hP hD hS => ?_)
    have hP : va_P D pd_cl [(o, .inr (0, [.ref v2, .int (nI 1), .int 0, .int 0])), (sb, .inr (1, [.ref v, .int 1, .int 0, .int (nI n)])), (v, .inl (cB, 2 * n, .inl (f))), (v2, .inl (cB, 2 * n, .inl (f)))] H := hP
    have hD : va_D A [(o, .inr (0, [.ref v2, .int (nI 1), .int 0, .int 0])), (sb, .inr (1, [.ref v, .int 1, .int 0, .int (nI n)])), (v, .inl (cB, 2 * n, .inl (f))), (v2, .inl (cB, 2 * n, .inl (f)))] := hD
    have hP9 := hP.sub (ws' := [(o, .inr (0, [.ref v2, .int 1, .int 0, .int 0])), (v2, .inl (cB, 2 * n, .inl (f)))]) [0, 3] rfl
    have hD9 := hD.sub (ws' := [(o, .inr (0, [.ref v2, .int 1, .int 0, .int 0])), (v2, .inl (cB, 2 * n, .inl (f)))]) [0, 3] (by decide) rfl
    refine W.widen (k := 1) (n := 2 * n) (by omega) (by omega) ?_
    exact W.vret hx hb hr (fun t ht hW => ⟨⟨(), rfl, trivial, v2, by rw [ht]; exact hP9, hD9⟩, hS.F ht⟩) hS.2.2 dJ0_init_4_97
set_option maxHeartbeats 4000000 in
set_option maxRecDepth 100000 in
/-- String(StringBuilder) -/
theorem m_J0i3 (l : Launch) (D : va_G) (cB cC cI : ClassId) (sz o sb v n N : Nat) (w : Nat → Nat) (cd : Int32) (f : Nat → Int32) (hn : n ≤ 1000) (hrep : pd_rep n n w cd N f) : Met l yJ0_init_3 (ws_ yJ0_init_3 cJ0_init_3 2 (none)) ({ frames := 3, cells := 1, slots := N, locals := 110 }) (va_Pc [.ref o, .ref sb] (fun U => pd_BA D cB cC cI [(o, .inr (0, [.null, .int 0, .int 0, .int 0])), (sb, .inr (1, [.ref v, .int cd, .int 0, .int (nI n)])), (v, .inl (cB, N, .inl (f)))] sz U)) (va_Qv (fun _ : Unit => True) (fun _ t => ∃ v2 : Nat, va_P D pd_cl [(o, .inr (0, [.ref v2, .int cd, .int 0, .int 0])), (v2, .inl (cB, N, .inl (f)))] t.heap ∧ va_D (va_A [(o, .inr (0, [.null, .int 0, .int 0, .int 0])), (sb, .inr (1, [.ref v, .int cd, .int 0, .int (nI n)])), (v, .inl (cB, N, .inl (f)))] sz) [(o, .inr (0, [.ref v2, .int cd, .int 0, .int 0])), (v2, .inl (cB, N, .inl (f)))]) (va_A [(o, .inr (0, [.null, .int 0, .int 0, .int 0])), (sb, .inr (1, [.ref v, .int cd, .int 0, .int (nI n)])), (v, .inl (cB, N, .inl (f)))] sz)) 1 N (va_A [(o, .inr (0, [.null, .int 0, .int 0, .int 0])), (sb, .inr (1, [.ref v, .int cd, .int 0, .int (nI n)])), (v, .inl (cB, N, .inl (f)))] sz) := by
  refine Met.ofW (cc := cJ0_init_3) (maxL := 2) (ret := (none)) (by decide) rfl ?_
  intro p e s m args below meth c s₁ B hml hv
  obtain ⟨rfl, hBA⟩ := hv
  have hx := B.exec
  have hb := B.bytes
  have hr := B.returns
  have hts := atoms_spec (ws := (ws_ yJ0_init_3 cJ0_init_3 2 (none))) B.pre
  have hts : ∀ w ∈ lw_all, w.before _ s = true := fun w h => hts w (List.mem_cons_of_mem _ h)
  have hown : s.vm.findClass RJ0 = some m.cls := findClass_of_methodNamed B.named
  have hlocks := B.notSynchronized
  have hin : meth.name = "<init>" := (name_of_methodNamed B.named B.method).1
  obtain ⟨hsz, hP, hK, hD0, hZ⟩ := hBA
  subst hsz
  have hD := hD0.self (sz := s.heap.size)
  generalize hAe : va_A [(o, .inr (0, [.null, .int 0, .int 0, .int 0])), (sb, .inr (1, [.ref v, .int cd, .int 0, .int (nI n)])), (v, .inl (cB, N, .inl (f)))] s.heap.size = A at hD hZ ⊢
  have hA : ∀ q : Nat, s.heap.size ≤ q → A q := fun q h => by rw [← hAe]; exact Or.inr h
  have hS : va_S A s.heap s.heap [] := va_S.rf
  have hP : va_P D pd_cl [(o, .inr (0, [.null, .int 0, .int 0, .int 0])), (sb, .inr (1, [.ref v, .int cd, .int 0, .int (nI n)])), (v, .inl (cB, N, .inl (f)))] s.heap := hP
  have hl := lv_entry ([.ref o, .ref sb]) (n := 2) (Nat.le_of_ble_eq_true rfl)
  rw [lg_entry_eq]
  generalize (lg_sl ([.ref o, .ref sb]) ++ List.replicate (2 - (lg_sl ([.ref o, .ref sb])).length) Slot.unset).toArray = ls at hl ⊢
  have hl : lv_has ls 2 [(0, .ref o), (1, .ref sb)] := hl
  refine lv_aload_n hx hb dJ0_init_3_0 rfl (lv_at hl 0 rfl) ?_
  refine lv_aload_n hx hb dJ0_init_3_1 rfl (lv_at hl 1 rfl) ?_
  refine lv_null hx hb dJ0_init_3_2 ?_
  have hPc := hP.sub (ws' := [(o, .inr (0, [.null, .int 0, .int 0, .int 0])), (sb, .inr (1, [.ref v, .int cd, .int 0, .int (nI n)])), (v, .inl (cB, N, .inl (f)))]) [0, 1, 2] rfl
  have hDc := hD.sub (ws' := [(o, .inr (0, [.null, .int 0, .int 0, .int 0])), (sb, .inr (1, [.ref v, .int cd, .int 0, .int (nI n)])), (v, .inl (cB, N, .inl (f)))]) [0, 1, 2] (by decide) rfl
  have hFc := va_free (wc := [(o, .inr (0, [.null, .int 0, .int 0, .int 0])), (sb, .inr (1, [.ref v, .int cd, .int 0, .int (nI n)])), (v, .inl (cB, N, .inl (f)))]) hD hS hA [0, 1, 2] rfl
  refine va_callv (va_runI (As := [.ref sb, .null]) (rest := []) ⟨hx, hb, hml, hown, hts⟩ (m_J0i4 l D cB cC cI _ o sb v n N w cd f hn hrep) (cwI 2 hts (lw_meth q396) rfl rfl rfl (hts _ q4) (hts _ q394) (hts _ q395) rfl (by decide +kernel) ⟨Nat.le_of_ble_eq_true rfl, Nat.le_of_ble_eq_true rfl⟩) (pd_pre (fun a U g mk q => pd_BA.blind q) (fun U hU hW => pd_BA.pass hPc hDc hK hZ hS hFc hU hW)) rfl rfl hl.1 rfl (lv_room (Nat.le_of_ble_eq_true rfl)) dJ0_init_3_3 ⟨by show 0 + 1 ≤ 1; omega, by show 0 + N ≤ N; omega⟩) hS (fun q _ h => hFc q h) hFc (fun u_1 t H1 locs ht hvm hw9 hB hz1 hk1 hS => ?_)
  obtain ⟨v2, hP1, hD1⟩ := hB
  rw [ht] at hP1
  obtain ⟨hP, hD⟩ := va_join (wr := []) (w1 := [(o, .inr (0, [.ref v2, .int cd, .int 0, .int 0])), (v2, .inl (cB, N, .inl (f)))]) hP hD [0, 1, 2] [] rfl rfl (by decide) (by decide) hk1 hFc hP1 hD1
  generalize H1 = H at hP hS ⊢
  have hP : va_P D pd_cl [(o, .inr (0, [.ref v2, .int cd, .int 0, .int 0])), (v2, .inl (cB, N, .inl (f)))] H := hP
  have hD : va_D A [(o, .inr (0, [.ref v2, .int cd, .int 0, .int 0])), (v2, .inl (cB, N, .inl (f)))] := hD
  refine W.widen (k := 1) (n := N) (by omega) (by omega) ?_
  exact W.vret hx hb hr (fun t ht hW => ⟨⟨(), rfl, trivial, v2, by rw [ht]; exact hP, hD⟩, hS.F ht⟩) hS.2.2 dJ0_init_3_6
set_option maxHeartbeats 4000000 in
set_option maxRecDepth 100000 in
/-- StringBuilder.toString(), full -/
theorem m_J10ts (l : Launch) (D : va_G) (cB cC cI : ClassId) (sz sb v n N : Nat) (w : Nat → Nat) (cd : Int32) (f : Nat → Int32) (hn : n ≤ 1000) (hrep : pd_rep n n w cd N f) : Met l yJ10_toString (ws_ yJ10_toString cJ10_toString 1 (some (.object "java/lang/String"))) ({ frames := 4, cells := 2, slots := 4 + N, locals := 140 }) (va_Pc [.ref sb] (fun U => pd_BA D cB cC cI [(sb, .inr (1, [.ref v, .int cd, .int 0, .int (nI n)])), (v, .inl (cB, N, .inl (f)))] sz U)) (va_Qr (fun _ : Unit => True) (fun _ o t => ∃ v2 : Nat, va_P D pd_cl [(o, .inr (0, [.ref v2, .int cd, .int 0, .int 0])), (v2, .inl (cB, N, .inl (f)))] t.heap ∧ va_D (va_A [(sb, .inr (1, [.ref v, .int cd, .int 0, .int (nI n)])), (v, .inl (cB, N, .inl (f)))] sz) [(o, .inr (0, [.ref v2, .int cd, .int 0, .int 0])), (v2, .inl (cB, N, .inl (f)))]) (va_A [(sb, .inr (1, [.ref v, .int cd, .int 0, .int (nI n)])), (v, .inl (cB, N, .inl (f)))] sz)) 2 (4 + N) (va_A [(sb, .inr (1, [.ref v, .int cd, .int 0, .int (nI n)])), (v, .inl (cB, N, .inl (f)))] sz) := by
  refine Met.ofW (cc := cJ10_toString) (maxL := 1) (ret := (some (.object "java/lang/String"))) (by decide) rfl ?_
  intro p e s m args below meth c s₁ B hml hv
  obtain ⟨rfl, hBA⟩ := hv
  have hx := B.exec
  have hb := B.bytes
  have hr := B.returns
  have hts := atoms_spec (ws := (ws_ yJ10_toString cJ10_toString 1 (some (.object "java/lang/String")))) B.pre
  have hts : ∀ w ∈ lw_all, w.before _ s = true := fun w h => hts w (List.mem_cons_of_mem _ h)
  have hown : s.vm.findClass RJ10 = some m.cls := findClass_of_methodNamed B.named
  have hlocks := B.notSynchronized
  obtain ⟨hsz, hP, hK, hD0, hZ⟩ := hBA
  subst hsz
  have hD := hD0.self (sz := s.heap.size)
  generalize hAe : va_A [(sb, .inr (1, [.ref v, .int cd, .int 0, .int (nI n)])), (v, .inl (cB, N, .inl (f)))] s.heap.size = A at hD hZ ⊢
  have hA : ∀ q : Nat, s.heap.size ≤ q → A q := fun q h => by rw [← hAe]; exact Or.inr h
  have hS : va_S A s.heap s.heap [] := va_S.rf
  have hP : va_P D pd_cl [(sb, .inr (1, [.ref v, .int cd, .int 0, .int (nI n)])), (v, .inl (cB, N, .inl (f)))] s.heap := hP
  have hl := lv_entry ([.ref sb]) (n := 1) (Nat.le_of_ble_eq_true rfl)
  rw [lg_entry_eq]
  generalize (lg_sl ([.ref sb]) ++ List.replicate (1 - (lg_sl ([.ref sb])).length) Slot.unset).toArray = ls at hl ⊢
  have hl : lv_has ls 1 [(0, .ref sb)] := hl
  refine va_new (ci := 0) (fs := [.null, .int 0, .int 0, .int 0]) (C := RJ0) (T := TJ0) (N := 4) hx hb hts in_J0 tyJ0 tyJ0_ok hown (hts _ q390) (hts _ q199) (hts _ q4) hK hP hD hS hA rfl (fun j hj => by rcases (show j = 0 ∨ j = 1 ∨ j = 2 ∨ j = 3 by omega) with rfl | rfl | rfl | rfl <;> rfl) (by show 0 + 1 ≤ 2; omega) (by show 0 + 4 ≤ 4 + N; omega) dJ10_toString_0 (fun o H hP hD hS => ?_)
  have hP : va_P D pd_cl [(sb, .inr (1, [.ref v, .int cd, .int 0, .int (nI n)])), (v, .inl (cB, N, .inl (f))), (o, .inr (0, [.null, .int 0, .int 0, .int 0]))] H := hP
  have hD : va_D A [(sb, .inr (1, [.ref v, .int cd, .int 0, .int (nI n)])), (v, .inl (cB, N, .inl (f))), (o, .inr (0, [.null, .int 0, .int 0, .int 0]))] := hD
  refine lv_dup hx hb dJ10_toString_3 rfl ?_
  refine lv_aload_n hx hb dJ10_toString_4 rfl (lv_at hl 0 rfl) ?_
  have hPc := hP.sub (ws' := [(o, .inr (0, [.null, .int 0, .int 0, .int 0])), (sb, .inr (1, [.ref v, .int cd, .int 0, .int (nI n)])), (v, .inl (cB, N, .inl (f)))]) [2, 0, 1] rfl
  have hDc := hD.sub (ws' := [(o, .inr (0, [.null, .int 0, .int 0, .int 0])), (sb, .inr (1, [.ref v, .int cd, .int 0, .int (nI n)])), (v, .inl (cB, N, .inl (f)))]) [2, 0, 1] (by decide) rfl
  have hFc := va_free (wc := [(o, .inr (0, [.null, .int 0, .int 0, .int 0])), (sb, .inr (1, [.ref v, .int cd, .int 0, .int (nI n)])), (v, .inl (cB, N, .inl (f)))]) hD hS hA [2, 0, 1] rfl
  refine va_callv (va_runI (As := [.ref sb]) (rest := [.ref o]) ⟨hx, hb, hml, hown, hts⟩ (m_J0i3 l D cB cC cI _ o sb v n N w cd f hn hrep) (cwI 1 hts (lw_meth q393) rfl rfl rfl (hts _ q4) (hts _ q391) (hts _ q392) rfl (by decide +kernel) ⟨Nat.le_of_ble_eq_true rfl, Nat.le_of_ble_eq_true rfl⟩) (pd_pre (fun a U g mk q => pd_BA.blind q) (fun U hU hW => pd_BA.pass hPc hDc hK hZ hS hFc hU hW)) rfl rfl hl.1 rfl (lv_room (Nat.le_of_ble_eq_true rfl)) dJ10_toString_5 ⟨by show 0 + 1 + 1 ≤ 2; omega, by show 0 + 4 + N ≤ 4 + N; omega⟩) hS (fun q _ h => hFc q h) hFc (fun u_1 t H1 locs ht hvm hw9 hB hz1 hk1 hS => ?_)
  obtain ⟨v2, hP1, hD1⟩ := hB
  rw [ht] at hP1
  obtain ⟨hP, hD⟩ := va_join (wr := []) (w1 := [(o, .inr (0, [.ref v2, .int cd, .int 0, .int 0])), (v2, .inl (cB, N, .inl (f)))]) hP hD [2, 0, 1] [] rfl rfl (by decide) (by decide) hk1 hFc hP1 hD1
  generalize H1 = H at hP hS ⊢
  have hP : va_P D pd_cl [(o, .inr (0, [.ref v2, .int cd, .int 0, .int 0])), (v2, .inl (cB, N, .inl (f)))] H := hP
  have hD : va_D A [(o, .inr (0, [.ref v2, .int cd, .int 0, .int 0])), (v2, .inl (cB, N, .inl (f)))] := hD
  refine W.widen (k := 2) (n := 4 + N) (by omega) (by omega) ?_
  exact W.aret (v := .ref o) hx hb hr (Or.inl ⟨_, rfl⟩) (Or.inr ⟨_, rfl⟩) (fun t ht hW => ⟨⟨(), o, rfl, trivial, v2, by rw [ht]; exact hP, hD⟩, hS.F ht⟩) hS.2.2 dJ10_toString_8
end
section
/-! THE PLAIN LAW: the register's remainder, the answer's value at the roots -/
def pd_t1 (k : Nat) (e : Nat → Nat) (d : Nat) : Nat := (d + e (k - 1)) % 929
def pd_step (cf : Nat → Nat) (k : Nat) (e : Nat → Nat) (d j : Nat) : Nat :=
  if j = 0 then (929 - pd_t1 k e d * cf 0 % 929) % 929 else (e (j - 1) + (929 - pd_t1 k e d * cf j % 929)) % 929
/-- the register behind n words -/
def pd_ec (cf : Nat → Nat) (k : Nat) (w : Nat → Nat) : Nat → Nat → Nat
  | 0 => fun _ => 0
  | n + 1 => pd_step cf k (pd_ec cf k w n) (w n)
theorem pd_ec_lt (cf : Nat → Nat) (k : Nat) (w : Nat → Nat) (n j : Nat) : pd_ec cf k w n j < 929 := by
  cases n with
  | zero => exact (by decide : 0 < 929)
  | succ n =>
    show pd_step cf k (pd_ec cf k w n) (w n) j < 929
    unfold pd_step
    split
    · exact Nat.mod_lt _ (by decide)
    · exact Nat.mod_lt _ (by decide)
/-- the correction words, the highest first -/
def pd_out (k : Nat) (e : Nat → Nat) (i : Nat) : Nat := (929 - e (k - 1 - i)) % 929
theorem pd_out_lt (k : Nat) (e : Nat → Nat) (i : Nat) : pd_out k e i < 929 := Nat.mod_lt _ (by decide)
/-- Horner's value, from v on -/
def pd_ho (r v : Nat) (u : Nat → Nat) : Nat → Nat
  | 0 => v
  | n + 1 => (pd_ho r v u n * r + u n) % 929
theorem pd_ho_lt {r v : Nat} {u : Nat → Nat} (hv : v < 929) (n : Nat) : pd_ho r v u n < 929 := by
  cases n with
  | zero => exact hv
  | succ n => exact Nat.mod_lt _ (by decide)
def pd_root : Nat → Nat
  | 0 => 1
  | j + 1 => pd_root j * 3 % 929
theorem pd_root_lt (j : Nat) : pd_root j < 929 := by
  cases j with
  | zero => exact (by decide : 1 < 929)
  | succ j => exact Nat.mod_lt _ (by decide)
/-- a sum of powers -/
def pd_sum (f : Nat → Nat) (r : Int) : Nat → Int
  | 0 => 0
  | n + 1 => pd_sum f r n + (f n : Int) * r ^ n
theorem pd_mod (a : Nat) : ∃ q : Int, ((a % 929 : Nat) : Int) = (a : Int) - 929 * q := ⟨((a / 929 : Nat) : Int), by omega⟩
theorem pd_neg (a : Nat) : ∃ q : Int, (((929 - a % 929) % 929 : Nat) : Int) = -(a : Int) + 929 * q := by
  obtain ⟨q1, h1⟩ := pd_mod a
  obtain ⟨q2, h2⟩ := pd_mod (929 - a % 929)
  have h3 : ((929 - a % 929 : Nat) : Int) = 929 - ((a % 929 : Nat) : Int) := by omega
  exact ⟨1 + q1 - q2, by rw [h2, h3, h1]; omega⟩
theorem pd_sub929 (x a : Nat) : ∃ q : Int, (((x + (929 - a % 929)) % 929 : Nat) : Int) = (x : Int) - (a : Int) + 929 * q := by
  obtain ⟨q1, h1⟩ := pd_mod a
  obtain ⟨q2, h2⟩ := pd_mod (x + (929 - a % 929))
  have h3 : ((x + (929 - a % 929) : Nat) : Int) = x + 929 - ((a % 929 : Nat) : Int) := by omega
  exact ⟨1 + q1 - q2, by rw [h2, h3, h1]; omega⟩
/-- one word more: the sums -/
theorem pd_step_sum (cf : Nat → Nat) (k : Nat) (e : Nat → Nat) (d : Nat) (r : Int) : ∀ m : Nat, ∃ q : Int, pd_sum (pd_step cf k e d) r (m + 1) = r * pd_sum e r m - (pd_t1 k e d : Int) * pd_sum cf r (m + 1) + 929 * q := by
  intro m
  induction m with
  | zero =>
    obtain ⟨q, hq⟩ := pd_neg (pd_t1 k e d * cf 0)
    refine ⟨q, ?_⟩
    have h0 : ((pd_step cf k e d 0 : Nat) : Int) = -((pd_t1 k e d * cf 0 : Nat) : Int) + 929 * q := hq
    simp only [pd_sum, h0]
    rw [Int.natCast_mul]
    grind
  | succ m ih =>
    obtain ⟨q0, h0⟩ := ih
    obtain ⟨q, hq⟩ := pd_sub929 (e m) (pd_t1 k e d * cf (m + 1))
    have h1 : ((pd_step cf k e d (m + 1) : Nat) : Int) = (e m : Int) - ((pd_t1 k e d * cf (m + 1) : Nat) : Int) + 929 * q := hq
    rw [Int.natCast_mul] at h1
    refine ⟨q0 + q * r ^ (m + 1), ?_⟩
    have e1 : pd_sum (pd_step cf k e d) r (m + 1 + 1) = pd_sum (pd_step cf k e d) r (m + 1) + ((pd_step cf k e d (m + 1) : Nat) : Int) * r ^ (m + 1) := rfl
    have e2 : pd_sum e r (m + 1) = pd_sum e r m + (e m : Int) * r ^ m := rfl
    have e3 : pd_sum cf r (m + 1 + 1) = pd_sum cf r (m + 1) + (cf (m + 1) : Int) * r ^ (m + 1) := rfl
    have e4 : r ^ (m + 1) = r ^ m * r := Int.pow_succ r m
    rw [e1, e2, e3, h0, h1, e4]
    grind
/-- the register is the words' remainder, at a root -/
theorem pd_reg (cf : Nat → Nat) (k : Nat) (hk : 0 < k) (r : Nat) (hr : ∃ b : Int, (r : Int) ^ k + pd_sum cf r k = 929 * b) (w : Nat → Nat) : ∀ n : Nat, ∃ a : Int, (pd_ho r 0 w n : Int) * (r : Int) ^ k - pd_sum (pd_ec cf k w n) r k = 929 * a := by
  intro n
  obtain ⟨m, rfl⟩ : ∃ m, k = m + 1 := ⟨k - 1, by omega⟩
  obtain ⟨b, hb⟩ := hr
  induction n with
  | zero =>
    have hz : ∀ x : Nat, pd_sum (pd_ec cf (m + 1) w 0) r x = 0 := by
      intro x
      induction x with
      | zero => rfl
      | succ x ih =>
        show pd_sum (pd_ec cf (m + 1) w 0) r x + ((0 : Nat) : Int) * _ = 0
        rw [ih]
        simp
    refine ⟨0, ?_⟩
    rw [hz]
    show ((0 : Nat) : Int) * _ - 0 = _
    simp
  | succ n ih =>
    obtain ⟨a, ha⟩ := ih
    obtain ⟨c, hc⟩ := pd_step_sum cf (m + 1) (pd_ec cf (m + 1) w n) (w n) r m
    obtain ⟨d, hd⟩ := pd_mod (w n + pd_ec cf (m + 1) w n m)
    obtain ⟨f, hf⟩ := pd_mod (pd_ho r 0 w n * r + w n)
    have ht : (pd_t1 (m + 1) (pd_ec cf (m + 1) w n) (w n) : Int) = (w n : Int) + (pd_ec cf (m + 1) w n m : Int) - 929 * d := by
      refine Eq.trans ?_ (hd.trans (by rw [Int.natCast_add]))
      rfl
    have hh : (pd_ho r 0 w (n + 1) : Int) = (pd_ho r 0 w n : Int) * r + (w n : Int) - 929 * f := by
      refine Eq.trans ?_ (hf.trans (by rw [Int.natCast_add, Int.natCast_mul]))
      rfl
    have es : pd_sum (pd_ec cf (m + 1) w n) r (m + 1) = pd_sum (pd_ec cf (m + 1) w n) r m + (pd_ec cf (m + 1) w n m : Int) * (r : Int) ^ m := rfl
    have e4 : (r : Int) ^ (m + 1) = (r : Int) ^ m * r := Int.pow_succ _ m
    refine ⟨a * r - f * (r : Int) ^ (m + 1) + (pd_t1 (m + 1) (pd_ec cf (m + 1) w n) (w n) : Int) * b - c + d * (r : Int) ^ (m + 1), ?_⟩
    show (pd_ho r 0 w (n + 1) : Int) * (r : Int) ^ (m + 1) - pd_sum (pd_step cf (m + 1) (pd_ec cf (m + 1) w n) (w n)) r (m + 1) = _
    rw [hc, hh]
    rw [es] at ha
    rw [e4] at ha hb ⊢
    generalize (pd_t1 (m + 1) (pd_ec cf (m + 1) w n) (w n) : Int) = t at ht ⊢
    generalize pd_sum cf r (m + 1) = C at hb ⊢
    generalize pd_sum (pd_ec cf (m + 1) w n) r m = S1 at ha ⊢
    generalize (pd_ec cf (m + 1) w n m : Int) = x at ha ht
    generalize (pd_ho r 0 w n : Int) = h0 at ha ⊢
    generalize (r : Int) ^ m = rm at ha hb ⊢
    generalize (w n : Int) = wn at ht ⊢
    subst ht
    grind
/-- the answer's value, digit by digit -/
theorem pd_tail (r v k : Nat) (e : Nat → Nat) (he : ∀ j, e j < 929) : ∀ m : Nat, m ≤ k → ∃ q : Int, (pd_ho r v (pd_out k e) m : Int) * (r : Int) ^ (k - m) = (v : Int) * (r : Int) ^ k - (pd_sum e r k - pd_sum e r (k - m)) + 929 * q := by
  intro m
  induction m with
  | zero =>
    intro _
    refine ⟨0, ?_⟩
    show (v : Int) * (r : Int) ^ (k - 0) = _
    rw [Nat.sub_zero]
    omega
  | succ m ih =>
    intro hm
    obtain ⟨q, hq⟩ := ih (by omega)
    obtain ⟨f, hf⟩ := pd_mod (pd_ho r v (pd_out k e) m * r + pd_out k e m)
    obtain ⟨x, hx⟩ : ∃ x, k - m = x + 1 := ⟨k - m - 1, by omega⟩
    have hx2 : k - (m + 1) = x := by omega
    have hx3 : k - 1 - m = x := by omega
    obtain ⟨g, hg⟩ := pd_neg (e x)
    have ho : (pd_out k e m : Int) = -(e x : Int) + 929 * g := by
      refine Eq.trans ?_ hg
      show (((929 - e (k - 1 - m)) % 929 : Nat) : Int) = _
      rw [hx3, Nat.mod_eq_of_lt (he x)]
    have hh : (pd_ho r v (pd_out k e) (m + 1) : Int) = (pd_ho r v (pd_out k e) m : Int) * r + (pd_out k e m : Int) - 929 * f := by
      refine Eq.trans ?_ (hf.trans (by rw [Int.natCast_add, Int.natCast_mul]))
      rfl
    have es : pd_sum e r (x + 1) = pd_sum e r x + (e x : Int) * (r : Int) ^ x := rfl
    have e4 : (r : Int) ^ (x + 1) = (r : Int) ^ x * r := Int.pow_succ _ x
    rw [hx, es, e4] at hq
    rw [hx2, hh, ho]
    refine ⟨q + g * (r : Int) ^ x - f * (r : Int) ^ x, ?_⟩
    generalize pd_sum e r k = S at hq ⊢
    generalize pd_sum e r x = S1 at hq ⊢
    generalize (r : Int) ^ k = R at hq ⊢
    generalize (r : Int) ^ x = rx at hq ⊢
    generalize (pd_ho r v (pd_out k e) m : Int) = h0 at hq ⊢
    generalize (e x : Int) = ex at hq ⊢
    grind
/-- where the coefficients' polynomial is zero, so is the whole answer's -/
theorem pd_zero (cf : Nat → Nat) (k : Nat) (hk : 0 < k) (r : Nat) (hr : ∃ b : Int, (r : Int) ^ k + pd_sum cf r k = 929 * b) (w : Nat → Nat) (n : Nat) : pd_ho r (pd_ho r 0 w n) (pd_out k (pd_ec cf k w n)) k = 0 := by
  obtain ⟨a, ha⟩ := pd_reg cf k hk r hr w n
  obtain ⟨q, hq⟩ := pd_tail r (pd_ho r 0 w n) k (pd_ec cf k w n) (pd_ec_lt cf k w n) k (Nat.le_refl k)
  have hlt : pd_ho r (pd_ho r 0 w n) (pd_out k (pd_ec cf k w n)) k < 929 := pd_ho_lt (pd_ho_lt (by decide) n) k
  rw [Nat.sub_self] at hq
  have h1 : pd_sum (pd_ec cf k w n) r 0 = 0 := rfl
  have h2 : (r : Int) ^ 0 = 1 := Int.pow_zero _
  rw [h1, h2] at hq
  have h3 : (pd_ho r (pd_ho r 0 w n) (pd_out k (pd_ec cf k w n)) k : Int) = 929 * (a + q) := by
    rw [← Int.mul_one (pd_ho r (pd_ho r 0 w n) (pd_out k (pd_ec cf k w n)) k : Int), hq]
    generalize (pd_ho r 0 w n : Int) * (r : Int) ^ k = X at ha ⊢
    omega
  omega
/-- the table, by computation -/
def pd_fold (r : Nat) : List Nat → Nat
  | [] => 1
  | c :: l => (c + r * pd_fold r l) % 929
def pd_chkl (l : List Nat) : Nat → Nat → Bool
  | 0, _ => true
  | n + 1, r => Nat.beq (pd_fold (r * 3 % 929) l) 0 && pd_chkl l n (r * 3 % 929)
def pd_chk : Bool := pd_coefs.all fun l => pd_chkl l l.length 1
theorem pd_chk_ok : pd_chk = true := by decide +kernel
theorem pd_chkl_at {l : List Nat} : ∀ (n i : Nat), pd_chkl l n (pd_root i) = true → ∀ j, j < n → pd_fold (pd_root (i + j + 1)) l = 0 := by
  intro n
  induction n with
  | zero => intro i _ j hj; exact absurd hj (Nat.not_lt_zero j)
  | succ n ih =>
    intro i h j hj
    have h' : (Nat.beq (pd_fold (pd_root (i + 1)) l) 0 && pd_chkl l n (pd_root (i + 1))) = true := h
    rw [Bool.and_eq_true] at h'
    cases j with
    | zero => exact Nat.eq_of_beq_eq_true h'.1
    | succ j =>
      have := ih (i + 1) h'.2 j (by omega)
      rw [show i + (j + 1) + 1 = i + 1 + j + 1 by omega]
      exact this
theorem pd_sum_shift (f : Nat → Nat) (r : Int) : ∀ n, pd_sum f r (n + 1) = (f 0 : Int) + r * pd_sum (fun j => f (j + 1)) r n := by
  intro n
  induction n with
  | zero =>
    show (0 : Int) + (f 0 : Int) * r ^ 0 = (f 0 : Int) + r * 0
    rw [Int.pow_zero]
    omega
  | succ n ih =>
    have e1 : pd_sum f r (n + 1 + 1) = pd_sum f r (n + 1) + (f (n + 1) : Int) * r ^ (n + 1) := rfl
    have e2 : pd_sum (fun j => f (j + 1)) r (n + 1) = pd_sum (fun j => f (j + 1)) r n + (f (n + 1) : Int) * r ^ n := rfl
    rw [e1, e2, ih, Int.pow_succ]
    grind
theorem pd_fold_sum (r : Nat) : ∀ l : List Nat, ∃ q : Int, (pd_fold r l : Int) = (r : Int) ^ l.length + pd_sum (fun j => l.getD j 0) r l.length - 929 * q := by
  intro l
  induction l with
  | nil => exact ⟨0, rfl⟩
  | cons c l ih =>
    obtain ⟨q, hq⟩ := ih
    obtain ⟨f, hf⟩ := pd_mod (c + r * pd_fold r l)
    have hs := pd_sum_shift (fun j => (c :: l).getD j 0) r l.length
    have hs2 : (fun j => (c :: l).getD (j + 1) 0) = fun j => l.getD j 0 := by
      funext j
      simp [List.getD]
    have hs3 : (c :: l).getD 0 0 = c := rfl
    rw [hs2, hs3] at hs
    have hh : (pd_fold r (c :: l) : Int) = (c : Int) + (r : Int) * (pd_fold r l : Int) - 929 * f := by
      refine Eq.trans ?_ (hf.trans (by rw [Int.natCast_add, Int.natCast_mul]))
      rfl
    rw [hh, hq, List.length_cons, hs, Int.pow_succ]
    refine ⟨f + q * r, ?_⟩
    grind
theorem pd_lens : ∀ i, i < 8 → (pd_coefs.getD i []).length = 2 * 2 ^ i := by decide +kernel
theorem pd_c_lt (i j : Nat) : pd_c i j < 929 := by
  have h0 : (pd_coefs.all fun l => l.all fun c => Nat.blt c 929) = true := by decide +kernel
  have h1 : ∀ l ∈ pd_coefs, ∀ c ∈ l, c < 929 := fun l hl c hc => by
    have := List.all_eq_true.mp (List.all_eq_true.mp h0 l hl) c hc
    exact Nat.le_of_ble_eq_true this
  unfold pd_c
  rw [List.getD_eq_getElem?_getD, List.getD_eq_getElem?_getD]
  cases hi : pd_coefs[i]? with
  | none => simp
  | some l =>
    cases hj : l[j]? with
    | none => simp [hj]
    | some c => simpa [hj] using h1 l (List.mem_of_getElem? hi) c (List.mem_of_getElem? hj)
/-- the roots -/
theorem pd_roots (i : Nat) (hi : i < 8) (j : Nat) (hj : j < 2 * 2 ^ i) : ∃ b : Int, ((pd_root (j + 1) : Nat) : Int) ^ (2 * 2 ^ i) + pd_sum (pd_c i) (pd_root (j + 1) : Nat) (2 * 2 ^ i) = 929 * b := by
  have hl := pd_lens i hi
  have hm : pd_coefs.getD i [] ∈ pd_coefs := by
    have h8 : pd_coefs.length = 8 := by decide
    rw [List.getD_eq_getElem?_getD, List.getElem?_eq_getElem (by omega)]
    exact List.getElem_mem _
  have hc := List.all_eq_true.mp pd_chk_ok _ hm
  rw [hl] at hc
  have hz := pd_chkl_at (l := pd_coefs.getD i []) (2 * 2 ^ i) 0 hc j hj
  rw [Nat.zero_add] at hz
  obtain ⟨q, hq⟩ := pd_fold_sum (pd_root (j + 1)) (pd_coefs.getD i [])
  rw [hz, hl] at hq
  refine ⟨q, ?_⟩
  have h0 : ((0 : Nat) : Int) = 0 := rfl
  rw [h0] at hq
  show _ + pd_sum (fun j => (pd_coefs.getD i []).getD j 0) _ _ = _
  omega
/-- THE PLAIN LAW -/
theorem pd_law (i : Nat) (hi : i < 8) (j : Nat) (hj : j < 2 * 2 ^ i) (w : Nat → Nat) (n : Nat) : pd_ho (pd_root (j + 1)) (pd_ho (pd_root (j + 1)) 0 w n) (pd_out (2 * 2 ^ i) (pd_ec (pd_c i) (2 * 2 ^ i) w n)) (2 * 2 ^ i) = 0 :=
  pd_zero (pd_c i) (2 * 2 ^ i) (Nat.lt_of_le_of_lt (Nat.zero_le j) hj) (pd_root (j + 1)) (pd_roots i hi j hj) w n
end
section
/-! NUMBERS of generateErrorCorrection's walk -/
theorem pd_step0 (cf : Nat → Nat) (k : Nat) (e : Nat → Nat) (d : Nat) : pd_step cf k e d 0 = (929 - pd_t1 k e d * cf 0 % 929) % 929 := rfl
theorem pd_stepj (cf : Nat → Nat) (k : Nat) (e : Nat → Nat) (d : Nat) {j : Nat} (h : 1 ≤ j) : pd_step cf k e d j = (e (j - 1) + (929 - pd_t1 k e d * cf j % 929)) % 929 := if_neg (by omega)
theorem pd_inv {f1 : Nat → Int32} {E E2 : Nat → Nat} {j K v : Nat} (hg : ∀ x, x < K → f1 x = nI (if j < x then E2 x else E x)) (hj : 1 ≤ j) (hv : v = E2 j) : ∀ x, x < K → upd f1 j (nI v) x = nI (if j - 1 < x then E2 x else E x) := by
  intro x hx
  by_cases q : x = j
  · rw [q, pk_us, if_pos (by omega), hv]
  · rw [pk_un q, hg x hx]
    by_cases z : j < x
    · rw [if_pos z, if_pos (by omega)]
    · rw [if_neg z, if_neg (by omega)]
theorem pd_inv0 {f1 : Nat → Int32} {E E2 : Nat → Nat} {K v : Nat} (hg : ∀ x, x < K → f1 x = nI (if 0 < x then E2 x else E x)) (hv : v = E2 0) : ∀ x, x < K → upd f1 0 (nI v) x = nI (E2 x) := by
  intro x hx
  by_cases q : x = 0
  · rw [q, pk_us, hv]
  · rw [pk_un q, hg x hx, if_pos (by omega)]
theorem pd_dec1 {m : Nat} (h : 0 < m) : nI m - 1 = nI (m - 1) := by
  obtain ⟨k, rfl⟩ : ∃ k, m = k + 1 := ⟨m - 1, by omega⟩
  exact nI_pred k
theorem pd_dec (x : Int32) : x + Int32.ofInt (-1) = x - 1 := by
  rw [show Int32.ofInt (-1) = -1 by decide, Int32.sub_eq_add_neg]
theorem pd_decn {m : Nat} (h : 0 < m) : nI m + Int32.ofInt (-1) = nI (m - 1) := (pd_dec _).trans (pd_dec1 h)
theorem pd_repNle {cap n : Nat} {w : Nat → Nat} {cd : Int32} {N : Nat} {f : Nat → Int32} (h : pd_rep cap n w cd N f) : N ≤ 2 * cap := by
  rcases h with ⟨-, h, -⟩ | ⟨-, h, -⟩ <;> omega
theorem pd_rep0 (cap : Nat) (w : Nat → Nat) : pd_rep cap 0 w 0 cap (fun _ => 0) := Or.inl ⟨rfl, rfl, fun j hj => absurd hj (Nat.not_lt_zero j)⟩
theorem pd_two (lev : Nat) : 1 * 2 ^ (lev + 1) = 2 * 2 ^ lev := by rw [Nat.pow_succ]; omega
theorem pd_twole {lev : Nat} (h : lev < 8) : 1 ≤ 2 ^ lev ∧ 2 ^ lev ≤ 128 := by
  have : ∀ l, l < 8 → 1 ≤ 2 ^ l ∧ 2 ^ l ≤ 128 := by decide
  exact this lev h
theorem pd_out0 {K m : Nat} {e : Nat → Nat} (hm : m ≤ K) (h0 : 0 < m) (h : e (m - 1) = 0) : pd_out K e (K - m) = e (m - 1) := by
  unfold pd_out
  rw [show K - 1 - (K - m) = m - 1 by omega, h]
theorem pd_out1 {K m : Nat} {e : Nat → Nat} (hm : m ≤ K) (h0 : 0 < m) (h : e (m - 1) ≠ 0) : pd_out K e (K - m) = 929 - e (m - 1) := by
  unfold pd_out
  rw [show K - 1 - (K - m) = m - 1 by omega]
  exact Nat.mod_eq_of_lt (by omega)
end
section
/-! PDF417ErrorCorrection (written by gen/p12.py) -/
set_option maxHeartbeats 4000000 in
set_option maxRecDepth 100000 in
/-- getErrorCorrectionCodewordCount(lev) -/
theorem m_X3cnt (l : Launch) (lev : Nat) (h : lev < 8) : Met l yX3_getErrorCorrectionCodewordCount (ws_ yX3_getErrorCorrectionCodewordCount cX3_getErrorCorrectionCodewordCount 1 (some .int)) ({ frames := 0, cells := 0, slots := 0, locals := 0 }) (va_Pc [.int (nI lev)] (fun U => True)) (va_Qi (fun (r : Int32) (_ : Unit) => r = nI (2 * 2 ^ lev)) (fun _ _ => True) pd_F) 0 0 pd_F := by
  refine Met.ofW (cc := cX3_getErrorCorrectionCodewordCount) (maxL := 1) (ret := (some .int)) (by decide) rfl ?_
  intro p e s m args below meth c s₁ B hml hv
  obtain ⟨rfl, -⟩ := hv
  have hx := B.exec
  have hb := B.bytes
  have hr := B.returns
  have hts := atoms_spec (ws := (ws_ yX3_getErrorCorrectionCodewordCount cX3_getErrorCorrectionCodewordCount 1 (some .int))) B.pre
  have hts : ∀ w ∈ lw_all, w.before _ s = true := fun w h => hts w (List.mem_cons_of_mem _ h)
  have hown : s.vm.findClass RX3 = some m.cls := findClass_of_methodNamed B.named
  have hlocks := B.notSynchronized
  have hS : va_S pd_F s.heap s.heap [] := va_S.rf
  have hl := lv_entry ([.int (nI lev)]) (n := 1) (Nat.le_of_ble_eq_true rfl)
  rw [lg_entry_eq]
  generalize (lg_sl ([.int (nI lev)]) ++ List.replicate (1 - (lg_sl ([.int (nI lev)])).length) Slot.unset).toArray = ls at hl ⊢
  have hl : lv_has ls 1 [(0, .int (nI lev))] := hl
  have h2 := pd_twole h
  refine lv_iload_n hx hb dX3_getErrorCorrectionCodewordCount_0 rfl (lv_at hl 0 rfl) ?_
  refine lv_if_lt (tgt := 10) hx hb dX3_getErrorCorrectionCodewordCount_1 (by decide) (fun c9 => absurd c9 (nI_pos (by omega))) (fun _ => ?_)
  refine lv_iload_n hx hb dX3_getErrorCorrectionCodewordCount_4 rfl (lv_at hl 0 rfl) ?_
  refine lv_bipush (v := (nI 8)) hx hb dX3_getErrorCorrectionCodewordCount_5 (by decide) ?_
  refine lv_icmp_le (tgt := 20) hx hb dX3_getErrorCorrectionCodewordCount_7 (by decide) (fun _ => ?_) (fun c9 => absurd (nI_le (by omega) (by decide)) c9)
  refine lv_iconst (v := (nI 1)) hx hb dX3_getErrorCorrectionCodewordCount_20 (by decide) ?_
  refine lv_iload_n hx hb dX3_getErrorCorrectionCodewordCount_21 rfl (lv_at hl 0 rfl) ?_
  refine lv_iconst (v := (nI 1)) hx hb dX3_getErrorCorrectionCodewordCount_22 (by decide) ?_
  refine pd_iadd (v := (nI (lev + 1))) hx hb dX3_getErrorCorrectionCodewordCount_23 (nI_add lev 1) ?_
  refine pd_ishl (v := (nI (2 * 2 ^ lev))) hx hb dX3_getErrorCorrectionCodewordCount_24 ((pd_shl (by omega) (by rw [pd_two]; omega)).trans (congrArg nI (pd_two lev))) ?_
  exact W.iret (v := (nI (2 * 2 ^ lev))) hx hb hr (fun t ht hW => ⟨⟨(nI (2 * 2 ^ lev)), (), rfl, rfl, trivial⟩, hS.F ht⟩) hS.2.2 dX3_getErrorCorrectionCodewordCount_25
set_option maxHeartbeats 4000000 in
set_option maxRecDepth 100000 in
/-- generateErrorCorrection(the words, lev): the correction words -/
theorem m_X3gec (l : Launch) (D : va_G) (cB cC cI : ClassId) (sz o n lev K : Nat) (w : Nat → Nat) (hlev : lev < 8) (hKd : K = 2 * 2 ^ lev) (hn : n ≤ 64) (hw : ∀ j, j < n → w j < 929) : Met l yX3_generateErrorCorrection (ws_ yX3_generateErrorCorrection cX3_generateErrorCorrection 10 (some (.object "java/lang/String"))) ({ frames := 8, cells := 300, slots := 133000, locals := 240 }) (va_Pc [.ref o, .int (nI lev)] (fun U => pd_BA D cB cC cI [] sz U ∧ pd_S o n w (va_A [] sz) U U.heap)) (va_Qr (fun _ : Unit => True) (fun _ o2 t => ∃ (v2 : Nat) (cd : Int32) (N : Nat) (f : Nat → Int32), va_P D pd_cl [(o2, .inr (0, [.ref v2, .int cd, .int 0, .int 0])), (v2, .inl (cB, N, .inl (f)))] t.heap ∧ va_D (va_A [] sz) [(o2, .inr (0, [.ref v2, .int cd, .int 0, .int 0])), (v2, .inl (cB, N, .inl (f)))] ∧ pd_rep K K (pd_out K (pd_ec (pd_c lev) K w n)) cd N f) (va_A [] sz)) 300 133000 (va_A [] sz) := by
  refine Met.ofW (cc := cX3_generateErrorCorrection) (maxL := 10) (ret := (some (.object "java/lang/String"))) (by decide) rfl ?_
  intro p e s m args below meth c s₁ B hml hv
  obtain ⟨rfl, hBA, hSt⟩ := hv
  have hx := B.exec
  have hb := B.bytes
  have hr := B.returns
  have hts := atoms_spec (ws := (ws_ yX3_generateErrorCorrection cX3_generateErrorCorrection 10 (some (.object "java/lang/String")))) B.pre
  have hts : ∀ w ∈ lw_all, w.before _ s = true := fun w h => hts w (List.mem_cons_of_mem _ h)
  have hown : s.vm.findClass RX3 = some m.cls := findClass_of_methodNamed B.named
  have hlocks := B.notSynchronized
  obtain ⟨hsz, hP, hK, hD0, hZ⟩ := hBA
  subst hsz
  have hD := hD0.self (sz := s.heap.size)
  generalize hAe : va_A [] s.heap.size = A at hD hZ hSt ⊢
  have hA : ∀ q : Nat, s.heap.size ≤ q → A q := fun q h => by rw [← hAe]; exact Or.inr h
  have hS : va_S A s.heap s.heap [] := va_S.rf
  have hP : va_P D pd_cl [] s.heap := hP
  have hl := lv_entry ([.ref o, .int (nI lev)]) (n := 10) (Nat.le_of_ble_eq_true rfl)
  rw [lg_entry_eq]
  generalize (lg_sl ([.ref o, .int (nI lev)]) ++ List.replicate (10 - (lg_sl ([.ref o, .int (nI lev)])).length) Slot.unset).toArray = ls at hl ⊢
  have hl : lv_has ls 10 [(0, .ref o), (1, .int (nI lev))] := hl
  have hK1 : 2 ≤ K ∧ K ≤ 256 := by have := pd_twole hlev; omega
  obtain ⟨vS, cdS, NS, fS, hSS, hrepS⟩ := id hSt
  obtain ⟨ect, row, hEC, hET, hER⟩ := hZ.2.2.2.2.2.1
  have hRow : va_T .int (row lev) K (fun j => .int (nI (pd_c lev j))) A s s.heap := by rw [hKd]; exact hER lev hlev
  obtain ⟨E, hE⟩ : ∃ E : Nat → Nat → Nat, E = pd_ec (pd_c lev) K w := ⟨_, rfl⟩
  have hE0 : ∀ x, E 0 x = 0 := fun x => by rw [hE]; rfl
  have hEs : ∀ i, E (i + 1) = pd_step (pd_c lev) K (E i) (w i) := fun i => by rw [hE]; rfl
  have hElt : ∀ i j, E i j < 929 := fun i j => by rw [hE]; exact pd_ec_lt _ _ _ _ _
  have hcl : ∀ j, pd_c lev j < 929 := pd_c_lt lev
  rw [← hE]
  refine lv_iload_n hx hb dX3_generateErrorCorrection_0 rfl (lv_at hl 1 rfl) ?_
  refine va_calli (va_runS (As := [.int (nI lev)]) (rest := []) ⟨hx, hb, hml, hown, hts⟩ (m_X3cnt l lev hlev) (va_cwS 1 hts (lw_S q261 q127 q8 q128) rfl rfl rfl (by decide +kernel) ⟨Nat.le_of_ble_eq_true rfl, Nat.le_of_ble_eq_true rfl⟩) (pd_pre (fun a U g mk q => trivial) (fun U hU hW => trivial)) rfl rfl hl.1 rfl (lv_room (Nat.le_of_ble_eq_true rfl)) dX3_generateErrorCorrection_1 ⟨Nat.zero_le _, Nat.zero_le _⟩) hS pd_Fin2 pd_Fin (fun r9 u_1 t H1 locs ht hvm hw9 hB hz1 hk1 hS => ?_)
  have hP := pd_keep hP hk1
  generalize H1 = H at hP hS ⊢
  obtain rfl : r9 = (nI K) := hw9.trans (by rw [← hKd])
  refine lv_istore_n (lv' := [(2, .int (nI K)), (0, .ref o), (1, .int (nI lev))]) hx hb dX3_generateErrorCorrection_4 rfl hl (by decide) rfl (fun ls hl => ?_)
  refine lv_iload_n hx hb dX3_generateErrorCorrection_5 rfl (lv_at hl 0 rfl) ?_
  refine pd_newc (N := K) hx hb (hts _ q38) hK hP hD hS hA (rfl) (by omega) (by show 0 + 0 + 1 ≤ 300; omega) (by show 0 + 0 + K ≤ 133000; omega) dX3_generateErrorCorrection_6 (fun ea H hP hD hS => ?_)
  have hP : va_P D pd_cl [(ea, .inl (cC, K, .inl (fun _ => 0)))] H := hP
  have hD : va_D A [(ea, .inl (cC, K, .inl (fun _ => 0)))] := hD
  refine lv_astore_n (lv' := [(3, .ref ea), (2, .int (nI K)), (0, .ref o), (1, .int (nI lev))]) hx hb dX3_generateErrorCorrection_8 rfl hl (by decide) rfl (fun ls hl => ?_)
  refine lv_aload_n hx hb dX3_generateErrorCorrection_9 rfl (lv_at hl 2 rfl) ?_
  refine va_callFi (va_runF ((hK.1 0 _ rfl).2) (As := []) (rest := []) ⟨hx, hb, hml, hown, hts⟩ (m_J0len l o n w (by omega)) (va_cwF 0 hts (lw_app (pd_in4 q263 q267 q50 q4) (lw_meth q52)) rfl rfl rfl (hZ.2.2.2.2.2.2.2.2.1) (by decide +kernel) ⟨Nat.le_of_ble_eq_true rfl, Nat.le_of_ble_eq_true rfl⟩) (pd_preV (fun a U g mk q => ⟨pd_Z.same (s := U) (U := U.calling g mk a) rfl q.1, pd_S.moved (u := U) (U := U.calling g mk a) (Vm.Alike.refl U.vm) q.2⟩) (pd_Orecv hSS.1 hS) (fun U hU hW => ⟨pd_Z.call hZ hS hW hU pd_Fin, pd_S.call hSt hS hW hU pd_Fin⟩)) rfl rfl hl.1 rfl (lv_room (Nat.le_of_ble_eq_true rfl)) dX3_generateErrorCorrection_10 ⟨by show 0 + 0 + 1 + 0 ≤ 300; omega, by show 0 + 0 + K + 0 ≤ 133000; omega⟩) hS pd_Fin2 pd_Fin (fun r9 u_2 t H1 locs ht hvm hw9 hB hz1 hk1 hS => ?_)
  have hP := pd_keep hP hk1
  generalize H1 = H at hP hS ⊢
  obtain rfl : r9 = (nI n) := hw9
  refine lv_istore (lv' := [(4, .int (nI n)), (3, .ref ea), (2, .int (nI K)), (0, .ref o), (1, .int (nI lev))]) hx hb dX3_generateErrorCorrection_15 hl (by decide) rfl (fun ls hl => ?_)
  refine lv_iconst (v := 0) hx hb dX3_generateErrorCorrection_17 (by decide) ?_
  refine lv_istore (lv' := [(5, .int 0), (4, .int (nI n)), (3, .ref ea), (2, .int (nI K)), (0, .ref o), (1, .int (nI lev))]) hx hb dX3_generateErrorCorrection_18 hl (by decide) rfl (fun ls hl => ?_)
  refine pd_loop (fun k H locs cs sl g => ∃ (i : Nat) (f1 : Nat → Int32) (ls : Array Slot), n - i = k ∧ g = F0 m 20 ls [] ∧ cs = 1 ∧ K = sl ∧ (i ≤ n) ∧ (∀ x, x < K → f1 x = nI (E i x)) ∧ lv_has ls 10 [(5, .int (nI i)), (0, .ref o), (1, .int (nI lev)), (2, .int (nI K)), (3, .ref ea), (4, .int (nI n))] ∧ va_P D pd_cl [(ea, .inl (cC, K, .inl (f1)))] H ∧ va_D A [(ea, .inl (cC, K, .inl (f1)))] ∧ va_S A s.heap H locs) ?_ _ (⟨0, fun _ => 0, ls, rfl, rfl, rfl, by show K = 0 + 0 + K + 0; omega, Nat.zero_le _, fun x hx => by rw [hE0]; rfl, lv_sub hl [0, 4, 5, 3, 2, 1] rfl, hP.sub [0] rfl, hD.sub [0] (by decide) rfl, hS⟩)
  intro k ih1 H locs cs sl g hI
  obtain ⟨i, f1, ls, rfl, rfl, rfl, rfl, hi, hf, hl, hP, hD, hS⟩ := hI
  refine lv_iload hx hb dX3_generateErrorCorrection_20 (lv_at hl 0 rfl) ?_
  refine lv_iload hx hb dX3_generateErrorCorrection_22 (lv_at hl 5 rfl) ?_
  refine lv_icmp_ge (tgt := 148) hx hb dX3_generateErrorCorrection_24 (by decide) (fun c1 => ?_) (fun c1 => ?_)
  · have hin1 : i = n := Nat.le_antisymm hi ((nI_leI (by omega) (by omega)).mp c1)
    rw [hin1] at hf
    refine va_new (ci := 1) (fs := [.null, .int 0, .int 0, .int 0]) (C := RJ10) (T := TJ10) (N := 4) hx hb hts in_J10 tyJ10 tyJ10_ok hown (hts _ q302) (hts _ q303) (hts _ q15) hK hP hD hS hA rfl (fun j hj => by rcases (show j = 0 ∨ j = 1 ∨ j = 2 ∨ j = 3 by omega) with rfl | rfl | rfl | rfl <;> rfl) (by show 1 + 1 ≤ 300; omega) (by show K + 4 ≤ 133000; omega) dX3_generateErrorCorrection_148 (fun sb H hP hD hS => ?_)
    have hP : va_P D pd_cl [(ea, .inl (cC, K, .inl (f1))), (sb, .inr (1, [.null, .int 0, .int 0, .int 0]))] H := hP
    have hD : va_D A [(ea, .inl (cC, K, .inl (f1))), (sb, .inr (1, [.null, .int 0, .int 0, .int 0]))] := hD
    refine lv_dup hx hb dX3_generateErrorCorrection_151 rfl ?_
    refine lv_iload_n hx hb dX3_generateErrorCorrection_152 rfl (lv_at hl 3 rfl) ?_
    have hPc := hP.sub (ws' := [(sb, .inr (1, [.null, .int 0, .int 0, .int 0]))]) [1] rfl
    have hDc := hD.sub (ws' := [(sb, .inr (1, [.null, .int 0, .int 0, .int 0]))]) [1] (by decide) rfl
    have hFc := va_free (wc := [(sb, .inr (1, [.null, .int 0, .int 0, .int 0]))]) hD hS hA [1] rfl
    refine va_callv (va_runI (As := [.int (nI K)]) (rest := [.ref sb]) ⟨hx, hb, hml, hown, hts⟩ (m_J10init l D cB cC cI _ sb K (by omega)) (cwI 1 hts (lw_meth q306) rfl rfl rfl (hts _ q15) (hts _ q304) (hts _ q305) rfl (by decide +kernel) ⟨Nat.le_of_ble_eq_true rfl, Nat.le_of_ble_eq_true rfl⟩) (pd_pre (fun a U g mk q => pd_BA.blind q) (fun U hU hW => pd_BA.pass hPc hDc hK hZ hS hFc hU hW)) rfl rfl hl.1 rfl (lv_room (Nat.le_of_ble_eq_true rfl)) dX3_generateErrorCorrection_153 ⟨by show 1 + 1 + 1 ≤ 300; omega, by show K + 4 + K ≤ 133000; omega⟩) hS (fun q _ h => hFc q h) hFc (fun u_3 t H1 locs ht hvm hw9 hB hz1 hk1 hS => ?_)
    obtain ⟨v, hP1, hD1⟩ := hB
    rw [ht] at hP1
    obtain ⟨hP, hD⟩ := va_join (wr := [(ea, .inl (cC, K, .inl (f1)))]) (w1 := [(sb, .inr (1, [.ref v, .int 0, .int 0, .int 0])), (v, .inl (cB, K, .inl (fun _ => 0)))]) hP hD [1] [0] rfl rfl (by decide) (by decide) hk1 hFc hP1 hD1
    generalize H1 = H at hP hS ⊢
    have hP : va_P D pd_cl [(ea, .inl (cC, K, .inl (f1))), (sb, .inr (1, [.ref v, .int 0, .int 0, .int 0])), (v, .inl (cB, K, .inl (fun _ => 0)))] H := hP
    have hD : va_D A [(ea, .inl (cC, K, .inl (f1))), (sb, .inr (1, [.ref v, .int 0, .int 0, .int 0])), (v, .inl (cB, K, .inl (fun _ => 0)))] := hD
    refine lv_astore (lv' := [(5, .ref sb), (0, .ref o), (1, .int (nI lev)), (2, .int (nI K)), (3, .ref ea), (4, .int (nI n))]) hx hb dX3_generateErrorCorrection_156 hl (by decide) rfl (fun ls hl => ?_)
    refine lv_iload_n hx hb dX3_generateErrorCorrection_158 rfl (lv_at hl 3 rfl) ?_
    refine lv_iconst (v := (nI 1)) hx hb dX3_generateErrorCorrection_159 (by decide) ?_
    refine pd_isub (v := (nI K - 1)) hx hb dX3_generateErrorCorrection_160 (by rw [show nI 1 = 1 by decide]) ?_
    refine lv_istore (lv' := [(6, .int (nI K - 1)), (5, .ref sb), (0, .ref o), (1, .int (nI lev)), (2, .int (nI K)), (3, .ref ea), (4, .int (nI n))]) hx hb dX3_generateErrorCorrection_161 hl (by decide) rfl (fun ls hl => ?_)
    have hP : va_P D pd_cl [(ea, .inl (cC, K, .inl (f1))), (sb, .inr (1, [.ref v, .int 0, .int 0, .int (nI (K - K))])), (v, .inl (cB, K, .inl (fun _ => 0)))] H := by rw [Nat.sub_self]; exact hP
    have hD : va_D A [(ea, .inl (cC, K, .inl (f1))), (sb, .inr (1, [.ref v, .int 0, .int 0, .int (nI (K - K))])), (v, .inl (cB, K, .inl (fun _ => 0)))] := by rw [Nat.sub_self]; exact hD
    refine pd_loop (fun k H locs cs sl g => ∃ (m0 : Nat) (fe : Nat → Int32) (v : Nat) (cd : Int32) (N : Nat) (f2 : Nat → Int32) (ls : Array Slot), m0 = k ∧ g = F0 m 163 ls [] ∧ cs + m0 ≤ 290 ∧ sl + m0 * 512 ≤ 132000 ∧ (m0 ≤ K) ∧ (∀ x, x < m0 → fe x = nI (E n x)) ∧ (pd_rep K (K - m0) (pd_out K (E n)) cd N f2) ∧ lv_has ls 10 [(6, .int (nI m0 - 1)), (3, .ref ea), (5, .ref sb)] ∧ va_P D pd_cl [(ea, .inl (cC, K, .inl (fe))), (sb, .inr (1, [.ref v, .int cd, .int 0, .int (nI (K - m0))])), (v, .inl (cB, N, .inl (f2)))] H ∧ va_D A [(ea, .inl (cC, K, .inl (fe))), (sb, .inr (1, [.ref v, .int cd, .int 0, .int (nI (K - m0))])), (v, .inl (cB, N, .inl (f2)))] ∧ va_S A s.heap H locs) ?_ _ (⟨K, f1, v, 0, K, fun _ => 0, ls, rfl, rfl, by show 1 + 1 + 1 + K ≤ 290; omega, by show K + 4 + K + K * 512 ≤ 132000; omega, Nat.le_refl _, fun x hx => hf x hx, by rw [Nat.sub_self]; exact pd_rep0 _ _, lv_sub hl [0, 5, 1] rfl, hP.sub [0, 1, 2] rfl, hD.sub [0, 1, 2] (by decide) rfl, hS⟩)
    intro k ih3 H locs cs sl g hI
    obtain ⟨m0, fe, v, cd, N, f2, ls, rfl, rfl, hcs, hsl, hm, hfe, hrep, hl, hP, hD, hS⟩ := hI
    rcases Nat.eq_zero_or_pos m0 with h0 | h0
    · subst h0
      rw [Nat.sub_zero] at hP hD hrep
      have hN9 := pd_repNle hrep
      refine lv_iload hx hb dX3_generateErrorCorrection_163 (lv_at hl 0 rfl) ?_
      refine lv_if_lt (tgt := 204) hx hb dX3_generateErrorCorrection_165 (by decide) (fun _ => ?_) (fun c9 => absurd (by decide) c9)
      refine lv_aload hx hb dX3_generateErrorCorrection_204 (lv_at hl 2 rfl) ?_
      have hPc := hP.sub (ws' := [(sb, .inr (1, [.ref v, .int cd, .int 0, .int (nI K)])), (v, .inl (cB, N, .inl (f2)))]) [1, 2] rfl
      have hDc := hD.sub (ws' := [(sb, .inr (1, [.ref v, .int cd, .int 0, .int (nI K)])), (v, .inl (cB, N, .inl (f2)))]) [1, 2] (by decide) rfl
      have hFc := va_free (wc := [(sb, .inr (1, [.ref v, .int cd, .int 0, .int (nI K)])), (v, .inl (cB, N, .inl (f2)))]) hD hS hA [1, 2] rfl
      refine va_callr (va_runV (As := []) (rest := []) ⟨hx, hb, hml, hown, hts⟩ (m_J10ts l D cB cC cI _ sb v K N (pd_out K (E n)) cd f2 (by omega) hrep) (cwV 0 hts (lw_V q386 q387 q388 q15 q389) rfl rfl rfl (by decide +kernel) ⟨Nat.le_of_ble_eq_true rfl, Nat.le_of_ble_eq_true rfl⟩) (pd_preV (fun a U g mk q => pd_BA.blind q) (va_recv hK hP (ci := 1) (q0 := 1) rfl rfl) (fun U hU hW => pd_BA.pass hPc hDc hK hZ hS hFc hU hW)) rfl rfl hl.1 rfl (lv_room (Nat.le_of_ble_eq_true rfl)) dX3_generateErrorCorrection_206 ⟨by show cs + 2 ≤ 300; omega, by show sl + (4 + N) ≤ 133000; omega⟩) hS (fun q _ h => hFc q h) hFc (fun u_4 o2 t H1 locs ht hvm hw9 hB hz1 hk1 hS => ?_)
      obtain ⟨v2, hP1, hD1⟩ := hB
      rw [ht] at hP1
      obtain ⟨hP, hD⟩ := va_join (wr := [(ea, .inl (cC, K, .inl (fe)))]) (w1 := [(o2, .inr (0, [.ref v2, .int cd, .int 0, .int 0])), (v2, .inl (cB, N, .inl (f2)))]) hP hD [1, 2] [0] rfl rfl (by decide) (by decide) hk1 hFc hP1 hD1
      generalize H1 = H at hP hS ⊢
      have hP : va_P D pd_cl [(ea, .inl (cC, K, .inl (fe))), (o2, .inr (0, [.ref v2, .int cd, .int 0, .int 0])), (v2, .inl (cB, N, .inl (f2)))] H := hP
      have hD : va_D A [(ea, .inl (cC, K, .inl (fe))), (o2, .inr (0, [.ref v2, .int cd, .int 0, .int 0])), (v2, .inl (cB, N, .inl (f2)))] := hD
      have hP9 := hP.sub (ws' := [(o2, .inr (0, [.ref v2, .int cd, .int 0, .int 0])), (v2, .inl (cB, N, .inl (f2)))]) [1, 2] rfl
      have hD9 := hD.sub (ws' := [(o2, .inr (0, [.ref v2, .int cd, .int 0, .int 0])), (v2, .inl (cB, N, .inl (f2)))]) [1, 2] (by decide) rfl
      refine W.widen (k := 300) (n := 133000) (by omega) (by omega) ?_
      exact W.aret (v := .ref o2) hx hb hr (Or.inl ⟨_, rfl⟩) (Or.inr ⟨_, rfl⟩) (fun t ht hW => ⟨⟨(), o2, rfl, trivial, v2, cd, N, f2, by rw [ht]; exact hP9, hD9, hrep⟩, hS.F ht⟩) hS.2.2 dX3_generateErrorCorrection_209
    · have e6 := pd_dec1 h0
      rw [e6] at hl
      have hEm := hElt n (m0 - 1)
      refine lv_iload hx hb dX3_generateErrorCorrection_163 (lv_at hl 0 rfl) ?_
      refine lv_if_lt (tgt := 204) hx hb dX3_generateErrorCorrection_165 (by decide) (fun c9 => absurd c9 (nI_pos (by omega))) (fun _ => ?_)
      refine lv_aload_n hx hb dX3_generateErrorCorrection_168 rfl (lv_at hl 1 rfl) ?_
      refine lv_iload hx hb dX3_generateErrorCorrection_169 (lv_at hl 0 rfl) ?_
      refine pd_cald (v := (nI (E n (m0 - 1)))) hx hb hK hP 0 1 rfl rfl (vp_in_nI (by omega) (by omega)) (pd_av (by omega) (hfe (m0 - 1) (by omega))) dX3_generateErrorCorrection_171 ?_
      refine lv_if_eq (tgt := 188) hx hb dX3_generateErrorCorrection_172 (by decide) (fun c3 => ?_) (fun c3 => ?_)
      · have hz : E n (m0 - 1) = 0 := (nI_eq (b := 0) (by omega) (by decide)).mp c3
        have hrd : fe (m0 - 1) = nI (pd_out K (E n) (K - m0)) := by rw [pd_out0 hm h0 hz]; exact hfe (m0 - 1) (by omega)
        refine lv_aload hx hb dX3_generateErrorCorrection_188 (lv_at hl 2 rfl) ?_
        refine lv_aload_n hx hb dX3_generateErrorCorrection_190 rfl (lv_at hl 1 rfl) ?_
        refine lv_iload hx hb dX3_generateErrorCorrection_191 (lv_at hl 0 rfl) ?_
        refine pd_cald (v := (nI (pd_out K (E n) (K - m0)))) hx hb hK hP 0 1 rfl rfl (vp_in_nI (by omega) (by omega)) (pd_av (by omega) hrd) dX3_generateErrorCorrection_193 ?_
        have hPc := hP.sub (ws' := [(sb, .inr (1, [.ref v, .int cd, .int 0, .int (nI (K - m0))])), (v, .inl (cB, N, .inl (f2)))]) [1, 2] rfl
        have hDc := hD.sub (ws' := [(sb, .inr (1, [.ref v, .int cd, .int 0, .int (nI (K - m0))])), (v, .inl (cB, N, .inl (f2)))]) [1, 2] (by decide) rfl
        have hFc := va_free (wc := [(sb, .inr (1, [.ref v, .int cd, .int 0, .int (nI (K - m0))])), (v, .inl (cB, N, .inl (f2)))]) hD hS hA [1, 2] rfl
        refine va_callr (va_runV (As := [.int (nI (pd_out K (E n) (K - m0)))]) (rest := []) ⟨hx, hb, hml, hown, hts⟩ (m_J10app l D cB cC cI _ sb v (K - m0) K N (pd_out K (E n)) cd f2 (by omega) (by omega) (Nat.lt_trans (pd_out_lt _ _ _) (by decide)) hrep) (cwV 1 hts (lw_V q325 q326 q327 q15 q328) rfl rfl rfl (by decide +kernel) ⟨Nat.le_of_ble_eq_true rfl, Nat.le_of_ble_eq_true rfl⟩) (pd_preV (fun a U g mk q => pd_BA.blind q) (va_recv hK hP (ci := 1) (q0 := 1) rfl rfl) (fun U hU hW => pd_BA.pass hPc hDc hK hZ hS hFc hU hW)) rfl rfl hl.1 rfl (lv_room (Nat.le_of_ble_eq_true rfl)) dX3_generateErrorCorrection_194 ⟨by show cs + 1 ≤ 300; omega, by show sl + 2 * K ≤ 133000; omega⟩) hS (fun q _ h => hFc q h) hFc (fun u_4 r_4 t H1 locs ht hvm hw9 hB hz1 hk1 hS => ?_)
        obtain ⟨ha9, v2, cd2, N2, f3, hP1, hD1, hrep2⟩ := hB
        rw [ht] at hP1
        obtain ⟨hP, hD⟩ := va_join (wr := [(ea, .inl (cC, K, .inl (fe)))]) (w1 := [(sb, .inr (1, [.ref v2, .int cd2, .int 0, .int (nI (K - m0 + 1))])), (v2, .inl (cB, N2, .inl (f3)))]) hP hD [1, 2] [0] rfl rfl (by decide) (by decide) hk1 hFc hP1 hD1
        generalize H1 = H at hP hS ⊢
        have hP : va_P D pd_cl [(ea, .inl (cC, K, .inl (fe))), (sb, .inr (1, [.ref v2, .int cd2, .int 0, .int (nI (K - m0 + 1))])), (v2, .inl (cB, N2, .inl (f3)))] H := hP
        have hD : va_D A [(ea, .inl (cC, K, .inl (fe))), (sb, .inr (1, [.ref v2, .int cd2, .int 0, .int (nI (K - m0 + 1))])), (v2, .inl (cB, N2, .inl (f3)))] := hD
        have e8 : K - m0 + 1 = K - (m0 - 1) := by omega
        rw [e8] at hP hD hrep2
        refine lv_pop hx hb dX3_generateErrorCorrection_197 rfl ?_
        refine lv_iinc (v := (nI (m0 - 1) - 1)) (lv' := [(6, .int (nI (m0 - 1) - 1)), (3, .ref ea), (5, .ref sb)]) hx hb dX3_generateErrorCorrection_198 hl (k := 0) rfl (pd_dec _) (by decide) rfl (fun ls hl => ?_)
        refine lv_goto (tgt := 163) hx hb dX3_generateErrorCorrection_201 (by decide) ?_
        exact ih3 _ (by omega) _ _ _ _ _ ⟨m0 - 1, fe, v2, cd2, N2, f3, ls, rfl, rfl, by show cs + 1 + (m0 - 1) ≤ 290; omega, by show sl + 2 * K + (m0 - 1) * 512 ≤ 132000; omega, by omega, fun x hx => hfe x (by omega), hrep2, lv_sub hl [0, 1, 2] rfl, hP.sub [0, 1, 2] rfl, hD.sub [0, 1, 2] (by decide) rfl, hS⟩
      · have hz : E n (m0 - 1) ≠ 0 := fun z => c3 (by rw [z]; rfl)
        have ho9 := pd_out1 hm h0 hz
        refine lv_aload_n hx hb dX3_generateErrorCorrection_175 rfl (lv_at hl 1 rfl) ?_
        refine lv_iload hx hb dX3_generateErrorCorrection_176 (lv_at hl 0 rfl) ?_
        refine lv_sipush (v := (nI 929)) hx hb dX3_generateErrorCorrection_178 (by decide) ?_
        refine lv_aload_n hx hb dX3_generateErrorCorrection_181 rfl (lv_at hl 1 rfl) ?_
        refine lv_iload hx hb dX3_generateErrorCorrection_182 (lv_at hl 0 rfl) ?_
        refine pd_cald (v := (nI (E n (m0 - 1)))) hx hb hK hP 0 1 rfl rfl (vp_in_nI (by omega) (by omega)) (pd_av (by omega) (hfe (m0 - 1) (by omega))) dX3_generateErrorCorrection_184 ?_
        refine pd_isub (v := (nI (929 - E n (m0 - 1)))) hx hb dX3_generateErrorCorrection_185 (pk_sub (by omega)) ?_
        refine lv_i2c (v := (nI (929 - E n (m0 - 1)))) hx hb dX3_generateErrorCorrection_186 (pd_i2c (by omega)) ?_
        refine pd_cast (f2 := upd fe (m0 - 1) (nI (pd_out K (E n) (K - m0)))) hx hb hK hP hD hS 0 1 rfl rfl (vp_in_nI (by omega) (by omega)) (by rw [nI_clamp (by omega), pd_vc (by omega), ho9]) dX3_generateErrorCorrection_187 (fun H locs hP hD hS => ?_)
        have hP : va_P D pd_cl [(ea, .inl (cC, K, .inl (upd fe (m0 - 1) (nI (pd_out K (E n) (K - m0)))))), (sb, .inr (1, [.ref v, .int cd, .int 0, .int (nI (K - m0))])), (v, .inl (cB, N, .inl (f2)))] H := hP
        have hD : va_D A [(ea, .inl (cC, K, .inl (upd fe (m0 - 1) (nI (pd_out K (E n) (K - m0)))))), (sb, .inr (1, [.ref v, .int cd, .int 0, .int (nI (K - m0))])), (v, .inl (cB, N, .inl (f2)))] := hD
        have hrd : upd fe (m0 - 1) (nI (pd_out K (E n) (K - m0))) (m0 - 1) = nI (pd_out K (E n) (K - m0)) := pk_us
        refine lv_aload hx hb dX3_generateErrorCorrection_188 (lv_at hl 2 rfl) ?_
        refine lv_aload_n hx hb dX3_generateErrorCorrection_190 rfl (lv_at hl 1 rfl) ?_
        refine lv_iload hx hb dX3_generateErrorCorrection_191 (lv_at hl 0 rfl) ?_
        refine pd_cald (v := (nI (pd_out K (E n) (K - m0)))) hx hb hK hP 0 1 rfl rfl (vp_in_nI (by omega) (by omega)) (pd_av (by omega) hrd) dX3_generateErrorCorrection_193 ?_
        have hPc := hP.sub (ws' := [(sb, .inr (1, [.ref v, .int cd, .int 0, .int (nI (K - m0))])), (v, .inl (cB, N, .inl (f2)))]) [1, 2] rfl
        have hDc := hD.sub (ws' := [(sb, .inr (1, [.ref v, .int cd, .int 0, .int (nI (K - m0))])), (v, .inl (cB, N, .inl (f2)))]) [1, 2] (by decide) rfl
        have hFc := va_free (wc := [(sb, .inr (1, [.ref v, .int cd, .int 0, .int (nI (K - m0))])), (v, .inl (cB, N, .inl (f2)))]) hD hS hA [1, 2] rfl
        refine va_callr (va_runV (As := [.int (nI (pd_out K (E n) (K - m0)))]) (rest := []) ⟨hx, hb, hml, hown, hts⟩ (m_J10app l D cB cC cI _ sb v (K - m0) K N (pd_out K (E n)) cd f2 (by omega) (by omega) (Nat.lt_trans (pd_out_lt _ _ _) (by decide)) hrep) (cwV 1 hts (lw_V q325 q326 q327 q15 q328) rfl rfl rfl (by decide +kernel) ⟨Nat.le_of_ble_eq_true rfl, Nat.le_of_ble_eq_true rfl⟩) (pd_preV (fun a U g mk q => pd_BA.blind q) (va_recv hK hP (ci := 1) (q0 := 1) rfl rfl) (fun U hU hW => pd_BA.pass hPc hDc hK hZ hS hFc hU hW)) rfl rfl hl.1 rfl (lv_room (Nat.le_of_ble_eq_true rfl)) dX3_generateErrorCorrection_194 ⟨by show cs + 1 ≤ 300; omega, by show sl + 2 * K ≤ 133000; omega⟩) hS (fun q _ h => hFc q h) hFc (fun u_4 r_4 t H1 locs ht hvm hw9 hB hz1 hk1 hS => ?_)
        obtain ⟨ha9, v2, cd2, N2, f3, hP1, hD1, hrep2⟩ := hB
        rw [ht] at hP1
        obtain ⟨hP, hD⟩ := va_join (wr := [(ea, .inl (cC, K, .inl (upd fe (m0 - 1) (nI (pd_out K (E n) (K - m0))))))]) (w1 := [(sb, .inr (1, [.ref v2, .int cd2, .int 0, .int (nI (K - m0 + 1))])), (v2, .inl (cB, N2, .inl (f3)))]) hP hD [1, 2] [0] rfl rfl (by decide) (by decide) hk1 hFc hP1 hD1
        generalize H1 = H at hP hS ⊢
        have hP : va_P D pd_cl [(ea, .inl (cC, K, .inl (upd fe (m0 - 1) (nI (pd_out K (E n) (K - m0)))))), (sb, .inr (1, [.ref v2, .int cd2, .int 0, .int (nI (K - m0 + 1))])), (v2, .inl (cB, N2, .inl (f3)))] H := hP
        have hD : va_D A [(ea, .inl (cC, K, .inl (upd fe (m0 - 1) (nI (pd_out K (E n) (K - m0)))))), (sb, .inr (1, [.ref v2, .int cd2, .int 0, .int (nI (K - m0 + 1))])), (v2, .inl (cB, N2, .inl (f3)))] := hD
        have e8 : K - m0 + 1 = K - (m0 - 1) := by omega
        rw [e8] at hP hD hrep2
        refine lv_pop hx hb dX3_generateErrorCorrection_197 rfl ?_
        refine lv_iinc (v := (nI (m0 - 1) - 1)) (lv' := [(6, .int (nI (m0 - 1) - 1)), (3, .ref ea), (5, .ref sb)]) hx hb dX3_generateErrorCorrection_198 hl (k := 0) rfl (pd_dec _) (by decide) rfl (fun ls hl => ?_)
        refine lv_goto (tgt := 163) hx hb dX3_generateErrorCorrection_201 (by decide) ?_
        exact ih3 _ (by omega) _ _ _ _ _ ⟨m0 - 1, upd fe (m0 - 1) (nI (pd_out K (E n) (K - m0))), v2, cd2, N2, f3, ls, rfl, rfl, by show cs + 1 + (m0 - 1) ≤ 290; omega, by show sl + 2 * K + (m0 - 1) * 512 ≤ 132000; omega, by omega, fun x hx => by rw [pk_un (by omega)]; exact hfe x (by omega), hrep2, lv_sub hl [0, 1, 2] rfl, hP.sub [0, 1, 2] rfl, hD.sub [0, 1, 2] (by decide) rfl, hS⟩
  · have hin1 : i < n := Nat.lt_of_not_le (fun z => c1 (nI_le z (by omega)))
    have hwi := hw i hin1
    have hE9 := hElt i (K - 1)
    refine lv_aload_n hx hb dX3_generateErrorCorrection_27 rfl (lv_at hl 1 rfl) ?_
    refine lv_iload hx hb dX3_generateErrorCorrection_28 (lv_at hl 0 rfl) ?_
    refine va_callFi (va_runF ((hK.1 0 _ rfl).2) (As := [.int (nI i)]) (rest := []) ⟨hx, hb, hml, hown, hts⟩ (m_J0ca l o n i w hin1 (by omega)) (va_cwF 1 hts (lw_app (pd_in4 q281 q284 q60 q4) (lw_meth q62)) rfl rfl rfl (hZ.2.2.2.2.2.2.2.2.2) (by decide +kernel) ⟨Nat.le_of_ble_eq_true rfl, Nat.le_of_ble_eq_true rfl⟩) (pd_preV (fun a U g mk q => ⟨pd_Z.same (s := U) (U := U.calling g mk a) rfl q.1, pd_S.moved (u := U) (U := U.calling g mk a) (Vm.Alike.refl U.vm) q.2⟩) (pd_Orecv hSS.1 hS) (fun U hU hW => ⟨pd_Z.call hZ hS hW hU pd_Fin, pd_S.call hSt hS hW hU pd_Fin⟩)) rfl rfl hl.1 rfl (lv_room (Nat.le_of_ble_eq_true rfl)) dX3_generateErrorCorrection_30 ⟨by show 1 + 0 ≤ 300; omega, by show K + 0 ≤ 133000; omega⟩) hS pd_Fin2 pd_Fin (fun r9 u_3 t H1 locs ht hvm hw9 hB hz1 hk1 hS => ?_)
    have hP := pd_keep hP hk1
    generalize H1 = H at hP hS ⊢
    obtain rfl : r9 = (nI (w i)) := hw9
    refine lv_aload_n hx hb dX3_generateErrorCorrection_35 rfl (lv_at hl 4 rfl) ?_
    refine lv_aload_n hx hb dX3_generateErrorCorrection_36 rfl (lv_at hl 4 rfl) ?_
    refine va_alen (v := (nI K)) hx hb hK hP 0 1 rfl rfl (rfl) dX3_generateErrorCorrection_37 ?_
    refine lv_iconst (v := (nI 1)) hx hb dX3_generateErrorCorrection_38 (by decide) ?_
    refine pd_isub (v := (nI (K - 1))) hx hb dX3_generateErrorCorrection_39 (pk_sub (by omega)) ?_
    refine pd_cald (v := (nI (E i (K - 1)))) hx hb hK hP 0 1 rfl rfl (vp_in_nI (by omega) (by omega)) (pd_av (by omega) (hf (K - 1) (by omega))) dX3_generateErrorCorrection_40 ?_
    refine pd_iadd (v := (nI (w i + E i (K - 1)))) hx hb dX3_generateErrorCorrection_41 (nI_add _ _) ?_
    refine lv_sipush (v := (nI 929)) hx hb dX3_generateErrorCorrection_42 (by decide) ?_
    refine pd_irem (v := (nI (pd_t1 K (E i) (w i)))) hx hb dX3_generateErrorCorrection_45 (nI_ne0 (by decide) (by decide)) (pd_rem (by omega) (by decide) (by decide)) ?_
    have ht1 : pd_t1 K (E i) (w i) < 929 := Nat.mod_lt _ (by decide)
    refine lv_istore (lv' := [(6, .int (nI (pd_t1 K (E i) (w i)))), (5, .int (nI i)), (0, .ref o), (1, .int (nI lev)), (2, .int (nI K)), (3, .ref ea), (4, .int (nI n))]) hx hb dX3_generateErrorCorrection_46 hl (by decide) rfl (fun ls hl => ?_)
    refine lv_iload_n hx hb dX3_generateErrorCorrection_48 rfl (lv_at hl 4 rfl) ?_
    refine lv_iconst (v := (nI 1)) hx hb dX3_generateErrorCorrection_49 (by decide) ?_
    refine pd_isub (v := (nI (K - 1))) hx hb dX3_generateErrorCorrection_50 (pk_sub (by omega)) ?_
    refine lv_istore (lv' := [(9, .int (nI (K - 1))), (6, .int (nI (pd_t1 K (E i) (w i)))), (5, .int (nI i)), (0, .ref o), (1, .int (nI lev)), (2, .int (nI K)), (3, .ref ea), (4, .int (nI n))]) hx hb dX3_generateErrorCorrection_51 hl (by decide) rfl (fun ls hl => ?_)
    refine pd_loop (fun k H locs cs sl g => ∃ (j : Nat) (f1 : Nat → Int32) (ls : Array Slot), j = k ∧ g = F0 m 53 ls [] ∧ cs = 1 ∧ K = sl ∧ (j < K) ∧ (∀ x, x < K → f1 x = nI (if j < x then E (i + 1) x else E i x)) ∧ lv_has ls 10 [(9, .int (nI j)), (6, .int (nI (pd_t1 K (E i) (w i)))), (5, .int (nI i)), (0, .ref o), (1, .int (nI lev)), (2, .int (nI K)), (3, .ref ea), (4, .int (nI n))] ∧ va_P D pd_cl [(ea, .inl (cC, K, .inl (f1)))] H ∧ va_D A [(ea, .inl (cC, K, .inl (f1)))] ∧ va_S A s.heap H locs) ?_ _ (⟨K - 1, f1, ls, rfl, rfl, rfl, rfl, by omega, fun x hx => by rw [if_neg (by omega)]; exact hf x hx, lv_sub hl [0, 1, 2, 3, 4, 5, 6, 7] rfl, hP.sub [0] rfl, hD.sub [0] (by decide) rfl, hS⟩)
    intro k ih2 H locs cs sl g hI
    obtain ⟨j, f1, ls, rfl, rfl, rfl, rfl, hj, hg, hl, hP, hD, hS⟩ := hI
    refine lv_iload hx hb dX3_generateErrorCorrection_53 (lv_at hl 0 rfl) ?_
    refine lv_iconst (v := (nI 1)) hx hb dX3_generateErrorCorrection_55 (by decide) ?_
    refine lv_icmp_lt (tgt := 108) hx hb dX3_generateErrorCorrection_56 (by decide) (fun c2 => ?_) (fun c2 => ?_)
    · have hj0 : j = 0 := by have := (nI_ltI (a := j) (b := 1) (by omega) (by decide)).mp c2; omega
      subst hj0
      have hcj := hcl 0
      have hmul : pd_t1 K (E i) (w i) * pd_c lev 0 ≤ 928 * 928 := Nat.mul_le_mul (by omega) (by omega)
      refine lv_iload hx hb dX3_generateErrorCorrection_108 (lv_at hl 1 rfl) ?_
      refine va_gets hx hb hEC hS hown (hts _ q300) (fun _ h9 => h9) dX3_generateErrorCorrection_110 ?_
      refine lv_iload_n hx hb dX3_generateErrorCorrection_113 rfl (lv_at hl 4 rfl) ?_
      refine pd_tq (v := .ref (row lev)) hx hb rfl hET hS (vp_in_nI (by omega) (by decide)) (congrArg (fun z => Value.ref (row z)) (nI_clamp (by omega))) dX3_generateErrorCorrection_114 ?_
      refine lv_iconst (v := nI 0) hx hb dX3_generateErrorCorrection_115 (by decide) ?_
      refine va_ti (v := .int (nI (pd_c lev 0))) hx hb hRow hS (vp_in_nI (by omega) (by omega)) (congrArg (fun z => Value.int (nI (pd_c lev z))) (nI_clamp (by omega))) dX3_generateErrorCorrection_116 ?_
      refine pd_imul (v := (nI (pd_t1 K (E i) (w i) * pd_c lev 0))) hx hb dX3_generateErrorCorrection_117 (pk_mul _ _) ?_
      refine lv_sipush (v := (nI 929)) hx hb dX3_generateErrorCorrection_118 (by decide) ?_
      refine pd_irem (v := (nI (pd_t1 K (E i) (w i) * pd_c lev 0 % 929))) hx hb dX3_generateErrorCorrection_121 (nI_ne0 (by decide) (by decide)) (pd_rem (by omega) (by decide) (by decide)) ?_
      refine lv_istore (lv' := [(7, .int (nI (pd_t1 K (E i) (w i) * pd_c lev 0 % 929))), (9, .int (nI 0)), (6, .int (nI (pd_t1 K (E i) (w i)))), (5, .int (nI i)), (0, .ref o), (1, .int (nI lev)), (2, .int (nI K)), (3, .ref ea), (4, .int (nI n))]) hx hb dX3_generateErrorCorrection_122 hl (by decide) rfl (fun ls hl => ?_)
      refine lv_sipush (v := (nI 929)) hx hb dX3_generateErrorCorrection_124 (by decide) ?_
      refine lv_iload hx hb dX3_generateErrorCorrection_127 (lv_at hl 0 rfl) ?_
      refine pd_isub (v := (nI (929 - pd_t1 K (E i) (w i) * pd_c lev 0 % 929))) hx hb dX3_generateErrorCorrection_129 (pk_sub (Nat.le_of_lt (Nat.mod_lt _ (by decide)))) ?_
      refine lv_istore (lv' := [(8, .int (nI (929 - pd_t1 K (E i) (w i) * pd_c lev 0 % 929))), (7, .int (nI (pd_t1 K (E i) (w i) * pd_c lev 0 % 929))), (9, .int (nI 0)), (6, .int (nI (pd_t1 K (E i) (w i)))), (5, .int (nI i)), (0, .ref o), (1, .int (nI lev)), (2, .int (nI K)), (3, .ref ea), (4, .int (nI n))]) hx hb dX3_generateErrorCorrection_130 hl (by decide) rfl (fun ls hl => ?_)
      have hv9 : ((929 - pd_t1 K (E i) (w i) * pd_c lev 0 % 929) % 929) < 929 := Nat.mod_lt _ (by decide)
      refine lv_aload_n hx hb dX3_generateErrorCorrection_132 rfl (lv_at hl 8 rfl) ?_
      refine lv_iconst (v := nI 0) hx hb dX3_generateErrorCorrection_133 (by decide) ?_
      refine lv_iload hx hb dX3_generateErrorCorrection_134 (lv_at hl 0 rfl) ?_
      refine lv_sipush (v := (nI 929)) hx hb dX3_generateErrorCorrection_136 (by decide) ?_
      refine pd_irem (v := (nI ((929 - pd_t1 K (E i) (w i) * pd_c lev 0 % 929) % 929))) hx hb dX3_generateErrorCorrection_139 (nI_ne0 (by decide) (by decide)) (pd_rem (by omega) (by decide) (by decide)) ?_
      refine lv_i2c (v := (nI ((929 - pd_t1 K (E i) (w i) * pd_c lev 0 % 929) % 929))) hx hb dX3_generateErrorCorrection_140 (pd_i2c (by omega)) ?_
      refine pd_cast (f2 := upd f1 0 (nI ((929 - pd_t1 K (E i) (w i) * pd_c lev 0 % 929) % 929))) hx hb hK hP hD hS 0 1 rfl rfl (vp_in_nI (by omega) (by omega)) (by rw [nI_clamp (by omega), pd_vc (by omega)]) dX3_generateErrorCorrection_141 (fun H locs hP hD hS => ?_)
      have hP : va_P D pd_cl [(ea, .inl (cC, K, .inl (upd f1 0 (nI ((929 - pd_t1 K (E i) (w i) * pd_c lev 0 % 929) % 929)))))] H := hP
      have hD : va_D A [(ea, .inl (cC, K, .inl (upd f1 0 (nI ((929 - pd_t1 K (E i) (w i) * pd_c lev 0 % 929) % 929)))))] := hD
      refine lv_iinc (v := (nI (i + 1))) (lv' := [(5, .int (nI (i + 1))), (8, .int (nI (929 - pd_t1 K (E i) (w i) * pd_c lev 0 % 929))), (7, .int (nI (pd_t1 K (E i) (w i) * pd_c lev 0 % 929))), (9, .int (nI 0)), (6, .int (nI (pd_t1 K (E i) (w i)))), (0, .ref o), (1, .int (nI lev)), (2, .int (nI K)), (3, .ref ea), (4, .int (nI n))]) hx hb dX3_generateErrorCorrection_142 hl (k := 4) rfl (nI_1 i) (by decide) rfl (fun ls hl => ?_)
      refine lv_goto (tgt := 20) hx hb dX3_generateErrorCorrection_145 (by decide) ?_
      exact ih1 _ (by omega) _ _ _ _ _ ⟨i + 1, upd f1 0 (nI ((929 - pd_t1 K (E i) (w i) * pd_c lev 0 % 929) % 929)), ls, rfl, rfl, rfl, rfl, hin1, pd_inv0 hg (by rw [hEs]; rfl), lv_sub hl [0, 5, 6, 7, 8, 9] rfl, hP.sub [0] rfl, hD.sub [0] (by decide) rfl, hS⟩
    · have hj1 : 1 ≤ j := Nat.le_of_not_lt (fun z => c2 (nI_lt z (by omega)))
      have hcj := hcl j
      have hmul : pd_t1 K (E i) (w i) * pd_c lev j ≤ 928 * 928 := Nat.mul_le_mul (by omega) (by omega)
      refine lv_iload hx hb dX3_generateErrorCorrection_59 (lv_at hl 1 rfl) ?_
      refine va_gets hx hb hEC hS hown (hts _ q300) (fun _ h9 => h9) dX3_generateErrorCorrection_61 ?_
      refine lv_iload_n hx hb dX3_generateErrorCorrection_64 rfl (lv_at hl 4 rfl) ?_
      refine pd_tq (v := .ref (row lev)) hx hb rfl hET hS (vp_in_nI (by omega) (by decide)) (congrArg (fun z => Value.ref (row z)) (nI_clamp (by omega))) dX3_generateErrorCorrection_65 ?_
      refine lv_iload hx hb dX3_generateErrorCorrection_66 (lv_at hl 0 rfl) ?_
      refine va_ti (v := .int (nI (pd_c lev j))) hx hb hRow hS (vp_in_nI (by omega) (by omega)) (congrArg (fun z => Value.int (nI (pd_c lev z))) (nI_clamp (by omega))) dX3_generateErrorCorrection_68 ?_
      refine pd_imul (v := (nI (pd_t1 K (E i) (w i) * pd_c lev j))) hx hb dX3_generateErrorCorrection_69 (pk_mul _ _) ?_
      refine lv_sipush (v := (nI 929)) hx hb dX3_generateErrorCorrection_70 (by decide) ?_
      refine pd_irem (v := (nI (pd_t1 K (E i) (w i) * pd_c lev j % 929))) hx hb dX3_generateErrorCorrection_73 (nI_ne0 (by decide) (by decide)) (pd_rem (by omega) (by decide) (by decide)) ?_
      refine lv_istore (lv' := [(7, .int (nI (pd_t1 K (E i) (w i) * pd_c lev j % 929))), (9, .int (nI j)), (6, .int (nI (pd_t1 K (E i) (w i)))), (5, .int (nI i)), (0, .ref o), (1, .int (nI lev)), (2, .int (nI K)), (3, .ref ea), (4, .int (nI n))]) hx hb dX3_generateErrorCorrection_74 hl (by decide) rfl (fun ls hl => ?_)
      refine lv_sipush (v := (nI 929)) hx hb dX3_generateErrorCorrection_76 (by decide) ?_
      refine lv_iload hx hb dX3_generateErrorCorrection_79 (lv_at hl 0 rfl) ?_
      refine pd_isub (v := (nI (929 - pd_t1 K (E i) (w i) * pd_c lev j % 929))) hx hb dX3_generateErrorCorrection_81 (pk_sub (Nat.le_of_lt (Nat.mod_lt _ (by decide)))) ?_
      refine lv_istore (lv' := [(8, .int (nI (929 - pd_t1 K (E i) (w i) * pd_c lev j % 929))), (7, .int (nI (pd_t1 K (E i) (w i) * pd_c lev j % 929))), (9, .int (nI j)), (6, .int (nI (pd_t1 K (E i) (w i)))), (5, .int (nI i)), (0, .ref o), (1, .int (nI lev)), (2, .int (nI K)), (3, .ref ea), (4, .int (nI n))]) hx hb dX3_generateErrorCorrection_82 hl (by decide) rfl (fun ls hl => ?_)
      have hv9 : ((E i (j - 1) + (929 - pd_t1 K (E i) (w i) * pd_c lev j % 929)) % 929) < 929 := Nat.mod_lt _ (by decide)
      have hE8 := hElt i (j - 1)
      refine lv_aload_n hx hb dX3_generateErrorCorrection_84 rfl (lv_at hl 8 rfl) ?_
      refine lv_iload hx hb dX3_generateErrorCorrection_85 (lv_at hl 2 rfl) ?_
      refine lv_aload_n hx hb dX3_generateErrorCorrection_87 rfl (lv_at hl 8 rfl) ?_
      refine lv_iload hx hb dX3_generateErrorCorrection_88 (lv_at hl 2 rfl) ?_
      refine lv_iconst (v := (nI 1)) hx hb dX3_generateErrorCorrection_90 (by decide) ?_
      refine pd_isub (v := (nI (j - 1))) hx hb dX3_generateErrorCorrection_91 (pk_sub hj1) ?_
      refine pd_cald (v := (nI (E i (j - 1)))) hx hb hK hP 0 1 rfl rfl (vp_in_nI (by omega) (by omega)) (pd_av (by omega) ((hg (j - 1) (by omega)).trans (by rw [if_neg (by omega)]))) dX3_generateErrorCorrection_92 ?_
      refine lv_iload hx hb dX3_generateErrorCorrection_93 (lv_at hl 0 rfl) ?_
      refine pd_iadd (v := (nI (E i (j - 1) + (929 - pd_t1 K (E i) (w i) * pd_c lev j % 929)))) hx hb dX3_generateErrorCorrection_95 (nI_add _ _) ?_
      refine lv_sipush (v := (nI 929)) hx hb dX3_generateErrorCorrection_96 (by decide) ?_
      refine pd_irem (v := (nI ((E i (j - 1) + (929 - pd_t1 K (E i) (w i) * pd_c lev j % 929)) % 929))) hx hb dX3_generateErrorCorrection_99 (nI_ne0 (by decide) (by decide)) (pd_rem (by omega) (by decide) (by decide)) ?_
      refine lv_i2c (v := (nI ((E i (j - 1) + (929 - pd_t1 K (E i) (w i) * pd_c lev j % 929)) % 929))) hx hb dX3_generateErrorCorrection_100 (pd_i2c (by omega)) ?_
      refine pd_cast (f2 := upd f1 j (nI ((E i (j - 1) + (929 - pd_t1 K (E i) (w i) * pd_c lev j % 929)) % 929))) hx hb hK hP hD hS 0 1 rfl rfl (vp_in_nI (by omega) (by omega)) (by rw [nI_clamp (by omega), pd_vc (by omega)]) dX3_generateErrorCorrection_101 (fun H locs hP hD hS => ?_)
      have hP : va_P D pd_cl [(ea, .inl (cC, K, .inl (upd f1 j (nI ((E i (j - 1) + (929 - pd_t1 K (E i) (w i) * pd_c lev j % 929)) % 929)))))] H := hP
      have hD : va_D A [(ea, .inl (cC, K, .inl (upd f1 j (nI ((E i (j - 1) + (929 - pd_t1 K (E i) (w i) * pd_c lev j % 929)) % 929)))))] := hD
      refine lv_iinc (v := (nI (j - 1))) (lv' := [(9, .int (nI (j - 1))), (8, .int (nI (929 - pd_t1 K (E i) (w i) * pd_c lev j % 929))), (7, .int (nI (pd_t1 K (E i) (w i) * pd_c lev j % 929))), (6, .int (nI (pd_t1 K (E i) (w i)))), (5, .int (nI i)), (0, .ref o), (1, .int (nI lev)), (2, .int (nI K)), (3, .ref ea), (4, .int (nI n))]) hx hb dX3_generateErrorCorrection_102 hl (k := 2) rfl (pd_decn hj1) (by decide) rfl (fun ls hl => ?_)
      refine lv_goto (tgt := 53) hx hb dX3_generateErrorCorrection_105 (by decide) ?_
      exact ih2 _ (by omega) _ _ _ _ _ ⟨j - 1, upd f1 j (nI ((E i (j - 1) + (929 - pd_t1 K (E i) (w i) * pd_c lev j % 929)) % 929)), ls, rfl, rfl, rfl, rfl, by omega, pd_inv hg hj1 (by rw [hEs, pd_stepj _ _ _ _ hj1]), lv_sub hl [0, 3, 4, 5, 6, 7, 8, 9] rfl, hP.sub [0] rfl, hD.sub [0] (by decide) rfl, hS⟩
end
section
/-! NUMBERS of the desk's and the law's walks -/
def pd_u (x : Int32) : Nat := x.toBitVec.toNat % 2147483648
theorem pd_u_lt (x : Int32) : pd_u x < 2147483648 := Nat.mod_lt _ (by decide)
theorem pd_mask (x : Int32) : x &&& 2147483647 = nI (pd_u x) := pd_m31 x
theorem pd_u_nI {n : Nat} (h : n < 2147483648) : pd_u (nI n) = n := by
  unfold pd_u
  rw [pk_tn (by omega), Nat.mod_eq_of_lt h]
theorem pd_u_m1 : pd_u (-1) = 2147483647 := by decide
/-- two letters more -/
def pd_wput (w : Nat → Nat) (n x y : Nat) : Nat → Nat := fun j => if j = n then x else if j = n + 1 then y else w j
theorem pd_wput_eq (w : Nat → Nat) (n x y : Nat) : upd (upd (fun j => nI (w j)) n (nI x)) (n + 1) (nI y) = fun j => nI (pd_wput w n x y j) := by
  funext j
  unfold pd_wput
  by_cases h : j = n
  · rw [if_pos h, pk_un (by omega), h, pk_us]
  · rw [if_neg h]
    by_cases h2 : j = n + 1
    · rw [if_pos h2, h2, pk_us]
    · rw [if_neg h2, pk_un h2, pk_un h]
theorem pd_wput_lt {w : Nat → Nat} {n x y : Nat} (hw : ∀ j, w j < 929) (hx : x < 929) (hy : y < 929) : ∀ j, pd_wput w n x y j < 929 := by
  intro j
  unfold pd_wput
  split
  · exact hx
  · split
    · exact hy
    · exact hw j
def pd_cell (L : Nat) (xs : Nat → Int32) (k : Nat) : Int32 := if k < L then xs k else 0
theorem pd_and7 (x : Int32) : x &&& nI 7 = nI (x.toBitVec.toNat % 8) := pk_and x 3 (by decide)
theorem pd_and7n {n : Nat} (h : n < 8) : nI n &&& nI 7 = nI n := by
  rw [pk_andN (by omega) (m := nI 7) 3 (by decide)]
  congr 1
  omega
theorem pd_ho_mul {r v : Nat} {u : Nat → Nat} {k : Nat} (hv : v < 929) (hr : r < 929) : pd_ho r v u k * r ≤ 928 * 928 := Nat.mul_le_mul (by have := pd_ho_lt (r := r) (u := u) hv k; omega) (by omega)
theorem pd_lit0 : nI 0 = 0 := rfl
theorem pd_lit1 : nI 1 = 1 := by decide
end
section
/-! PdfParityDesk, the row, the law's small methods (written by gen/p14.py) -/
set_option maxHeartbeats 4000000 in
set_option maxRecDepth 100000 in
/-- PdfParityDesk() -/
theorem m_X1init (l : Launch) (D : va_G) (cB cC cI : ClassId) (sz dk td : Nat) : Met l yX1_init (ws_ yX1_init cX1_init 1 (none)) ({ frames := 1, cells := 1, slots := 64, locals := 30 }) (va_Pc [.ref dk] (fun U => pd_BA D cB cC cI [(dk, .inr (2, [.null, .int 0, .null]))] sz U ∧ vk_R "PdfParityDesk" 13 "" td U)) (va_Qv (fun _ : Unit => True) (fun _ t => ∃ wd : Nat, va_P D pd_cl [(dk, .inr (2, [.ref wd, .int 0, .ref td])), (wd, .inl (cC, 64, .inl (fun _ => 0)))] t.heap ∧ va_D (va_A [(dk, .inr (2, [.null, .int 0, .null]))] sz) [(dk, .inr (2, [.ref wd, .int 0, .ref td])), (wd, .inl (cC, 64, .inl (fun _ => 0)))]) (va_A [(dk, .inr (2, [.null, .int 0, .null]))] sz)) 1 64 (va_A [(dk, .inr (2, [.null, .int 0, .null]))] sz) := by
  refine Met.ofW (cc := cX1_init) (maxL := 1) (ret := (none)) (by decide) rfl ?_
  intro p e s m args below meth c s₁ B hml hv
  obtain ⟨rfl, hBA, hR⟩ := hv
  have hx := B.exec
  have hb := B.bytes
  have hr := B.returns
  have hts := atoms_spec (ws := (ws_ yX1_init cX1_init 1 (none))) B.pre
  have hts : ∀ w ∈ lw_all, w.before _ s = true := fun w h => hts w (List.mem_cons_of_mem _ h)
  have hown : s.vm.findClass RX1 = some m.cls := findClass_of_methodNamed B.named
  have hlocks := B.notSynchronized
  have hin : meth.name = "<init>" := (name_of_methodNamed B.named B.method).1
  obtain ⟨hsz, hP, hK, hD0, hZ⟩ := hBA
  subst hsz
  have hD := hD0.self (sz := s.heap.size)
  generalize hAe : va_A [(dk, .inr (2, [.null, .int 0, .null]))] s.heap.size = A at hD hZ ⊢
  have hA : ∀ q : Nat, s.heap.size ≤ q → A q := fun q h => by rw [← hAe]; exact Or.inr h
  have hS : va_S A s.heap s.heap [] := va_S.rf
  have hP : va_P D pd_cl [(dk, .inr (2, [.null, .int 0, .null]))] s.heap := hP
  have hl := lv_entry ([.ref dk]) (n := 1) (Nat.le_of_ble_eq_true rfl)
  rw [lg_entry_eq]
  generalize (lg_sl ([.ref dk]) ++ List.replicate (1 - (lg_sl ([.ref dk])).length) Slot.unset).toArray = ls at hl ⊢
  have hl : lv_has ls 1 [(0, .ref dk)] := hl
  refine lv_aload_n hx hb dX1_init_0 rfl (lv_at hl 0 rfl) ?_
  refine W.objInit hx hb hown (hts _ q24) (hts _ q25) (hts _ q26) rfl (by rw [hml]; exact hl.1) rfl dX1_init_1 (Nat.le_of_ble_eq_true rfl) (Nat.le_of_ble_eq_true rfl) ?_
  refine W.eq (g2 := F0 m 4 ls []) rfl ?_
  refine lv_aload_n hx hb dX1_init_4 rfl (lv_at hl 0 rfl) ?_
  refine lv_bipush (v := (nI 64)) hx hb dX1_init_5 (by decide) ?_
  refine pd_newc (N := 64) hx hb (hts _ q38) hK hP hD hS hA (rfl) (by decide) (by show 0 + 1 ≤ 1; omega) (by show 0 + 64 ≤ 64; omega) dX1_init_7 (fun wd H hP hD hS => ?_)
  have hP : va_P D pd_cl [(dk, .inr (2, [.null, .int 0, .null])), (wd, .inl (cC, 64, .inl (fun _ => 0)))] H := hP
  have hD : va_D A [(dk, .inr (2, [.null, .int 0, .null])), (wd, .inl (cC, 64, .inl (fun _ => 0)))] := hD
  refine va_putF (D := D) (ci := 2) (v := .ref wd) (ty := .array .char) (C := RX1) (T := TX1) (N := 3) hx hb hts in_X1 tyX1 tyX1_ok nmX1 hown hK hP hD hS 0 rfl rfl 0 (by decide) (hts _ q28) (fun _ h9 => h9) rfl hin rfl (by decide +kernel) (rfl) (rfl) (Nat.le_of_ble_eq_true rfl) dX1_init_9 (fun H locs hP hD hS => ?_)
  have hP : va_P D pd_cl [(dk, .inr (2, [.ref wd, .int 0, .null])), (wd, .inl (cC, 64, .inl (fun _ => 0)))] H := hP
  have hD : va_D A [(dk, .inr (2, [.ref wd, .int 0, .null])), (wd, .inl (cC, 64, .inl (fun _ => 0)))] := hD
  refine lv_aload_n hx hb dX1_init_12 rfl (lv_at hl 0 rfl) ?_
  refine va_ldcS hx hb hown (hR) dX1_init_13 ?_
  refine va_put (D := D) (ci := 2) (v := .ref td) (ty := .object "java/lang/String") (C := RX1) (T := TX1) (N := 3) hx hb hts in_X1 tyX1 tyX1_ok nmX1 hown hK hP hD hS 0 rfl rfl 2 (by decide) (hts _ q30) (fun _ h9 => h9) rfl (by decide +kernel) (rfl) (rfl) (Nat.le_of_ble_eq_true rfl) dX1_init_15 (fun H locs hP hD hS => ?_)
  have hP : va_P D pd_cl [(dk, .inr (2, [.ref wd, .int 0, .ref td])), (wd, .inl (cC, 64, .inl (fun _ => 0)))] H := hP
  have hD : va_D A [(dk, .inr (2, [.ref wd, .int 0, .ref td])), (wd, .inl (cC, 64, .inl (fun _ => 0)))] := hD
  refine W.widen (k := 1) (n := 64) (by omega) (by omega) ?_
  exact W.vret hx hb hr (fun t ht hW => ⟨⟨(), rfl, trivial, wd, by rw [ht]; exact hP, hD⟩, hS.F ht⟩) hS.2.2 dX1_init_18
set_option maxHeartbeats 4000000 in
set_option maxRecDepth 100000 in
/-- put(a, b): full -/
theorem m_X1put0 (l : Launch) (D : va_G) (cB cC cI : ClassId) (sz dk wd td n : Nat) (w : Nat → Nat) (x y : Int32) (hn : 62 < n) (hn2 : n ≤ 64) : Met l yX1_put (ws_ yX1_put cX1_put 3 (some .boolean)) ({ frames := 0, cells := 0, slots := 0, locals := 0 }) (va_Pc [.ref dk, .int x, .int y] (fun U => pd_BA D cB cC cI [(dk, .inr (2, [.ref wd, .int (nI n), .ref td])), (wd, .inl (cC, 64, .inl (fun j => nI (w j))))] sz U)) (va_Qi (fun (r : Int32) (_ : Unit) => r = 0) (fun _ t => va_P D pd_cl [(dk, .inr (2, [.ref wd, .int (nI n), .ref td])), (wd, .inl (cC, 64, .inl (fun j => nI (w j))))] t.heap ∧ va_D (va_A [(dk, .inr (2, [.ref wd, .int (nI n), .ref td])), (wd, .inl (cC, 64, .inl (fun j => nI (w j))))] sz) [(dk, .inr (2, [.ref wd, .int (nI n), .ref td])), (wd, .inl (cC, 64, .inl (fun j => nI (w j))))]) (va_A [(dk, .inr (2, [.ref wd, .int (nI n), .ref td])), (wd, .inl (cC, 64, .inl (fun j => nI (w j))))] sz)) 0 0 (va_A [(dk, .inr (2, [.ref wd, .int (nI n), .ref td])), (wd, .inl (cC, 64, .inl (fun j => nI (w j))))] sz) := by
  refine Met.ofW (cc := cX1_put) (maxL := 3) (ret := (some .boolean)) (by decide) rfl ?_
  intro p e s m args below meth c s₁ B hml hv
  obtain ⟨rfl, hBA⟩ := hv
  have hx := B.exec
  have hb := B.bytes
  have hr := B.returns
  have hts := atoms_spec (ws := (ws_ yX1_put cX1_put 3 (some .boolean))) B.pre
  have hts : ∀ w ∈ lw_all, w.before _ s = true := fun w h => hts w (List.mem_cons_of_mem _ h)
  have hown : s.vm.findClass RX1 = some m.cls := findClass_of_methodNamed B.named
  have hlocks := B.notSynchronized
  obtain ⟨hsz, hP, hK, hD0, hZ⟩ := hBA
  subst hsz
  have hD := hD0.self (sz := s.heap.size)
  generalize hAe : va_A [(dk, .inr (2, [.ref wd, .int (nI n), .ref td])), (wd, .inl (cC, 64, .inl (fun j => nI (w j))))] s.heap.size = A at hD hZ ⊢
  have hA : ∀ q : Nat, s.heap.size ≤ q → A q := fun q h => by rw [← hAe]; exact Or.inr h
  have hS : va_S A s.heap s.heap [] := va_S.rf
  have hP : va_P D pd_cl [(dk, .inr (2, [.ref wd, .int (nI n), .ref td])), (wd, .inl (cC, 64, .inl (fun j => nI (w j))))] s.heap := hP
  have hl := lv_entry ([.ref dk, .int x, .int y]) (n := 3) (Nat.le_of_ble_eq_true rfl)
  rw [lg_entry_eq]
  generalize (lg_sl ([.ref dk, .int x, .int y]) ++ List.replicate (3 - (lg_sl ([.ref dk, .int x, .int y])).length) Slot.unset).toArray = ls at hl ⊢
  have hl : lv_has ls 3 [(0, .ref dk), (1, .int x), (2, .int y)] := hl
  refine lv_aload_n hx hb dX1_put_0 rfl (lv_at hl 0 rfl) ?_
  refine va_get (D := D) (ci := 2) (v := .int (nI n)) (C := RX1) (T := TX1) (N := 3) hx hb hts in_X1 hown hK hP 0 rfl rfl 1 (by decide) (hts _ q29) (fun _ h9 => h9) rfl dX1_put_1 ?_
  refine lv_bipush (v := (nI 62)) hx hb dX1_put_4 (by decide) ?_
  refine lv_icmp_le (tgt := 11) hx hb dX1_put_6 (by decide) (fun c9 => absurd c9 (nI_ge hn (by omega))) (fun _ => ?_)
  refine lv_iconst (v := 0) hx hb dX1_put_9 (by decide) ?_
  exact W.zret (v := 0) hx hb hr (rfl) (fun t ht hW => ⟨⟨0, (), rfl, rfl, by rw [ht]; exact hP, hD⟩, hS.F ht⟩) hS.2.2 dX1_put_10
set_option maxHeartbeats 4000000 in
set_option maxRecDepth 100000 in
/-- put(a, b): two words more -/
theorem m_X1put1 (l : Launch) (D : va_G) (cB cC cI : ClassId) (sz dk wd td n : Nat) (w : Nat → Nat) (x y : Int32) (hn : n ≤ 62) : Met l yX1_put (ws_ yX1_put cX1_put 3 (some .boolean)) ({ frames := 0, cells := 0, slots := 0, locals := 0 }) (va_Pc [.ref dk, .int x, .int y] (fun U => pd_BA D cB cC cI [(dk, .inr (2, [.ref wd, .int (nI n), .ref td])), (wd, .inl (cC, 64, .inl (fun j => nI (w j))))] sz U)) (va_Qi (fun (r : Int32) (_ : Unit) => r = 1) (fun _ t => va_P D pd_cl [(dk, .inr (2, [.ref wd, .int (nI (n + 2)), .ref td])), (wd, .inl (cC, 64, .inl (fun j => nI (pd_wput w n (pd_u x % 929) (pd_u y % 929) j))))] t.heap ∧ va_D (va_A [(dk, .inr (2, [.ref wd, .int (nI n), .ref td])), (wd, .inl (cC, 64, .inl (fun j => nI (w j))))] sz) [(dk, .inr (2, [.ref wd, .int (nI (n + 2)), .ref td])), (wd, .inl (cC, 64, .inl (fun j => nI (pd_wput w n (pd_u x % 929) (pd_u y % 929) j))))]) (va_A [(dk, .inr (2, [.ref wd, .int (nI n), .ref td])), (wd, .inl (cC, 64, .inl (fun j => nI (w j))))] sz)) 0 0 (va_A [(dk, .inr (2, [.ref wd, .int (nI n), .ref td])), (wd, .inl (cC, 64, .inl (fun j => nI (w j))))] sz) := by
  refine Met.ofW (cc := cX1_put) (maxL := 3) (ret := (some .boolean)) (by decide) rfl ?_
  intro p e s m args below meth c s₁ B hml hv
  obtain ⟨rfl, hBA⟩ := hv
  have hx := B.exec
  have hb := B.bytes
  have hr := B.returns
  have hts := atoms_spec (ws := (ws_ yX1_put cX1_put 3 (some .boolean))) B.pre
  have hts : ∀ w ∈ lw_all, w.before _ s = true := fun w h => hts w (List.mem_cons_of_mem _ h)
  have hown : s.vm.findClass RX1 = some m.cls := findClass_of_methodNamed B.named
  have hlocks := B.notSynchronized
  obtain ⟨hsz, hP, hK, hD0, hZ⟩ := hBA
  subst hsz
  have hD := hD0.self (sz := s.heap.size)
  generalize hAe : va_A [(dk, .inr (2, [.ref wd, .int (nI n), .ref td])), (wd, .inl (cC, 64, .inl (fun j => nI (w j))))] s.heap.size = A at hD hZ ⊢
  have hA : ∀ q : Nat, s.heap.size ≤ q → A q := fun q h => by rw [← hAe]; exact Or.inr h
  have hS : va_S A s.heap s.heap [] := va_S.rf
  have hP : va_P D pd_cl [(dk, .inr (2, [.ref wd, .int (nI n), .ref td])), (wd, .inl (cC, 64, .inl (fun j => nI (w j))))] s.heap := hP
  have hl := lv_entry ([.ref dk, .int x, .int y]) (n := 3) (Nat.le_of_ble_eq_true rfl)
  rw [lg_entry_eq]
  generalize (lg_sl ([.ref dk, .int x, .int y]) ++ List.replicate (3 - (lg_sl ([.ref dk, .int x, .int y])).length) Slot.unset).toArray = ls at hl ⊢
  have hl : lv_has ls 3 [(0, .ref dk), (1, .int x), (2, .int y)] := hl
  have hx9 := pd_u_lt x
  have hy9 := pd_u_lt y
  have hx8 : pd_u x % 929 < 929 := Nat.mod_lt _ (by decide)
  have hy8 : pd_u y % 929 < 929 := Nat.mod_lt _ (by decide)
  refine lv_aload_n hx hb dX1_put_0 rfl (lv_at hl 0 rfl) ?_
  refine va_get (D := D) (ci := 2) (v := .int (nI n)) (C := RX1) (T := TX1) (N := 3) hx hb hts in_X1 hown hK hP 0 rfl rfl 1 (by decide) (hts _ q29) (fun _ h9 => h9) rfl dX1_put_1 ?_
  refine lv_bipush (v := (nI 62)) hx hb dX1_put_4 (by decide) ?_
  refine lv_icmp_le (tgt := 11) hx hb dX1_put_6 (by decide) (fun _ => ?_) (fun c9 => absurd (nI_le hn (by decide)) c9)
  refine lv_aload_n hx hb dX1_put_11 rfl (lv_at hl 0 rfl) ?_
  refine va_get (D := D) (ci := 2) (v := .ref wd) (C := RX1) (T := TX1) (N := 3) hx hb hts in_X1 hown hK hP 0 rfl rfl 0 (by decide) (hts _ q28) (fun _ h9 => h9) rfl dX1_put_12 ?_
  refine lv_aload_n hx hb dX1_put_15 rfl (lv_at hl 0 rfl) ?_
  refine lv_dup hx hb dX1_put_16 rfl ?_
  refine va_get (D := D) (ci := 2) (v := .int (nI n)) (C := RX1) (T := TX1) (N := 3) hx hb hts in_X1 hown hK hP 0 rfl rfl 1 (by decide) (hts _ q29) (fun _ h9 => h9) rfl dX1_put_17 ?_
  refine lv_dup_x1 hx hb dX1_put_20 rfl rfl ?_
  refine lv_iconst (v := (nI 1)) hx hb dX1_put_21 (by decide) ?_
  refine pd_iadd (v := (nI (n + 1))) hx hb dX1_put_22 (nI_1 _) ?_
  refine va_put (D := D) (ci := 2) (v := .int (nI (n + 1))) (ty := .int) (C := RX1) (T := TX1) (N := 3) hx hb hts in_X1 tyX1 tyX1_ok nmX1 hown hK hP hD hS 0 rfl rfl 1 (by decide) (hts _ q29) (fun _ h9 => h9) rfl (by decide +kernel) (rfl) (rfl) (Nat.le_of_ble_eq_true rfl) dX1_put_23 (fun H locs hP hD hS => ?_)
  have hP : va_P D pd_cl [(dk, .inr (2, [.ref wd, .int (nI (n + 1)), .ref td])), (wd, .inl (cC, 64, .inl (fun j => nI (w j))))] H := hP
  have hD : va_D A [(dk, .inr (2, [.ref wd, .int (nI (n + 1)), .ref td])), (wd, .inl (cC, 64, .inl (fun j => nI (w j))))] := hD
  refine lv_iload_n hx hb dX1_put_26 rfl (lv_at hl 1 rfl) ?_
  refine lv_ldc hx hb hown (hts _ q44) dX1_put_27 ?_
  refine pd_iand (v := (nI (pd_u x))) hx hb dX1_put_29 (pd_mask _) ?_
  refine lv_sipush (v := (nI 929)) hx hb dX1_put_30 (by decide) ?_
  refine pd_irem (v := (nI (pd_u x % 929))) hx hb dX1_put_33 (nI_ne0 (by decide) (by decide)) (pd_rem (by omega) (by decide) (by decide)) ?_
  refine lv_i2c (v := (nI (pd_u x % 929))) hx hb dX1_put_34 (pd_i2c (by omega)) ?_
  refine pd_cast (f2 := upd (fun j => nI (w j)) n (nI (pd_u x % 929))) hx hb hK hP hD hS 1 1 rfl rfl (vp_in_nI (by omega) (by omega)) (by rw [nI_clamp (by omega), pd_vc (by omega)]) dX1_put_35 (fun H locs hP hD hS => ?_)
  have hP : va_P D pd_cl [(dk, .inr (2, [.ref wd, .int (nI (n + 1)), .ref td])), (wd, .inl (cC, 64, .inl (upd (fun j => nI (w j)) n (nI (pd_u x % 929)))))] H := hP
  have hD : va_D A [(dk, .inr (2, [.ref wd, .int (nI (n + 1)), .ref td])), (wd, .inl (cC, 64, .inl (upd (fun j => nI (w j)) n (nI (pd_u x % 929)))))] := hD
  refine lv_aload_n hx hb dX1_put_36 rfl (lv_at hl 0 rfl) ?_
  refine va_get (D := D) (ci := 2) (v := .ref wd) (C := RX1) (T := TX1) (N := 3) hx hb hts in_X1 hown hK hP 0 rfl rfl 0 (by decide) (hts _ q28) (fun _ h9 => h9) rfl dX1_put_37 ?_
  refine lv_aload_n hx hb dX1_put_40 rfl (lv_at hl 0 rfl) ?_
  refine lv_dup hx hb dX1_put_41 rfl ?_
  refine va_get (D := D) (ci := 2) (v := .int (nI (n + 1))) (C := RX1) (T := TX1) (N := 3) hx hb hts in_X1 hown hK hP 0 rfl rfl 1 (by decide) (hts _ q29) (fun _ h9 => h9) rfl dX1_put_42 ?_
  refine lv_dup_x1 hx hb dX1_put_45 rfl rfl ?_
  refine lv_iconst (v := (nI 1)) hx hb dX1_put_46 (by decide) ?_
  refine pd_iadd (v := (nI ((n + 1) + 1))) hx hb dX1_put_47 (nI_1 _) ?_
  refine va_put (D := D) (ci := 2) (v := .int (nI ((n + 1) + 1))) (ty := .int) (C := RX1) (T := TX1) (N := 3) hx hb hts in_X1 tyX1 tyX1_ok nmX1 hown hK hP hD hS 0 rfl rfl 1 (by decide) (hts _ q29) (fun _ h9 => h9) rfl (by decide +kernel) (rfl) (rfl) (Nat.le_of_ble_eq_true rfl) dX1_put_48 (fun H locs hP hD hS => ?_)
  have hP : va_P D pd_cl [(dk, .inr (2, [.ref wd, .int (nI ((n + 1) + 1)), .ref td])), (wd, .inl (cC, 64, .inl (upd (fun j => nI (w j)) n (nI (pd_u x % 929)))))] H := hP
  have hD : va_D A [(dk, .inr (2, [.ref wd, .int (nI ((n + 1) + 1)), .ref td])), (wd, .inl (cC, 64, .inl (upd (fun j => nI (w j)) n (nI (pd_u x % 929)))))] := hD
  refine lv_iload_n hx hb dX1_put_51 rfl (lv_at hl 2 rfl) ?_
  refine lv_ldc hx hb hown (hts _ q44) dX1_put_52 ?_
  refine pd_iand (v := (nI (pd_u y))) hx hb dX1_put_54 (pd_mask _) ?_
  refine lv_sipush (v := (nI 929)) hx hb dX1_put_55 (by decide) ?_
  refine pd_irem (v := (nI (pd_u y % 929))) hx hb dX1_put_58 (nI_ne0 (by decide) (by decide)) (pd_rem (by omega) (by decide) (by decide)) ?_
  refine lv_i2c (v := (nI (pd_u y % 929))) hx hb dX1_put_59 (pd_i2c (by omega)) ?_
  refine pd_cast (f2 := upd (upd (fun j => nI (w j)) n (nI (pd_u x % 929))) (n + 1) (nI (pd_u y % 929))) hx hb hK hP hD hS 1 1 rfl rfl (vp_in_nI (by omega) (by omega)) (by rw [nI_clamp (by omega), pd_vc (by omega)]) dX1_put_60 (fun H locs hP hD hS => ?_)
  have hP : va_P D pd_cl [(dk, .inr (2, [.ref wd, .int (nI ((n + 1) + 1)), .ref td])), (wd, .inl (cC, 64, .inl (upd (upd (fun j => nI (w j)) n (nI (pd_u x % 929))) (n + 1) (nI (pd_u y % 929)))))] H := hP
  have hD : va_D A [(dk, .inr (2, [.ref wd, .int (nI ((n + 1) + 1)), .ref td])), (wd, .inl (cC, 64, .inl (upd (upd (fun j => nI (w j)) n (nI (pd_u x % 929))) (n + 1) (nI (pd_u y % 929)))))] := hD
  refine lv_iconst (v := (nI 1)) hx hb dX1_put_61 (by decide) ?_
  rw [pd_wput_eq] at hP hD
  exact W.zret (v := (nI 1)) hx hb hr (rfl) (fun t ht hW => ⟨⟨(nI 1), (), rfl, rfl, by rw [ht]; exact hP, hD⟩, hS.F ht⟩) hS.2.2 dX1_put_62
set_option maxHeartbeats 4000000 in
set_option maxRecDepth 100000 in
/-- drop(x) -/
theorem m_X1drop (l : Launch) (D : va_G) (cB cC cI : ClassId) (sz dk wd td n : Nat) (x : Int32) (hn : n ≤ 64) : Met l yX1_drop (ws_ yX1_drop cX1_drop 2 (none)) ({ frames := 0, cells := 0, slots := 0, locals := 0 }) (va_Pc [.ref dk, .int x] (fun U => pd_BA D cB cC cI [(dk, .inr (2, [.ref wd, .int (nI n), .ref td]))] sz U)) (va_Qv (fun _ : Unit => True) (fun _ t => va_P D pd_cl [(dk, .inr (2, [.ref wd, .int (nI (pd_u x % (n + 1))), .ref td]))] t.heap ∧ va_D (va_A [(dk, .inr (2, [.ref wd, .int (nI n), .ref td]))] sz) [(dk, .inr (2, [.ref wd, .int (nI (pd_u x % (n + 1))), .ref td]))]) (va_A [(dk, .inr (2, [.ref wd, .int (nI n), .ref td]))] sz)) 0 0 (va_A [(dk, .inr (2, [.ref wd, .int (nI n), .ref td]))] sz) := by
  refine Met.ofW (cc := cX1_drop) (maxL := 2) (ret := (none)) (by decide) rfl ?_
  intro p e s m args below meth c s₁ B hml hv
  obtain ⟨rfl, hBA⟩ := hv
  have hx := B.exec
  have hb := B.bytes
  have hr := B.returns
  have hts := atoms_spec (ws := (ws_ yX1_drop cX1_drop 2 (none))) B.pre
  have hts : ∀ w ∈ lw_all, w.before _ s = true := fun w h => hts w (List.mem_cons_of_mem _ h)
  have hown : s.vm.findClass RX1 = some m.cls := findClass_of_methodNamed B.named
  have hlocks := B.notSynchronized
  obtain ⟨hsz, hP, hK, hD0, hZ⟩ := hBA
  subst hsz
  have hD := hD0.self (sz := s.heap.size)
  generalize hAe : va_A [(dk, .inr (2, [.ref wd, .int (nI n), .ref td]))] s.heap.size = A at hD hZ ⊢
  have hA : ∀ q : Nat, s.heap.size ≤ q → A q := fun q h => by rw [← hAe]; exact Or.inr h
  have hS : va_S A s.heap s.heap [] := va_S.rf
  have hP : va_P D pd_cl [(dk, .inr (2, [.ref wd, .int (nI n), .ref td]))] s.heap := hP
  have hl := lv_entry ([.ref dk, .int x]) (n := 2) (Nat.le_of_ble_eq_true rfl)
  rw [lg_entry_eq]
  generalize (lg_sl ([.ref dk, .int x]) ++ List.replicate (2 - (lg_sl ([.ref dk, .int x])).length) Slot.unset).toArray = ls at hl ⊢
  have hl : lv_has ls 2 [(0, .ref dk), (1, .int x)] := hl
  have hx9 := pd_u_lt x
  refine lv_aload_n hx hb dX1_drop_0 rfl (lv_at hl 0 rfl) ?_
  refine lv_iload_n hx hb dX1_drop_1 rfl (lv_at hl 1 rfl) ?_
  refine lv_ldc hx hb hown (hts _ q44) dX1_drop_2 ?_
  refine pd_iand (v := (nI (pd_u x))) hx hb dX1_drop_4 (pd_mask _) ?_
  refine lv_aload_n hx hb dX1_drop_5 rfl (lv_at hl 0 rfl) ?_
  refine va_get (D := D) (ci := 2) (v := .int (nI n)) (C := RX1) (T := TX1) (N := 3) hx hb hts in_X1 hown hK hP 0 rfl rfl 1 (by decide) (hts _ q29) (fun _ h9 => h9) rfl dX1_drop_6 ?_
  refine lv_iconst (v := (nI 1)) hx hb dX1_drop_9 (by decide) ?_
  refine pd_iadd (v := (nI (n + 1))) hx hb dX1_drop_10 (nI_1 _) ?_
  refine pd_irem (v := (nI (pd_u x % (n + 1)))) hx hb dX1_drop_11 (nI_ne0 (by omega) (by omega)) (pd_rem (by omega) (by omega) (by omega)) ?_
  refine va_put (D := D) (ci := 2) (v := .int (nI (pd_u x % (n + 1)))) (ty := .int) (C := RX1) (T := TX1) (N := 3) hx hb hts in_X1 tyX1 tyX1_ok nmX1 hown hK hP hD hS 0 rfl rfl 1 (by decide) (hts _ q29) (fun _ h9 => h9) rfl (by decide +kernel) (rfl) (rfl) (Nat.le_of_ble_eq_true rfl) dX1_drop_12 (fun H locs hP hD hS => ?_)
  have hP : va_P D pd_cl [(dk, .inr (2, [.ref wd, .int (nI (pd_u x % (n + 1))), .ref td]))] H := hP
  have hD : va_D A [(dk, .inr (2, [.ref wd, .int (nI (pd_u x % (n + 1))), .ref td]))] := hD
  exact W.vret hx hb hr (fun t ht hW => ⟨⟨(), rfl, trivial, by rw [ht]; exact hP, hD⟩, hS.F ht⟩) hS.2.2 dX1_drop_15
set_option maxHeartbeats 4000000 in
set_option maxRecDepth 100000 in
/-- count(x) -/
theorem m_X1cnt (l : Launch) (lev : Nat) (dk : Nat) (x : Int32) (hlev : lev < 8) (hx7 : x &&& nI 7 = nI lev) : Met l yX1_count (ws_ yX1_count cX1_count 2 (some .int)) ({ frames := 1, cells := 0, slots := 0, locals := 30 }) (va_Pc [.ref dk, .int x] (fun U => True)) (va_Qi (fun (r : Int32) (_ : Unit) => r = nI (2 * 2 ^ lev)) (fun _ _ => True) pd_F) 0 0 pd_F := by
  refine Met.ofW (cc := cX1_count) (maxL := 2) (ret := (some .int)) (by decide) rfl ?_
  intro p e s m args below meth c s₁ B hml hv
  obtain ⟨rfl, -⟩ := hv
  have hx := B.exec
  have hb := B.bytes
  have hr := B.returns
  have hts := atoms_spec (ws := (ws_ yX1_count cX1_count 2 (some .int))) B.pre
  have hts : ∀ w ∈ lw_all, w.before _ s = true := fun w h => hts w (List.mem_cons_of_mem _ h)
  have hown : s.vm.findClass RX1 = some m.cls := findClass_of_methodNamed B.named
  have hlocks := B.notSynchronized
  have hS : va_S pd_F s.heap s.heap [] := va_S.rf
  have hl := lv_entry ([.ref dk, .int x]) (n := 2) (Nat.le_of_ble_eq_true rfl)
  rw [lg_entry_eq]
  generalize (lg_sl ([.ref dk, .int x]) ++ List.replicate (2 - (lg_sl ([.ref dk, .int x])).length) Slot.unset).toArray = ls at hl ⊢
  have hl : lv_has ls 2 [(0, .ref dk), (1, .int x)] := hl
  refine lv_iload_n hx hb dX1_count_0 rfl (lv_at hl 1 rfl) ?_
  refine lv_bipush (v := (nI 7)) hx hb dX1_count_1 (by decide) ?_
  refine pd_iand (v := (nI lev)) hx hb dX1_count_3 (hx7) ?_
  refine va_calli (va_runS (As := [.int (nI lev)]) (rest := []) ⟨hx, hb, hml, hown, hts⟩ (m_X3cnt l lev hlev) (va_cwS 1 hts (lw_S q126 q127 q8 q128) rfl rfl rfl (by decide +kernel) ⟨Nat.le_of_ble_eq_true rfl, Nat.le_of_ble_eq_true rfl⟩) (pd_pre (fun a U g mk q => trivial) (fun U hU hW => trivial)) rfl rfl hl.1 rfl (lv_room (Nat.le_of_ble_eq_true rfl)) dX1_count_4 ⟨Nat.le_of_ble_eq_true rfl, Nat.le_of_ble_eq_true rfl⟩) hS pd_Fin2 pd_Fin (fun r_1 u_1 t H1 locs ht hvm hw9 hB hz1 hk1 hS => ?_)
  generalize H1 = H at hS ⊢
  exact W.iret (v := r_1) hx hb hr (fun t ht hW => ⟨⟨r_1, (), rfl, hw9, trivial⟩, hS.F ht⟩) hS.2.2 dX1_count_7
set_option maxHeartbeats 4000000 in
set_option maxRecDepth 100000 in
/-- told(x): nothing yet -/
theorem m_X1told0 (l : Launch) (D : va_G) (cB cC cI : ClassId) (dk wd td n : Nat) (w : Nat → Nat) (x : Int32) : Met l yX1_told (ws_ yX1_told cX1_told 2 (some .int)) ({ frames := 2, cells := 0, slots := 0, locals := 60 }) (va_Pc [.ref dk, .int x] (fun U => pd_Z pd_F U U.heap ∧ pd_K D cB cC cI U ∧ va_P D pd_cl [(dk, .inr (2, [.ref wd, .int (nI n), .ref td]))] U.heap ∧ pd_S td 0 w pd_F U U.heap)) (va_Qi (fun (r : Int32) (_ : Unit) => r = -1) (fun _ _ => True) pd_F) 0 0 pd_F := by
  refine Met.ofW (cc := cX1_told) (maxL := 2) (ret := (some .int)) (by decide) rfl ?_
  intro p e s m args below meth c s₁ B hml hv
  obtain ⟨rfl, hZ, hK, hP, hSt⟩ := hv
  have hx := B.exec
  have hb := B.bytes
  have hr := B.returns
  have hts := atoms_spec (ws := (ws_ yX1_told cX1_told 2 (some .int))) B.pre
  have hts : ∀ w ∈ lw_all, w.before _ s = true := fun w h => hts w (List.mem_cons_of_mem _ h)
  have hown : s.vm.findClass RX1 = some m.cls := findClass_of_methodNamed B.named
  have hlocks := B.notSynchronized
  have hS : va_S pd_F s.heap s.heap [] := va_S.rf
  have hl := lv_entry ([.ref dk, .int x]) (n := 2) (Nat.le_of_ble_eq_true rfl)
  rw [lg_entry_eq]
  generalize (lg_sl ([.ref dk, .int x]) ++ List.replicate (2 - (lg_sl ([.ref dk, .int x])).length) Slot.unset).toArray = ls at hl ⊢
  have hl : lv_has ls 2 [(0, .ref dk), (1, .int x)] := hl
  obtain ⟨vS, cdS, NS, fS, hSS, hrepS⟩ := id hSt
  refine lv_aload_n hx hb dX1_told_0 rfl (lv_at hl 0 rfl) ?_
  refine va_get (D := D) (ci := 2) (v := .ref td) (C := RX1) (T := TX1) (N := 3) hx hb hts in_X1 hown hK hP 0 rfl rfl 2 (by decide) (hts _ q30) (fun _ h9 => h9) rfl dX1_told_1 ?_
  refine va_calli (va_runV (As := []) (rest := []) ⟨hx, hb, hml, hown, hts⟩ (m_J0len l td 0 w (by decide)) (cwV 0 hts (lw_V q49 q50 q51 q4 q52) rfl rfl rfl (by decide +kernel) ⟨Nat.le_of_ble_eq_true rfl, Nat.le_of_ble_eq_true rfl⟩) (pd_preV (fun a U g mk q => ⟨pd_Z.same (s := U) (U := U.calling g mk a) rfl q.1, pd_S.moved (u := U) (U := U.calling g mk a) (Vm.Alike.refl U.vm) q.2⟩) (pd_Orecv hSS.1 hS) (fun U hU hW => ⟨pd_Z.call hZ hS hW hU pd_Fin, pd_S.call hSt hS hW hU pd_Fin⟩)) rfl rfl hl.1 rfl (lv_room (Nat.le_of_ble_eq_true rfl)) dX1_told_4 ⟨Nat.le_of_ble_eq_true rfl, Nat.le_of_ble_eq_true rfl⟩) hS pd_Fin2 pd_Fin (fun r9 u_1 t H1 locs ht hvm hw9 hB hz1 hk1 hS => ?_)
  have hP := pd_keep hP hk1
  generalize H1 = H at hP hS ⊢
  obtain rfl : r9 = (nI 0) := hw9
  refine lv_if_ne (tgt := 14) hx hb dX1_told_7 (by decide) (fun c9 => absurd (rfl) c9) (fun _ => ?_)
  refine lv_iconst (v := (-1)) hx hb dX1_told_10 (by decide) ?_
  refine lv_goto (tgt := 33) hx hb dX1_told_11 (by decide) ?_
  exact W.iret (v := (-1)) hx hb hr (fun t ht hW => ⟨⟨(-1), (), rfl, rfl, trivial⟩, hS.F ht⟩) hS.2.2 dX1_told_33
set_option maxHeartbeats 4000000 in
set_option maxRecDepth 100000 in
/-- told(x) -/
theorem m_X1told1 (l : Launch) (D : va_G) (cB cC cI : ClassId) (dk wd td n m0 : Nat) (w : Nat → Nat) (x : Int32) (h0 : 0 < m0) (hm : m0 ≤ 1000) : Met l yX1_told (ws_ yX1_told cX1_told 2 (some .int)) ({ frames := 5, cells := 0, slots := 0, locals := 150 }) (va_Pc [.ref dk, .int x] (fun U => pd_Z pd_F U U.heap ∧ pd_K D cB cC cI U ∧ va_P D pd_cl [(dk, .inr (2, [.ref wd, .int (nI n), .ref td]))] U.heap ∧ pd_S td m0 w pd_F U U.heap)) (va_Qi (fun (r : Int32) (_ : Unit) => r = nI (w (pd_u x % m0))) (fun _ _ => True) pd_F) 0 0 pd_F := by
  refine Met.ofW (cc := cX1_told) (maxL := 2) (ret := (some .int)) (by decide) rfl ?_
  intro p e s m args below meth c s₁ B hml hv
  obtain ⟨rfl, hZ, hK, hP, hSt⟩ := hv
  have hx := B.exec
  have hb := B.bytes
  have hr := B.returns
  have hts := atoms_spec (ws := (ws_ yX1_told cX1_told 2 (some .int))) B.pre
  have hts : ∀ w ∈ lw_all, w.before _ s = true := fun w h => hts w (List.mem_cons_of_mem _ h)
  have hown : s.vm.findClass RX1 = some m.cls := findClass_of_methodNamed B.named
  have hlocks := B.notSynchronized
  have hS : va_S pd_F s.heap s.heap [] := va_S.rf
  have hl := lv_entry ([.ref dk, .int x]) (n := 2) (Nat.le_of_ble_eq_true rfl)
  rw [lg_entry_eq]
  generalize (lg_sl ([.ref dk, .int x]) ++ List.replicate (2 - (lg_sl ([.ref dk, .int x])).length) Slot.unset).toArray = ls at hl ⊢
  have hl : lv_has ls 2 [(0, .ref dk), (1, .int x)] := hl
  obtain ⟨vS, cdS, NS, fS, hSS, hrepS⟩ := id hSt
  have hx9 := pd_u_lt x
  refine lv_aload_n hx hb dX1_told_0 rfl (lv_at hl 0 rfl) ?_
  refine va_get (D := D) (ci := 2) (v := .ref td) (C := RX1) (T := TX1) (N := 3) hx hb hts in_X1 hown hK hP 0 rfl rfl 2 (by decide) (hts _ q30) (fun _ h9 => h9) rfl dX1_told_1 ?_
  refine va_calli (va_runV (As := []) (rest := []) ⟨hx, hb, hml, hown, hts⟩ (m_J0len l td m0 w hm) (cwV 0 hts (lw_V q49 q50 q51 q4 q52) rfl rfl rfl (by decide +kernel) ⟨Nat.le_of_ble_eq_true rfl, Nat.le_of_ble_eq_true rfl⟩) (pd_preV (fun a U g mk q => ⟨pd_Z.same (s := U) (U := U.calling g mk a) rfl q.1, pd_S.moved (u := U) (U := U.calling g mk a) (Vm.Alike.refl U.vm) q.2⟩) (pd_Orecv hSS.1 hS) (fun U hU hW => ⟨pd_Z.call hZ hS hW hU pd_Fin, pd_S.call hSt hS hW hU pd_Fin⟩)) rfl rfl hl.1 rfl (lv_room (Nat.le_of_ble_eq_true rfl)) dX1_told_4 ⟨Nat.le_of_ble_eq_true rfl, Nat.le_of_ble_eq_true rfl⟩) hS pd_Fin2 pd_Fin (fun r9 u_1 t H1 locs ht hvm hw9 hB hz1 hk1 hS => ?_)
  have hP := pd_keep hP hk1
  generalize H1 = H at hP hS ⊢
  obtain rfl : r9 = (nI m0) := hw9
  refine lv_if_ne (tgt := 14) hx hb dX1_told_7 (by decide) (fun _ => ?_) (fun c9 => absurd c9 (nI_ne0 h0 (by omega)))
  refine lv_aload_n hx hb dX1_told_14 rfl (lv_at hl 0 rfl) ?_
  refine va_get (D := D) (ci := 2) (v := .ref td) (C := RX1) (T := TX1) (N := 3) hx hb hts in_X1 hown hK hP 0 rfl rfl 2 (by decide) (hts _ q30) (fun _ h9 => h9) rfl dX1_told_15 ?_
  refine lv_iload_n hx hb dX1_told_18 rfl (lv_at hl 1 rfl) ?_
  refine lv_ldc hx hb hown (hts _ q44) dX1_told_19 ?_
  refine pd_iand (v := (nI (pd_u x))) hx hb dX1_told_21 (pd_mask _) ?_
  refine lv_aload_n hx hb dX1_told_22 rfl (lv_at hl 0 rfl) ?_
  refine va_get (D := D) (ci := 2) (v := .ref td) (C := RX1) (T := TX1) (N := 3) hx hb hts in_X1 hown hK hP 0 rfl rfl 2 (by decide) (hts _ q30) (fun _ h9 => h9) rfl dX1_told_23 ?_
  refine va_calli (va_runV (As := []) (rest := [.int (nI (pd_u x)), .ref td]) ⟨hx, hb, hml, hown, hts⟩ (m_J0len l td m0 w hm) (cwV 0 hts (lw_V q49 q50 q51 q4 q52) rfl rfl rfl (by decide +kernel) ⟨Nat.le_of_ble_eq_true rfl, Nat.le_of_ble_eq_true rfl⟩) (pd_preV (fun a U g mk q => ⟨pd_Z.same (s := U) (U := U.calling g mk a) rfl q.1, pd_S.moved (u := U) (U := U.calling g mk a) (Vm.Alike.refl U.vm) q.2⟩) (pd_Orecv hSS.1 hS) (fun U hU hW => ⟨pd_Z.call hZ hS hW hU pd_Fin, pd_S.call hSt hS hW hU pd_Fin⟩)) rfl rfl hl.1 rfl (lv_room (Nat.le_of_ble_eq_true rfl)) dX1_told_26 ⟨Nat.le_of_ble_eq_true rfl, Nat.le_of_ble_eq_true rfl⟩) hS pd_Fin2 pd_Fin (fun r9 u_2 t H1 locs ht hvm hw9 hB hz1 hk1 hS => ?_)
  have hP := pd_keep hP hk1
  generalize H1 = H at hP hS ⊢
  obtain rfl : r9 = (nI m0) := hw9
  refine pd_irem (v := (nI (pd_u x % m0))) hx hb dX1_told_29 (nI_ne0 h0 (by omega)) (pd_rem (by omega) h0 (by omega)) ?_
  refine va_calli (va_runV (As := [.int (nI (pd_u x % m0))]) (rest := []) ⟨hx, hb, hml, hown, hts⟩ (m_J0ca l td m0 (pd_u x % m0) w (Nat.mod_lt _ h0) hm) (cwV 1 hts (lw_V q59 q60 q61 q4 q62) rfl rfl rfl (by decide +kernel) ⟨Nat.le_of_ble_eq_true rfl, Nat.le_of_ble_eq_true rfl⟩) (pd_preV (fun a U g mk q => ⟨pd_Z.same (s := U) (U := U.calling g mk a) rfl q.1, pd_S.moved (u := U) (U := U.calling g mk a) (Vm.Alike.refl U.vm) q.2⟩) (pd_Orecv hSS.1 hS) (fun U hU hW => ⟨pd_Z.call hZ hS hW hU pd_Fin, pd_S.call hSt hS hW hU pd_Fin⟩)) rfl rfl hl.1 rfl (lv_room (Nat.le_of_ble_eq_true rfl)) dX1_told_30 ⟨Nat.le_of_ble_eq_true rfl, Nat.le_of_ble_eq_true rfl⟩) hS pd_Fin2 pd_Fin (fun r9 u_3 t H1 locs ht hvm hw9 hB hz1 hk1 hS => ?_)
  have hP := pd_keep hP hk1
  generalize H1 = H at hP hS ⊢
  exact W.iret (v := r9) hx hb hr (fun t ht hW => ⟨⟨r9, (), rfl, hw9, trivial⟩, hS.F ht⟩) hS.2.2 dX1_told_33
set_option maxHeartbeats 4000000 in
set_option maxRecDepth 100000 in
/-- make(x): the correction words are told from now on -/
theorem m_X1make (l : Launch) (D : va_G) (cB cC cI : ClassId) (sz dk wd td n : Nat) (w : Nat → Nat) (lev K : Nat) (x : Int32) (hlev : lev < 8) (hKd : K = 2 * 2 ^ lev) (hx7 : x &&& nI 7 = nI lev) (hn : n ≤ 64) (hw : ∀ j, w j < 929) : Met l yX1_make (ws_ yX1_make cX1_make 2 (some .int)) ({ frames := 9, cells := 303, slots := 133200, locals := 290 }) (va_Pc [.ref dk, .int x] (fun U => pd_BA D cB cC cI [(dk, .inr (2, [.ref wd, .int (nI n), .ref td])), (wd, .inl (cC, 64, .inl (fun j => nI (w j))))] sz U)) (va_Qi (fun (r : Int32) (_ : Unit) => r = nI K) (fun _ t => ∃ (o2 v2 : Nat) (cd : Int32) (N : Nat) (f : Nat → Int32), va_P D pd_cl [(dk, .inr (2, [.ref wd, .int (nI n), .ref o2])), (wd, .inl (cC, 64, .inl (fun j => nI (w j)))), (o2, .inr (0, [.ref v2, .int cd, .int 0, .int 0])), (v2, .inl (cB, N, .inl (f)))] t.heap ∧ va_D (va_A [(dk, .inr (2, [.ref wd, .int (nI n), .ref td])), (wd, .inl (cC, 64, .inl (fun j => nI (w j))))] sz) [(dk, .inr (2, [.ref wd, .int (nI n), .ref o2])), (wd, .inl (cC, 64, .inl (fun j => nI (w j)))), (o2, .inr (0, [.ref v2, .int cd, .int 0, .int 0])), (v2, .inl (cB, N, .inl (f)))] ∧ pd_rep K K (pd_out K (pd_ec (pd_c lev) K w n)) cd N f) (va_A [(dk, .inr (2, [.ref wd, .int (nI n), .ref td])), (wd, .inl (cC, 64, .inl (fun j => nI (w j))))] sz)) 303 133200 (va_A [(dk, .inr (2, [.ref wd, .int (nI n), .ref td])), (wd, .inl (cC, 64, .inl (fun j => nI (w j))))] sz) := by
  refine Met.ofW (cc := cX1_make) (maxL := 2) (ret := (some .int)) (by decide) rfl ?_
  intro p e s m args below meth c s₁ B hml hv
  obtain ⟨rfl, hBA⟩ := hv
  have hx := B.exec
  have hb := B.bytes
  have hr := B.returns
  have hts := atoms_spec (ws := (ws_ yX1_make cX1_make 2 (some .int))) B.pre
  have hts : ∀ w ∈ lw_all, w.before _ s = true := fun w h => hts w (List.mem_cons_of_mem _ h)
  have hown : s.vm.findClass RX1 = some m.cls := findClass_of_methodNamed B.named
  have hlocks := B.notSynchronized
  obtain ⟨hsz, hP, hK, hD0, hZ⟩ := hBA
  subst hsz
  have hD := hD0.self (sz := s.heap.size)
  generalize hAe : va_A [(dk, .inr (2, [.ref wd, .int (nI n), .ref td])), (wd, .inl (cC, 64, .inl (fun j => nI (w j))))] s.heap.size = A at hD hZ ⊢
  have hA : ∀ q : Nat, s.heap.size ≤ q → A q := fun q h => by rw [← hAe]; exact Or.inr h
  have hS : va_S A s.heap s.heap [] := va_S.rf
  have hP : va_P D pd_cl [(dk, .inr (2, [.ref wd, .int (nI n), .ref td])), (wd, .inl (cC, 64, .inl (fun j => nI (w j))))] s.heap := hP
  have hl := lv_entry ([.ref dk, .int x]) (n := 2) (Nat.le_of_ble_eq_true rfl)
  rw [lg_entry_eq]
  generalize (lg_sl ([.ref dk, .int x]) ++ List.replicate (2 - (lg_sl ([.ref dk, .int x])).length) Slot.unset).toArray = ls at hl ⊢
  have hl : lv_has ls 2 [(0, .ref dk), (1, .int x)] := hl
  have hK1 : 2 ≤ K ∧ K ≤ 256 := by have := pd_twole hlev; omega
  refine lv_aload_n hx hb dX1_make_0 rfl (lv_at hl 0 rfl) ?_
  refine va_new (ci := 0) (fs := [.null, .int 0, .int 0, .int 0]) (C := RJ0) (T := TJ0) (N := 4) hx hb hts in_J0 tyJ0 tyJ0_ok hown (hts _ q198) (hts _ q199) (hts _ q4) hK hP hD hS hA rfl (fun j hj => by rcases (show j = 0 ∨ j = 1 ∨ j = 2 ∨ j = 3 by omega) with rfl | rfl | rfl | rfl <;> rfl) (by show 0 + 1 ≤ 303; omega) (by show 0 + 4 ≤ 133200; omega) dX1_make_1 (fun o H hP hD hS => ?_)
  have hP : va_P D pd_cl [(dk, .inr (2, [.ref wd, .int (nI n), .ref td])), (wd, .inl (cC, 64, .inl (fun j => nI (w j)))), (o, .inr (0, [.null, .int 0, .int 0, .int 0]))] H := hP
  have hD : va_D A [(dk, .inr (2, [.ref wd, .int (nI n), .ref td])), (wd, .inl (cC, 64, .inl (fun j => nI (w j)))), (o, .inr (0, [.null, .int 0, .int 0, .int 0]))] := hD
  refine lv_dup hx hb dX1_make_4 rfl ?_
  refine lv_aload_n hx hb dX1_make_5 rfl (lv_at hl 0 rfl) ?_
  refine va_get (D := D) (ci := 2) (v := .ref wd) (C := RX1) (T := TX1) (N := 3) hx hb hts in_X1 hown hK hP 0 rfl rfl 0 (by decide) (hts _ q28) (fun _ h9 => h9) rfl dX1_make_6 ?_
  refine lv_iconst (v := 0) hx hb dX1_make_9 (by decide) ?_
  refine lv_aload_n hx hb dX1_make_10 rfl (lv_at hl 0 rfl) ?_
  refine va_get (D := D) (ci := 2) (v := .int (nI n)) (C := RX1) (T := TX1) (N := 3) hx hb hts in_X1 hown hK hP 0 rfl rfl 1 (by decide) (hts _ q29) (fun _ h9 => h9) rfl dX1_make_11 ?_
  have hT2 : va_T .char wd 64 (fun j => .int (nI (w j))) (va_A [(o, .inr (0, [.null, .int 0, .int 0, .int 0]))] H.size) s H := pd_Tof hK hP 1 1 rfl rfl (pd_notA (i := 1) (j := 2) hD hP rfl rfl (by decide))
  have hPc := hP.sub (ws' := [(o, .inr (0, [.null, .int 0, .int 0, .int 0]))]) [2] rfl
  have hDc := hD.sub (ws' := [(o, .inr (0, [.null, .int 0, .int 0, .int 0]))]) [2] (by decide) rfl
  have hFc := va_free (wc := [(o, .inr (0, [.null, .int 0, .int 0, .int 0]))]) hD hS hA [2] rfl
  refine va_callv (va_runI (As := [.ref wd, .int 0, .int (nI n)]) (rest := [.ref o, .ref dk]) ⟨hx, hb, hml, hown, hts⟩ (m_J0i l D cB cC cI _ o wd 64 n w hn (by decide) (fun j _ => Nat.lt_trans (hw j) (by decide))) (cwI 3 hts (lw_meth q202) rfl rfl rfl (hts _ q4) (hts _ q200) (hts _ q201) rfl (by decide +kernel) ⟨Nat.le_of_ble_eq_true rfl, Nat.le_of_ble_eq_true rfl⟩) (pd_pre (fun a U g mk q => ⟨pd_BA.blind q.1, va_T.moved (u := U) (U := U.calling g mk a) (Vm.Alike.refl U.vm) q.2⟩) (fun U hU hW => ⟨pd_BA.pass hPc hDc hK hZ hS hFc hU hW, pd_T.now (hT2) hW hU⟩)) rfl rfl hl.1 rfl (lv_room (Nat.le_of_ble_eq_true rfl)) dX1_make_14 ⟨by show 0 + 1 + 2 ≤ 303; omega, by show 0 + 4 + 3 * n ≤ 133200; omega⟩) hS (fun q _ h => hFc q h) hFc (fun u_1 t H1 locs ht hvm hw9 hB hz1 hk1 hS => ?_)
  have hSt9 : pd_S o n w pd_F s H1 := by rw [← ht]; exact pd_S.moved hvm.symm hB
  obtain ⟨hP, hD⟩ := va_join (wr := [(dk, .inr (2, [.ref wd, .int (nI n), .ref td])), (wd, .inl (cC, 64, .inl (fun j => nI (w j))))]) (w1 := []) hP hD [2] [0, 1] rfl rfl (by decide) (by decide) hk1 hFc pd_P0 pd_D0
  generalize H1 = H at hP hS hSt9 ⊢
  have hP : va_P D pd_cl [(dk, .inr (2, [.ref wd, .int (nI n), .ref td])), (wd, .inl (cC, 64, .inl (fun j => nI (w j))))] H := hP
  have hD : va_D A [(dk, .inr (2, [.ref wd, .int (nI n), .ref td])), (wd, .inl (cC, 64, .inl (fun j => nI (w j))))] := hD
  refine lv_iload_n hx hb dX1_make_17 rfl (lv_at hl 1 rfl) ?_
  refine lv_bipush (v := (nI 7)) hx hb dX1_make_18 (by decide) ?_
  refine pd_iand (v := (nI lev)) hx hb dX1_make_20 (hx7) ?_
  have hPc := hP.sub (ws' := []) [] rfl
  have hDc := hD.sub (ws' := []) [] (by decide) rfl
  have hFc := va_free (wc := []) hD hS hA [] rfl
  refine va_callr (va_runS (As := [.ref o, .int (nI lev)]) (rest := [.ref dk]) ⟨hx, hb, hml, hown, hts⟩ (m_X3gec l D cB cC cI _ o n lev K w hlev hKd hn (fun j _ => hw j)) (va_cwS 2 hts (lw_S q258 q259 q8 q260) rfl rfl rfl (by decide +kernel) ⟨Nat.le_of_ble_eq_true rfl, Nat.le_of_ble_eq_true rfl⟩) (pd_pre (fun a U g mk q => ⟨pd_BA.blind q.1, pd_S.moved (u := U) (U := U.calling g mk a) (Vm.Alike.refl U.vm) q.2⟩) (fun U hU hW => ⟨pd_BA.pass hPc hDc hK hZ hS hFc hU hW, pd_S.now (hSt9.old) hW hU⟩)) rfl rfl hl.1 rfl (lv_room (Nat.le_of_ble_eq_true rfl)) dX1_make_21 ⟨by show 0 + 1 + 2 + 300 ≤ 303; omega, by show 0 + 4 + 3 * n + 133000 ≤ 133200; omega⟩) hS (fun q _ h => hFc q h) hFc (fun u_2 o2 t H1 locs ht hvm hw9 hB hz1 hk1 hS => ?_)
  obtain ⟨v2, cd, N, f, hP1, hD1, hrep⟩ := hB
  rw [ht] at hP1
  obtain ⟨hP, hD⟩ := va_join (wr := [(dk, .inr (2, [.ref wd, .int (nI n), .ref td])), (wd, .inl (cC, 64, .inl (fun j => nI (w j))))]) (w1 := [(o2, .inr (0, [.ref v2, .int cd, .int 0, .int 0])), (v2, .inl (cB, N, .inl (f)))]) hP hD [] [0, 1] rfl rfl (by decide) (by decide) hk1 hFc hP1 hD1
  generalize H1 = H at hP hS ⊢
  have hP : va_P D pd_cl [(dk, .inr (2, [.ref wd, .int (nI n), .ref td])), (wd, .inl (cC, 64, .inl (fun j => nI (w j)))), (o2, .inr (0, [.ref v2, .int cd, .int 0, .int 0])), (v2, .inl (cB, N, .inl (f)))] H := hP
  have hD : va_D A [(dk, .inr (2, [.ref wd, .int (nI n), .ref td])), (wd, .inl (cC, 64, .inl (fun j => nI (w j)))), (o2, .inr (0, [.ref v2, .int cd, .int 0, .int 0])), (v2, .inl (cB, N, .inl (f)))] := hD
  refine va_put (D := D) (ci := 2) (v := .ref o2) (ty := .object "java/lang/String") (C := RX1) (T := TX1) (N := 3) hx hb hts in_X1 tyX1 tyX1_ok nmX1 hown hK hP hD hS 0 rfl rfl 2 (by decide) (hts _ q30) (fun _ h9 => h9) rfl (by decide +kernel) (rfl) (rfl) (Nat.le_of_ble_eq_true rfl) dX1_make_24 (fun H locs hP hD hS => ?_)
  have hP : va_P D pd_cl [(dk, .inr (2, [.ref wd, .int (nI n), .ref o2])), (wd, .inl (cC, 64, .inl (fun j => nI (w j)))), (o2, .inr (0, [.ref v2, .int cd, .int 0, .int 0])), (v2, .inl (cB, N, .inl (f)))] H := hP
  have hD : va_D A [(dk, .inr (2, [.ref wd, .int (nI n), .ref o2])), (wd, .inl (cC, 64, .inl (fun j => nI (w j)))), (o2, .inr (0, [.ref v2, .int cd, .int 0, .int 0])), (v2, .inl (cB, N, .inl (f)))] := hD
  refine lv_aload_n hx hb dX1_make_27 rfl (lv_at hl 0 rfl) ?_
  refine va_get (D := D) (ci := 2) (v := .ref o2) (C := RX1) (T := TX1) (N := 3) hx hb hts in_X1 hown hK hP 0 rfl rfl 2 (by decide) (hts _ q30) (fun _ h9 => h9) rfl dX1_make_28 ?_
  have hSt2 : pd_S o2 K (pd_out K (pd_ec (pd_c lev) K w n)) pd_F s H := pd_Sof hts hK hP 2 3 rfl rfl hrep pd_Fno pd_Fno
  refine va_calli (va_runV (As := []) (rest := []) ⟨hx, hb, hml, hown, hts⟩ (m_J0len l o2 K (pd_out K (pd_ec (pd_c lev) K w n)) (by omega)) (cwV 0 hts (lw_V q49 q50 q51 q4 q52) rfl rfl rfl (by decide +kernel) ⟨Nat.le_of_ble_eq_true rfl, Nat.le_of_ble_eq_true rfl⟩) (pd_preV (fun a U g mk q => ⟨pd_Z.same (s := U) (U := U.calling g mk a) rfl q.1, pd_S.moved (u := U) (U := U.calling g mk a) (Vm.Alike.refl U.vm) q.2⟩) (va_recv hK hP (ci := 0) (q0 := 2) rfl rfl) (fun U hU hW => ⟨pd_Z.call hZ hS hW hU pd_Fin, pd_S.now (hSt2) hW hU⟩)) rfl rfl hl.1 rfl (lv_room (Nat.le_of_ble_eq_true rfl)) dX1_make_31 ⟨by show 0 + 1 + 2 + 300 + 0 ≤ 303; omega, by show 0 + 4 + 3 * n + 133000 + 0 ≤ 133200; omega⟩) hS pd_Fin2 pd_Fin (fun r9 u_3 t H1 locs ht hvm hw9 hB hz1 hk1 hS => ?_)
  have hP := pd_keep hP hk1
  generalize H1 = H at hP hS ⊢
  obtain rfl : r9 = (nI K) := hw9
  refine W.widen (k := 303) (n := 133200) (by omega) (by omega) ?_
  exact W.iret (v := (nI K)) hx hb hr (fun t ht hW => ⟨⟨(nI K), (), rfl, rfl, o2, v2, cd, N, f, by rw [ht]; exact hP, hD, hrep⟩, hS.F ht⟩) hS.2.2 dX1_make_34
set_option maxHeartbeats 4000000 in
set_option maxRecDepth 100000 in
/-- Row() -/
theorem m_X2init (l : Launch) (D : va_G) (cB cC cI : ClassId) (sz rw0 : Nat) : Met l yX2_init (ws_ yX2_init cX2_init 1 (none)) ({ frames := 1, cells := 1, slots := 64, locals := 30 }) (va_Pc [.ref rw0] (fun U => pd_BA D cB cC cI [(rw0, .inr (3, [.null, .int 0]))] sz U)) (va_Qv (fun _ : Unit => True) (fun _ t => ∃ wr : Nat, va_P D pd_cl [(rw0, .inr (3, [.ref wr, .int 0])), (wr, .inl (cI, 64, .inl (fun _ => 0)))] t.heap ∧ va_D (va_A [(rw0, .inr (3, [.null, .int 0]))] sz) [(rw0, .inr (3, [.ref wr, .int 0])), (wr, .inl (cI, 64, .inl (fun _ => 0)))]) (va_A [(rw0, .inr (3, [.null, .int 0]))] sz)) 1 64 (va_A [(rw0, .inr (3, [.null, .int 0]))] sz) := by
  refine Met.ofW (cc := cX2_init) (maxL := 1) (ret := (none)) (by decide) rfl ?_
  intro p e s m args below meth c s₁ B hml hv
  obtain ⟨rfl, hBA⟩ := hv
  have hx := B.exec
  have hb := B.bytes
  have hr := B.returns
  have hts := atoms_spec (ws := (ws_ yX2_init cX2_init 1 (none))) B.pre
  have hts : ∀ w ∈ lw_all, w.before _ s = true := fun w h => hts w (List.mem_cons_of_mem _ h)
  have hown : s.vm.findClass RX2 = some m.cls := findClass_of_methodNamed B.named
  have hlocks := B.notSynchronized
  have hin : meth.name = "<init>" := (name_of_methodNamed B.named B.method).1
  obtain ⟨hsz, hP, hK, hD0, hZ⟩ := hBA
  subst hsz
  have hD := hD0.self (sz := s.heap.size)
  generalize hAe : va_A [(rw0, .inr (3, [.null, .int 0]))] s.heap.size = A at hD hZ ⊢
  have hA : ∀ q : Nat, s.heap.size ≤ q → A q := fun q h => by rw [← hAe]; exact Or.inr h
  have hS : va_S A s.heap s.heap [] := va_S.rf
  have hP : va_P D pd_cl [(rw0, .inr (3, [.null, .int 0]))] s.heap := hP
  have hl := lv_entry ([.ref rw0]) (n := 1) (Nat.le_of_ble_eq_true rfl)
  rw [lg_entry_eq]
  generalize (lg_sl ([.ref rw0]) ++ List.replicate (1 - (lg_sl ([.ref rw0])).length) Slot.unset).toArray = ls at hl ⊢
  have hl : lv_has ls 1 [(0, .ref rw0)] := hl
  refine lv_aload_n hx hb dX2_init_0 rfl (lv_at hl 0 rfl) ?_
  refine W.objInit hx hb hown (hts _ q102) (hts _ q25) (hts _ q26) rfl (by rw [hml]; exact hl.1) rfl dX2_init_1 (Nat.le_of_ble_eq_true rfl) (Nat.le_of_ble_eq_true rfl) ?_
  refine W.eq (g2 := F0 m 4 ls []) rfl ?_
  refine lv_aload_n hx hb dX2_init_4 rfl (lv_at hl 0 rfl) ?_
  refine lv_bipush (v := (nI 64)) hx hb dX2_init_5 (by decide) ?_
  refine pd_newi (N := 64) hx hb (hts _ q111) hK hP hD hS hA (rfl) (by decide) (by show 0 + 1 ≤ 1; omega) (by show 0 + 64 ≤ 64; omega) dX2_init_7 (fun wr H hP hD hS => ?_)
  have hP : va_P D pd_cl [(rw0, .inr (3, [.null, .int 0])), (wr, .inl (cI, 64, .inl (fun _ => 0)))] H := hP
  have hD : va_D A [(rw0, .inr (3, [.null, .int 0])), (wr, .inl (cI, 64, .inl (fun _ => 0)))] := hD
  refine va_putF (D := D) (ci := 3) (v := .ref wr) (ty := .array .int) (C := RX2) (T := TX2) (N := 2) hx hb hts in_X2 tyX2 tyX2_ok nmX2 hown hK hP hD hS 0 rfl rfl 0 (by decide) (hts _ q103) (fun _ h9 => h9) rfl hin rfl (by decide +kernel) (rfl) (rfl) (Nat.le_of_ble_eq_true rfl) dX2_init_9 (fun H locs hP hD hS => ?_)
  have hP : va_P D pd_cl [(rw0, .inr (3, [.ref wr, .int 0])), (wr, .inl (cI, 64, .inl (fun _ => 0)))] H := hP
  have hD : va_D A [(rw0, .inr (3, [.ref wr, .int 0])), (wr, .inl (cI, 64, .inl (fun _ => 0)))] := hD
  refine W.widen (k := 1) (n := 64) (by omega) (by omega) ?_
  exact W.vret hx hb hr (fun t ht hW => ⟨⟨(), rfl, trivial, wr, by rw [ht]; exact hP, hD⟩, hS.F ht⟩) hS.2.2 dX2_init_12
set_option maxHeartbeats 4000000 in
set_option maxRecDepth 100000 in
/-- cell(script, k) -/
theorem m_X0cell (l : Launch) (b0 L k : Nat) (xs : Nat → Int32) (hL : L ≤ 96) (hk : k < 2 ^ 31) : Met l yX0_cell (ws_ yX0_cell cX0_cell 2 (some .int)) ({ frames := 0, cells := 0, slots := 0, locals := 0 }) (va_Pc [.ref b0, .int (nI k)] (fun U => va_T .int b0 L (fun j => .int (xs j)) pd_F U U.heap)) (va_Qi (fun (r : Int32) (_ : Unit) => r = pd_cell L xs k) (fun _ _ => True) pd_F) 0 0 pd_F := by
  refine Met.ofW (cc := cX0_cell) (maxL := 2) (ret := (some .int)) (by decide) rfl ?_
  intro p e s m args below meth c s₁ B hml hv
  obtain ⟨rfl, hT⟩ := hv
  have hx := B.exec
  have hb := B.bytes
  have hr := B.returns
  have hts := atoms_spec (ws := (ws_ yX0_cell cX0_cell 2 (some .int))) B.pre
  have hts : ∀ w ∈ lw_all, w.before _ s = true := fun w h => hts w (List.mem_cons_of_mem _ h)
  have hown : s.vm.findClass RX0 = some m.cls := findClass_of_methodNamed B.named
  have hlocks := B.notSynchronized
  have hS : va_S pd_F s.heap s.heap [] := va_S.rf
  have hl := lv_entry ([.ref b0, .int (nI k)]) (n := 2) (Nat.le_of_ble_eq_true rfl)
  rw [lg_entry_eq]
  generalize (lg_sl ([.ref b0, .int (nI k)]) ++ List.replicate (2 - (lg_sl ([.ref b0, .int (nI k)])).length) Slot.unset).toArray = ls at hl ⊢
  have hl : lv_has ls 2 [(0, .ref b0), (1, .int (nI k))] := hl
  refine lv_iload_n hx hb dX0_cell_0 rfl (lv_at hl 1 rfl) ?_
  refine lv_aload_n hx hb dX0_cell_1 rfl (lv_at hl 0 rfl) ?_
  refine va_tlen (v := (nI L)) hx hb hT hS (rfl) dX0_cell_2 ?_
  refine lv_icmp_ge (tgt := 12) hx hb dX0_cell_3 (by decide) (fun c1 => ?_) (fun c1 => ?_)
  · have h9 : ¬ k < L := Nat.not_lt.mpr ((nI_leI (by omega) hk).mp c1)
    refine lv_iconst (v := 0) hx hb dX0_cell_12 (by decide) ?_
    exact W.iret (v := 0) hx hb hr (fun t ht hW => ⟨⟨0, (), rfl, (if_neg h9).symm, trivial⟩, hS.F ht⟩) hS.2.2 dX0_cell_13
  · have h9 : k < L := Nat.lt_of_not_le (fun z => c1 (nI_le z hk))
    refine lv_aload_n hx hb dX0_cell_6 rfl (lv_at hl 0 rfl) ?_
    refine lv_iload_n hx hb dX0_cell_7 rfl (lv_at hl 1 rfl) ?_
    refine va_ti (v := .int (xs k)) hx hb hT hS (vp_in_nI h9 (by omega)) (congrArg (fun z => Value.int (xs z)) (nI_clamp hk)) dX0_cell_8 ?_
    refine lv_goto (tgt := 13) hx hb dX0_cell_9 (by decide) ?_
    exact W.iret (v := (xs k)) hx hb hr (fun t ht hW => ⟨⟨(xs k), (), rfl, (if_pos h9).symm, trivial⟩, hS.F ht⟩) hS.2.2 dX0_cell_13
set_option maxHeartbeats 4000000 in
set_option maxRecDepth 100000 in
/-- rest(x, d) -/
theorem m_X0rest (l : Launch) (d : Nat) (x : Int32) (h0 : 0 < d) (hd : d < 2 ^ 31) : Met l yX0_rest (ws_ yX0_rest cX0_rest 2 (some .int)) ({ frames := 0, cells := 0, slots := 0, locals := 0 }) (va_Pc [.int x, .int (nI d)] (fun U => True)) (va_Qi (fun (r : Int32) (_ : Unit) => r = nI (pd_u x % d)) (fun _ _ => True) pd_F) 0 0 pd_F := by
  refine Met.ofW (cc := cX0_rest) (maxL := 2) (ret := (some .int)) (by decide) rfl ?_
  intro p e s m args below meth c s₁ B hml hv
  obtain ⟨rfl, -⟩ := hv
  have hx := B.exec
  have hb := B.bytes
  have hr := B.returns
  have hts := atoms_spec (ws := (ws_ yX0_rest cX0_rest 2 (some .int))) B.pre
  have hts : ∀ w ∈ lw_all, w.before _ s = true := fun w h => hts w (List.mem_cons_of_mem _ h)
  have hown : s.vm.findClass RX0 = some m.cls := findClass_of_methodNamed B.named
  have hlocks := B.notSynchronized
  have hS : va_S pd_F s.heap s.heap [] := va_S.rf
  have hl := lv_entry ([.int x, .int (nI d)]) (n := 2) (Nat.le_of_ble_eq_true rfl)
  rw [lg_entry_eq]
  generalize (lg_sl ([.int x, .int (nI d)]) ++ List.replicate (2 - (lg_sl ([.int x, .int (nI d)])).length) Slot.unset).toArray = ls at hl ⊢
  have hl : lv_has ls 2 [(0, .int x), (1, .int (nI d))] := hl
  have hx9 := pd_u_lt x
  refine lv_iload_n hx hb dX0_rest_0 rfl (lv_at hl 0 rfl) ?_
  refine lv_ldc hx hb hown (hts _ q118) dX0_rest_1 ?_
  refine pd_iand (v := (nI (pd_u x))) hx hb dX0_rest_3 (pd_mask _) ?_
  refine lv_iload_n hx hb dX0_rest_4 rfl (lv_at hl 1 rfl) ?_
  refine pd_irem (v := (nI (pd_u x % d))) hx hb dX0_rest_5 (nI_ne0 h0 hd) (pd_rem (by omega) h0 hd) ?_
  exact W.iret (v := (nI (pd_u x % d))) hx hb hr (fun t ht hW => ⟨⟨(nI (pd_u x % d)), (), rfl, rfl, trivial⟩, hS.F ht⟩) hS.2.2 dX0_rest_6
set_option maxHeartbeats 4000000 in
set_option maxRecDepth 100000 in
/-- puts(desk, row, x, y): true; the row has what the desk has -/
theorem m_X0puts (l : Launch) (D : va_G) (cB cC cI : ClassId) (sz dk wd rw0 wr td n : Nat) (w : Nat → Nat) (x y : Int32) (hn : n ≤ 64) (hw : ∀ j, w j < 929) : Met l yX0_puts (ws_ yX0_puts cX0_puts 5 (some .boolean)) ({ frames := 1, cells := 0, slots := 0, locals := 40 }) (va_Pc [.ref dk, .ref rw0, .int x, .int y] (fun U => pd_BA D cB cC cI [(dk, .inr (2, [.ref wd, .int (nI n), .ref td])), (wd, .inl (cC, 64, .inl (fun j => nI (w j)))), (rw0, .inr (3, [.ref wr, .int (nI n)])), (wr, .inl (cI, 64, .inl (fun j => nI (w j))))] sz U)) (va_Qi (fun (r : Int32) (_ : Unit) => r = 1) (fun _ t => ∃ (n2 : Nat) (w2 : Nat → Nat), va_P D pd_cl [(dk, .inr (2, [.ref wd, .int (nI n2), .ref td])), (wd, .inl (cC, 64, .inl (fun j => nI (w2 j)))), (rw0, .inr (3, [.ref wr, .int (nI n2)])), (wr, .inl (cI, 64, .inl (fun j => nI (w2 j))))] t.heap ∧ va_D (va_A [(dk, .inr (2, [.ref wd, .int (nI n), .ref td])), (wd, .inl (cC, 64, .inl (fun j => nI (w j)))), (rw0, .inr (3, [.ref wr, .int (nI n)])), (wr, .inl (cI, 64, .inl (fun j => nI (w j))))] sz) [(dk, .inr (2, [.ref wd, .int (nI n2), .ref td])), (wd, .inl (cC, 64, .inl (fun j => nI (w2 j)))), (rw0, .inr (3, [.ref wr, .int (nI n2)])), (wr, .inl (cI, 64, .inl (fun j => nI (w2 j))))] ∧ n2 ≤ 64 ∧ ∀ j, w2 j < 929) (va_A [(dk, .inr (2, [.ref wd, .int (nI n), .ref td])), (wd, .inl (cC, 64, .inl (fun j => nI (w j)))), (rw0, .inr (3, [.ref wr, .int (nI n)])), (wr, .inl (cI, 64, .inl (fun j => nI (w j))))] sz)) 0 0 (va_A [(dk, .inr (2, [.ref wd, .int (nI n), .ref td])), (wd, .inl (cC, 64, .inl (fun j => nI (w j)))), (rw0, .inr (3, [.ref wr, .int (nI n)])), (wr, .inl (cI, 64, .inl (fun j => nI (w j))))] sz) := by
  refine Met.ofW (cc := cX0_puts) (maxL := 5) (ret := (some .boolean)) (by decide) rfl ?_
  intro p e s m args below meth c s₁ B hml hv
  obtain ⟨rfl, hBA⟩ := hv
  have hx := B.exec
  have hb := B.bytes
  have hr := B.returns
  have hts := atoms_spec (ws := (ws_ yX0_puts cX0_puts 5 (some .boolean))) B.pre
  have hts : ∀ w ∈ lw_all, w.before _ s = true := fun w h => hts w (List.mem_cons_of_mem _ h)
  have hown : s.vm.findClass RX0 = some m.cls := findClass_of_methodNamed B.named
  have hlocks := B.notSynchronized
  obtain ⟨hsz, hP, hK, hD0, hZ⟩ := hBA
  subst hsz
  have hD := hD0.self (sz := s.heap.size)
  generalize hAe : va_A [(dk, .inr (2, [.ref wd, .int (nI n), .ref td])), (wd, .inl (cC, 64, .inl (fun j => nI (w j)))), (rw0, .inr (3, [.ref wr, .int (nI n)])), (wr, .inl (cI, 64, .inl (fun j => nI (w j))))] s.heap.size = A at hD hZ ⊢
  have hA : ∀ q : Nat, s.heap.size ≤ q → A q := fun q h => by rw [← hAe]; exact Or.inr h
  have hS : va_S A s.heap s.heap [] := va_S.rf
  have hP : va_P D pd_cl [(dk, .inr (2, [.ref wd, .int (nI n), .ref td])), (wd, .inl (cC, 64, .inl (fun j => nI (w j)))), (rw0, .inr (3, [.ref wr, .int (nI n)])), (wr, .inl (cI, 64, .inl (fun j => nI (w j))))] s.heap := hP
  have hl := lv_entry ([.ref dk, .ref rw0, .int x, .int y]) (n := 5) (Nat.le_of_ble_eq_true rfl)
  rw [lg_entry_eq]
  generalize (lg_sl ([.ref dk, .ref rw0, .int x, .int y]) ++ List.replicate (5 - (lg_sl ([.ref dk, .ref rw0, .int x, .int y])).length) Slot.unset).toArray = ls at hl ⊢
  have hl : lv_has ls 5 [(0, .ref dk), (1, .ref rw0), (2, .int x), (3, .int y)] := hl
  have hx8 : pd_u x % 929 < 929 := Nat.mod_lt _ (by decide)
  have hy8 : pd_u y % 929 < 929 := Nat.mod_lt _ (by decide)
  refine lv_aload_n hx hb dX0_puts_0 rfl (lv_at hl 1 rfl) ?_
  refine va_get (D := D) (ci := 3) (v := .int (nI n)) (C := RX2) (T := TX2) (N := 2) hx hb hts in_X2 hown hK hP 2 rfl rfl 1 (by decide) (hts _ q105) (fun _ h9 => h9) rfl dX0_puts_1 ?_
  refine lv_bipush (v := (nI 62)) hx hb dX0_puts_4 (by decide) ?_
  refine lv_icmp_gt (tgt := 13) hx hb dX0_puts_6 (by decide) (fun c1 => ?_) (fun c1 => ?_)
  · have h9 : 62 < n := (nI_ltI (a := 62) (by decide) (by omega)).mp c1
    refine lv_iconst (v := 0) hx hb dX0_puts_13 (by decide) ?_
    refine lv_istore (lv' := [(4, .int 0), (0, .ref dk), (1, .ref rw0), (2, .int x), (3, .int y)]) hx hb dX0_puts_14 hl (by decide) rfl (fun ls hl => ?_)
    refine lv_aload_n hx hb dX0_puts_16 rfl (lv_at hl 1 rfl) ?_
    refine lv_iload_n hx hb dX0_puts_17 rfl (lv_at hl 3 rfl) ?_
    refine lv_iload_n hx hb dX0_puts_18 rfl (lv_at hl 4 rfl) ?_
    have hPc := hP.sub (ws' := [(dk, .inr (2, [.ref wd, .int (nI n), .ref td])), (wd, .inl (cC, 64, .inl (fun j => nI (w j))))]) [0, 1] rfl
    have hDc := hD.sub (ws' := [(dk, .inr (2, [.ref wd, .int (nI n), .ref td])), (wd, .inl (cC, 64, .inl (fun j => nI (w j))))]) [0, 1] (by decide) rfl
    have hFc := va_free (wc := [(dk, .inr (2, [.ref wd, .int (nI n), .ref td])), (wd, .inl (cC, 64, .inl (fun j => nI (w j))))]) hD hS hA [0, 1] rfl
    refine va_calli (va_runV (As := [.int x, .int y]) (rest := []) ⟨hx, hb, hml, hown, hts⟩ (m_X1put0 l D cB cC cI _ dk wd td n w x y h9 hn) (cwV 2 hts (lw_V q420 q421 q422 q2 q423) rfl rfl rfl (by decide +kernel) ⟨Nat.le_of_ble_eq_true rfl, Nat.le_of_ble_eq_true rfl⟩) (pd_preV (fun a U g mk q => pd_BA.blind q) (va_recv hK hP (ci := 2) (q0 := 0) rfl rfl) (fun U hU hW => pd_BA.pass hPc hDc hK hZ hS hFc hU hW)) rfl rfl hl.1 rfl (lv_room (Nat.le_of_ble_eq_true rfl)) dX0_puts_19 ⟨Nat.le_of_ble_eq_true rfl, Nat.le_of_ble_eq_true rfl⟩) hS (fun q _ h => hFc q h) hFc (fun r9 u_1 t H1 locs ht hvm hw9 hB hz1 hk1 hS => ?_)
    obtain ⟨hP1, hD1⟩ := hB
    rw [ht] at hP1
    obtain ⟨hP, hD⟩ := va_join (wr := [(rw0, .inr (3, [.ref wr, .int (nI n)])), (wr, .inl (cI, 64, .inl (fun j => nI (w j))))]) (w1 := [(dk, .inr (2, [.ref wd, .int (nI n), .ref td])), (wd, .inl (cC, 64, .inl (fun j => nI (w j))))]) hP hD [0, 1] [2, 3] rfl rfl (by decide) (by decide) hk1 hFc hP1 hD1
    generalize H1 = H at hP hS ⊢
    have hP : va_P D pd_cl [(rw0, .inr (3, [.ref wr, .int (nI n)])), (wr, .inl (cI, 64, .inl (fun j => nI (w j)))), (dk, .inr (2, [.ref wd, .int (nI n), .ref td])), (wd, .inl (cC, 64, .inl (fun j => nI (w j))))] H := hP
    have hD : va_D A [(rw0, .inr (3, [.ref wr, .int (nI n)])), (wr, .inl (cI, 64, .inl (fun j => nI (w j)))), (dk, .inr (2, [.ref wd, .int (nI n), .ref td])), (wd, .inl (cC, 64, .inl (fun j => nI (w j))))] := hD
    obtain rfl : r9 = 0 := hw9
    refine lv_iload hx hb dX0_puts_22 (lv_at hl 0 rfl) ?_
    refine lv_icmp_eq (tgt := 29) hx hb dX0_puts_24 (by decide) (fun _ => ?_) (fun c9 => absurd (rfl) c9)
    refine lv_iload hx hb dX0_puts_29 (lv_at hl 0 rfl) ?_
    refine lv_if_eq (tgt := 78) hx hb dX0_puts_31 (by decide) (fun _ => ?_) (fun c9 => absurd (rfl) c9)
    refine lv_iconst (v := (nI 1)) hx hb dX0_puts_78 (by decide) ?_
    have hP9 := hP.sub (ws' := [(dk, .inr (2, [.ref wd, .int (nI n), .ref td])), (wd, .inl (cC, 64, .inl (fun j => nI (w j)))), (rw0, .inr (3, [.ref wr, .int (nI n)])), (wr, .inl (cI, 64, .inl (fun j => nI (w j))))]) [2, 3, 0, 1] rfl
    have hD9 := hD.sub (ws' := [(dk, .inr (2, [.ref wd, .int (nI n), .ref td])), (wd, .inl (cC, 64, .inl (fun j => nI (w j)))), (rw0, .inr (3, [.ref wr, .int (nI n)])), (wr, .inl (cI, 64, .inl (fun j => nI (w j))))]) [2, 3, 0, 1] (by decide) rfl
    exact W.zret (v := (nI 1)) hx hb hr (rfl) (fun t ht hW => ⟨⟨(nI 1), (), rfl, rfl, n, w, by rw [ht]; exact hP9, hD9, hn, hw⟩, hS.F ht⟩) hS.2.2 dX0_puts_79
  · have h9 : n ≤ 62 := Nat.le_of_not_lt (fun z => c1 (nI_lt z (by omega)))
    refine lv_iconst (v := (nI 1)) hx hb dX0_puts_9 (by decide) ?_
    refine lv_goto (tgt := 14) hx hb dX0_puts_10 (by decide) ?_
    refine lv_istore (lv' := [(4, .int (nI 1)), (0, .ref dk), (1, .ref rw0), (2, .int x), (3, .int y)]) hx hb dX0_puts_14 hl (by decide) rfl (fun ls hl => ?_)
    refine lv_aload_n hx hb dX0_puts_16 rfl (lv_at hl 1 rfl) ?_
    refine lv_iload_n hx hb dX0_puts_17 rfl (lv_at hl 3 rfl) ?_
    refine lv_iload_n hx hb dX0_puts_18 rfl (lv_at hl 4 rfl) ?_
    have hPc := hP.sub (ws' := [(dk, .inr (2, [.ref wd, .int (nI n), .ref td])), (wd, .inl (cC, 64, .inl (fun j => nI (w j))))]) [0, 1] rfl
    have hDc := hD.sub (ws' := [(dk, .inr (2, [.ref wd, .int (nI n), .ref td])), (wd, .inl (cC, 64, .inl (fun j => nI (w j))))]) [0, 1] (by decide) rfl
    have hFc := va_free (wc := [(dk, .inr (2, [.ref wd, .int (nI n), .ref td])), (wd, .inl (cC, 64, .inl (fun j => nI (w j))))]) hD hS hA [0, 1] rfl
    refine va_calli (va_runV (As := [.int x, .int y]) (rest := []) ⟨hx, hb, hml, hown, hts⟩ (m_X1put1 l D cB cC cI _ dk wd td n w x y h9) (cwV 2 hts (lw_V q420 q421 q422 q2 q423) rfl rfl rfl (by decide +kernel) ⟨Nat.le_of_ble_eq_true rfl, Nat.le_of_ble_eq_true rfl⟩) (pd_preV (fun a U g mk q => pd_BA.blind q) (va_recv hK hP (ci := 2) (q0 := 0) rfl rfl) (fun U hU hW => pd_BA.pass hPc hDc hK hZ hS hFc hU hW)) rfl rfl hl.1 rfl (lv_room (Nat.le_of_ble_eq_true rfl)) dX0_puts_19 ⟨Nat.le_of_ble_eq_true rfl, Nat.le_of_ble_eq_true rfl⟩) hS (fun q _ h => hFc q h) hFc (fun r9 u_1 t H1 locs ht hvm hw9 hB hz1 hk1 hS => ?_)
    obtain ⟨hP1, hD1⟩ := hB
    rw [ht] at hP1
    obtain ⟨hP, hD⟩ := va_join (wr := [(rw0, .inr (3, [.ref wr, .int (nI n)])), (wr, .inl (cI, 64, .inl (fun j => nI (w j))))]) (w1 := [(dk, .inr (2, [.ref wd, .int (nI (n + 2)), .ref td])), (wd, .inl (cC, 64, .inl (fun j => nI (pd_wput w n (pd_u x % 929) (pd_u y % 929) j))))]) hP hD [0, 1] [2, 3] rfl rfl (by decide) (by decide) hk1 hFc hP1 hD1
    generalize H1 = H at hP hS ⊢
    have hP : va_P D pd_cl [(rw0, .inr (3, [.ref wr, .int (nI n)])), (wr, .inl (cI, 64, .inl (fun j => nI (w j)))), (dk, .inr (2, [.ref wd, .int (nI (n + 2)), .ref td])), (wd, .inl (cC, 64, .inl (fun j => nI (pd_wput w n (pd_u x % 929) (pd_u y % 929) j))))] H := hP
    have hD : va_D A [(rw0, .inr (3, [.ref wr, .int (nI n)])), (wr, .inl (cI, 64, .inl (fun j => nI (w j)))), (dk, .inr (2, [.ref wd, .int (nI (n + 2)), .ref td])), (wd, .inl (cC, 64, .inl (fun j => nI (pd_wput w n (pd_u x % 929) (pd_u y % 929) j))))] := hD
    obtain rfl : r9 = 1 := hw9
    rw [pd_lit1] at hl
    refine lv_iload hx hb dX0_puts_22 (lv_at hl 0 rfl) ?_
    refine lv_icmp_eq (tgt := 29) hx hb dX0_puts_24 (by decide) (fun _ => ?_) (fun c9 => absurd (rfl) c9)
    refine lv_iload hx hb dX0_puts_29 (lv_at hl 0 rfl) ?_
    refine lv_if_eq (tgt := 78) hx hb dX0_puts_31 (by decide) (fun c9 => absurd c9 (by decide)) (fun _ => ?_)
    refine lv_aload_n hx hb dX0_puts_34 rfl (lv_at hl 2 rfl) ?_
    refine va_get (D := D) (ci := 3) (v := .ref wr) (C := RX2) (T := TX2) (N := 2) hx hb hts in_X2 hown hK hP 0 rfl rfl 0 (by decide) (hts _ q104) (fun _ h9 => h9) rfl dX0_puts_35 ?_
    refine lv_aload_n hx hb dX0_puts_38 rfl (lv_at hl 2 rfl) ?_
    refine va_get (D := D) (ci := 3) (v := .int (nI n)) (C := RX2) (T := TX2) (N := 2) hx hb hts in_X2 hown hK hP 0 rfl rfl 1 (by decide) (hts _ q105) (fun _ h9 => h9) rfl dX0_puts_39 ?_
    refine lv_iload_n hx hb dX0_puts_42 rfl (lv_at hl 3 rfl) ?_
    refine lv_sipush (v := (nI 929)) hx hb dX0_puts_43 (by decide) ?_
    refine va_calli (va_runS (As := [.int x, .int (nI 929)]) (rest := [.int (nI n), .ref wr]) ⟨hx, hb, hml, hown, hts⟩ (m_X0rest l 929 x (by decide) (by decide)) (va_cwS 2 hts (lw_S q115 q116 q1 q117) rfl rfl rfl (by decide +kernel) ⟨Nat.le_of_ble_eq_true rfl, Nat.le_of_ble_eq_true rfl⟩) (pd_pre (fun a U g mk q => trivial) (fun U hU hW => trivial)) rfl rfl hl.1 rfl (lv_room (Nat.le_of_ble_eq_true rfl)) dX0_puts_46 ⟨Nat.le_of_ble_eq_true rfl, Nat.le_of_ble_eq_true rfl⟩) hS pd_Fin2 pd_Fin (fun r9 u_2 t H1 locs ht hvm hw9 hB hz1 hk1 hS => ?_)
    have hP := pd_keep hP hk1
    generalize H1 = H at hP hS ⊢
    obtain rfl : r9 = (nI (pd_u x % 929)) := hw9
    refine pd_iast (f2 := upd (fun j => nI (w j)) n (nI (pd_u x % 929))) hx hb hK hP hD hS 1 2 rfl rfl (vp_in_nI (by omega) (by omega)) (by rw [nI_clamp (by omega)]) dX0_puts_49 (fun H locs hP hD hS => ?_)
    have hP : va_P D pd_cl [(rw0, .inr (3, [.ref wr, .int (nI n)])), (wr, .inl (cI, 64, .inl (upd (fun j => nI (w j)) n (nI (pd_u x % 929))))), (dk, .inr (2, [.ref wd, .int (nI (n + 2)), .ref td])), (wd, .inl (cC, 64, .inl (fun j => nI (pd_wput w n (pd_u x % 929) (pd_u y % 929) j))))] H := hP
    have hD : va_D A [(rw0, .inr (3, [.ref wr, .int (nI n)])), (wr, .inl (cI, 64, .inl (upd (fun j => nI (w j)) n (nI (pd_u x % 929))))), (dk, .inr (2, [.ref wd, .int (nI (n + 2)), .ref td])), (wd, .inl (cC, 64, .inl (fun j => nI (pd_wput w n (pd_u x % 929) (pd_u y % 929) j))))] := hD
    refine lv_aload_n hx hb dX0_puts_50 rfl (lv_at hl 2 rfl) ?_
    refine va_get (D := D) (ci := 3) (v := .ref wr) (C := RX2) (T := TX2) (N := 2) hx hb hts in_X2 hown hK hP 0 rfl rfl 0 (by decide) (hts _ q104) (fun _ h9 => h9) rfl dX0_puts_51 ?_
    refine lv_aload_n hx hb dX0_puts_54 rfl (lv_at hl 2 rfl) ?_
    refine va_get (D := D) (ci := 3) (v := .int (nI n)) (C := RX2) (T := TX2) (N := 2) hx hb hts in_X2 hown hK hP 0 rfl rfl 1 (by decide) (hts _ q105) (fun _ h9 => h9) rfl dX0_puts_55 ?_
    refine lv_iconst (v := (nI 1)) hx hb dX0_puts_58 (by decide) ?_
    refine pd_iadd (v := (nI (n + 1))) hx hb dX0_puts_59 (nI_1 _) ?_
    refine lv_iload_n hx hb dX0_puts_60 rfl (lv_at hl 4 rfl) ?_
    refine lv_sipush (v := (nI 929)) hx hb dX0_puts_61 (by decide) ?_
    refine va_calli (va_runS (As := [.int y, .int (nI 929)]) (rest := [.int (nI (n + 1)), .ref wr]) ⟨hx, hb, hml, hown, hts⟩ (m_X0rest l 929 y (by decide) (by decide)) (va_cwS 2 hts (lw_S q115 q116 q1 q117) rfl rfl rfl (by decide +kernel) ⟨Nat.le_of_ble_eq_true rfl, Nat.le_of_ble_eq_true rfl⟩) (pd_pre (fun a U g mk q => trivial) (fun U hU hW => trivial)) rfl rfl hl.1 rfl (lv_room (Nat.le_of_ble_eq_true rfl)) dX0_puts_64 ⟨Nat.le_of_ble_eq_true rfl, Nat.le_of_ble_eq_true rfl⟩) hS pd_Fin2 pd_Fin (fun r9 u_3 t H1 locs ht hvm hw9 hB hz1 hk1 hS => ?_)
    have hP := pd_keep hP hk1
    generalize H1 = H at hP hS ⊢
    obtain rfl : r9 = (nI (pd_u y % 929)) := hw9
    refine pd_iast (f2 := upd (upd (fun j => nI (w j)) n (nI (pd_u x % 929))) (n + 1) (nI (pd_u y % 929))) hx hb hK hP hD hS 1 2 rfl rfl (vp_in_nI (by omega) (by omega)) (by rw [nI_clamp (by omega)]) dX0_puts_67 (fun H locs hP hD hS => ?_)
    have hP : va_P D pd_cl [(rw0, .inr (3, [.ref wr, .int (nI n)])), (wr, .inl (cI, 64, .inl (upd (upd (fun j => nI (w j)) n (nI (pd_u x % 929))) (n + 1) (nI (pd_u y % 929))))), (dk, .inr (2, [.ref wd, .int (nI (n + 2)), .ref td])), (wd, .inl (cC, 64, .inl (fun j => nI (pd_wput w n (pd_u x % 929) (pd_u y % 929) j))))] H := hP
    have hD : va_D A [(rw0, .inr (3, [.ref wr, .int (nI n)])), (wr, .inl (cI, 64, .inl (upd (upd (fun j => nI (w j)) n (nI (pd_u x % 929))) (n + 1) (nI (pd_u y % 929))))), (dk, .inr (2, [.ref wd, .int (nI (n + 2)), .ref td])), (wd, .inl (cC, 64, .inl (fun j => nI (pd_wput w n (pd_u x % 929) (pd_u y % 929) j))))] := hD
    rw [pd_wput_eq] at hP hD
    refine lv_aload_n hx hb dX0_puts_68 rfl (lv_at hl 2 rfl) ?_
    refine lv_dup hx hb dX0_puts_69 rfl ?_
    refine va_get (D := D) (ci := 3) (v := .int (nI n)) (C := RX2) (T := TX2) (N := 2) hx hb hts in_X2 hown hK hP 0 rfl rfl 1 (by decide) (hts _ q105) (fun _ h9 => h9) rfl dX0_puts_70 ?_
    refine lv_iconst (v := (nI 2)) hx hb dX0_puts_73 (by decide) ?_
    refine pd_iadd (v := (nI (n + 2))) hx hb dX0_puts_74 (nI_add n 2) ?_
    refine va_put (D := D) (ci := 3) (v := .int (nI (n + 2))) (ty := .int) (C := RX2) (T := TX2) (N := 2) hx hb hts in_X2 tyX2 tyX2_ok nmX2 hown hK hP hD hS 0 rfl rfl 1 (by decide) (hts _ q105) (fun _ h9 => h9) rfl (by decide +kernel) (rfl) (rfl) (Nat.le_of_ble_eq_true rfl) dX0_puts_75 (fun H locs hP hD hS => ?_)
    have hP : va_P D pd_cl [(rw0, .inr (3, [.ref wr, .int (nI (n + 2))])), (wr, .inl (cI, 64, .inl (fun j => nI (pd_wput w n (pd_u x % 929) (pd_u y % 929) j)))), (dk, .inr (2, [.ref wd, .int (nI (n + 2)), .ref td])), (wd, .inl (cC, 64, .inl (fun j => nI (pd_wput w n (pd_u x % 929) (pd_u y % 929) j))))] H := hP
    have hD : va_D A [(rw0, .inr (3, [.ref wr, .int (nI (n + 2))])), (wr, .inl (cI, 64, .inl (fun j => nI (pd_wput w n (pd_u x % 929) (pd_u y % 929) j)))), (dk, .inr (2, [.ref wd, .int (nI (n + 2)), .ref td])), (wd, .inl (cC, 64, .inl (fun j => nI (pd_wput w n (pd_u x % 929) (pd_u y % 929) j))))] := hD
    refine lv_iconst (v := (nI 1)) hx hb dX0_puts_78 (by decide) ?_
    have hP9 := hP.sub (ws' := [(dk, .inr (2, [.ref wd, .int (nI (n + 2)), .ref td])), (wd, .inl (cC, 64, .inl (fun j => nI (pd_wput w n (pd_u x % 929) (pd_u y % 929) j)))), (rw0, .inr (3, [.ref wr, .int (nI (n + 2))])), (wr, .inl (cI, 64, .inl (fun j => nI (pd_wput w n (pd_u x % 929) (pd_u y % 929) j))))]) [2, 3, 0, 1] rfl
    have hD9 := hD.sub (ws' := [(dk, .inr (2, [.ref wd, .int (nI (n + 2)), .ref td])), (wd, .inl (cC, 64, .inl (fun j => nI (pd_wput w n (pd_u x % 929) (pd_u y % 929) j)))), (rw0, .inr (3, [.ref wr, .int (nI (n + 2))])), (wr, .inl (cI, 64, .inl (fun j => nI (pd_wput w n (pd_u x % 929) (pd_u y % 929) j))))]) [2, 3, 0, 1] (by decide) rfl
    exact W.zret (v := (nI 1)) hx hb hr (rfl) (fun t ht hW => ⟨⟨(nI 1), (), rfl, rfl, n + 2, pd_wput w n (pd_u x % 929) (pd_u y % 929), by rw [ht]; exact hP9, hD9, by omega, pd_wput_lt hw hx8 hy8⟩, hS.F ht⟩) hS.2.2 dX0_puts_79
end
section
theorem pd_putn {u : Nat → Nat} {f : Nat → Int32} {k : Nat} (hf : ∀ i, i < k → f i = nI (u i)) : ∀ i, i < k + 1 → upd f k (nI (u k)) i = nI (u i) := by
  intro i hi
  rcases Nat.lt_or_ge i k with q | q
  · rw [pk_un (Nat.ne_of_lt q)]
    exact hf i q
  · rw [show i = k by omega, pk_us]
end
section
/-! holds (written by gen/p16.py) -/
set_option maxHeartbeats 4000000 in
set_option maxRecDepth 100000 in
/-- holds(desk, row, lev, x): true -/
theorem m_X0holds (l : Launch) (D : va_G) (cB cC cI : ClassId) (sz dk wd rw0 wr td n lev K : Nat) (w : Nat → Nat) (x : Int32) (hlev : lev < 8) (hKd : K = 2 * 2 ^ lev) (hx7 : x &&& nI 7 = nI lev) (hn : n ≤ 64) (hw : ∀ j, w j < 929) : Met l yX0_holds (ws_ yX0_holds cX0_holds 10 (some .boolean)) ({ frames := 10, cells := 305, slots := 133500, locals := 320 }) (va_Pc [.ref dk, .ref rw0, .int (nI lev), .int x] (fun U => pd_BA D cB cC cI [(dk, .inr (2, [.ref wd, .int (nI n), .ref td])), (wd, .inl (cC, 64, .inl (fun j => nI (w j)))), (rw0, .inr (3, [.ref wr, .int (nI n)])), (wr, .inl (cI, 64, .inl (fun j => nI (w j))))] sz U)) (va_Qi (fun (r : Int32) (_ : Unit) => r = 1) (fun _ t => ∃ td2 : Nat, va_P D pd_cl [(dk, .inr (2, [.ref wd, .int (nI n), .ref td2])), (wd, .inl (cC, 64, .inl (fun j => nI (w j)))), (rw0, .inr (3, [.ref wr, .int (nI n)])), (wr, .inl (cI, 64, .inl (fun j => nI (w j))))] t.heap ∧ va_D (va_A [(dk, .inr (2, [.ref wd, .int (nI n), .ref td])), (wd, .inl (cC, 64, .inl (fun j => nI (w j)))), (rw0, .inr (3, [.ref wr, .int (nI n)])), (wr, .inl (cI, 64, .inl (fun j => nI (w j))))] sz) [(dk, .inr (2, [.ref wd, .int (nI n), .ref td2])), (wd, .inl (cC, 64, .inl (fun j => nI (w j)))), (rw0, .inr (3, [.ref wr, .int (nI n)])), (wr, .inl (cI, 64, .inl (fun j => nI (w j))))]) (va_A [(dk, .inr (2, [.ref wd, .int (nI n), .ref td])), (wd, .inl (cC, 64, .inl (fun j => nI (w j)))), (rw0, .inr (3, [.ref wr, .int (nI n)])), (wr, .inl (cI, 64, .inl (fun j => nI (w j))))] sz)) 305 133500 (va_A [(dk, .inr (2, [.ref wd, .int (nI n), .ref td])), (wd, .inl (cC, 64, .inl (fun j => nI (w j)))), (rw0, .inr (3, [.ref wr, .int (nI n)])), (wr, .inl (cI, 64, .inl (fun j => nI (w j))))] sz) := by
  refine Met.ofW (cc := cX0_holds) (maxL := 10) (ret := (some .boolean)) (by decide) rfl ?_
  intro p e s m args below meth c s₁ B hml hv
  obtain ⟨rfl, hBA⟩ := hv
  have hx := B.exec
  have hb := B.bytes
  have hr := B.returns
  have hts := atoms_spec (ws := (ws_ yX0_holds cX0_holds 10 (some .boolean))) B.pre
  have hts : ∀ w ∈ lw_all, w.before _ s = true := fun w h => hts w (List.mem_cons_of_mem _ h)
  have hown : s.vm.findClass RX0 = some m.cls := findClass_of_methodNamed B.named
  have hlocks := B.notSynchronized
  obtain ⟨hsz, hP, hK, hD0, hZ⟩ := hBA
  subst hsz
  have hD := hD0.self (sz := s.heap.size)
  generalize hAe : va_A [(dk, .inr (2, [.ref wd, .int (nI n), .ref td])), (wd, .inl (cC, 64, .inl (fun j => nI (w j)))), (rw0, .inr (3, [.ref wr, .int (nI n)])), (wr, .inl (cI, 64, .inl (fun j => nI (w j))))] s.heap.size = A at hD hZ ⊢
  have hA : ∀ q : Nat, s.heap.size ≤ q → A q := fun q h => by rw [← hAe]; exact Or.inr h
  have hS : va_S A s.heap s.heap [] := va_S.rf
  have hP : va_P D pd_cl [(dk, .inr (2, [.ref wd, .int (nI n), .ref td])), (wd, .inl (cC, 64, .inl (fun j => nI (w j)))), (rw0, .inr (3, [.ref wr, .int (nI n)])), (wr, .inl (cI, 64, .inl (fun j => nI (w j))))] s.heap := hP
  have hl := lv_entry ([.ref dk, .ref rw0, .int (nI lev), .int x]) (n := 10) (Nat.le_of_ble_eq_true rfl)
  rw [lg_entry_eq]
  generalize (lg_sl ([.ref dk, .ref rw0, .int (nI lev), .int x]) ++ List.replicate (10 - (lg_sl ([.ref dk, .ref rw0, .int (nI lev), .int x])).length) Slot.unset).toArray = ls at hl ⊢
  have hl : lv_has ls 10 [(0, .ref dk), (1, .ref rw0), (2, .int (nI lev)), (3, .int x)] := hl
  have hK1 : 2 ≤ K ∧ K ≤ 256 := by have := pd_twole hlev; omega
  obtain ⟨uo, hUo⟩ : ∃ u : Nat → Nat, u = pd_out K (pd_ec (pd_c lev) K w n) := ⟨_, rfl⟩
  have hUlt : ∀ i, uo i < 929 := fun i => by rw [hUo]; exact pd_out_lt _ _ _
  have hlaw : ∀ j, j < K → pd_ho (pd_root (j + 1)) (pd_ho (pd_root (j + 1)) 0 w n) uo K = 0 := fun j hj => by rw [hUo, hKd]; exact pd_law lev hlev j (by omega) w n
  refine lv_iconst (v := (nI 2)) hx hb dX0_holds_0 (by decide) ?_
  refine lv_iload_n hx hb dX0_holds_1 rfl (lv_at hl 2 rfl) ?_
  refine pd_ishl (v := (nI K)) hx hb dX0_holds_2 ((pd_shl (a := 2) (n := lev) (by omega) (by omega)).trans (by rw [← hKd])) ?_
  refine lv_istore (lv' := [(4, .int (nI K)), (0, .ref dk), (1, .ref rw0), (2, .int (nI lev)), (3, .int x)]) hx hb dX0_holds_3 hl (by decide) rfl (fun ls hl => ?_)
  refine lv_aload_n hx hb dX0_holds_5 rfl (lv_at hl 1 rfl) ?_
  refine lv_iload_n hx hb dX0_holds_6 rfl (lv_at hl 4 rfl) ?_
  refine va_calli (va_runV (As := [.int x]) (rest := []) ⟨hx, hb, hml, hown, hts⟩ (m_X1cnt l lev dk x hlev hx7) (cwV 1 hts (lw_V q122 q123 q124 q2 q125) rfl rfl rfl (by decide +kernel) ⟨Nat.le_of_ble_eq_true rfl, Nat.le_of_ble_eq_true rfl⟩) (pd_preV (fun a U g mk q => trivial) (va_recv hK hP (ci := 2) (q0 := 0) rfl rfl) (fun U hU hW => trivial)) rfl rfl hl.1 rfl (lv_room (Nat.le_of_ble_eq_true rfl)) dX0_holds_7 ⟨Nat.zero_le _, Nat.zero_le _⟩) hS pd_Fin2 pd_Fin (fun r9 u_1 t H1 locs ht hvm hw9 hB hz1 hk1 hS => ?_)
  have hP := pd_keep hP hk1
  generalize H1 = H at hP hS ⊢
  obtain rfl : r9 = (nI K) := hw9.trans (by rw [← hKd])
  refine lv_iload hx hb dX0_holds_10 (lv_at hl 0 rfl) ?_
  refine lv_icmp_ne (tgt := 25) hx hb dX0_holds_12 (by decide) (fun c9 => absurd (rfl) c9) (fun _ => ?_)
  refine lv_aload_n hx hb dX0_holds_15 rfl (lv_at hl 1 rfl) ?_
  refine lv_iload_n hx hb dX0_holds_16 rfl (lv_at hl 4 rfl) ?_
  have hPc := hP.sub (ws' := [(dk, .inr (2, [.ref wd, .int (nI n), .ref td])), (wd, .inl (cC, 64, .inl (fun j => nI (w j))))]) [0, 1] rfl
  have hDc := hD.sub (ws' := [(dk, .inr (2, [.ref wd, .int (nI n), .ref td])), (wd, .inl (cC, 64, .inl (fun j => nI (w j))))]) [0, 1] (by decide) rfl
  have hFc := va_free (wc := [(dk, .inr (2, [.ref wd, .int (nI n), .ref td])), (wd, .inl (cC, 64, .inl (fun j => nI (w j))))]) hD hS hA [0, 1] rfl
  refine va_calli (va_runV (As := [.int x]) (rest := []) ⟨hx, hb, hml, hown, hts⟩ (m_X1make l D cB cC cI _ dk wd td n w lev K x hlev hKd hx7 hn hw) (cwV 1 hts (lw_V q194 q195 q196 q2 q197) rfl rfl rfl (by decide +kernel) ⟨Nat.le_of_ble_eq_true rfl, Nat.le_of_ble_eq_true rfl⟩) (pd_preV (fun a U g mk q => pd_BA.blind q) (va_recv hK hP (ci := 2) (q0 := 0) rfl rfl) (fun U hU hW => pd_BA.pass hPc hDc hK hZ hS hFc hU hW)) rfl rfl hl.1 rfl (lv_room (Nat.le_of_ble_eq_true rfl)) dX0_holds_17 ⟨by show 0 + 0 + 303 ≤ 305; omega, by show 0 + 0 + 133200 ≤ 133500; omega⟩) hS (fun q _ h => hFc q h) hFc (fun r9 u_2 t H1 locs ht hvm hw9 hB hz1 hk1 hS => ?_)
  obtain ⟨o2, v2, cd, N, f, hP1, hD1, hrep⟩ := hB
  rw [ht] at hP1
  obtain ⟨hP, hD⟩ := va_join (wr := [(rw0, .inr (3, [.ref wr, .int (nI n)])), (wr, .inl (cI, 64, .inl (fun j => nI (w j))))]) (w1 := [(dk, .inr (2, [.ref wd, .int (nI n), .ref o2])), (wd, .inl (cC, 64, .inl (fun j => nI (w j)))), (o2, .inr (0, [.ref v2, .int cd, .int 0, .int 0])), (v2, .inl (cB, N, .inl (f)))]) hP hD [0, 1] [2, 3] rfl rfl (by decide) (by decide) hk1 hFc hP1 hD1
  generalize H1 = H at hP hS ⊢
  have hP : va_P D pd_cl [(rw0, .inr (3, [.ref wr, .int (nI n)])), (wr, .inl (cI, 64, .inl (fun j => nI (w j)))), (dk, .inr (2, [.ref wd, .int (nI n), .ref o2])), (wd, .inl (cC, 64, .inl (fun j => nI (w j)))), (o2, .inr (0, [.ref v2, .int cd, .int 0, .int 0])), (v2, .inl (cB, N, .inl (f)))] H := hP
  have hD : va_D A [(rw0, .inr (3, [.ref wr, .int (nI n)])), (wr, .inl (cI, 64, .inl (fun j => nI (w j)))), (dk, .inr (2, [.ref wd, .int (nI n), .ref o2])), (wd, .inl (cC, 64, .inl (fun j => nI (w j)))), (o2, .inr (0, [.ref v2, .int cd, .int 0, .int 0])), (v2, .inl (cB, N, .inl (f)))] := hD
  obtain rfl : r9 = (nI K) := hw9
  rw [← hUo] at hrep
  refine lv_iload hx hb dX0_holds_20 (lv_at hl 0 rfl) ?_
  refine lv_icmp_eq (tgt := 27) hx hb dX0_holds_22 (by decide) (fun _ => ?_) (fun c9 => absurd (rfl) c9)
  refine lv_iload hx hb dX0_holds_27 (lv_at hl 0 rfl) ?_
  refine pd_newi (N := K) hx hb (hts _ q111) hK hP hD hS hA (rfl) (by omega) (by show 0 + 0 + 303 + 1 ≤ 305; omega) (by show 0 + 0 + 133200 + K ≤ 133500; omega) dX0_holds_29 (fun its H hP hD hS => ?_)
  have hP : va_P D pd_cl [(rw0, .inr (3, [.ref wr, .int (nI n)])), (wr, .inl (cI, 64, .inl (fun j => nI (w j)))), (dk, .inr (2, [.ref wd, .int (nI n), .ref o2])), (wd, .inl (cC, 64, .inl (fun j => nI (w j)))), (o2, .inr (0, [.ref v2, .int cd, .int 0, .int 0])), (v2, .inl (cB, N, .inl (f))), (its, .inl (cI, K, .inl (fun _ => 0)))] H := hP
  have hD : va_D A [(rw0, .inr (3, [.ref wr, .int (nI n)])), (wr, .inl (cI, 64, .inl (fun j => nI (w j)))), (dk, .inr (2, [.ref wd, .int (nI n), .ref o2])), (wd, .inl (cC, 64, .inl (fun j => nI (w j)))), (o2, .inr (0, [.ref v2, .int cd, .int 0, .int 0])), (v2, .inl (cB, N, .inl (f))), (its, .inl (cI, K, .inl (fun _ => 0)))] := hD
  refine lv_astore (lv' := [(5, .ref its), (4, .int (nI K)), (0, .ref dk), (1, .ref rw0), (2, .int (nI lev)), (3, .int x)]) hx hb dX0_holds_31 hl (by decide) rfl (fun ls hl => ?_)
  refine lv_iconst (v := 0) hx hb dX0_holds_33 (by decide) ?_
  refine lv_istore (lv' := [(6, .int 0), (5, .ref its), (4, .int (nI K)), (0, .ref dk), (1, .ref rw0), (2, .int (nI lev)), (3, .int x)]) hx hb dX0_holds_34 hl (by decide) rfl (fun ls hl => ?_)
  refine pd_loop (fun k H locs cs sl g => ∃ (k0 : Nat) (f1 : Nat → Int32) (ls : Array Slot), K - k0 = k ∧ g = F0 m 36 ls [] ∧ cs = 304 ∧ sl = 133200 + K ∧ (k0 ≤ K) ∧ (∀ i, i < k0 → f1 i = nI (uo i)) ∧ lv_has ls 10 [(6, .int (nI k0)), (5, .ref its), (4, .int (nI K)), (0, .ref dk), (1, .ref rw0)] ∧ va_P D pd_cl [(rw0, .inr (3, [.ref wr, .int (nI n)])), (wr, .inl (cI, 64, .inl (fun j => nI (w j)))), (dk, .inr (2, [.ref wd, .int (nI n), .ref o2])), (wd, .inl (cC, 64, .inl (fun j => nI (w j)))), (o2, .inr (0, [.ref v2, .int cd, .int 0, .int 0])), (v2, .inl (cB, N, .inl (f))), (its, .inl (cI, K, .inl (f1)))] H ∧ va_D A [(rw0, .inr (3, [.ref wr, .int (nI n)])), (wr, .inl (cI, 64, .inl (fun j => nI (w j)))), (dk, .inr (2, [.ref wd, .int (nI n), .ref o2])), (wd, .inl (cC, 64, .inl (fun j => nI (w j)))), (o2, .inr (0, [.ref v2, .int cd, .int 0, .int 0])), (v2, .inl (cB, N, .inl (f))), (its, .inl (cI, K, .inl (f1)))] ∧ va_S A s.heap H locs) ?_ _ (⟨0, fun _ => 0, ls, rfl, rfl, rfl, by show 0 + 0 + 133200 + K = 133200 + K; omega, Nat.zero_le _, fun i hi => absurd hi (Nat.not_lt_zero i), lv_sub hl [0, 1, 2, 3, 4] rfl, hP.sub [0, 1, 2, 3, 4, 5, 6] rfl, hD.sub [0, 1, 2, 3, 4, 5, 6] (by decide) rfl, hS⟩)
  intro k ih1 H locs cs sl g hI
  obtain ⟨k0, f1, ls, rfl, rfl, rfl, rfl, hk0, hf, hl, hP, hD, hS⟩ := hI
  refine lv_iload hx hb dX0_holds_36 (lv_at hl 0 rfl) ?_
  refine lv_iload hx hb dX0_holds_38 (lv_at hl 2 rfl) ?_
  refine lv_icmp_ge (tgt := 81) hx hb dX0_holds_40 (by decide) (fun c1 => ?_) (fun c1 => ?_)
  · have hkK : k0 = K := Nat.le_antisymm hk0 ((nI_leI (by omega) (by omega)).mp c1)
    rw [hkK] at hf
    refine lv_aload_n hx hb dX0_holds_81 rfl (lv_at hl 3 rfl) ?_
    refine lv_iload hx hb dX0_holds_82 (lv_at hl 2 rfl) ?_
    have hPd := hP.sub (ws' := [(dk, .inr (2, [.ref wd, .int (nI n), .ref o2]))]) [2] rfl
    have hSt2 : pd_S o2 K uo pd_F s H := pd_Sof hts hK hP 4 5 rfl rfl hrep pd_Fno pd_Fno
    refine va_calli (va_runV (As := [.int (nI K)]) (rest := []) ⟨hx, hb, hml, hown, hts⟩ (m_X1told1 l D cB cC cI dk wd o2 n K uo (nI K) (by omega) (by omega)) (cwV 1 hts (lw_V q45 q46 q47 q2 q48) rfl rfl rfl (by decide +kernel) ⟨Nat.le_of_ble_eq_true rfl, Nat.le_of_ble_eq_true rfl⟩) (pd_preV (fun a U g mk q => ⟨pd_Z.same (s := U) (U := U.calling g mk a) rfl q.1, va_K.moved (u := U) (U := U.calling g mk a) (Vm.Alike.refl U.vm) q.2.1, q.2.2.1, pd_S.moved (u := U) (U := U.calling g mk a) (Vm.Alike.refl U.vm) q.2.2.2⟩) (va_recv hK hP (ci := 2) (q0 := 2) rfl rfl) (fun U hU hW => ⟨pd_Z.call hZ hS hW hU pd_Fin, va_K.moved hW.alike hK, by rw [hU]; exact hPd, pd_S.now (hSt2) hW hU⟩)) rfl rfl hl.1 rfl (lv_room (Nat.le_of_ble_eq_true rfl)) dX0_holds_84 ⟨by show 304 + 0 ≤ 305; omega, by show 133200 + K + 0 ≤ 133500; omega⟩) hS pd_Fin2 pd_Fin (fun r9 u_3 t H1 locs ht hvm hw9 hB hz1 hk1 hS => ?_)
    have hP := pd_keep hP hk1
    generalize H1 = H at hP hS ⊢
    obtain rfl : r9 = (nI (uo 0)) := hw9.trans (by rw [pd_u_nI (by omega), Nat.mod_self])
    refine lv_aload hx hb dX0_holds_87 (lv_at hl 1 rfl) ?_
    refine lv_iconst (v := nI 0) hx hb dX0_holds_89 (by decide) ?_
    refine pd_iald (v := (nI (uo 0))) hx hb hK hP 6 2 rfl rfl (vp_in_nI (by omega) (by omega)) (pd_av (by decide) (hf 0 (by omega))) dX0_holds_90 ?_
    refine lv_icmp_ne (tgt := 110) hx hb dX0_holds_91 (by decide) (fun c9 => absurd (rfl) c9) (fun _ => ?_)
    refine lv_aload_n hx hb dX0_holds_94 rfl (lv_at hl 3 rfl) ?_
    refine lv_iconst (v := (-1)) hx hb dX0_holds_95 (by decide) ?_
    have hPd := hP.sub (ws' := [(dk, .inr (2, [.ref wd, .int (nI n), .ref o2]))]) [2] rfl
    have hSt2 : pd_S o2 K uo pd_F s H := pd_Sof hts hK hP 4 5 rfl rfl hrep pd_Fno pd_Fno
    refine va_calli (va_runV (As := [.int (-1)]) (rest := []) ⟨hx, hb, hml, hown, hts⟩ (m_X1told1 l D cB cC cI dk wd o2 n K uo (-1) (by omega) (by omega)) (cwV 1 hts (lw_V q45 q46 q47 q2 q48) rfl rfl rfl (by decide +kernel) ⟨Nat.le_of_ble_eq_true rfl, Nat.le_of_ble_eq_true rfl⟩) (pd_preV (fun a U g mk q => ⟨pd_Z.same (s := U) (U := U.calling g mk a) rfl q.1, va_K.moved (u := U) (U := U.calling g mk a) (Vm.Alike.refl U.vm) q.2.1, q.2.2.1, pd_S.moved (u := U) (U := U.calling g mk a) (Vm.Alike.refl U.vm) q.2.2.2⟩) (va_recv hK hP (ci := 2) (q0 := 2) rfl rfl) (fun U hU hW => ⟨pd_Z.call hZ hS hW hU pd_Fin, va_K.moved hW.alike hK, by rw [hU]; exact hPd, pd_S.now (hSt2) hW hU⟩)) rfl rfl hl.1 rfl (lv_room (Nat.le_of_ble_eq_true rfl)) dX0_holds_96 ⟨by show 304 + 0 + 0 ≤ 305; omega, by show 133200 + K + 0 + 0 ≤ 133500; omega⟩) hS pd_Fin2 pd_Fin (fun r9 u_4 t H1 locs ht hvm hw9 hB hz1 hk1 hS => ?_)
    have hP := pd_keep hP hk1
    generalize H1 = H at hP hS ⊢
    obtain rfl : r9 = (nI (uo (2147483647 % K))) := hw9.trans (by rw [pd_u_m1])
    have hm9 : 2147483647 % K < K := Nat.mod_lt _ (by omega)
    refine lv_aload hx hb dX0_holds_99 (lv_at hl 1 rfl) ?_
    refine lv_ldc hx hb hown (hts _ q118) dX0_holds_101 ?_
    refine lv_iload hx hb dX0_holds_103 (lv_at hl 2 rfl) ?_
    refine pd_irem (v := (nI (2147483647 % K))) hx hb dX0_holds_105 (nI_ne0 (by omega) (by omega)) (pd_rem (a := 2147483647) (by decide) (by omega) (by omega)) ?_
    refine pd_iald (v := (nI (uo (2147483647 % K)))) hx hb hK hP 6 2 rfl rfl (vp_in_nI hm9 (by omega)) (pd_av (by omega) (hf _ hm9)) dX0_holds_106 ?_
    refine lv_icmp_eq (tgt := 112) hx hb dX0_holds_107 (by decide) (fun _ => ?_) (fun c9 => absurd (rfl) c9)
    refine lv_iconst (v := (nI 1)) hx hb dX0_holds_112 (by decide) ?_
    refine lv_istore (lv' := [(6, .int (nI 1)), (5, .ref its), (4, .int (nI K)), (0, .ref dk), (1, .ref rw0)]) hx hb dX0_holds_113 hl (by decide) rfl (fun ls hl => ?_)
    refine lv_iconst (v := 0) hx hb dX0_holds_115 (by decide) ?_
    refine lv_istore (lv' := [(7, .int 0), (6, .int (nI 1)), (5, .ref its), (4, .int (nI K)), (0, .ref dk), (1, .ref rw0)]) hx hb dX0_holds_116 hl (by decide) rfl (fun ls hl => ?_)
    refine pd_loop (fun k H locs cs sl g => ∃ (j : Nat) (ls : Array Slot), K - j = k ∧ g = F0 m 118 ls [] ∧ cs = 304 ∧ sl = 133200 + K ∧ (j ≤ K) ∧ lv_has ls 10 [(6, .int (nI (pd_root j))), (7, .int (nI j)), (5, .ref its), (4, .int (nI K)), (0, .ref dk), (1, .ref rw0)] ∧ va_P D pd_cl [(rw0, .inr (3, [.ref wr, .int (nI n)])), (wr, .inl (cI, 64, .inl (fun j => nI (w j)))), (dk, .inr (2, [.ref wd, .int (nI n), .ref o2])), (wd, .inl (cC, 64, .inl (fun j => nI (w j)))), (o2, .inr (0, [.ref v2, .int cd, .int 0, .int 0])), (v2, .inl (cB, N, .inl (f))), (its, .inl (cI, K, .inl (f1)))] H ∧ va_D A [(rw0, .inr (3, [.ref wr, .int (nI n)])), (wr, .inl (cI, 64, .inl (fun j => nI (w j)))), (dk, .inr (2, [.ref wd, .int (nI n), .ref o2])), (wd, .inl (cC, 64, .inl (fun j => nI (w j)))), (o2, .inr (0, [.ref v2, .int cd, .int 0, .int 0])), (v2, .inl (cB, N, .inl (f))), (its, .inl (cI, K, .inl (f1)))] ∧ va_S A s.heap H locs) ?_ _ (⟨0, ls, rfl, rfl, rfl, rfl, Nat.zero_le _, lv_sub hl [1, 0, 2, 3, 4, 5] rfl, hP.sub [0, 1, 2, 3, 4, 5, 6] rfl, hD.sub [0, 1, 2, 3, 4, 5, 6] (by decide) rfl, hS⟩)
    intro k ih2 H locs cs sl g hI
    obtain ⟨j, ls, rfl, rfl, rfl, rfl, hj, hl, hP, hD, hS⟩ := hI
    refine lv_iload hx hb dX0_holds_118 (lv_at hl 1 rfl) ?_
    refine lv_iload hx hb dX0_holds_120 (lv_at hl 3 rfl) ?_
    refine lv_icmp_ge (tgt := 221) hx hb dX0_holds_122 (by decide) (fun c2 => ?_) (fun c2 => ?_)
    · have hP9 := hP.sub (ws' := [(dk, .inr (2, [.ref wd, .int (nI n), .ref o2])), (wd, .inl (cC, 64, .inl (fun j => nI (w j)))), (rw0, .inr (3, [.ref wr, .int (nI n)])), (wr, .inl (cI, 64, .inl (fun j => nI (w j))))]) [2, 3, 0, 1] rfl
      have hD9 := hD.sub (ws' := [(dk, .inr (2, [.ref wd, .int (nI n), .ref o2])), (wd, .inl (cC, 64, .inl (fun j => nI (w j)))), (rw0, .inr (3, [.ref wr, .int (nI n)])), (wr, .inl (cI, 64, .inl (fun j => nI (w j))))]) [2, 3, 0, 1] (by decide) rfl
      refine lv_iconst (v := (nI 1)) hx hb dX0_holds_221 (by decide) ?_
      rw [pd_lit1]
      refine W.widen (k := 305) (n := 133500) (by omega) (by omega) ?_
      exact W.zret (v := 1) hx hb hr (rfl) (fun t ht hW => ⟨⟨1, (), rfl, rfl, o2, by rw [ht]; exact hP9, hD9⟩, hS.F ht⟩) hS.2.2 dX0_holds_222
    · have hjK : j < K := Nat.lt_of_not_le (fun z => c2 (nI_le z (by omega)))
      have hr9 := pd_root_lt j
      have hr8 := pd_root_lt (j + 1)
      refine lv_iload hx hb dX0_holds_125 (lv_at hl 0 rfl) ?_
      refine lv_iconst (v := (nI 3)) hx hb dX0_holds_127 (by decide) ?_
      refine pd_imul (v := (nI (pd_root j * 3))) hx hb dX0_holds_128 (pk_mul _ _) ?_
      refine lv_sipush (v := (nI 929)) hx hb dX0_holds_129 (by decide) ?_
      refine pd_irem (v := (nI (pd_root (j + 1)))) hx hb dX0_holds_132 (nI_ne0 (by decide) (by decide)) (pd_rem (by omega) (by decide) (by decide)) ?_
      refine lv_istore (lv' := [(6, .int (nI (pd_root (j + 1)))), (7, .int (nI j)), (5, .ref its), (4, .int (nI K)), (0, .ref dk), (1, .ref rw0)]) hx hb dX0_holds_133 hl (by decide) rfl (fun ls hl => ?_)
      refine lv_iconst (v := 0) hx hb dX0_holds_135 (by decide) ?_
      refine lv_istore (lv' := [(8, .int 0), (6, .int (nI (pd_root (j + 1)))), (7, .int (nI j)), (5, .ref its), (4, .int (nI K)), (0, .ref dk), (1, .ref rw0)]) hx hb dX0_holds_136 hl (by decide) rfl (fun ls hl => ?_)
      refine lv_iconst (v := 0) hx hb dX0_holds_138 (by decide) ?_
      refine lv_istore (lv' := [(9, .int 0), (8, .int 0), (6, .int (nI (pd_root (j + 1)))), (7, .int (nI j)), (5, .ref its), (4, .int (nI K)), (0, .ref dk), (1, .ref rw0)]) hx hb dX0_holds_139 hl (by decide) rfl (fun ls hl => ?_)
      refine pd_loop (fun k H locs cs sl g => ∃ (k1 : Nat) (ls : Array Slot), n - k1 = k ∧ g = F0 m 141 ls [] ∧ cs = 304 ∧ sl = 133200 + K ∧ (k1 ≤ n) ∧ lv_has ls 10 [(8, .int (nI (pd_ho (pd_root (j + 1)) 0 w k1))), (9, .int (nI k1)), (6, .int (nI (pd_root (j + 1)))), (7, .int (nI j)), (5, .ref its), (4, .int (nI K)), (0, .ref dk), (1, .ref rw0)] ∧ va_P D pd_cl [(rw0, .inr (3, [.ref wr, .int (nI n)])), (wr, .inl (cI, 64, .inl (fun j => nI (w j)))), (dk, .inr (2, [.ref wd, .int (nI n), .ref o2])), (wd, .inl (cC, 64, .inl (fun j => nI (w j)))), (o2, .inr (0, [.ref v2, .int cd, .int 0, .int 0])), (v2, .inl (cB, N, .inl (f))), (its, .inl (cI, K, .inl (f1)))] H ∧ va_D A [(rw0, .inr (3, [.ref wr, .int (nI n)])), (wr, .inl (cI, 64, .inl (fun j => nI (w j)))), (dk, .inr (2, [.ref wd, .int (nI n), .ref o2])), (wd, .inl (cC, 64, .inl (fun j => nI (w j)))), (o2, .inr (0, [.ref v2, .int cd, .int 0, .int 0])), (v2, .inl (cB, N, .inl (f))), (its, .inl (cI, K, .inl (f1)))] ∧ va_S A s.heap H locs) ?_ _ (⟨0, ls, rfl, rfl, rfl, rfl, Nat.zero_le _, lv_sub hl [1, 0, 2, 3, 4, 5, 6, 7] rfl, hP.sub [0, 1, 2, 3, 4, 5, 6] rfl, hD.sub [0, 1, 2, 3, 4, 5, 6] (by decide) rfl, hS⟩)
      intro k ih3 H locs cs sl g hI
      obtain ⟨k1, ls, rfl, rfl, rfl, rfl, hk1, hl, hP, hD, hS⟩ := hI
      refine lv_iload hx hb dX0_holds_141 (lv_at hl 1 rfl) ?_
      refine lv_aload_n hx hb dX0_holds_143 rfl (lv_at hl 7 rfl) ?_
      refine va_get (D := D) (ci := 3) (v := .int (nI n)) (C := RX2) (T := TX2) (N := 2) hx hb hts in_X2 hown hK hP 0 rfl rfl 1 (by decide) (hts _ q105) (fun _ h9 => h9) rfl dX0_holds_144 ?_
      refine lv_icmp_ge (tgt := 175) hx hb dX0_holds_147 (by decide) (fun c3 => ?_) (fun c3 => ?_)
      · have hkn : k1 = n := Nat.le_antisymm hk1 ((nI_leI (by omega) (by omega)).mp c3)
        rw [hkn] at hl
        refine lv_iconst (v := 0) hx hb dX0_holds_175 (by decide) ?_
        refine lv_istore (lv' := [(9, .int 0), (8, .int (nI (pd_ho (pd_root (j + 1)) 0 w n))), (6, .int (nI (pd_root (j + 1)))), (7, .int (nI j)), (5, .ref its), (4, .int (nI K)), (0, .ref dk), (1, .ref rw0)]) hx hb dX0_holds_176 hl (by decide) rfl (fun ls hl => ?_)
        have hV : pd_ho (pd_root (j + 1)) 0 w n < 929 := pd_ho_lt (by decide) n
        refine pd_loop (fun k H locs cs sl g => ∃ (k2 : Nat) (ls : Array Slot), K - k2 = k ∧ g = F0 m 178 ls [] ∧ cs = 304 ∧ sl = 133200 + K ∧ (k2 ≤ K) ∧ lv_has ls 10 [(8, .int (nI (pd_ho (pd_root (j + 1)) (pd_ho (pd_root (j + 1)) 0 w n) uo k2))), (9, .int (nI k2)), (6, .int (nI (pd_root (j + 1)))), (7, .int (nI j)), (5, .ref its), (4, .int (nI K)), (0, .ref dk), (1, .ref rw0)] ∧ va_P D pd_cl [(rw0, .inr (3, [.ref wr, .int (nI n)])), (wr, .inl (cI, 64, .inl (fun j => nI (w j)))), (dk, .inr (2, [.ref wd, .int (nI n), .ref o2])), (wd, .inl (cC, 64, .inl (fun j => nI (w j)))), (o2, .inr (0, [.ref v2, .int cd, .int 0, .int 0])), (v2, .inl (cB, N, .inl (f))), (its, .inl (cI, K, .inl (f1)))] H ∧ va_D A [(rw0, .inr (3, [.ref wr, .int (nI n)])), (wr, .inl (cI, 64, .inl (fun j => nI (w j)))), (dk, .inr (2, [.ref wd, .int (nI n), .ref o2])), (wd, .inl (cC, 64, .inl (fun j => nI (w j)))), (o2, .inr (0, [.ref v2, .int cd, .int 0, .int 0])), (v2, .inl (cB, N, .inl (f))), (its, .inl (cI, K, .inl (f1)))] ∧ va_S A s.heap H locs) ?_ _ (⟨0, ls, rfl, rfl, rfl, rfl, Nat.zero_le _, lv_sub hl [1, 0, 2, 3, 4, 5, 6, 7] rfl, hP.sub [0, 1, 2, 3, 4, 5, 6] rfl, hD.sub [0, 1, 2, 3, 4, 5, 6] (by decide) rfl, hS⟩)
        intro k ih4 H locs cs sl g hI
        obtain ⟨k2, ls, rfl, rfl, rfl, rfl, hk2, hl, hP, hD, hS⟩ := hI
        refine lv_iload hx hb dX0_holds_178 (lv_at hl 1 rfl) ?_
        refine lv_iload hx hb dX0_holds_180 (lv_at hl 5 rfl) ?_
        refine lv_icmp_ge (tgt := 208) hx hb dX0_holds_182 (by decide) (fun c4 => ?_) (fun c4 => ?_)
        · have hkk : k2 = K := Nat.le_antisymm hk2 ((nI_leI (by omega) (by omega)).mp c4)
          refine lv_iload hx hb dX0_holds_208 (lv_at hl 0 rfl) ?_
          refine lv_if_eq (tgt := 215) hx hb dX0_holds_210 (by decide) (fun _ => ?_) (fun c9 => absurd (by rw [hkk, hlaw j hjK]; rfl) c9)
          refine lv_iinc (v := (nI (j + 1))) (lv' := [(7, .int (nI (j + 1))), (8, .int (nI (pd_ho (pd_root (j + 1)) (pd_ho (pd_root (j + 1)) 0 w n) uo k2))), (9, .int (nI k2)), (6, .int (nI (pd_root (j + 1)))), (5, .ref its), (4, .int (nI K)), (0, .ref dk), (1, .ref rw0)]) hx hb dX0_holds_215 hl (k := 3) rfl (nI_1 j) (by decide) rfl (fun ls hl => ?_)
          refine lv_goto (tgt := 118) hx hb dX0_holds_218 (by decide) ?_
          exact ih2 _ (by omega) _ _ _ _ _ ⟨j + 1, ls, rfl, rfl, rfl, rfl, hjK, lv_sub hl [3, 0, 4, 5, 6, 7] rfl, hP.sub [0, 1, 2, 3, 4, 5, 6] rfl, hD.sub [0, 1, 2, 3, 4, 5, 6] (by decide) rfl, hS⟩
        · have hkk : k2 < K := Nat.lt_of_not_le (fun z => c4 (nI_le z (by omega)))
          have hm8 := pd_ho_mul (r := pd_root (j + 1)) (v := pd_ho (pd_root (j + 1)) 0 w n) (u := uo) (k := k2) hV hr8
          have hwk := hUlt k2
          refine lv_iload hx hb dX0_holds_185 (lv_at hl 0 rfl) ?_
          refine lv_iload hx hb dX0_holds_187 (lv_at hl 2 rfl) ?_
          refine pd_imul (v := (nI (pd_ho (pd_root (j + 1)) (pd_ho (pd_root (j + 1)) 0 w n) uo k2 * pd_root (j + 1)))) hx hb dX0_holds_189 (pk_mul _ _) ?_
          refine lv_aload hx hb dX0_holds_190 (lv_at hl 4 rfl) ?_
          refine lv_iload hx hb dX0_holds_192 (lv_at hl 1 rfl) ?_
          refine pd_iald (v := (nI (uo k2))) hx hb hK hP 6 2 rfl rfl (vp_in_nI hkk (by omega)) (pd_av (by omega) (hf k2 hkk)) dX0_holds_194 ?_
          refine pd_iadd (v := (nI (pd_ho (pd_root (j + 1)) (pd_ho (pd_root (j + 1)) 0 w n) uo k2 * pd_root (j + 1) + uo k2))) hx hb dX0_holds_195 (nI_add _ _) ?_
          refine lv_sipush (v := (nI 929)) hx hb dX0_holds_196 (by decide) ?_
          refine pd_irem (v := (nI (pd_ho (pd_root (j + 1)) (pd_ho (pd_root (j + 1)) 0 w n) uo (k2 + 1)))) hx hb dX0_holds_199 (nI_ne0 (by decide) (by decide)) (pd_rem (by omega) (by decide) (by decide)) ?_
          refine lv_istore (lv' := [(8, .int (nI (pd_ho (pd_root (j + 1)) (pd_ho (pd_root (j + 1)) 0 w n) uo (k2 + 1)))), (9, .int (nI k2)), (6, .int (nI (pd_root (j + 1)))), (7, .int (nI j)), (5, .ref its), (4, .int (nI K)), (0, .ref dk), (1, .ref rw0)]) hx hb dX0_holds_200 hl (by decide) rfl (fun ls hl => ?_)
          refine lv_iinc (v := (nI (k2 + 1))) (lv' := [(9, .int (nI (k2 + 1))), (8, .int (nI (pd_ho (pd_root (j + 1)) (pd_ho (pd_root (j + 1)) 0 w n) uo (k2 + 1)))), (6, .int (nI (pd_root (j + 1)))), (7, .int (nI j)), (5, .ref its), (4, .int (nI K)), (0, .ref dk), (1, .ref rw0)]) hx hb dX0_holds_202 hl (k := 1) rfl (nI_1 k2) (by decide) rfl (fun ls hl => ?_)
          refine lv_goto (tgt := 178) hx hb dX0_holds_205 (by decide) ?_
          exact ih4 _ (by omega) _ _ _ _ _ ⟨k2 + 1, ls, rfl, rfl, rfl, rfl, hkk, lv_sub hl [1, 0, 2, 3, 4, 5, 6, 7] rfl, hP.sub [0, 1, 2, 3, 4, 5, 6] rfl, hD.sub [0, 1, 2, 3, 4, 5, 6] (by decide) rfl, hS⟩
      · have hkn : k1 < n := Nat.lt_of_not_le (fun z => c3 (nI_le z (by omega)))
        have hm8 := pd_ho_mul (r := pd_root (j + 1)) (v := 0) (u := w) (k := k1) (by decide) hr8
        have hwk := hw k1
        refine lv_iload hx hb dX0_holds_150 (lv_at hl 0 rfl) ?_
        refine lv_iload hx hb dX0_holds_152 (lv_at hl 2 rfl) ?_
        refine pd_imul (v := (nI (pd_ho (pd_root (j + 1)) 0 w k1 * pd_root (j + 1)))) hx hb dX0_holds_154 (pk_mul _ _) ?_
        refine lv_aload_n hx hb dX0_holds_155 rfl (lv_at hl 7 rfl) ?_
        refine va_get (D := D) (ci := 3) (v := .ref wr) (C := RX2) (T := TX2) (N := 2) hx hb hts in_X2 hown hK hP 0 rfl rfl 0 (by decide) (hts _ q104) (fun _ h9 => h9) rfl dX0_holds_156 ?_
        refine lv_iload hx hb dX0_holds_159 (lv_at hl 1 rfl) ?_
        refine pd_iald (v := (nI (w k1))) hx hb hK hP 1 2 rfl rfl (vp_in_nI (by omega) (by decide)) (congrArg (fun z => nI (w z)) (nI_clamp (by omega))) dX0_holds_161 ?_
        refine pd_iadd (v := (nI (pd_ho (pd_root (j + 1)) 0 w k1 * pd_root (j + 1) + w k1))) hx hb dX0_holds_162 (nI_add _ _) ?_
        refine lv_sipush (v := (nI 929)) hx hb dX0_holds_163 (by decide) ?_
        refine pd_irem (v := (nI (pd_ho (pd_root (j + 1)) 0 w (k1 + 1)))) hx hb dX0_holds_166 (nI_ne0 (by decide) (by decide)) (pd_rem (by omega) (by decide) (by decide)) ?_
        refine lv_istore (lv' := [(8, .int (nI (pd_ho (pd_root (j + 1)) 0 w (k1 + 1)))), (9, .int (nI k1)), (6, .int (nI (pd_root (j + 1)))), (7, .int (nI j)), (5, .ref its), (4, .int (nI K)), (0, .ref dk), (1, .ref rw0)]) hx hb dX0_holds_167 hl (by decide) rfl (fun ls hl => ?_)
        refine lv_iinc (v := (nI (k1 + 1))) (lv' := [(9, .int (nI (k1 + 1))), (8, .int (nI (pd_ho (pd_root (j + 1)) 0 w (k1 + 1)))), (6, .int (nI (pd_root (j + 1)))), (7, .int (nI j)), (5, .ref its), (4, .int (nI K)), (0, .ref dk), (1, .ref rw0)]) hx hb dX0_holds_169 hl (k := 1) rfl (nI_1 k1) (by decide) rfl (fun ls hl => ?_)
        refine lv_goto (tgt := 141) hx hb dX0_holds_172 (by decide) ?_
        exact ih3 _ (by omega) _ _ _ _ _ ⟨k1 + 1, ls, rfl, rfl, rfl, rfl, hkn, lv_sub hl [1, 0, 2, 3, 4, 5, 6, 7] rfl, hP.sub [0, 1, 2, 3, 4, 5, 6] rfl, hD.sub [0, 1, 2, 3, 4, 5, 6] (by decide) rfl, hS⟩
  · have hkK : k0 < K := Nat.lt_of_not_le (fun z => c1 (nI_le z (by omega)))
    have hu9 := hUlt k0
    refine lv_aload hx hb dX0_holds_43 (lv_at hl 1 rfl) ?_
    refine lv_iload hx hb dX0_holds_45 (lv_at hl 0 rfl) ?_
    refine lv_aload_n hx hb dX0_holds_47 rfl (lv_at hl 3 rfl) ?_
    refine lv_iload hx hb dX0_holds_48 (lv_at hl 0 rfl) ?_
    have hPd := hP.sub (ws' := [(dk, .inr (2, [.ref wd, .int (nI n), .ref o2]))]) [2] rfl
    have hSt2 : pd_S o2 K uo pd_F s H := pd_Sof hts hK hP 4 5 rfl rfl hrep pd_Fno pd_Fno
    refine va_calli (va_runV (As := [.int (nI k0)]) (rest := [.int (nI k0), .ref its]) ⟨hx, hb, hml, hown, hts⟩ (m_X1told1 l D cB cC cI dk wd o2 n K uo (nI k0) (by omega) (by omega)) (cwV 1 hts (lw_V q45 q46 q47 q2 q48) rfl rfl rfl (by decide +kernel) ⟨Nat.le_of_ble_eq_true rfl, Nat.le_of_ble_eq_true rfl⟩) (pd_preV (fun a U g mk q => ⟨pd_Z.same (s := U) (U := U.calling g mk a) rfl q.1, va_K.moved (u := U) (U := U.calling g mk a) (Vm.Alike.refl U.vm) q.2.1, q.2.2.1, pd_S.moved (u := U) (U := U.calling g mk a) (Vm.Alike.refl U.vm) q.2.2.2⟩) (va_recv hK hP (ci := 2) (q0 := 2) rfl rfl) (fun U hU hW => ⟨pd_Z.call hZ hS hW hU pd_Fin, va_K.moved hW.alike hK, by rw [hU]; exact hPd, pd_S.now (hSt2) hW hU⟩)) rfl rfl hl.1 rfl (lv_room (Nat.le_of_ble_eq_true rfl)) dX0_holds_50 ⟨by show 304 + 0 ≤ 305; omega, by show 133200 + K + 0 ≤ 133500; omega⟩) hS pd_Fin2 pd_Fin (fun r9 u_3 t H1 locs ht hvm hw9 hB hz1 hk1 hS => ?_)
    have hP := pd_keep hP hk1
    generalize H1 = H at hP hS ⊢
    obtain rfl : r9 = (nI (uo k0)) := hw9.trans (by rw [pd_u_nI (by omega), Nat.mod_eq_of_lt hkK])
    refine pd_iast (f2 := upd f1 k0 (nI (uo k0))) hx hb hK hP hD hS 6 2 rfl rfl (vp_in_nI hkK (by omega)) (by rw [nI_clamp (by omega)]) dX0_holds_53 (fun H locs hP hD hS => ?_)
    have hP : va_P D pd_cl [(rw0, .inr (3, [.ref wr, .int (nI n)])), (wr, .inl (cI, 64, .inl (fun j => nI (w j)))), (dk, .inr (2, [.ref wd, .int (nI n), .ref o2])), (wd, .inl (cC, 64, .inl (fun j => nI (w j)))), (o2, .inr (0, [.ref v2, .int cd, .int 0, .int 0])), (v2, .inl (cB, N, .inl (f))), (its, .inl (cI, K, .inl (upd f1 k0 (nI (uo k0)))))] H := hP
    have hD : va_D A [(rw0, .inr (3, [.ref wr, .int (nI n)])), (wr, .inl (cI, 64, .inl (fun j => nI (w j)))), (dk, .inr (2, [.ref wd, .int (nI n), .ref o2])), (wd, .inl (cC, 64, .inl (fun j => nI (w j)))), (o2, .inr (0, [.ref v2, .int cd, .int 0, .int 0])), (v2, .inl (cB, N, .inl (f))), (its, .inl (cI, K, .inl (upd f1 k0 (nI (uo k0)))))] := hD
    refine lv_aload hx hb dX0_holds_54 (lv_at hl 1 rfl) ?_
    refine lv_iload hx hb dX0_holds_56 (lv_at hl 0 rfl) ?_
    refine pd_iald (v := (nI (uo k0))) hx hb hK hP 6 2 rfl rfl (vp_in_nI hkK (by omega)) (pd_av (by omega) pk_us) dX0_holds_58 ?_
    refine lv_if_lt (tgt := 73) hx hb dX0_holds_59 (by decide) (fun c9 => absurd c9 (nI_pos (by omega))) (fun _ => ?_)
    refine lv_aload hx hb dX0_holds_62 (lv_at hl 1 rfl) ?_
    refine lv_iload hx hb dX0_holds_64 (lv_at hl 0 rfl) ?_
    refine pd_iald (v := (nI (uo k0))) hx hb hK hP 6 2 rfl rfl (vp_in_nI hkK (by omega)) (pd_av (by omega) pk_us) dX0_holds_66 ?_
    refine lv_sipush (v := (nI 928)) hx hb dX0_holds_67 (by decide) ?_
    refine lv_icmp_le (tgt := 75) hx hb dX0_holds_70 (by decide) (fun _ => ?_) (fun c9 => absurd (nI_le (by omega) (by decide)) c9)
    refine lv_iinc (v := (nI (k0 + 1))) (lv' := [(6, .int (nI (k0 + 1))), (5, .ref its), (4, .int (nI K)), (0, .ref dk), (1, .ref rw0)]) hx hb dX0_holds_75 hl (k := 0) rfl (nI_1 k0) (by decide) rfl (fun ls hl => ?_)
    refine lv_goto (tgt := 36) hx hb dX0_holds_78 (by decide) ?_
    exact ih1 _ (by omega) _ _ _ _ _ ⟨k0 + 1, upd f1 k0 (nI (uo k0)), ls, rfl, rfl, rfl, rfl, hkK, pd_putn hf, lv_sub hl [0, 1, 2, 3, 4] rfl, hP.sub [0, 1, 2, 3, 4, 5, 6] rfl, hD.sub [0, 1, 2, 3, 4, 5, 6] (by decide) rfl, hS⟩
end
section
/-! THE START: what the Statement gives of it, as pd_Z and pd_K (written by gen/p17.py) -/
set_option maxRecDepth 100000
abbrev pd_flat : List Cond := flatC (Cond.and given_1 narrow_1)
abbrev pd_ecT : Term := .static "PDF417ErrorCorrection" "EC_COEFFICIENTS" "[[I"
def pd_ecc (i j : Nat) : Cond := .eq (.elem (.elem pd_ecT (.int (Int32.ofNat i))) (.int (Int32.ofNat j))) (.int (nI (pd_c i j)))
theorem pd_ecl0 : (pd_flat.drop 17).take 2 = (List.range 2).map (pd_ecc 0) := by decide +kernel
theorem pd_ecl1 : (pd_flat.drop 22).take 4 = (List.range 4).map (pd_ecc 1) := by decide +kernel
theorem pd_ecl2 : (pd_flat.drop 30).take 8 = (List.range 8).map (pd_ecc 2) := by decide +kernel
theorem pd_ecl3 : (pd_flat.drop 43).take 16 = (List.range 16).map (pd_ecc 3) := by decide +kernel
theorem pd_ecl4 : (pd_flat.drop 65).take 32 = (List.range 32).map (pd_ecc 4) := by decide +kernel
theorem pd_ecl5 : (pd_flat.drop 104).take 64 = (List.range 64).map (pd_ecc 5) := by decide +kernel
theorem pd_ecl6 : (pd_flat.drop 176).take 128 = (List.range 128).map (pd_ecc 6) := by decide +kernel
theorem pd_ecl7 : (pd_flat.drop 313).take 256 = (List.range 256).map (pd_ecc 7) := by decide +kernel
theorem pd_eclm {p n i : Nat} (h : (pd_flat.drop p).take n = (List.range n).map (pd_ecc i)) {j : Nat} (hj : j < n) : pd_ecc i j ∈ pd_flat := by
  have h1 : pd_ecc i j ∈ (pd_flat.drop p).take n := by
    rw [h]
    exact List.mem_map.mpr ⟨j, List.mem_range.mpr hj, rfl⟩
  exact List.mem_of_mem_drop (List.mem_of_mem_take h1)
theorem pd_ecm (i : Nat) (hi : i < 8) (j : Nat) (hj : j < 2 * 2 ^ i) : pd_ecc i j ∈ pd_flat := by
  match i, hi with
  | 0, _ => exact pd_eclm pd_ecl0 hj
  | 1, _ => exact pd_eclm pd_ecl1 hj
  | 2, _ => exact pd_eclm pd_ecl2 hj
  | 3, _ => exact pd_eclm pd_ecl3 hj
  | 4, _ => exact pd_eclm pd_ecl4 hj
  | 5, _ => exact pd_eclm pd_ecl5 hj
  | 6, _ => exact pd_eclm pd_ecl6 hj
  | 7, _ => exact pd_eclm pd_ecl7 hj
theorem pd_ecx : ∀ i, i < 9 → (Cond.exactly (.elem pd_ecT (.int (Int32.ofNat i))) "[I") ∈ pd_flat := by decide +kernel
theorem pd_eca : ∀ i, i < 8 → (Cond.arrayOf (.elem pd_ecT (.int (Int32.ofNat i))) .int) ∈ pd_flat := by decide +kernel
theorem pd_ecn : ∀ i, i < 8 → (Cond.eq (.length (.elem pd_ecT (.int (Int32.ofNat i)))) (.int (Int32.ofNat (2 * 2 ^ i)))) ∈ pd_flat := by decide +kernel
theorem pd_eco : (Cond.arrayOf pd_ecT (.array .int)) ∈ pd_flat ∧ (Cond.eq (.length pd_ecT) (.int (Int32.ofNat 9))) ∈ pd_flat := by decide +kernel
theorem pd_sts : (Cond.eq (.static "java/lang/String" "COMPACT_STRINGS" "Z") (.int 1)) ∈ pd_flat ∧ (Cond.eq (.static "java/lang/StringUTF16" "$assertionsDisabled" "Z") (.int 1)) ∈ pd_flat ∧ (Cond.eq (.static "java/lang/StringUTF16" "HI_BYTE_SHIFT" "I") (.int 0)) ∈ pd_flat ∧ (Cond.eq (.static "java/lang/StringUTF16" "LO_BYTE_SHIFT" "I") (.int 8)) ∈ pd_flat ∧ (Cond.isRef (.static "jdk/internal/util/Preconditions" "SIOOBE_FORMATTER" "Ljava/util/function/BiFunction;")) ∈ pd_flat := by decide +kernel
theorem pd_tx1 : (Cond.exactly (.string "java/lang/String" 7) "java/lang/String") ∈ pd_flat ∧ (Cond.eq (.field (.string "java/lang/String" 7) "java/lang/String" "coder" "B") (.int 0)) ∈ pd_flat ∧ (Cond.arrayOf (.field (.string "java/lang/String" 7) "java/lang/String" "value" "[B") .byte) ∈ pd_flat ∧ (Cond.eq (.length (.field (.string "java/lang/String" 7) "java/lang/String" "value" "[B")) (.int 0)) ∈ pd_flat := by decide +kernel
theorem pd_tx2 : (Cond.exactly (.string "PdfParityDesk" 13) "java/lang/String") ∈ pd_flat ∧ (Cond.eq (.field (.string "PdfParityDesk" 13) "java/lang/String" "coder" "B") (.int 0)) ∈ pd_flat ∧ (Cond.arrayOf (.field (.string "PdfParityDesk" 13) "java/lang/String" "value" "[B") .byte) ∈ pd_flat ∧ (Cond.eq (.length (.field (.string "PdfParityDesk" 13) "java/lang/String" "value" "[B")) (.int 0)) ∈ pd_flat := by decide +kernel
/-- an empty String constant -/
theorem pd_Eof {args : Array Value} {s : State} {t : Term} {A : Nat → Prop} (hex : (Cond.exactly t "java/lang/String").before args s = true) (hco : (Cond.eq (.field t "java/lang/String" "coder" "B") (.int 0)).before args s = true) (har : (Cond.arrayOf (.field t "java/lang/String" "value" "[B") .byte).before args s = true) (hle : (Cond.eq (.length (.field t "java/lang/String" "value" "[B")) (.int 0)).before args s = true) (hA : ∀ a : Nat, a < s.heap.size → ¬ A a) : ∃ a v : Nat, t.eval args s none [] s = some (.ref a) ∧ pd_E a v A s s.heap := by
  obtain ⟨a, c, cA, kA, q1, q2, q3, q4, q5, q6, -⟩ := Cond.exactly_spec (args := args) (first := s) (o := none) (s := s) (idx := []) (t := t) (cls := "java/lang/String") hex
  obtain ⟨v, hv, hT⟩ := va_Tof (N := 0) (f := fun _ => .int 0) (A := A) (by decide) har (va_eqt hle) (fun j hj => absurd hj (Nat.not_lt_zero j)) hA
  exact ⟨a, v, q1, ⟨cA, q3, q5, by rw [q6]; exact q2, hA a (Array.getElem?_eq_some_iff.mp q3).1⟩, vk_OFof q1 hv hA, vk_OFof q1 (va_eqt hco) hA, hT⟩
theorem pd_startZ {b : Nat} {s : State} {A : Nat → Prop} (hts0 : ∀ w ∈ lw_tbl, w.before #[Value.ref b] s = true) (hgv : (Cond.and given_1 narrow_1).before #[Value.ref b] s = true) (hA : ∀ a : Nat, a < s.heap.size → ¬ A a) : pd_Z A s s.heap := by
  have hs : ∀ c ∈ pd_flat, c.before #[Value.ref b] s = true := flat_of_before _ hgv
  have hts : ∀ w ∈ lw_all, w.before #[Value.ref b] s = true := fun w h => hts0 w (lw_all_tbl h)
  have hrow : ∀ i, ∃ t : Nat, (i < 9 → (Term.elem pd_ecT (.int (Int32.ofNat i))).eval #[Value.ref b] s none [] s = some (.ref t)) ∧ (i < 8 → va_T .int t (2 * 2 ^ i) (fun j => .int (nI (pd_c i j))) A s s.heap) := by
    intro i
    by_cases h8 : i < 8
    · have h2 := pd_twole h8
      obtain ⟨t, ht, hT⟩ := va_Tof (tm := .elem pd_ecT (.int (Int32.ofNat i))) (N := 2 * 2 ^ i) (f := fun j => .int (nI (pd_c i j))) (A := A) (by omega) (hs _ (pd_eca i h8)) (va_eqt (hs _ (pd_ecn i h8))) (fun j hj => va_eqt (hs _ (pd_ecm i h8 j hj))) hA
      exact ⟨t, fun _ => ht, fun _ => hT⟩
    · by_cases h9 : i < 9
      · obtain ⟨a, c, cA, kA, q1, -⟩ := Cond.exactly_spec (args := #[Value.ref b]) (first := s) (o := none) (s := s) (idx := []) (t := .elem pd_ecT (.int (Int32.ofNat i))) (cls := "[I") (hs _ (pd_ecx i h9))
        exact ⟨a, fun _ => q1, fun h => absurd h h8⟩
      · exact ⟨0, fun h => absurd h h9, fun h => absurd h h8⟩
  obtain ⟨row, hrow⟩ := Classical.axiomOfChoice hrow
  obtain ⟨et, het, heT⟩ := va_Tof (tm := pd_ecT) (N := 9) (f := fun j => .ref (row j)) (A := A) (by decide) (hs _ pd_eco.1) (va_eqt (hs _ pd_eco.2)) (fun j hj => (hrow j).1 hj) hA
  obtain ⟨a1, v1, g1, g2⟩ := pd_Eof (A := A) (hs _ pd_tx1.1) (hs _ pd_tx1.2.1) (hs _ pd_tx1.2.2.1) (hs _ pd_tx1.2.2.2) hA
  obtain ⟨a2, v2, g3, g4⟩ := pd_Eof (A := A) (hs _ pd_tx2.1) (hs _ pd_tx2.2.1) (hs _ pd_tx2.2.2.1) (hs _ pd_tx2.2.2.2) hA
  exact ⟨va_Zof (hts0 _ q58) (hts _ q4) (va_eqi (hs _ pd_sts.1)) hA, va_Zof (hts0 _ q92) (hts _ q7) (va_eqi (hs _ pd_sts.2.1)) hA, va_Zof (hts0 _ q94) (hts _ q7) (va_eqi (hs _ pd_sts.2.2.1)) hA, va_Zof (hts0 _ q96) (hts _ q7) (va_eqi (hs _ pd_sts.2.2.2.1)) hA, va_Zqof (hts0 _ q74) (hts _ q6) (hs _ pd_sts.2.2.2.2) hA,
    ⟨et, row, va_Zof (hts0 _ q301) (hts _ q8) het hA, heT, fun i hi => (hrow i).2 hi⟩,
    ⟨a1, v1, a2, v2, vk_R.of (hts0 _ q216) g1, vk_R.of (hts0 _ q27) g3, g2, g4⟩,
    va_Nw.of rfl (hts0 _ q359),
    va_Fw.of (hts0 _ q265) (hts0 _ q264) (hts0 _ q269) (hts0 _ q268) (hts0 _ q266), va_Fw.of (hts0 _ q283) (hts0 _ q282) (hts0 _ q286) (hts0 _ q285) (hts0 _ q266)⟩
/-- the classes and the array classes -/
theorem pd_startK {b : Nat} {s : State} (hts0 : ∀ w ∈ lw_tbl, w.before #[Value.ref b] s = true) : ∃ (D : va_G) (cB cC cI : ClassId), pd_K D cB cC cI s := by
  have hts : ∀ w ∈ lw_all, w.before #[Value.ref b] s = true := fun w h => hts0 w (lw_all_tbl h)
  obtain ⟨c0_, iS0, hKn0⟩ := u_known (C := RJ0) (T := TJ0) (N := 4) (n := 4) hts0 (fun w h => lw_all_tbl (in_J0 w h)) (hts _ q199)
  obtain ⟨c1_, iS1, hKn1⟩ := u_known (C := RJ10) (T := TJ10) (N := 4) (n := 4) hts0 (fun w h => lw_all_tbl (in_J10 w h)) (hts _ q303)
  obtain ⟨c2_, iS2, hKn2⟩ := u_known (C := RX1) (T := TX1) (N := 3) (n := 3) hts0 (fun w h => lw_all_tbl (in_X1 w h)) (hts _ q20)
  obtain ⟨c3_, iS3, hKn3⟩ := u_known (C := RX2) (T := TX2) (N := 2) (n := 2) hts0 (fun w h => lw_all_tbl (in_X2 w h)) (hts _ q98)
  obtain ⟨cB, kB, pB, b1, b2, b3⟩ := Cond.arrayClass_spec (type := .byte) (hts _ q39)
  obtain ⟨cC, kC, pC, d1, d2, d3⟩ := Cond.arrayClass_spec (type := .char) (hts _ q38)
  obtain ⟨cI, kI, pI, e1, e2, e3⟩ := Cond.arrayClass_spec (type := .int) (hts _ q111)
  refine ⟨(fun k => if k = 0 then c0_ else if k = 1 then c1_ else if k = 2 then c2_ else c3_, fun k => if k = 0 then iS0 else if k = 1 then iS1 else if k = 2 then iS2 else iS3), cB, cC, cI, ?_, ?_⟩
  · intro k q hq
    match k, hq with
    | 0, hq => cases hq; exact hKn0
    | 1, hq => cases hq; exact hKn1
    | 2, hq => cases hq; exact hKn2
    | 3, hq => cases hq; exact hKn3
    | k + 4, hq => simp [pd_cl] at hq
  · intro k q hq
    match k, hq with
    | 0, hq => cases hq; exact ⟨fun n z => ⟨fun k h => (by cases h), kB, b2, pB, b3⟩, b1⟩
    | 1, hq => cases hq; exact ⟨fun n z => ⟨fun k h => (by cases h), kC, d2, pC, d3⟩, d1⟩
    | 2, hq => cases hq; exact ⟨fun n z => ⟨fun k h => (by cases h), kI, e2, pI, e3⟩, e1⟩
    | k + 3, hq => simp [pd_ty] at hq
end
section
/-! THE CLAIM OUT OF ONE WALK OF THE LAW'S BODY. Your part is whole_start (and what it stands on); all else here is the same for every law, but numbers. -/
def R_law : String := "PdfParityDeskLaw"
def lw_P (b : Addr) (xs : List Int32) (args : Array Value) (s : State) : Prop := args = #[.ref b] ∧ s.IntsAt b xs ∧ xs.length ≤ 96 ∧ (Jvm.Cond.and given_1 narrow_1).before args s = true
def lw_Q (_ : Array Value) (s : State) (o : Outcome) (t : State) : Prop := o = .returned (some (.int 1)) ∧ Framed s o t [] 1200192 5500522
def lw_Z (below : List Frame) (a : Array Value) (s : State) : State → Prop := fun t => ∃ o, t.status = .running ∧ Ended t below o ∧ lw_Q a s o t
/-- the law's own end, with 1 on the stack, nothing written that was there before, its room as the claim has it -/
theorem lw_ret {p : Program} {l : Launch} {e : Env} {s : State} {m : MethodId} {below : List Frame} {meth : Method} {c : Code} {b : Nat} (hx : p.tables.exec = Jvm.exec) (hb : c.code = code) (hr : meth.sig.returnType = ret) (hlocks : meth.locks = false) {pc : Nat} {H : Heap} {ls : Array Slot} (hdg : decode code pc = .ok (.ireturn, 1)) : W p l e room_1 s m #[Value.ref b] below meth c H [] 1200192 5500522 (lw_Z below #[Value.ref b] s) (F0 m pc ls [.int 1]) := by
  intro T hT X
  obtain ⟨fs, hret, hrun, hended, hW, hframe⟩ := X.leave (v := some (.int 1)) (hlocks := hlocks) (fun h => by rw [hr] at h; cases h)
  have hmeth' : T.vm.method? m = some meth := X.method'
  refine ⟨T.setFrames fs, ?_, .returned (some (.int 1)), hrun, hended, rfl, ⟨_, rfl⟩, hW, hframe⟩
  jvm_step X.here [X.here.top, hx, hb, hdg, hmeth', hr, ret, narrow_b1]
  (try refine ⟨rfl, ?_⟩); (try refine ⟨rfl, ?_⟩)
  first | (intro acts; rw [hret _ acts rfl rfl rfl]) | rw [hret _ _ rfl rfl rfl]
  exact Steps.refl _
/-- what holds at the law's entry: the machine, the code, the tables' words (any of lw_tbl by 'hts w (by decide +kernel)'), the script of L ints xs at the cell b, what the Statement gives of the start (any of its parts by flat_of_before) -/
def lw_At (p : Program) (s : State) (m : MethodId) (meth : Method) (c : Code) (b L : Nat) (xs : Nat → Int32) : Prop :=
  p.tables.exec = Jvm.exec ∧ c.code = code ∧ meth.sig.returnType = ret ∧ c.maxLocals = 7 ∧ s.vm.findClass R_law = some m.cls ∧ (∀ w ∈ lw_tbl, w.before #[Value.ref b] s = true) ∧ va_X b L xs s s.heap ∧ b < s.heap.size ∧ meth.locks = false ∧ (Jvm.Cond.and given_1 narrow_1).before #[Value.ref b] s = true
set_option maxHeartbeats 8000000 in
set_option maxRecDepth 100000 in
/-- THE LAW, from its entry (written by gen/p18.py) -/
theorem whole_start {p : Program} {e : Env} {s : State} {m : MethodId} {below : List Frame} {meth : Method} {c : Code} (l : Launch) (hflags : l.flags = flags0) {b L : Nat} {xs : Nat → Int32} (hL : L ≤ 96) (C0 : lw_At p s m meth c b L xs) : W p l e room_1 s m #[Value.ref b] below meth c s.heap [] 0 0 (lw_Z below #[Value.ref b] s) (entryFrame m ([Value.ref b] : List Value).toArray 7) := by
  obtain ⟨hx, hb, hr, hml, hown, hts0, hX, hbl, hlocks, hgv⟩ := id C0
  have hts : ∀ w ∈ lw_all, w.before #[Value.ref b] s = true := fun w h => hts0 w (lw_all_tbl h)
  obtain ⟨A, hAd⟩ : ∃ A : Nat → Prop, A = fun q => s.heap.size ≤ q := ⟨_, rfl⟩
  have hA : ∀ q : Nat, s.heap.size ≤ q → A q := fun q h => by rw [hAd]; exact h
  have hA2 : ∀ q : Nat, A q → s.heap.size ≤ q := fun q h => by rw [hAd] at h; exact h
  have hZ : pd_Z A s s.heap := pd_startZ hts0 hgv (fun a h z => absurd (hA2 a z) (Nat.not_le.mpr h))
  obtain ⟨D, cB, cC, cI, hK⟩ := pd_startK hts0
  have hT : va_T .int b L (fun j => .int (xs j)) A s s.heap := by
    obtain ⟨scr, h1, h2, h3, h4, h5⟩ := hX
    exact ⟨scr, h1, h2, h3, Nat.le_of_eq h4.symm, by rw [h4], h5, fun z => absurd (hA2 b z) (Nat.not_le.mpr hbl)⟩
  obtain ⟨-, -, -, -, -, -, ⟨qe, v9, td0, v92, -, hR, -, hE⟩, -⟩ := id hZ
  have hSt0 : pd_S td0 0 (fun _ => 0) A s s.heap := hE.S _
  obtain ⟨vS, cdS, NS, fS, hSS, hrepS⟩ := id hSt0
  have hS : va_S A s.heap s.heap [] := va_S.rf
  have hP : va_P D pd_cl [] s.heap := pd_P0
  have hD : va_D A [] := pd_D0
  have hl := lv_entry ([.ref b]) (n := 7) (Nat.le_of_ble_eq_true rfl)
  rw [lg_entry_eq]
  generalize (lg_sl ([.ref b]) ++ List.replicate (7 - (lg_sl ([.ref b])).length) Slot.unset).toArray = ls at hl ⊢
  have hl : lv_has ls 7 [(0, .ref b)] := hl
  refine va_new (ci := 2) (fs := [.null, .int 0, .null]) (C := RX1) (T := TX1) (N := 3) hx hb hts in_X1 tyX1 tyX1_ok hown (hts _ q19) (hts _ q20) (hts _ q2) hK hP hD hS hA rfl (fun j hj => by rcases (show j = 0 ∨ j = 1 ∨ j = 2 by omega) with rfl | rfl | rfl <;> rfl) (by show _ ≤ 1200192; omega) (by show _ ≤ 5500522; omega) dL_law_0 (fun dk H hP hD hS => ?_)
  have hP : va_P D pd_cl [(dk, .inr (2, [.null, .int 0, .null]))] H := hP
  have hD : va_D A [(dk, .inr (2, [.null, .int 0, .null]))] := hD
  refine lv_dup hx hb dL_law_3 rfl ?_
  have hPc := hP.sub (ws' := [(dk, .inr (2, [.null, .int 0, .null]))]) [0] rfl
  have hDc := hD.sub (ws' := [(dk, .inr (2, [.null, .int 0, .null]))]) [0] (by decide) rfl
  have hFc := va_free (wc := [(dk, .inr (2, [.null, .int 0, .null]))]) hD hS hA [0] rfl
  refine va_callv (va_runI (As := []) (rest := [.ref dk]) ⟨hx, hb, hml, hown, hts⟩ (m_X1init l D cB cC cI _ dk td0) (cwI 0 hts (lw_meth q23) rfl rfl rfl (hts _ q2) (hts _ q21) (hts _ q22) rfl (by decide +kernel) ⟨Nat.le_of_ble_eq_true rfl, Nat.le_of_ble_eq_true rfl⟩) (pd_pre (fun a U g mk q => ⟨pd_BA.blind q.1, vk_R.same (u := U) (U := U.calling g mk a) rfl q.2⟩) (fun U hU hW => ⟨pd_BA.pass hPc hDc hK hZ hS hFc hU hW, vk_R.warm hW hR⟩)) rfl rfl hl.1 rfl (lv_room (Nat.le_of_ble_eq_true rfl)) dL_law_4 ⟨by show _ ≤ 1200192; omega, by show _ ≤ 5500522; omega⟩) hS (fun q _ h => hFc q h) hFc (fun u_1 t H1 locs ht hvm hw9 hB hz1 hk1 hS => ?_)
  obtain ⟨wd, hP1, hD1⟩ := hB
  rw [ht] at hP1
  obtain ⟨hP, hD⟩ := va_join (wr := []) (w1 := [(dk, .inr (2, [.ref wd, .int 0, .ref td0])), (wd, .inl (cC, 64, .inl (fun _ => 0)))]) hP hD [0] [] rfl rfl (by decide) (by decide) hk1 hFc hP1 hD1
  generalize H1 = H at hP hS ⊢
  have hP : va_P D pd_cl [(dk, .inr (2, [.ref wd, .int 0, .ref td0])), (wd, .inl (cC, 64, .inl (fun _ => 0)))] H := hP
  have hD : va_D A [(dk, .inr (2, [.ref wd, .int 0, .ref td0])), (wd, .inl (cC, 64, .inl (fun _ => 0)))] := hD
  refine lv_astore_n (lv' := [(1, .ref dk), (0, .ref b)]) hx hb dL_law_7 rfl hl (by decide) rfl (fun ls hl => ?_)
  refine va_new (ci := 3) (fs := [.null, .int 0]) (C := RX2) (T := TX2) (N := 2) hx hb hts in_X2 tyX2 tyX2_ok hown (hts _ q97) (hts _ q98) (hts _ q3) hK hP hD hS hA rfl (fun j hj => by rcases (show j = 0 ∨ j = 1 by omega) with rfl | rfl <;> rfl) (by show _ ≤ 1200192; omega) (by show _ ≤ 5500522; omega) dL_law_8 (fun rw0 H hP hD hS => ?_)
  have hP : va_P D pd_cl [(dk, .inr (2, [.ref wd, .int 0, .ref td0])), (wd, .inl (cC, 64, .inl (fun _ => 0))), (rw0, .inr (3, [.null, .int 0]))] H := hP
  have hD : va_D A [(dk, .inr (2, [.ref wd, .int 0, .ref td0])), (wd, .inl (cC, 64, .inl (fun _ => 0))), (rw0, .inr (3, [.null, .int 0]))] := hD
  refine lv_dup hx hb dL_law_11 rfl ?_
  have hPc := hP.sub (ws' := [(rw0, .inr (3, [.null, .int 0]))]) [2] rfl
  have hDc := hD.sub (ws' := [(rw0, .inr (3, [.null, .int 0]))]) [2] (by decide) rfl
  have hFc := va_free (wc := [(rw0, .inr (3, [.null, .int 0]))]) hD hS hA [2] rfl
  refine va_callv (va_runIN (As := []) (rest := [.ref rw0]) ⟨hx, hb, hml, hown, hts⟩ (m_X2init l D cB cC cI _ rw0) ⟨va_cnB 0 hts (lw_meth q101) rfl rfl rfl (va_Nw.of rfl (hts0 _ q99)) (hts _ q3) (by decide +kernel) ⟨Nat.le_of_ble_eq_true rfl, Nat.le_of_ble_eq_true rfl⟩, rfl, hts _ q100⟩ (pd_pre (fun a U g mk q => pd_BA.blind q) (fun U hU hW => pd_BA.pass hPc hDc hK hZ hS hFc hU hW)) rfl rfl hl.1 rfl (lv_room (Nat.le_of_ble_eq_true rfl)) dL_law_12 ⟨by show _ ≤ 1200192; omega, by show _ ≤ 5500522; omega⟩) hS (fun q _ h => hFc q h) hFc (fun u_2 t H1 locs ht hvm hw9 hB hz1 hk1 hS => ?_)
  obtain ⟨wr, hP1, hD1⟩ := hB
  rw [ht] at hP1
  obtain ⟨hP, hD⟩ := va_join (wr := [(dk, .inr (2, [.ref wd, .int 0, .ref td0])), (wd, .inl (cC, 64, .inl (fun _ => 0)))]) (w1 := [(rw0, .inr (3, [.ref wr, .int 0])), (wr, .inl (cI, 64, .inl (fun _ => 0)))]) hP hD [2] [0, 1] rfl rfl (by decide) (by decide) hk1 hFc hP1 hD1
  generalize H1 = H at hP hS ⊢
  have hP : va_P D pd_cl [(dk, .inr (2, [.ref wd, .int 0, .ref td0])), (wd, .inl (cC, 64, .inl (fun _ => 0))), (rw0, .inr (3, [.ref wr, .int 0])), (wr, .inl (cI, 64, .inl (fun _ => 0)))] H := hP
  have hD : va_D A [(dk, .inr (2, [.ref wd, .int 0, .ref td0])), (wd, .inl (cC, 64, .inl (fun _ => 0))), (rw0, .inr (3, [.ref wr, .int 0])), (wr, .inl (cI, 64, .inl (fun _ => 0)))] := hD
  refine lv_astore_n (lv' := [(2, .ref rw0), (1, .ref dk), (0, .ref b)]) hx hb dL_law_15 rfl hl (by decide) rfl (fun ls hl => ?_)
  obtain ⟨w0, hw0⟩ : ∃ z : Nat → Nat, z = fun _ => 0 := ⟨_, rfl⟩
  have hw09 : ∀ j, w0 j < 929 := fun j => by rw [hw0]; exact (by decide : 0 < 929)
  have hP : va_P D pd_cl [(dk, .inr (2, [.ref wd, .int (nI 0), .ref td0])), (wd, .inl (cC, 64, .inl (fun j => nI (w0 j)))), (rw0, .inr (3, [.ref wr, .int (nI 0)])), (wr, .inl (cI, 64, .inl (fun j => nI (w0 j))))] H := by rw [hw0]; exact hP
  have hD : va_D A [(dk, .inr (2, [.ref wd, .int (nI 0), .ref td0])), (wd, .inl (cC, 64, .inl (fun j => nI (w0 j)))), (rw0, .inr (3, [.ref wr, .int (nI 0)])), (wr, .inl (cI, 64, .inl (fun j => nI (w0 j))))] := by rw [hw0]; exact hD
  refine lv_aload_n hx hb dL_law_16 rfl (lv_at hl 1 rfl) ?_
  refine lv_aload_n hx hb dL_law_17 rfl (lv_at hl 2 rfl) ?_
  refine lv_iconst (v := nI 0) hx hb dL_law_18 (by decide) ?_
  refine va_calli (va_runS (As := [.ref b, .int (nI 0)]) (rest := [.ref dk]) ⟨hx, hb, hml, hown, hts⟩ (m_X0cell l b L (0) xs hL (by decide)) (va_cwS 2 hts (lw_S q112 q113 q1 q114) rfl rfl rfl (by decide +kernel) ⟨Nat.le_of_ble_eq_true rfl, Nat.le_of_ble_eq_true rfl⟩) (pd_pre (fun a U g mk q => va_T.moved (u := U) (U := U.calling g mk a) (Vm.Alike.refl U.vm) q) (fun U hU hW => pd_T.call hT hS hW hU pd_Fin)) rfl rfl hl.1 rfl (lv_room (Nat.le_of_ble_eq_true rfl)) dL_law_19 ⟨by show _ ≤ 1200192; omega, by show _ ≤ 5500522; omega⟩) hS pd_Fin2 pd_Fin (fun r9 u_3 t H1 locs ht hvm hw9 hB hz1 hk1 hS => ?_)
  have hP := pd_keep hP hk1
  generalize H1 = H at hP hS ⊢
  obtain rfl : r9 = (pd_cell L xs (0)) := hw9
  have hPd := hP.sub (ws' := [(dk, .inr (2, [.ref wd, .int (nI 0), .ref td0]))]) [0] rfl
  refine va_calli (va_runV (As := [.int (pd_cell L xs (0))]) (rest := []) ⟨hx, hb, hml, hown, hts⟩ (m_X1told0 l D cB cC cI dk wd td0 0 (fun _ => 0) (pd_cell L xs (0))) (cwV 1 hts (lw_V q45 q46 q47 q2 q48) rfl rfl rfl (by decide +kernel) ⟨Nat.le_of_ble_eq_true rfl, Nat.le_of_ble_eq_true rfl⟩) (pd_preV (fun a U g mk q => ⟨pd_Z.same (s := U) (U := U.calling g mk a) rfl q.1, va_K.moved (u := U) (U := U.calling g mk a) (Vm.Alike.refl U.vm) q.2.1, q.2.2.1, pd_S.moved (u := U) (U := U.calling g mk a) (Vm.Alike.refl U.vm) q.2.2.2⟩) (va_recv hK hP (ci := 2) (q0 := 0) rfl rfl) (fun U hU hW => ⟨pd_Z.call hZ hS hW hU pd_Fin, va_K.moved hW.alike hK, by rw [hU]; exact hPd, pd_S.call hSt0 hS hW hU pd_Fin⟩)) rfl rfl hl.1 rfl (lv_room (Nat.le_of_ble_eq_true rfl)) dL_law_22 ⟨by show _ ≤ 1200192; omega, by show _ ≤ 5500522; omega⟩) hS pd_Fin2 pd_Fin (fun r9 u_4 t H1 locs ht hvm hw9 hB hz1 hk1 hS => ?_)
  have hP := pd_keep hP hk1
  generalize H1 = H at hP hS ⊢
  obtain rfl : r9 = (-1) := hw9
  refine lv_iconst (v := (-1)) hx hb dL_law_25 (by decide) ?_
  refine lv_icmp_ne (tgt := 57) hx hb dL_law_26 (by decide) (fun c9 => absurd (rfl) c9) (fun _ => ?_)
  refine lv_aload_n hx hb dL_law_29 rfl (lv_at hl 1 rfl) ?_
  refine lv_aload_n hx hb dL_law_30 rfl (lv_at hl 0 rfl) ?_
  refine lv_aload_n hx hb dL_law_31 rfl (lv_at hl 2 rfl) ?_
  refine lv_iconst (v := nI 0) hx hb dL_law_32 (by decide) ?_
  refine va_calli (va_runS (As := [.ref b, .int (nI 0)]) (rest := [.ref rw0, .ref dk]) ⟨hx, hb, hml, hown, hts⟩ (m_X0cell l b L (0) xs hL (by decide)) (va_cwS 2 hts (lw_S q112 q113 q1 q114) rfl rfl rfl (by decide +kernel) ⟨Nat.le_of_ble_eq_true rfl, Nat.le_of_ble_eq_true rfl⟩) (pd_pre (fun a U g mk q => va_T.moved (u := U) (U := U.calling g mk a) (Vm.Alike.refl U.vm) q) (fun U hU hW => pd_T.call hT hS hW hU pd_Fin)) rfl rfl hl.1 rfl (lv_room (Nat.le_of_ble_eq_true rfl)) dL_law_33 ⟨by show _ ≤ 1200192; omega, by show _ ≤ 5500522; omega⟩) hS pd_Fin2 pd_Fin (fun r9 u_5 t H1 locs ht hvm hw9 hB hz1 hk1 hS => ?_)
  have hP := pd_keep hP hk1
  generalize H1 = H at hP hS ⊢
  obtain rfl : r9 = (pd_cell L xs (0)) := hw9
  refine lv_bipush (v := (nI 8)) hx hb dL_law_36 (by decide) ?_
  refine va_calli (va_runS (As := [.int (pd_cell L xs (0)), .int (nI 8)]) (rest := [.ref rw0, .ref dk]) ⟨hx, hb, hml, hown, hts⟩ (m_X0rest l (8) (pd_cell L xs (0)) (by decide) (by decide)) (va_cwS 2 hts (lw_S q115 q116 q1 q117) rfl rfl rfl (by decide +kernel) ⟨Nat.le_of_ble_eq_true rfl, Nat.le_of_ble_eq_true rfl⟩) (pd_pre (fun a U g mk q => trivial) (fun U hU hW => trivial)) rfl rfl hl.1 rfl (lv_room (Nat.le_of_ble_eq_true rfl)) dL_law_38 ⟨by show _ ≤ 1200192; omega, by show _ ≤ 5500522; omega⟩) hS pd_Fin2 pd_Fin (fun r9 u_6 t H1 locs ht hvm hw9 hB hz1 hk1 hS => ?_)
  have hP := pd_keep hP hk1
  generalize H1 = H at hP hS ⊢
  obtain rfl : r9 = (nI (pd_u (pd_cell L xs (0)) % (8))) := hw9
  refine lv_aload_n hx hb dL_law_41 rfl (lv_at hl 2 rfl) ?_
  refine lv_iconst (v := nI 0) hx hb dL_law_42 (by decide) ?_
  refine va_calli (va_runS (As := [.ref b, .int (nI 0)]) (rest := [.int (nI (pd_u (pd_cell L xs (0)) % (8))), .ref rw0, .ref dk]) ⟨hx, hb, hml, hown, hts⟩ (m_X0cell l b L (0) xs hL (by decide)) (va_cwS 2 hts (lw_S q112 q113 q1 q114) rfl rfl rfl (by decide +kernel) ⟨Nat.le_of_ble_eq_true rfl, Nat.le_of_ble_eq_true rfl⟩) (pd_pre (fun a U g mk q => va_T.moved (u := U) (U := U.calling g mk a) (Vm.Alike.refl U.vm) q) (fun U hU hW => pd_T.call hT hS hW hU pd_Fin)) rfl rfl hl.1 rfl (lv_room (Nat.le_of_ble_eq_true rfl)) dL_law_43 ⟨by show _ ≤ 1200192; omega, by show _ ≤ 5500522; omega⟩) hS pd_Fin2 pd_Fin (fun r9 u_7 t H1 locs ht hvm hw9 hB hz1 hk1 hS => ?_)
  have hP := pd_keep hP hk1
  generalize H1 = H at hP hS ⊢
  obtain rfl : r9 = (pd_cell L xs (0)) := hw9
  refine lv_bipush (v := (nI 8)) hx hb dL_law_46 (by decide) ?_
  refine va_calli (va_runS (As := [.int (pd_cell L xs (0)), .int (nI 8)]) (rest := [.int (nI (pd_u (pd_cell L xs (0)) % (8))), .ref rw0, .ref dk]) ⟨hx, hb, hml, hown, hts⟩ (m_X0rest l (8) (pd_cell L xs (0)) (by decide) (by decide)) (va_cwS 2 hts (lw_S q115 q116 q1 q117) rfl rfl rfl (by decide +kernel) ⟨Nat.le_of_ble_eq_true rfl, Nat.le_of_ble_eq_true rfl⟩) (pd_pre (fun a U g mk q => trivial) (fun U hU hW => trivial)) rfl rfl hl.1 rfl (lv_room (Nat.le_of_ble_eq_true rfl)) dL_law_48 ⟨by show _ ≤ 1200192; omega, by show _ ≤ 5500522; omega⟩) hS pd_Fin2 pd_Fin (fun r9 u_8 t H1 locs ht hvm hw9 hB hz1 hk1 hS => ?_)
  have hP := pd_keep hP hk1
  generalize H1 = H at hP hS ⊢
  obtain rfl : r9 = (nI (pd_u (pd_cell L xs (0)) % (8))) := hw9
  have h8 : pd_u (pd_cell L xs 0) % 8 < 8 := Nat.mod_lt _ (by decide)
  have hPc := hP.sub (ws' := [(dk, .inr (2, [.ref wd, .int (nI 0), .ref td0])), (wd, .inl (cC, 64, .inl (fun j => nI (w0 j)))), (rw0, .inr (3, [.ref wr, .int (nI 0)])), (wr, .inl (cI, 64, .inl (fun j => nI (w0 j))))]) [0, 1, 2, 3] rfl
  have hDc := hD.sub (ws' := [(dk, .inr (2, [.ref wd, .int (nI 0), .ref td0])), (wd, .inl (cC, 64, .inl (fun j => nI (w0 j)))), (rw0, .inr (3, [.ref wr, .int (nI 0)])), (wr, .inl (cI, 64, .inl (fun j => nI (w0 j))))]) [0, 1, 2, 3] (by decide) rfl
  have hFc := va_free (wc := [(dk, .inr (2, [.ref wd, .int (nI 0), .ref td0])), (wd, .inl (cC, 64, .inl (fun j => nI (w0 j)))), (rw0, .inr (3, [.ref wr, .int (nI 0)])), (wr, .inl (cI, 64, .inl (fun j => nI (w0 j))))]) hD hS hA [0, 1, 2, 3] rfl
  refine va_calli (va_runS (As := [.ref dk, .ref rw0, .int (nI (pd_u (pd_cell L xs (0)) % (8))), .int (nI (pd_u (pd_cell L xs (0)) % (8)))]) (rest := []) ⟨hx, hb, hml, hown, hts⟩ (m_X0holds l D cB cC cI _ dk wd rw0 wr td0 0 (pd_u (pd_cell L xs (0)) % (8)) (2 * 2 ^ (pd_u (pd_cell L xs (0)) % (8))) w0 (nI (pd_u (pd_cell L xs (0)) % (8))) (h8) rfl (pd_and7n h8) (by decide) hw09) (va_cwS 4 hts (lw_S q119 q120 q1 q121) rfl rfl rfl (by decide +kernel) ⟨Nat.le_of_ble_eq_true rfl, Nat.le_of_ble_eq_true rfl⟩) (pd_pre (fun a U g mk q => pd_BA.blind q) (fun U hU hW => pd_BA.pass hPc hDc hK hZ hS hFc hU hW)) rfl rfl hl.1 rfl (lv_room (Nat.le_of_ble_eq_true rfl)) dL_law_51 ⟨by show _ ≤ 1200192; omega, by show _ ≤ 5500522; omega⟩) hS (fun q _ h => hFc q h) hFc (fun r9 u_9 t H1 locs ht hvm hw9 hB hz1 hk1 hS => ?_)
  obtain ⟨td2, hP1, hD1⟩ := hB
  rw [ht] at hP1
  obtain ⟨hP, hD⟩ := va_join (wr := []) (w1 := [(dk, .inr (2, [.ref wd, .int (nI 0), .ref td2])), (wd, .inl (cC, 64, .inl (fun j => nI (w0 j)))), (rw0, .inr (3, [.ref wr, .int (nI 0)])), (wr, .inl (cI, 64, .inl (fun j => nI (w0 j))))]) hP hD [0, 1, 2, 3] [] rfl rfl (by decide) (by decide) hk1 hFc hP1 hD1
  generalize H1 = H at hP hS ⊢
  have hP : va_P D pd_cl [(dk, .inr (2, [.ref wd, .int (nI 0), .ref td2])), (wd, .inl (cC, 64, .inl (fun j => nI (w0 j)))), (rw0, .inr (3, [.ref wr, .int (nI 0)])), (wr, .inl (cI, 64, .inl (fun j => nI (w0 j))))] H := hP
  have hD : va_D A [(dk, .inr (2, [.ref wd, .int (nI 0), .ref td2])), (wd, .inl (cC, 64, .inl (fun j => nI (w0 j)))), (rw0, .inr (3, [.ref wr, .int (nI 0)])), (wr, .inl (cI, 64, .inl (fun j => nI (w0 j))))] := hD
  obtain rfl : r9 = 1 := hw9
  refine lv_if_ne (tgt := 59) hx hb dL_law_54 (by decide) (fun _ => ?_) (fun c9 => absurd c9 (by decide))
  refine lv_aload_n hx hb dL_law_59 rfl (lv_at hl 2 rfl) ?_
  refine lv_iconst (v := nI 1) hx hb dL_law_60 (by decide) ?_
  refine va_calli (va_runS (As := [.ref b, .int (nI 1)]) (rest := []) ⟨hx, hb, hml, hown, hts⟩ (m_X0cell l b L (1) xs hL (by decide)) (va_cwS 2 hts (lw_S q112 q113 q1 q114) rfl rfl rfl (by decide +kernel) ⟨Nat.le_of_ble_eq_true rfl, Nat.le_of_ble_eq_true rfl⟩) (pd_pre (fun a U g mk q => va_T.moved (u := U) (U := U.calling g mk a) (Vm.Alike.refl U.vm) q) (fun U hU hW => pd_T.call hT hS hW hU pd_Fin)) rfl rfl hl.1 rfl (lv_room (Nat.le_of_ble_eq_true rfl)) dL_law_61 ⟨by show _ ≤ 1200192; omega, by show _ ≤ 5500522; omega⟩) hS pd_Fin2 pd_Fin (fun r9 u_10 t H1 locs ht hvm hw9 hB hz1 hk1 hS => ?_)
  have hP := pd_keep hP hk1
  generalize H1 = H at hP hS ⊢
  obtain rfl : r9 = (pd_cell L xs (1)) := hw9
  refine lv_bipush (v := (nI 34)) hx hb dL_law_64 (by decide) ?_
  refine va_calli (va_runS (As := [.int (pd_cell L xs (1)), .int (nI 34)]) (rest := []) ⟨hx, hb, hml, hown, hts⟩ (m_X0rest l (34) (pd_cell L xs (1)) (by decide) (by decide)) (va_cwS 2 hts (lw_S q115 q116 q1 q117) rfl rfl rfl (by decide +kernel) ⟨Nat.le_of_ble_eq_true rfl, Nat.le_of_ble_eq_true rfl⟩) (pd_pre (fun a U g mk q => trivial) (fun U hU hW => trivial)) rfl rfl hl.1 rfl (lv_room (Nat.le_of_ble_eq_true rfl)) dL_law_66 ⟨by show _ ≤ 1200192; omega, by show _ ≤ 5500522; omega⟩) hS pd_Fin2 pd_Fin (fun r9 u_11 t H1 locs ht hvm hw9 hB hz1 hk1 hS => ?_)
  have hP := pd_keep hP hk1
  generalize H1 = H at hP hS ⊢
  obtain rfl : r9 = (nI (pd_u (pd_cell L xs (1)) % (34))) := hw9
  refine lv_istore_n (lv' := [(3, .int (nI (pd_u (pd_cell L xs (1)) % (34)))), (2, .ref rw0), (1, .ref dk), (0, .ref b)]) hx hb dL_law_69 rfl hl (by decide) rfl (fun ls hl => ?_)
  refine lv_iconst (v := 0) hx hb dL_law_70 (by decide) ?_
  refine lv_istore (lv' := [(4, .int 0), (3, .int (nI (pd_u (pd_cell L xs (1)) % (34)))), (2, .ref rw0), (1, .ref dk), (0, .ref b)]) hx hb dL_law_71 hl (by decide) rfl (fun ls hl => ?_)
  have hm34 : pd_u (pd_cell L xs (1)) % (34) < 34 := Nat.mod_lt _ (by decide)
  generalize pd_u (pd_cell L xs (1)) % (34) = many at hm34 hl
  refine pd_loop (fun k H locs cs sl g => ∃ (k0 : Nat) (n : Nat) (w : Nat → Nat) (td : Nat) (ls : Array Slot), many - k0 = k ∧ g = F0 m 73 ls [] ∧ cs ≤ 400 ∧ sl ≤ 200000 ∧ (k0 ≤ many) ∧ (n ≤ 64) ∧ (∀ j, w j < 929) ∧ lv_has ls 7 [(4, .int (nI k0)), (3, .int (nI many)), (0, .ref b), (1, .ref dk), (2, .ref rw0)] ∧ va_P D pd_cl [(dk, .inr (2, [.ref wd, .int (nI n), .ref td])), (wd, .inl (cC, 64, .inl (fun j => nI (w j)))), (rw0, .inr (3, [.ref wr, .int (nI n)])), (wr, .inl (cI, 64, .inl (fun j => nI (w j))))] H ∧ va_D A [(dk, .inr (2, [.ref wd, .int (nI n), .ref td])), (wd, .inl (cC, 64, .inl (fun j => nI (w j)))), (rw0, .inr (3, [.ref wr, .int (nI n)])), (wr, .inl (cI, 64, .inl (fun j => nI (w j))))] ∧ va_S A s.heap H locs) ?_ _ (⟨0, 0, w0, td2, ls, rfl, rfl, by omega, by omega, Nat.zero_le _, by decide, hw09, lv_sub hl [0, 1, 4, 3, 2] rfl, hP.sub [0, 1, 2, 3] rfl, hD.sub [0, 1, 2, 3] (by decide) rfl, hS⟩)
  intro k ih1 H locs cs sl g hI
  obtain ⟨k0, n, w, td, ls, rfl, rfl, hcs, hsl, hk0, hn, hw, hl, hP, hD, hS⟩ := hI
  refine lv_iload hx hb dL_law_73 (lv_at hl 0 rfl) ?_
  refine lv_iload_n hx hb dL_law_75 rfl (lv_at hl 1 rfl) ?_
  refine lv_icmp_ge (tgt := 115) hx hb dL_law_76 (by decide) (fun c1 => ?_) (fun c1 => ?_)
  · refine lv_iconst (v := 0) hx hb dL_law_115 (by decide) ?_
    refine lv_istore (lv' := [(4, .int 0), (3, .int (nI many)), (0, .ref b), (1, .ref dk), (2, .ref rw0)]) hx hb dL_law_116 hl (by decide) rfl (fun ls hl => ?_)
    refine pd_loop (fun k H locs cs sl g => ∃ (k0 : Nat) (td : Nat) (ls : Array Slot), 8 - k0 = k ∧ g = F0 m 118 ls [] ∧ cs ≤ 400 + 305 * k0 ∧ sl ≤ 200000 + 133500 * k0 ∧ (k0 ≤ 8) ∧ lv_has ls 7 [(4, .int (nI k0)), (0, .ref b), (1, .ref dk), (2, .ref rw0)] ∧ va_P D pd_cl [(dk, .inr (2, [.ref wd, .int (nI n), .ref td])), (wd, .inl (cC, 64, .inl (fun j => nI (w j)))), (rw0, .inr (3, [.ref wr, .int (nI n)])), (wr, .inl (cI, 64, .inl (fun j => nI (w j))))] H ∧ va_D A [(dk, .inr (2, [.ref wd, .int (nI n), .ref td])), (wd, .inl (cC, 64, .inl (fun j => nI (w j)))), (rw0, .inr (3, [.ref wr, .int (nI n)])), (wr, .inl (cI, 64, .inl (fun j => nI (w j))))] ∧ va_S A s.heap H locs) ?_ _ (⟨0, td, ls, rfl, rfl, by omega, by omega, by decide, lv_sub hl [0, 2, 3, 4] rfl, hP.sub [0, 1, 2, 3] rfl, hD.sub [0, 1, 2, 3] (by decide) rfl, hS⟩)
    intro k ih2 H locs cs sl g hI
    obtain ⟨k0, td, ls, rfl, rfl, hcs, hsl, hk0, hl, hP, hD, hS⟩ := hI
    refine lv_iload hx hb dL_law_118 (lv_at hl 0 rfl) ?_
    refine lv_bipush (v := (nI 8)) hx hb dL_law_120 (by decide) ?_
    refine lv_icmp_ge (tgt := 145) hx hb dL_law_122 (by decide) (fun c2 => ?_) (fun c2 => ?_)
    · have hk8 : 8 ≤ k0 := (nI_leI (a := 8) (b := k0) (by decide) (by omega)).mp c2
      refine lv_iconst (v := 0) hx hb dL_law_145 (by decide) ?_
      refine lv_istore (lv' := [(4, .int 0), (0, .ref b), (1, .ref dk), (2, .ref rw0)]) hx hb dL_law_146 hl (by decide) rfl (fun ls hl => ?_)
      refine pd_loop (fun k H locs cs sl g => ∃ (k1 : Nat) (n : Nat) (w : Nat → Nat) (td : Nat) (ls : Array Slot), 4 - k1 = k ∧ g = F0 m 148 ls [] ∧ cs ≤ 2840 + 305 * k1 ∧ sl ≤ 1268000 + 133500 * k1 ∧ (k1 ≤ 4) ∧ (n ≤ 64) ∧ (∀ j, w j < 929) ∧ lv_has ls 7 [(4, .int (nI k1)), (0, .ref b), (1, .ref dk), (2, .ref rw0)] ∧ va_P D pd_cl [(dk, .inr (2, [.ref wd, .int (nI n), .ref td])), (wd, .inl (cC, 64, .inl (fun j => nI (w j)))), (rw0, .inr (3, [.ref wr, .int (nI n)])), (wr, .inl (cI, 64, .inl (fun j => nI (w j))))] H ∧ va_D A [(dk, .inr (2, [.ref wd, .int (nI n), .ref td])), (wd, .inl (cC, 64, .inl (fun j => nI (w j)))), (rw0, .inr (3, [.ref wr, .int (nI n)])), (wr, .inl (cI, 64, .inl (fun j => nI (w j))))] ∧ va_S A s.heap H locs) ?_ _ (⟨0, n, w, td, ls, rfl, rfl, by omega, by omega, by decide, hn, hw, lv_sub hl [0, 1, 2, 3] rfl, hP.sub [0, 1, 2, 3] rfl, hD.sub [0, 1, 2, 3] (by decide) rfl, hS⟩)
      intro k ih3 H locs cs sl g hI
      obtain ⟨k1, n, w, td, ls, rfl, rfl, hcs, hsl, hk1, hn, hw, hl, hP, hD, hS⟩ := hI
      refine lv_iload hx hb dL_law_148 (lv_at hl 0 rfl) ?_
      refine lv_iconst (v := (nI 4)) hx hb dL_law_150 (by decide) ?_
      refine lv_icmp_ge (tgt := 292) hx hb dL_law_151 (by decide) (fun c3 => ?_) (fun c3 => ?_)
      · refine lv_iconst (v := 1) hx hb dL_law_292 (by decide) ?_
        refine va_forget (fun q hq => hA2 _ (hS.2.2 q hq)) ?_
        refine W.widen (k := 1200192) (n := 5500522) (by omega) (by omega) ?_
        exact lw_ret hx hb hr hlocks dL_law_293
      · have hk4 : k1 < 4 := Nat.lt_of_not_le (fun z => c3 (nI_le (a := 4) z (by omega)))
        refine lv_aload_n hx hb dL_law_154 rfl (lv_at hl 1 rfl) ?_
        refine lv_bipush (v := (nI 70)) hx hb dL_law_155 (by decide) ?_
        refine lv_bipush (v := (nI 6)) hx hb dL_law_157 (by decide) ?_
        refine lv_iload hx hb dL_law_159 (lv_at hl 0 rfl) ?_
        refine pd_imul (v := (nI (6 * k1))) hx hb dL_law_161 (pk_mul 6 k1) ?_
        refine pd_iadd (v := (nI (70 + 6 * k1))) hx hb dL_law_162 (nI_add _ _) ?_
        refine va_calli (va_runS (As := [.ref b, .int (nI (70 + 6 * k1))]) (rest := []) ⟨hx, hb, hml, hown, hts⟩ (m_X0cell l b L (70 + 6 * k1) xs hL (by omega)) (va_cwS 2 hts (lw_S q112 q113 q1 q114) rfl rfl rfl (by decide +kernel) ⟨Nat.le_of_ble_eq_true rfl, Nat.le_of_ble_eq_true rfl⟩) (pd_pre (fun a U g mk q => va_T.moved (u := U) (U := U.calling g mk a) (Vm.Alike.refl U.vm) q) (fun U hU hW => pd_T.call hT hS hW hU pd_Fin)) rfl rfl hl.1 rfl (lv_room (Nat.le_of_ble_eq_true rfl)) dL_law_163 ⟨by show _ ≤ 1200192; omega, by show _ ≤ 5500522; omega⟩) hS pd_Fin2 pd_Fin (fun r9 u_12 t H1 locs ht hvm hw9 hB hz1 hk1 hS => ?_)
        have hP := pd_keep hP hk1
        generalize H1 = H at hP hS ⊢
        obtain rfl : r9 = (pd_cell L xs (70 + 6 * k1)) := hw9
        refine lv_istore (lv' := [(5, .int (pd_cell L xs (70 + 6 * k1))), (4, .int (nI k1)), (0, .ref b), (1, .ref dk), (2, .ref rw0)]) hx hb dL_law_166 hl (by decide) rfl (fun ls hl => ?_)
        refine lv_aload_n hx hb dL_law_168 rfl (lv_at hl 3 rfl) ?_
        refine lv_iload hx hb dL_law_169 (lv_at hl 0 rfl) ?_
        have hPc := hP.sub (ws' := [(dk, .inr (2, [.ref wd, .int (nI n), .ref td]))]) [0] rfl
        have hDc := hD.sub (ws' := [(dk, .inr (2, [.ref wd, .int (nI n), .ref td]))]) [0] (by decide) rfl
        have hFc := va_free (wc := [(dk, .inr (2, [.ref wd, .int (nI n), .ref td]))]) hD hS hA [0] rfl
        refine va_callv (va_runV (As := [.int (pd_cell L xs (70 + 6 * k1))]) (rest := []) ⟨hx, hb, hml, hown, hts⟩ (m_X1drop l D cB cC cI _ dk wd td n (pd_cell L xs (70 + 6 * k1)) hn) (cwV 1 hts (lw_V q40 q41 q42 q2 q43) rfl rfl rfl (by decide +kernel) ⟨Nat.le_of_ble_eq_true rfl, Nat.le_of_ble_eq_true rfl⟩) (pd_preV (fun a U g mk q => pd_BA.blind q) (va_recv hK hP (ci := 2) (q0 := 0) rfl rfl) (fun U hU hW => pd_BA.pass hPc hDc hK hZ hS hFc hU hW)) rfl rfl hl.1 rfl (lv_room (Nat.le_of_ble_eq_true rfl)) dL_law_171 ⟨by show _ ≤ 1200192; omega, by show _ ≤ 5500522; omega⟩) hS (fun q _ h => hFc q h) hFc (fun u_13 t H1 locs ht hvm hw9 hB hz1 hk1 hS => ?_)
        obtain ⟨hP1, hD1⟩ := hB
        rw [ht] at hP1
        obtain ⟨hP, hD⟩ := va_join (wr := [(wd, .inl (cC, 64, .inl (fun j => nI (w j)))), (rw0, .inr (3, [.ref wr, .int (nI n)])), (wr, .inl (cI, 64, .inl (fun j => nI (w j))))]) (w1 := [(dk, .inr (2, [.ref wd, .int (nI (pd_u (pd_cell L xs (70 + 6 * k1)) % (n + 1))), .ref td]))]) hP hD [0] [1, 2, 3] rfl rfl (by decide) (by decide) hk1 hFc hP1 hD1
        generalize H1 = H at hP hS ⊢
        have hP : va_P D pd_cl [(wd, .inl (cC, 64, .inl (fun j => nI (w j)))), (rw0, .inr (3, [.ref wr, .int (nI n)])), (wr, .inl (cI, 64, .inl (fun j => nI (w j)))), (dk, .inr (2, [.ref wd, .int (nI (pd_u (pd_cell L xs (70 + 6 * k1)) % (n + 1))), .ref td]))] H := hP
        have hD : va_D A [(wd, .inl (cC, 64, .inl (fun j => nI (w j)))), (rw0, .inr (3, [.ref wr, .int (nI n)])), (wr, .inl (cI, 64, .inl (fun j => nI (w j)))), (dk, .inr (2, [.ref wd, .int (nI (pd_u (pd_cell L xs (70 + 6 * k1)) % (n + 1))), .ref td]))] := hD
        refine lv_aload_n hx hb dL_law_174 rfl (lv_at hl 4 rfl) ?_
        refine lv_iload hx hb dL_law_175 (lv_at hl 0 rfl) ?_
        refine lv_aload_n hx hb dL_law_177 rfl (lv_at hl 4 rfl) ?_
        refine va_get (D := D) (ci := 3) (v := .int (nI n)) (C := RX2) (T := TX2) (N := 2) hx hb hts in_X2 hown hK hP 1 rfl rfl 1 (by decide) (hts _ q105) (fun _ h9 => h9) rfl dL_law_178 ?_
        refine lv_iconst (v := (nI 1)) hx hb dL_law_181 (by decide) ?_
        refine pd_iadd (v := (nI (n + 1))) hx hb dL_law_182 (nI_1 n) ?_
        refine va_calli (va_runS (As := [.int (pd_cell L xs (70 + 6 * k1)), .int (nI (n + 1))]) (rest := [.ref rw0]) ⟨hx, hb, hml, hown, hts⟩ (m_X0rest l (n + 1) (pd_cell L xs (70 + 6 * k1)) (by omega) (by omega)) (va_cwS 2 hts (lw_S q115 q116 q1 q117) rfl rfl rfl (by decide +kernel) ⟨Nat.le_of_ble_eq_true rfl, Nat.le_of_ble_eq_true rfl⟩) (pd_pre (fun a U g mk q => trivial) (fun U hU hW => trivial)) rfl rfl hl.1 rfl (lv_room (Nat.le_of_ble_eq_true rfl)) dL_law_183 ⟨by show _ ≤ 1200192; omega, by show _ ≤ 5500522; omega⟩) hS pd_Fin2 pd_Fin (fun r9 u_14 t H1 locs ht hvm hw9 hB hz1 hk1 hS => ?_)
        have hP := pd_keep hP hk1
        generalize H1 = H at hP hS ⊢
        obtain rfl : r9 = (nI (pd_u (pd_cell L xs (70 + 6 * k1)) % (n + 1))) := hw9
        refine va_put (D := D) (ci := 3) (v := .int (nI (pd_u (pd_cell L xs (70 + 6 * k1)) % (n + 1)))) (ty := .int) (C := RX2) (T := TX2) (N := 2) hx hb hts in_X2 tyX2 tyX2_ok nmX2 hown hK hP hD hS 1 rfl rfl 1 (by decide) (hts _ q105) (fun _ h9 => h9) rfl (by decide +kernel) (rfl) (rfl) (Nat.le_of_ble_eq_true rfl) dL_law_186 (fun H locs hP hD hS => ?_)
        have hP : va_P D pd_cl [(wd, .inl (cC, 64, .inl (fun j => nI (w j)))), (rw0, .inr (3, [.ref wr, .int (nI (pd_u (pd_cell L xs (70 + 6 * k1)) % (n + 1)))])), (wr, .inl (cI, 64, .inl (fun j => nI (w j)))), (dk, .inr (2, [.ref wd, .int (nI (pd_u (pd_cell L xs (70 + 6 * k1)) % (n + 1))), .ref td]))] H := hP
        have hD : va_D A [(wd, .inl (cC, 64, .inl (fun j => nI (w j)))), (rw0, .inr (3, [.ref wr, .int (nI (pd_u (pd_cell L xs (70 + 6 * k1)) % (n + 1)))])), (wr, .inl (cI, 64, .inl (fun j => nI (w j)))), (dk, .inr (2, [.ref wd, .int (nI (pd_u (pd_cell L xs (70 + 6 * k1)) % (n + 1))), .ref td]))] := hD
        have hn1 : pd_u (pd_cell L xs (70 + 6 * k1)) % (n + 1) ≤ 64 := Nat.le_trans (Nat.le_of_lt_succ (Nat.mod_lt _ (Nat.succ_pos n))) hn
        have hP := hP.sub (ws' := [(dk, .inr (2, [.ref wd, .int (nI (pd_u (pd_cell L xs (70 + 6 * k1)) % (n + 1))), .ref td])), (wd, .inl (cC, 64, .inl (fun j => nI (w j)))), (rw0, .inr (3, [.ref wr, .int (nI (pd_u (pd_cell L xs (70 + 6 * k1)) % (n + 1)))])), (wr, .inl (cI, 64, .inl (fun j => nI (w j))))]) [3, 0, 1, 2] rfl
        have hD := hD.sub (ws' := [(dk, .inr (2, [.ref wd, .int (nI (pd_u (pd_cell L xs (70 + 6 * k1)) % (n + 1))), .ref td])), (wd, .inl (cC, 64, .inl (fun j => nI (w j)))), (rw0, .inr (3, [.ref wr, .int (nI (pd_u (pd_cell L xs (70 + 6 * k1)) % (n + 1)))])), (wr, .inl (cI, 64, .inl (fun j => nI (w j))))]) [3, 0, 1, 2] (by decide) rfl
        refine lv_aload_n hx hb dL_law_189 rfl (lv_at hl 3 rfl) ?_
        refine lv_aload_n hx hb dL_law_190 rfl (lv_at hl 4 rfl) ?_
        refine lv_aload_n hx hb dL_law_191 rfl (lv_at hl 2 rfl) ?_
        refine lv_bipush (v := (nI 71)) hx hb dL_law_192 (by decide) ?_
        refine lv_bipush (v := (nI 6)) hx hb dL_law_194 (by decide) ?_
        refine lv_iload hx hb dL_law_196 (lv_at hl 1 rfl) ?_
        refine pd_imul (v := (nI (6 * k1))) hx hb dL_law_198 (pk_mul 6 k1) ?_
        refine pd_iadd (v := (nI (71 + 6 * k1))) hx hb dL_law_199 (nI_add _ _) ?_
        refine va_calli (va_runS (As := [.ref b, .int (nI (71 + 6 * k1))]) (rest := [.ref rw0, .ref dk]) ⟨hx, hb, hml, hown, hts⟩ (m_X0cell l b L (71 + 6 * k1) xs hL (by omega)) (va_cwS 2 hts (lw_S q112 q113 q1 q114) rfl rfl rfl (by decide +kernel) ⟨Nat.le_of_ble_eq_true rfl, Nat.le_of_ble_eq_true rfl⟩) (pd_pre (fun a U g mk q => va_T.moved (u := U) (U := U.calling g mk a) (Vm.Alike.refl U.vm) q) (fun U hU hW => pd_T.call hT hS hW hU pd_Fin)) rfl rfl hl.1 rfl (lv_room (Nat.le_of_ble_eq_true rfl)) dL_law_200 ⟨by show _ ≤ 1200192; omega, by show _ ≤ 5500522; omega⟩) hS pd_Fin2 pd_Fin (fun r9 u_15 t H1 locs ht hvm hw9 hB hz1 hk1 hS => ?_)
        have hP := pd_keep hP hk1
        generalize H1 = H at hP hS ⊢
        obtain rfl : r9 = (pd_cell L xs (71 + 6 * k1)) := hw9
        refine lv_aload_n hx hb dL_law_203 rfl (lv_at hl 2 rfl) ?_
        refine lv_bipush (v := (nI 72)) hx hb dL_law_204 (by decide) ?_
        refine lv_bipush (v := (nI 6)) hx hb dL_law_206 (by decide) ?_
        refine lv_iload hx hb dL_law_208 (lv_at hl 1 rfl) ?_
        refine pd_imul (v := (nI (6 * k1))) hx hb dL_law_210 (pk_mul 6 k1) ?_
        refine pd_iadd (v := (nI (72 + 6 * k1))) hx hb dL_law_211 (nI_add _ _) ?_
        refine va_calli (va_runS (As := [.ref b, .int (nI (72 + 6 * k1))]) (rest := [.int (pd_cell L xs (71 + 6 * k1)), .ref rw0, .ref dk]) ⟨hx, hb, hml, hown, hts⟩ (m_X0cell l b L (72 + 6 * k1) xs hL (by omega)) (va_cwS 2 hts (lw_S q112 q113 q1 q114) rfl rfl rfl (by decide +kernel) ⟨Nat.le_of_ble_eq_true rfl, Nat.le_of_ble_eq_true rfl⟩) (pd_pre (fun a U g mk q => va_T.moved (u := U) (U := U.calling g mk a) (Vm.Alike.refl U.vm) q) (fun U hU hW => pd_T.call hT hS hW hU pd_Fin)) rfl rfl hl.1 rfl (lv_room (Nat.le_of_ble_eq_true rfl)) dL_law_212 ⟨by show _ ≤ 1200192; omega, by show _ ≤ 5500522; omega⟩) hS pd_Fin2 pd_Fin (fun r9 u_16 t H1 locs ht hvm hw9 hB hz1 hk1 hS => ?_)
        have hP := pd_keep hP hk1
        generalize H1 = H at hP hS ⊢
        obtain rfl : r9 = (pd_cell L xs (72 + 6 * k1)) := hw9
        have hPc := hP.sub (ws' := [(dk, .inr (2, [.ref wd, .int (nI (pd_u (pd_cell L xs (70 + 6 * k1)) % (n + 1))), .ref td])), (wd, .inl (cC, 64, .inl (fun j => nI (w j)))), (rw0, .inr (3, [.ref wr, .int (nI (pd_u (pd_cell L xs (70 + 6 * k1)) % (n + 1)))])), (wr, .inl (cI, 64, .inl (fun j => nI (w j))))]) [0, 1, 2, 3] rfl
        have hDc := hD.sub (ws' := [(dk, .inr (2, [.ref wd, .int (nI (pd_u (pd_cell L xs (70 + 6 * k1)) % (n + 1))), .ref td])), (wd, .inl (cC, 64, .inl (fun j => nI (w j)))), (rw0, .inr (3, [.ref wr, .int (nI (pd_u (pd_cell L xs (70 + 6 * k1)) % (n + 1)))])), (wr, .inl (cI, 64, .inl (fun j => nI (w j))))]) [0, 1, 2, 3] (by decide) rfl
        have hFc := va_free (wc := [(dk, .inr (2, [.ref wd, .int (nI (pd_u (pd_cell L xs (70 + 6 * k1)) % (n + 1))), .ref td])), (wd, .inl (cC, 64, .inl (fun j => nI (w j)))), (rw0, .inr (3, [.ref wr, .int (nI (pd_u (pd_cell L xs (70 + 6 * k1)) % (n + 1)))])), (wr, .inl (cI, 64, .inl (fun j => nI (w j))))]) hD hS hA [0, 1, 2, 3] rfl
        refine va_calli (va_runS (As := [.ref dk, .ref rw0, .int (pd_cell L xs (71 + 6 * k1)), .int (pd_cell L xs (72 + 6 * k1))]) (rest := []) ⟨hx, hb, hml, hown, hts⟩ (m_X0puts l D cB cC cI _ dk wd rw0 wr td (pd_u (pd_cell L xs (70 + 6 * k1)) % (n + 1)) w (pd_cell L xs (71 + 6 * k1)) (pd_cell L xs (72 + 6 * k1)) (hn1) hw) (va_cwS 4 hts (lw_S q417 q418 q1 q419) rfl rfl rfl (by decide +kernel) ⟨Nat.le_of_ble_eq_true rfl, Nat.le_of_ble_eq_true rfl⟩) (pd_pre (fun a U g mk q => pd_BA.blind q) (fun U hU hW => pd_BA.pass hPc hDc hK hZ hS hFc hU hW)) rfl rfl hl.1 rfl (lv_room (Nat.le_of_ble_eq_true rfl)) dL_law_215 ⟨by show _ ≤ 1200192; omega, by show _ ≤ 5500522; omega⟩) hS (fun q _ h => hFc q h) hFc (fun r9 u_17 t H1 locs ht hvm hw9 hB hz1 hk1 hS => ?_)
        obtain ⟨n2, w2, hP1, hD1, hn2, hw2⟩ := hB
        rw [ht] at hP1
        obtain ⟨hP, hD⟩ := va_join (wr := []) (w1 := [(dk, .inr (2, [.ref wd, .int (nI n2), .ref td])), (wd, .inl (cC, 64, .inl (fun j => nI (w2 j)))), (rw0, .inr (3, [.ref wr, .int (nI n2)])), (wr, .inl (cI, 64, .inl (fun j => nI (w2 j))))]) hP hD [0, 1, 2, 3] [] rfl rfl (by decide) (by decide) hk1 hFc hP1 hD1
        generalize H1 = H at hP hS ⊢
        have hP : va_P D pd_cl [(dk, .inr (2, [.ref wd, .int (nI n2), .ref td])), (wd, .inl (cC, 64, .inl (fun j => nI (w2 j)))), (rw0, .inr (3, [.ref wr, .int (nI n2)])), (wr, .inl (cI, 64, .inl (fun j => nI (w2 j))))] H := hP
        have hD : va_D A [(dk, .inr (2, [.ref wd, .int (nI n2), .ref td])), (wd, .inl (cC, 64, .inl (fun j => nI (w2 j)))), (rw0, .inr (3, [.ref wr, .int (nI n2)])), (wr, .inl (cI, 64, .inl (fun j => nI (w2 j))))] := hD
        obtain rfl : r9 = 1 := hw9
        refine lv_if_eq (tgt := 253) hx hb dL_law_218 (by decide) (fun c9 => absurd c9 (by decide)) (fun _ => ?_)
        refine lv_aload_n hx hb dL_law_221 rfl (lv_at hl 3 rfl) ?_
        refine lv_aload_n hx hb dL_law_222 rfl (lv_at hl 4 rfl) ?_
        refine lv_aload_n hx hb dL_law_223 rfl (lv_at hl 2 rfl) ?_
        refine lv_bipush (v := (nI 73)) hx hb dL_law_224 (by decide) ?_
        refine lv_bipush (v := (nI 6)) hx hb dL_law_226 (by decide) ?_
        refine lv_iload hx hb dL_law_228 (lv_at hl 1 rfl) ?_
        refine pd_imul (v := (nI (6 * k1))) hx hb dL_law_230 (pk_mul 6 k1) ?_
        refine pd_iadd (v := (nI (73 + 6 * k1))) hx hb dL_law_231 (nI_add _ _) ?_
        refine va_calli (va_runS (As := [.ref b, .int (nI (73 + 6 * k1))]) (rest := [.ref rw0, .ref dk]) ⟨hx, hb, hml, hown, hts⟩ (m_X0cell l b L (73 + 6 * k1) xs hL (by omega)) (va_cwS 2 hts (lw_S q112 q113 q1 q114) rfl rfl rfl (by decide +kernel) ⟨Nat.le_of_ble_eq_true rfl, Nat.le_of_ble_eq_true rfl⟩) (pd_pre (fun a U g mk q => va_T.moved (u := U) (U := U.calling g mk a) (Vm.Alike.refl U.vm) q) (fun U hU hW => pd_T.call hT hS hW hU pd_Fin)) rfl rfl hl.1 rfl (lv_room (Nat.le_of_ble_eq_true rfl)) dL_law_232 ⟨by show _ ≤ 1200192; omega, by show _ ≤ 5500522; omega⟩) hS pd_Fin2 pd_Fin (fun r9 u_18 t H1 locs ht hvm hw9 hB hz1 hk1 hS => ?_)
        have hP := pd_keep hP hk1
        generalize H1 = H at hP hS ⊢
        obtain rfl : r9 = (pd_cell L xs (73 + 6 * k1)) := hw9
        refine lv_aload_n hx hb dL_law_235 rfl (lv_at hl 2 rfl) ?_
        refine lv_bipush (v := (nI 74)) hx hb dL_law_236 (by decide) ?_
        refine lv_bipush (v := (nI 6)) hx hb dL_law_238 (by decide) ?_
        refine lv_iload hx hb dL_law_240 (lv_at hl 1 rfl) ?_
        refine pd_imul (v := (nI (6 * k1))) hx hb dL_law_242 (pk_mul 6 k1) ?_
        refine pd_iadd (v := (nI (74 + 6 * k1))) hx hb dL_law_243 (nI_add _ _) ?_
        refine va_calli (va_runS (As := [.ref b, .int (nI (74 + 6 * k1))]) (rest := [.int (pd_cell L xs (73 + 6 * k1)), .ref rw0, .ref dk]) ⟨hx, hb, hml, hown, hts⟩ (m_X0cell l b L (74 + 6 * k1) xs hL (by omega)) (va_cwS 2 hts (lw_S q112 q113 q1 q114) rfl rfl rfl (by decide +kernel) ⟨Nat.le_of_ble_eq_true rfl, Nat.le_of_ble_eq_true rfl⟩) (pd_pre (fun a U g mk q => va_T.moved (u := U) (U := U.calling g mk a) (Vm.Alike.refl U.vm) q) (fun U hU hW => pd_T.call hT hS hW hU pd_Fin)) rfl rfl hl.1 rfl (lv_room (Nat.le_of_ble_eq_true rfl)) dL_law_244 ⟨by show _ ≤ 1200192; omega, by show _ ≤ 5500522; omega⟩) hS pd_Fin2 pd_Fin (fun r9 u_19 t H1 locs ht hvm hw9 hB hz1 hk1 hS => ?_)
        have hP := pd_keep hP hk1
        generalize H1 = H at hP hS ⊢
        obtain rfl : r9 = (pd_cell L xs (74 + 6 * k1)) := hw9
        have hPc := hP.sub (ws' := [(dk, .inr (2, [.ref wd, .int (nI n2), .ref td])), (wd, .inl (cC, 64, .inl (fun j => nI (w2 j)))), (rw0, .inr (3, [.ref wr, .int (nI n2)])), (wr, .inl (cI, 64, .inl (fun j => nI (w2 j))))]) [0, 1, 2, 3] rfl
        have hDc := hD.sub (ws' := [(dk, .inr (2, [.ref wd, .int (nI n2), .ref td])), (wd, .inl (cC, 64, .inl (fun j => nI (w2 j)))), (rw0, .inr (3, [.ref wr, .int (nI n2)])), (wr, .inl (cI, 64, .inl (fun j => nI (w2 j))))]) [0, 1, 2, 3] (by decide) rfl
        have hFc := va_free (wc := [(dk, .inr (2, [.ref wd, .int (nI n2), .ref td])), (wd, .inl (cC, 64, .inl (fun j => nI (w2 j)))), (rw0, .inr (3, [.ref wr, .int (nI n2)])), (wr, .inl (cI, 64, .inl (fun j => nI (w2 j))))]) hD hS hA [0, 1, 2, 3] rfl
        refine va_calli (va_runS (As := [.ref dk, .ref rw0, .int (pd_cell L xs (73 + 6 * k1)), .int (pd_cell L xs (74 + 6 * k1))]) (rest := []) ⟨hx, hb, hml, hown, hts⟩ (m_X0puts l D cB cC cI _ dk wd rw0 wr td n2 w2 (pd_cell L xs (73 + 6 * k1)) (pd_cell L xs (74 + 6 * k1)) (hn2) hw2) (va_cwS 4 hts (lw_S q417 q418 q1 q419) rfl rfl rfl (by decide +kernel) ⟨Nat.le_of_ble_eq_true rfl, Nat.le_of_ble_eq_true rfl⟩) (pd_pre (fun a U g mk q => pd_BA.blind q) (fun U hU hW => pd_BA.pass hPc hDc hK hZ hS hFc hU hW)) rfl rfl hl.1 rfl (lv_room (Nat.le_of_ble_eq_true rfl)) dL_law_247 ⟨by show _ ≤ 1200192; omega, by show _ ≤ 5500522; omega⟩) hS (fun q _ h => hFc q h) hFc (fun r9 u_20 t H1 locs ht hvm hw9 hB hz1 hk1 hS => ?_)
        obtain ⟨n3, w3, hP1, hD1, hn3, hw3⟩ := hB
        rw [ht] at hP1
        obtain ⟨hP, hD⟩ := va_join (wr := []) (w1 := [(dk, .inr (2, [.ref wd, .int (nI n3), .ref td])), (wd, .inl (cC, 64, .inl (fun j => nI (w3 j)))), (rw0, .inr (3, [.ref wr, .int (nI n3)])), (wr, .inl (cI, 64, .inl (fun j => nI (w3 j))))]) hP hD [0, 1, 2, 3] [] rfl rfl (by decide) (by decide) hk1 hFc hP1 hD1
        generalize H1 = H at hP hS ⊢
        have hP : va_P D pd_cl [(dk, .inr (2, [.ref wd, .int (nI n3), .ref td])), (wd, .inl (cC, 64, .inl (fun j => nI (w3 j)))), (rw0, .inr (3, [.ref wr, .int (nI n3)])), (wr, .inl (cI, 64, .inl (fun j => nI (w3 j))))] H := hP
        have hD : va_D A [(dk, .inr (2, [.ref wd, .int (nI n3), .ref td])), (wd, .inl (cC, 64, .inl (fun j => nI (w3 j)))), (rw0, .inr (3, [.ref wr, .int (nI n3)])), (wr, .inl (cI, 64, .inl (fun j => nI (w3 j))))] := hD
        obtain rfl : r9 = 1 := hw9
        refine lv_if_ne (tgt := 255) hx hb dL_law_250 (by decide) (fun _ => ?_) (fun c9 => absurd c9 (by decide))
        refine lv_aload_n hx hb dL_law_255 rfl (lv_at hl 2 rfl) ?_
        refine lv_bipush (v := (nI 75)) hx hb dL_law_256 (by decide) ?_
        refine lv_bipush (v := (nI 6)) hx hb dL_law_258 (by decide) ?_
        refine lv_iload hx hb dL_law_260 (lv_at hl 1 rfl) ?_
        refine pd_imul (v := (nI (6 * k1))) hx hb dL_law_262 (pk_mul 6 k1) ?_
        refine pd_iadd (v := (nI (75 + 6 * k1))) hx hb dL_law_263 (nI_add _ _) ?_
        refine va_calli (va_runS (As := [.ref b, .int (nI (75 + 6 * k1))]) (rest := []) ⟨hx, hb, hml, hown, hts⟩ (m_X0cell l b L (75 + 6 * k1) xs hL (by omega)) (va_cwS 2 hts (lw_S q112 q113 q1 q114) rfl rfl rfl (by decide +kernel) ⟨Nat.le_of_ble_eq_true rfl, Nat.le_of_ble_eq_true rfl⟩) (pd_pre (fun a U g mk q => va_T.moved (u := U) (U := U.calling g mk a) (Vm.Alike.refl U.vm) q) (fun U hU hW => pd_T.call hT hS hW hU pd_Fin)) rfl rfl hl.1 rfl (lv_room (Nat.le_of_ble_eq_true rfl)) dL_law_264 ⟨by show _ ≤ 1200192; omega, by show _ ≤ 5500522; omega⟩) hS pd_Fin2 pd_Fin (fun r9 u_21 t H1 locs ht hvm hw9 hB hz1 hk1 hS => ?_)
        have hP := pd_keep hP hk1
        generalize H1 = H at hP hS ⊢
        obtain rfl : r9 = (pd_cell L xs (75 + 6 * k1)) := hw9
        refine lv_istore (lv' := [(6, .int (pd_cell L xs (75 + 6 * k1))), (5, .int (pd_cell L xs (70 + 6 * k1))), (4, .int (nI k1)), (0, .ref b), (1, .ref dk), (2, .ref rw0)]) hx hb dL_law_267 hl (by decide) rfl (fun ls hl => ?_)
        have h8 : (pd_cell L xs (75 + 6 * k1)).toBitVec.toNat % 8 < 8 := Nat.mod_lt _ (by decide)
        refine lv_aload_n hx hb dL_law_269 rfl (lv_at hl 4 rfl) ?_
        refine lv_aload_n hx hb dL_law_270 rfl (lv_at hl 5 rfl) ?_
        refine lv_iload hx hb dL_law_271 (lv_at hl 0 rfl) ?_
        refine lv_bipush (v := (nI 7)) hx hb dL_law_273 (by decide) ?_
        refine pd_iand (v := (nI ((pd_cell L xs (75 + 6 * k1)).toBitVec.toNat % 8))) hx hb dL_law_275 (pd_and7 _) ?_
        refine lv_iload hx hb dL_law_276 (lv_at hl 0 rfl) ?_
        have hPc := hP.sub (ws' := [(dk, .inr (2, [.ref wd, .int (nI n3), .ref td])), (wd, .inl (cC, 64, .inl (fun j => nI (w3 j)))), (rw0, .inr (3, [.ref wr, .int (nI n3)])), (wr, .inl (cI, 64, .inl (fun j => nI (w3 j))))]) [0, 1, 2, 3] rfl
        have hDc := hD.sub (ws' := [(dk, .inr (2, [.ref wd, .int (nI n3), .ref td])), (wd, .inl (cC, 64, .inl (fun j => nI (w3 j)))), (rw0, .inr (3, [.ref wr, .int (nI n3)])), (wr, .inl (cI, 64, .inl (fun j => nI (w3 j))))]) [0, 1, 2, 3] (by decide) rfl
        have hFc := va_free (wc := [(dk, .inr (2, [.ref wd, .int (nI n3), .ref td])), (wd, .inl (cC, 64, .inl (fun j => nI (w3 j)))), (rw0, .inr (3, [.ref wr, .int (nI n3)])), (wr, .inl (cI, 64, .inl (fun j => nI (w3 j))))]) hD hS hA [0, 1, 2, 3] rfl
        refine va_calli (va_runS (As := [.ref dk, .ref rw0, .int (nI ((pd_cell L xs (75 + 6 * k1)).toBitVec.toNat % 8)), .int (pd_cell L xs (75 + 6 * k1))]) (rest := []) ⟨hx, hb, hml, hown, hts⟩ (m_X0holds l D cB cC cI _ dk wd rw0 wr td n3 ((pd_cell L xs (75 + 6 * k1)).toBitVec.toNat % 8) (2 * 2 ^ ((pd_cell L xs (75 + 6 * k1)).toBitVec.toNat % 8)) w3 (pd_cell L xs (75 + 6 * k1)) (h8) rfl (pd_and7 _) (hn3) hw3) (va_cwS 4 hts (lw_S q119 q120 q1 q121) rfl rfl rfl (by decide +kernel) ⟨Nat.le_of_ble_eq_true rfl, Nat.le_of_ble_eq_true rfl⟩) (pd_pre (fun a U g mk q => pd_BA.blind q) (fun U hU hW => pd_BA.pass hPc hDc hK hZ hS hFc hU hW)) rfl rfl hl.1 rfl (lv_room (Nat.le_of_ble_eq_true rfl)) dL_law_278 ⟨by show _ ≤ 1200192; omega, by show _ ≤ 5500522; omega⟩) hS (fun q _ h => hFc q h) hFc (fun r9 u_22 t H1 locs ht hvm hw9 hB hz1 hk1 hS => ?_)
        obtain ⟨td2, hP1, hD1⟩ := hB
        rw [ht] at hP1
        obtain ⟨hP, hD⟩ := va_join (wr := []) (w1 := [(dk, .inr (2, [.ref wd, .int (nI n3), .ref td2])), (wd, .inl (cC, 64, .inl (fun j => nI (w3 j)))), (rw0, .inr (3, [.ref wr, .int (nI n3)])), (wr, .inl (cI, 64, .inl (fun j => nI (w3 j))))]) hP hD [0, 1, 2, 3] [] rfl rfl (by decide) (by decide) hk1 hFc hP1 hD1
        generalize H1 = H at hP hS ⊢
        have hP : va_P D pd_cl [(dk, .inr (2, [.ref wd, .int (nI n3), .ref td2])), (wd, .inl (cC, 64, .inl (fun j => nI (w3 j)))), (rw0, .inr (3, [.ref wr, .int (nI n3)])), (wr, .inl (cI, 64, .inl (fun j => nI (w3 j))))] H := hP
        have hD : va_D A [(dk, .inr (2, [.ref wd, .int (nI n3), .ref td2])), (wd, .inl (cC, 64, .inl (fun j => nI (w3 j)))), (rw0, .inr (3, [.ref wr, .int (nI n3)])), (wr, .inl (cI, 64, .inl (fun j => nI (w3 j))))] := hD
        obtain rfl : r9 = 1 := hw9
        refine lv_if_ne (tgt := 286) hx hb dL_law_281 (by decide) (fun _ => ?_) (fun c9 => absurd c9 (by decide))
        refine lv_iinc (v := (nI (k1 + 1))) (lv' := [(4, .int (nI (k1 + 1))), (6, .int (pd_cell L xs (75 + 6 * k1))), (5, .int (pd_cell L xs (70 + 6 * k1))), (0, .ref b), (1, .ref dk), (2, .ref rw0)]) hx hb dL_law_286 hl (k := 2) rfl (nI_1 k1) (by decide) rfl (fun ls hl => ?_)
        refine lv_goto (tgt := 148) hx hb dL_law_289 (by decide) ?_
        exact ih3 _ (by omega) _ _ _ _ _ ⟨k1 + 1, n3, w3, td2, ls, rfl, rfl, by omega, by omega, hk4, hn3, hw3, lv_sub hl [0, 3, 4, 5] rfl, hP.sub [0, 1, 2, 3] rfl, hD.sub [0, 1, 2, 3] (by decide) rfl, hS⟩
    · have hk8 : k0 < 8 := Nat.lt_of_not_le (fun z => c2 (nI_le (a := 8) z (by omega)))
      refine lv_aload_n hx hb dL_law_125 rfl (lv_at hl 2 rfl) ?_
      refine lv_aload_n hx hb dL_law_126 rfl (lv_at hl 3 rfl) ?_
      refine lv_iload hx hb dL_law_127 (lv_at hl 0 rfl) ?_
      refine lv_iload hx hb dL_law_129 (lv_at hl 0 rfl) ?_
      have hPc := hP.sub (ws' := [(dk, .inr (2, [.ref wd, .int (nI n), .ref td])), (wd, .inl (cC, 64, .inl (fun j => nI (w j)))), (rw0, .inr (3, [.ref wr, .int (nI n)])), (wr, .inl (cI, 64, .inl (fun j => nI (w j))))]) [0, 1, 2, 3] rfl
      have hDc := hD.sub (ws' := [(dk, .inr (2, [.ref wd, .int (nI n), .ref td])), (wd, .inl (cC, 64, .inl (fun j => nI (w j)))), (rw0, .inr (3, [.ref wr, .int (nI n)])), (wr, .inl (cI, 64, .inl (fun j => nI (w j))))]) [0, 1, 2, 3] (by decide) rfl
      have hFc := va_free (wc := [(dk, .inr (2, [.ref wd, .int (nI n), .ref td])), (wd, .inl (cC, 64, .inl (fun j => nI (w j)))), (rw0, .inr (3, [.ref wr, .int (nI n)])), (wr, .inl (cI, 64, .inl (fun j => nI (w j))))]) hD hS hA [0, 1, 2, 3] rfl
      refine va_calli (va_runS (As := [.ref dk, .ref rw0, .int (nI k0), .int (nI k0)]) (rest := []) ⟨hx, hb, hml, hown, hts⟩ (m_X0holds l D cB cC cI _ dk wd rw0 wr td n (k0) (2 * 2 ^ (k0)) w (nI k0) (hk8) rfl (pd_and7n hk8) (hn) hw) (va_cwS 4 hts (lw_S q119 q120 q1 q121) rfl rfl rfl (by decide +kernel) ⟨Nat.le_of_ble_eq_true rfl, Nat.le_of_ble_eq_true rfl⟩) (pd_pre (fun a U g mk q => pd_BA.blind q) (fun U hU hW => pd_BA.pass hPc hDc hK hZ hS hFc hU hW)) rfl rfl hl.1 rfl (lv_room (Nat.le_of_ble_eq_true rfl)) dL_law_131 ⟨by show _ ≤ 1200192; omega, by show _ ≤ 5500522; omega⟩) hS (fun q _ h => hFc q h) hFc (fun r9 u_12 t H1 locs ht hvm hw9 hB hz1 hk1 hS => ?_)
      obtain ⟨td2, hP1, hD1⟩ := hB
      rw [ht] at hP1
      obtain ⟨hP, hD⟩ := va_join (wr := []) (w1 := [(dk, .inr (2, [.ref wd, .int (nI n), .ref td2])), (wd, .inl (cC, 64, .inl (fun j => nI (w j)))), (rw0, .inr (3, [.ref wr, .int (nI n)])), (wr, .inl (cI, 64, .inl (fun j => nI (w j))))]) hP hD [0, 1, 2, 3] [] rfl rfl (by decide) (by decide) hk1 hFc hP1 hD1
      generalize H1 = H at hP hS ⊢
      have hP : va_P D pd_cl [(dk, .inr (2, [.ref wd, .int (nI n), .ref td2])), (wd, .inl (cC, 64, .inl (fun j => nI (w j)))), (rw0, .inr (3, [.ref wr, .int (nI n)])), (wr, .inl (cI, 64, .inl (fun j => nI (w j))))] H := hP
      have hD : va_D A [(dk, .inr (2, [.ref wd, .int (nI n), .ref td2])), (wd, .inl (cC, 64, .inl (fun j => nI (w j)))), (rw0, .inr (3, [.ref wr, .int (nI n)])), (wr, .inl (cI, 64, .inl (fun j => nI (w j))))] := hD
      obtain rfl : r9 = 1 := hw9
      refine lv_if_ne (tgt := 139) hx hb dL_law_134 (by decide) (fun _ => ?_) (fun c9 => absurd c9 (by decide))
      refine lv_iinc (v := (nI (k0 + 1))) (lv' := [(4, .int (nI (k0 + 1))), (0, .ref b), (1, .ref dk), (2, .ref rw0)]) hx hb dL_law_139 hl (k := 0) rfl (nI_1 k0) (by decide) rfl (fun ls hl => ?_)
      refine lv_goto (tgt := 118) hx hb dL_law_142 (by decide) ?_
      exact ih2 _ (by omega) _ _ _ _ _ ⟨k0 + 1, td2, ls, rfl, rfl, by omega, by omega, hk8, lv_sub hl [0, 1, 2, 3] rfl, hP.sub [0, 1, 2, 3] rfl, hD.sub [0, 1, 2, 3] (by decide) rfl, hS⟩
  · have hkm : k0 < many := Nat.lt_of_not_le (fun z => c1 (nI_le z (by omega)))
    refine lv_aload_n hx hb dL_law_79 rfl (lv_at hl 3 rfl) ?_
    refine lv_aload_n hx hb dL_law_80 rfl (lv_at hl 4 rfl) ?_
    refine lv_aload_n hx hb dL_law_81 rfl (lv_at hl 2 rfl) ?_
    refine lv_iconst (v := nI 2) hx hb dL_law_82 (by decide) ?_
    refine lv_iconst (v := nI 2) hx hb dL_law_83 (by decide) ?_
    refine lv_iload hx hb dL_law_84 (lv_at hl 0 rfl) ?_
    refine pd_imul (v := (nI (2 * k0))) hx hb dL_law_86 (pk_mul 2 k0) ?_
    refine pd_iadd (v := (nI (2 + 2 * k0))) hx hb dL_law_87 (nI_add _ _) ?_
    refine va_calli (va_runS (As := [.ref b, .int (nI (2 + 2 * k0))]) (rest := [.ref rw0, .ref dk]) ⟨hx, hb, hml, hown, hts⟩ (m_X0cell l b L (2 + 2 * k0) xs hL (by omega)) (va_cwS 2 hts (lw_S q112 q113 q1 q114) rfl rfl rfl (by decide +kernel) ⟨Nat.le_of_ble_eq_true rfl, Nat.le_of_ble_eq_true rfl⟩) (pd_pre (fun a U g mk q => va_T.moved (u := U) (U := U.calling g mk a) (Vm.Alike.refl U.vm) q) (fun U hU hW => pd_T.call hT hS hW hU pd_Fin)) rfl rfl hl.1 rfl (lv_room (Nat.le_of_ble_eq_true rfl)) dL_law_88 ⟨by show _ ≤ 1200192; omega, by show _ ≤ 5500522; omega⟩) hS pd_Fin2 pd_Fin (fun r9 u_12 t H1 locs ht hvm hw9 hB hz1 hk1 hS => ?_)
    have hP := pd_keep hP hk1
    generalize H1 = H at hP hS ⊢
    obtain rfl : r9 = (pd_cell L xs (2 + 2 * k0)) := hw9
    refine lv_aload_n hx hb dL_law_91 rfl (lv_at hl 2 rfl) ?_
    refine lv_iconst (v := nI 3) hx hb dL_law_92 (by decide) ?_
    refine lv_iconst (v := nI 2) hx hb dL_law_93 (by decide) ?_
    refine lv_iload hx hb dL_law_94 (lv_at hl 0 rfl) ?_
    refine pd_imul (v := (nI (2 * k0))) hx hb dL_law_96 (pk_mul 2 k0) ?_
    refine pd_iadd (v := (nI (3 + 2 * k0))) hx hb dL_law_97 (nI_add _ _) ?_
    refine va_calli (va_runS (As := [.ref b, .int (nI (3 + 2 * k0))]) (rest := [.int (pd_cell L xs (2 + 2 * k0)), .ref rw0, .ref dk]) ⟨hx, hb, hml, hown, hts⟩ (m_X0cell l b L (3 + 2 * k0) xs hL (by omega)) (va_cwS 2 hts (lw_S q112 q113 q1 q114) rfl rfl rfl (by decide +kernel) ⟨Nat.le_of_ble_eq_true rfl, Nat.le_of_ble_eq_true rfl⟩) (pd_pre (fun a U g mk q => va_T.moved (u := U) (U := U.calling g mk a) (Vm.Alike.refl U.vm) q) (fun U hU hW => pd_T.call hT hS hW hU pd_Fin)) rfl rfl hl.1 rfl (lv_room (Nat.le_of_ble_eq_true rfl)) dL_law_98 ⟨by show _ ≤ 1200192; omega, by show _ ≤ 5500522; omega⟩) hS pd_Fin2 pd_Fin (fun r9 u_13 t H1 locs ht hvm hw9 hB hz1 hk1 hS => ?_)
    have hP := pd_keep hP hk1
    generalize H1 = H at hP hS ⊢
    obtain rfl : r9 = (pd_cell L xs (3 + 2 * k0)) := hw9
    have hPc := hP.sub (ws' := [(dk, .inr (2, [.ref wd, .int (nI n), .ref td])), (wd, .inl (cC, 64, .inl (fun j => nI (w j)))), (rw0, .inr (3, [.ref wr, .int (nI n)])), (wr, .inl (cI, 64, .inl (fun j => nI (w j))))]) [0, 1, 2, 3] rfl
    have hDc := hD.sub (ws' := [(dk, .inr (2, [.ref wd, .int (nI n), .ref td])), (wd, .inl (cC, 64, .inl (fun j => nI (w j)))), (rw0, .inr (3, [.ref wr, .int (nI n)])), (wr, .inl (cI, 64, .inl (fun j => nI (w j))))]) [0, 1, 2, 3] (by decide) rfl
    have hFc := va_free (wc := [(dk, .inr (2, [.ref wd, .int (nI n), .ref td])), (wd, .inl (cC, 64, .inl (fun j => nI (w j)))), (rw0, .inr (3, [.ref wr, .int (nI n)])), (wr, .inl (cI, 64, .inl (fun j => nI (w j))))]) hD hS hA [0, 1, 2, 3] rfl
    refine va_calli (va_runS (As := [.ref dk, .ref rw0, .int (pd_cell L xs (2 + 2 * k0)), .int (pd_cell L xs (3 + 2 * k0))]) (rest := []) ⟨hx, hb, hml, hown, hts⟩ (m_X0puts l D cB cC cI _ dk wd rw0 wr td n w (pd_cell L xs (2 + 2 * k0)) (pd_cell L xs (3 + 2 * k0)) (hn) hw) (va_cwS 4 hts (lw_S q417 q418 q1 q419) rfl rfl rfl (by decide +kernel) ⟨Nat.le_of_ble_eq_true rfl, Nat.le_of_ble_eq_true rfl⟩) (pd_pre (fun a U g mk q => pd_BA.blind q) (fun U hU hW => pd_BA.pass hPc hDc hK hZ hS hFc hU hW)) rfl rfl hl.1 rfl (lv_room (Nat.le_of_ble_eq_true rfl)) dL_law_101 ⟨by show _ ≤ 1200192; omega, by show _ ≤ 5500522; omega⟩) hS (fun q _ h => hFc q h) hFc (fun r9 u_14 t H1 locs ht hvm hw9 hB hz1 hk1 hS => ?_)
    obtain ⟨n2, w2, hP1, hD1, hn2, hw2⟩ := hB
    rw [ht] at hP1
    obtain ⟨hP, hD⟩ := va_join (wr := []) (w1 := [(dk, .inr (2, [.ref wd, .int (nI n2), .ref td])), (wd, .inl (cC, 64, .inl (fun j => nI (w2 j)))), (rw0, .inr (3, [.ref wr, .int (nI n2)])), (wr, .inl (cI, 64, .inl (fun j => nI (w2 j))))]) hP hD [0, 1, 2, 3] [] rfl rfl (by decide) (by decide) hk1 hFc hP1 hD1
    generalize H1 = H at hP hS ⊢
    have hP : va_P D pd_cl [(dk, .inr (2, [.ref wd, .int (nI n2), .ref td])), (wd, .inl (cC, 64, .inl (fun j => nI (w2 j)))), (rw0, .inr (3, [.ref wr, .int (nI n2)])), (wr, .inl (cI, 64, .inl (fun j => nI (w2 j))))] H := hP
    have hD : va_D A [(dk, .inr (2, [.ref wd, .int (nI n2), .ref td])), (wd, .inl (cC, 64, .inl (fun j => nI (w2 j)))), (rw0, .inr (3, [.ref wr, .int (nI n2)])), (wr, .inl (cI, 64, .inl (fun j => nI (w2 j))))] := hD
    obtain rfl : r9 = 1 := hw9
    refine lv_if_ne (tgt := 109) hx hb dL_law_104 (by decide) (fun _ => ?_) (fun c9 => absurd c9 (by decide))
    refine lv_iinc (v := (nI (k0 + 1))) (lv' := [(4, .int (nI (k0 + 1))), (3, .int (nI many)), (0, .ref b), (1, .ref dk), (2, .ref rw0)]) hx hb dL_law_109 hl (k := 0) rfl (nI_1 k0) (by decide) rfl (fun ls hl => ?_)
    refine lv_goto (tgt := 73) hx hb dL_law_112 (by decide) ?_
    exact ih1 _ (by omega) _ _ _ _ _ ⟨k0 + 1, n2, w2, td, ls, rfl, rfl, by omega, by omega, hkm, hn2, hw2, lv_sub hl [0, 1, 2, 3, 4] rfl, hP.sub [0, 1, 2, 3] rfl, hD.sub [0, 1, 2, 3] (by decide) rfl, hS⟩
end
section
/-- the two words more are true wherever the tables' words are -/
theorem lw_tbl_of {args : Array Value} {s : State} (h : ∀ w ∈ k2_sels lw_privs ++ tables_1, w.before args s = true) : ∀ w ∈ lw_tbl, w.before args s = true := by
  have h2 : ∀ w ∈ tables_1_2, w.before args s = true := fun w hw => h w (List.mem_append_right _ (lw_t2 hw))
  have h0 : (Cond.selects "java/lang/StringBuilder" ⟨"java/lang/AbstractStringBuilder", "isLatin1", "()Z"⟩ ⟨"java/lang/AbstractStringBuilder", "isLatin1", "()Z"⟩).before args s = true := h2 _ (List.mem_of_getElem? (i := 127) rfl)
  intro w hw
  rcases List.mem_append.mp hw with q | q
  · exact h w (List.mem_append_left _ q)
  · rcases List.mem_append.mp q with q | q
    · exact h w (List.mem_append_right _ q)
    · simp only [lw_sb, List.mem_cons, List.not_mem_nil, or_false] at q
      rcases q with e | e
      · rw [e]
        exact pd_selsub h0 rfl ⟨by decide +kernel, by decide +kernel⟩ (h2 _ (List.mem_of_getElem? (i := 92) rfl)) (h2 _ (List.mem_of_getElem? (i := 93) rfl))
      · rw [e]
        exact pd_selsub h0 rfl ⟨by decide +kernel, by decide +kernel⟩ (h2 _ (List.mem_of_getElem? (i := 133) rfl)) (h2 _ (List.mem_of_getElem? (i := 134) rfl))
set_option maxHeartbeats 4000000 in
theorem lw_walk (l : Launch) (hflags : l.flags = flags0) (b : Addr) (xs : List Int32) : MetFree l x (headSpec (Jvm.Cond.code x code maxLocals ret :: tables_1) room_1) (lw_P b xs) (fun _ _ _ _ _ => True) lw_Q := by
  refine MetFree.of_bodyS (code := code) (maxLocals := maxLocals) (ret := ret) (by decide) ?_ ?_
  · intro args s m h hn
    obtain ⟨meth, c, h1, h2, h3, h4, h5, h6, -, -⟩ := Cond.code_spec hn (atoms_spec (ws := Jvm.Cond.code x code maxLocals ret :: tables_1) h _ List.mem_cons_self)
    exact ⟨meth, c, h1, h2, h3, h4, h5, h6⟩
  · intro p e s m args below meth c s₁ B hml0 hP _
    obtain ⟨rfl, hx, hbd, hgv⟩ := hP
    obtain ⟨scr, harrAt, hlist, hof, hsmall⟩ := hx
    obtain ⟨hcb, hkn, -, -⟩ := State.arrayAt?_spec harrAt
    have hown : s.vm.findClass R_law = some m.cls := findClass_of_methodNamed B.named
    have hts0 : ∀ c ∈ (Jvm.Cond.code x code maxLocals ret :: tables_1), c.before #[Value.ref b] s = true := atoms_spec (ws := Jvm.Cond.code x code maxLocals ret :: tables_1) B.pre
    have hts1 : ∀ w ∈ k2_sels lw_privs ++ tables_1, w.before #[Value.ref b] s = true := k2_hts_sels lw_privs (fun w hw => hts0 w (List.mem_cons_of_mem _ hw)) lw_privs_ok
    have hts : ∀ w ∈ lw_tbl, w.before #[Value.ref b] s = true := lw_tbl_of hts1
    have hml : c.maxLocals = 7 := B.maxLocals_eq (hts0 _ List.mem_cons_self)
    have X₀ : Stand p l e room_1 s m #[Value.ref b] below meth c s₁ [] 0 0 := Stand.of_body B
    have hh0 : s₁.heap = s.heap := by rw [B.state]; rfl
    have hsz : scr.slots.size = xs.length := by rw [← Array.length_toList, hlist, List.length_map]
    have hval : ∀ j : Nat, j < xs.length → scr.slots[j]? = some (.int (xs.getD j 0)) := fun j hj => by
      rw [← Array.getElem?_toList, hlist]
      simp [hj]
    have hbl : b < s.heap.size := (Array.getElem?_eq_some_iff.mp hcb).1
    have hX : va_X b xs.length (fun j => xs.getD j 0) s s.heap := ⟨scr, hcb, hof, hkn, hsz, hval⟩
    have K : W p l e room_1 s m #[Value.ref b] below meth c s₁.heap [] 0 0 (lw_Z below #[Value.ref b] s) (entryFrame m ([Value.ref b] : List Value).toArray 7) := by
      rw [hh0]
      exact whole_start l hflags hbd ⟨B.exec, B.bytes, B.returns, hml, hown, hts, hX, hbl, B.notSynchronized, hgv⟩
    obtain ⟨t, a1, o, b1, b2, b3⟩ := K s₁ rfl X₀
    exact ⟨t, o, a1, b1, b2, b3⟩
theorem lw_pre_spec {args : Array Value} {s : State} (h : (Jvm.Cond.and given_1 narrow_1).before args s = true) (hr : rest_1_c.before args s = true) : ∃ (b : Addr) (xs : List Int32), lw_P b xs args s := by
  have hs := flat_of_before _ h
  have hq := flat_of_before _ hr
  have hc : (Cond.count 1).before args s = true := hs _ (by decide +kernel)
  have harr : (Cond.arrayOf (.arg 0) .int).before args s = true := hs _ (by decide +kernel)
  have hle : (Cond.le (.length (.arg 0)) (.int 96)).before args s = true := hs _ (by decide +kernel)
  have hlen : (Cond.isInt (.length (.arg 0))).before args s = true := hq _ (by decide +kernel)
  have hall : (Cond.all (.arg 0) (.isInt (.elem (.arg 0) (.index 0)))).before args s = true := hq _ (by decide +kernel)
  obtain ⟨b, xs, hb, hx⟩ := State.ints_of_pre rfl harr hlen hall
  have hsm : xs.length < 2 ^ 31 := hx.choose_spec.2.2.2
  have hev : (Term.length (.arg 0)).eval args s none [] s = some (.int xs.length.toInt32) := hx.length_eval hb
  have hv := Cond.le_ints hev (show (Term.int 96).eval args s none [] s = some (.int 96) from rfl)
  have hd : xs.length.toInt32 ≤ 96 := by
    simpa [Cond.before, Cond.holds, hv] using hle
  have hN : xs.length ≤ 96 := (Int32.ofNat_le_ofNat hsm (by decide)).mp (show Int32.ofNat xs.length ≤ Int32.ofNat 96 from hd)
  exact ⟨b, xs, Cond.one_arg hc (show args[0]? = some (.ref b) from hb), hx, hN, h⟩
theorem lw_comes (l : Launch) (hflags : l.flags = flags0) : Comes l x (Jvm.Cond.code x code maxLocals ret :: tables_1) room_1 (fun tb e args s => Calls_1 tb e args s ∧ rest_1 tb e args s ∧ Pre_1 tb e args s)
    (fun _ _ args s o t => lw_Q args s o t) := by
  intro p e ha hc hk s m args below hf hfit hheap happ hpre
  obtain ⟨b, xs, hP⟩ := lw_pre_spec hpre.2.2 hpre.2.1
  obtain ⟨k, o, h1, h2, h3, hQ⟩ := lw_walk l hflags b xs p e ha hc hk s m args below hf ((Spec.applies_iff_loose hf).mp happ).1 hP trivial
  exact ⟨k, o, h1, h2, h3, hQ⟩
theorem lw_frame {s t : State} {o : Outcome} {args : Array Value} (h : Framed s o t [] 1200192 5500522) :
    Framed s o t (fieldLocs frame_1_writes args s ++ arrayLocs frame_1_arrays args s ++ staticLocs frame_1_statics s) 1200192 5500522 := h
theorem lw_limb (L : Cond) (hL : ∀ (args : Array Value) (s t : State), L.after args s (.returned (some (.int 1))) t = true) :
    ArmFor flags0 classFile x code maxLocals ret World_1 tables_1 room_1 Calls_1 rest_1 Pre_1
      (fun tb e a s o t => postC L tb e a s o t ∧ Framed s o t (fieldLocs frame_1_writes a s ++ arrayLocs frame_1_arrays a s ++ staticLocs frame_1_statics s) 1200192 5500522) := by
  intro l hflags _ _ p e ha hc hk s m args below hf hfit hheap happ hpre
  obtain ⟨k, o, h1, h2, h3, rfl, hF⟩ := lw_comes l hflags p e ha hc hk s m args below hf hfit hheap happ hpre
  exact ⟨k, _, h1, h2, h3, hL args s _, lw_frame hF⟩
theorem i_vc : Claimed_1_1 ∧ Claimed_1_2 := ⟨lw_limb limb_1_1 (fun args s t => by simp [limb_1_1, Cond.after, Cond.holds, Cond.value]), lw_limb limb_1_2 (fun args s t => Cond.after_iff.mpr (by
  first | (rw [show limb_1_2 = Cond.eq .result (.int 1) from rfl, Cond.eq_ints (x := 1) (y := 1) rfl rfl]; simp; done) | (simp [limb_1_2, Cond.value, Term.eval]; done)))⟩
end
