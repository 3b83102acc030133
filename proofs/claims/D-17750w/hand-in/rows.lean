section
-- ===== PART A: goes FIRST, ahead of the names: the tables' words, and 'selects' of the private methods out of them =====
/-- a private method of a class that the tables say can be made, by its rows of tables_1 -/
def lw_okq (q : MethodName × Nat) : Prop := (q.1.cls ≠ "java/lang/invoke/MethodHandle" ∧ q.1.cls ≠ "java/lang/invoke/VarHandle") ∧ Cond.instantiable q.1.cls q.2 ∈ tables_1 ∧ Cond.privateMethod q.1 ∈ tables_1 ∧ Cond.instanceMethod q.1 ∈ tables_1
set_option maxRecDepth 100000
theorem lw_t1 {w : Cond} (h : w ∈ tables_1_1) : w ∈ tables_1 := List.mem_append_left _ h
theorem lw_t2 {w : Cond} (h : w ∈ tables_1_2) : w ∈ tables_1 := List.mem_append_right _ h
theorem lw_p0 : lw_okq (⟨"java/lang/Throwable", "fillInStackTrace", "(I)Ljava/lang/Throwable;"⟩, 6) := ⟨⟨by decide +kernel, by decide +kernel⟩, lw_t1 (List.mem_of_getElem? (i := 65) rfl), lw_t1 (List.mem_of_getElem? (i := 63) rfl), lw_t1 (List.mem_of_getElem? (i := 64) rfl)⟩
theorem lw_p1 : lw_okq (⟨"SpanDesk", "room", "()Z"⟩, 1) := ⟨⟨by decide +kernel, by decide +kernel⟩, lw_t1 (List.mem_of_getElem? (i := 9) rfl), lw_t1 (List.mem_of_getElem? (i := 225) rfl), lw_t1 (List.mem_of_getElem? (i := 226) rfl)⟩
theorem lw_p2 : lw_okq (⟨"Duration", "plus", "(JJ)LDuration;"⟩, 2) := ⟨⟨by decide +kernel, by decide +kernel⟩, lw_t1 (List.mem_of_getElem? (i := 104) rfl), lw_t1 (List.mem_of_getElem? (i := 237) rfl), lw_t1 (List.mem_of_getElem? (i := 238) rfl)⟩
def lw_privs_1 : List (MethodName × Nat) := [(⟨"java/lang/Throwable", "fillInStackTrace", "(I)Ljava/lang/Throwable;"⟩, 6), (⟨"SpanDesk", "room", "()Z"⟩, 1), (⟨"Duration", "plus", "(JJ)LDuration;"⟩, 2)]
theorem lw_r1 : ∀ q ∈ lw_privs_1, lw_okq q := List.forall_mem_cons.mpr ⟨lw_p0, List.forall_mem_cons.mpr ⟨lw_p1, List.forall_mem_cons.mpr ⟨lw_p2, fun _ h => absurd h List.not_mem_nil⟩⟩⟩
def lw_privs : List (MethodName × Nat) := lw_privs_1
def lw_tbl : List Cond := k2_sels lw_privs ++ tables_1
theorem lw_privs_ok : ∀ q ∈ lw_privs, lw_okq q := lw_r1
-- ===== ONE list of words for every method: the tables' words that hold all through a run =====
def lw_all : List Cond := lw_tbl.filter goodWord
/-- a word of the tables by its place: claim/WORDS.tsv -/
theorem lw_w {w : Cond} (i : Nat) (h : lw_tbl[i]? = some w) (g : goodWord w = true) : w ∈ lw_all := List.mem_filter.mpr ⟨List.mem_of_getElem? h, g⟩
theorem lw_all_tbl {w : Cond} (h : w ∈ lw_all) : w ∈ lw_tbl := (List.mem_filter.mp h).1
theorem lw_self : GoodIn lw_all lw_all := fun w h => ⟨h, good_of_word (List.mem_filter.mp h).2⟩
/-- a class's field words, by their places -/
theorem lw_in (ws : List Cond) (ps : List Nat) (hp : ws = ps.filterMap (fun i => lw_tbl[i]?)) (hg : ws.all goodWord = true) : ∀ w ∈ ws, w ∈ lw_all := by
  intro w h
  have h1 := List.all_eq_true.mp hg w h
  rw [hp] at h
  obtain ⟨i, -, hi⟩ := List.mem_filterMap.mp h
  exact lw_w i hi h1
/-- the words of a contract for the method y with code b, L locals, answer r -/
abbrev ws_ (y : MethodName) (b : ByteArray) (L : Nat) (r : Option FieldType) : List Cond := Cond.code y b L r :: lw_all
theorem lw_meth {y : MethodName} {b : ByteArray} {L : Nat} {r : Option FieldType} (h : Cond.code y b L r ∈ lw_all) : GoodIn lw_all (ws_ y b L r) := by
  intro w hw
  rcases List.mem_cons.mp hw with e | e
  · rw [e]
    exact lw_self _ h
  · exact lw_self _ e
theorem lw_app {a c : List Cond} (ha : ∀ w ∈ a, w ∈ lw_all) (hc : GoodIn lw_all c) : GoodIn lw_all (a ++ c) := by
  intro w hw
  rcases List.mem_append.mp hw with e | e
  · exact lw_self w (ha w e)
  · exact hc w e
/-- what a call through an object asks: cwV n hts (lw_V ..) -/
theorem lw_V {own : String} {idx : Nat} {C : String} {y : MethodName} {b : ByteArray} {L : Nat} {r : Option FieldType} (h1 : Cond.methodLink own idx y ∈ lw_all) (h2 : Cond.instanceMethod y ∈ lw_all) (h3 : Cond.selects C y y ∈ lw_all) (h4 : Cond.initialized C ∈ lw_all) (h5 : Cond.code y b L r ∈ lw_all) : GoodIn lw_all (wsV own idx C y (ws_ y b L r)) := by
  refine lw_app ?_ (lw_meth h5)
  intro w hw
  simp only [List.mem_cons, List.not_mem_nil, or_false] at hw
  rcases hw with e | e | e | e
  · rw [e]; exact h1
  · rw [e]; exact h2
  · rw [e]; exact h3
  · rw [e]; exact h4
/-- what a static call asks: va_cwS n hts (lw_S ..) -/
theorem lw_S {own : String} {idx : Nat} {y : MethodName} {b : ByteArray} {L : Nat} {r : Option FieldType} (h1 : Cond.methodLink own idx y ∈ lw_all) (h2 : Cond.static y ∈ lw_all) (h3 : Cond.initialized y.cls ∈ lw_all) (h4 : Cond.code y b L r ∈ lw_all) : GoodIn lw_all (va_wsS own idx y (ws_ y b L r)) := by
  refine lw_app ?_ (lw_meth h4)
  intro w hw
  simp only [List.mem_cons, List.not_mem_nil, or_false] at hw
  rcases hw with e | e | e
  · rw [e]; exact h1
  · rw [e]; exact h2
  · rw [e]; exact h3
/-- the words of a contract for a method WITH HANDLERS (hh: its table) -/
abbrev wsW_ (y : MethodName) (b : ByteArray) (L : Nat) (r : Option FieldType) (hh : List (Nat × Nat × Nat × Nat)) : List Cond := Cond.codeWith y b L r hh :: lw_all
theorem lw_methW {y : MethodName} {b : ByteArray} {L : Nat} {r : Option FieldType} {hh : List (Nat × Nat × Nat × Nat)} (h : Cond.codeWith y b L r hh ∈ lw_all) : GoodIn lw_all (wsW_ y b L r hh) := by
  intro w hw
  rcases List.mem_cons.mp hw with e | e
  · rw [e]
    exact lw_self _ h
  · exact lw_self _ e
/-- any list of words by their places (lw_in), good -/
theorem lw_good {ws : List Cond} (h : ∀ w ∈ ws, w ∈ lw_all) : GoodIn lw_all ws := fun w hw => lw_self w (h w hw)
/-- what a call of a method with handlers asks: vx_cwVW n hts (lw_VW ..), vx_cwSW n hts (lw_SW ..) -/
theorem lw_VW {own : String} {idx : Nat} {C : String} {y : MethodName} {b : ByteArray} {L : Nat} {r : Option FieldType} {hh : List (Nat × Nat × Nat × Nat)} (h1 : Cond.methodLink own idx y ∈ lw_all) (h2 : Cond.instanceMethod y ∈ lw_all) (h3 : Cond.selects C y y ∈ lw_all) (h4 : Cond.initialized C ∈ lw_all) (h5 : Cond.codeWith y b L r hh ∈ lw_all) : GoodIn lw_all (wsV own idx C y (wsW_ y b L r hh)) := by
  refine lw_app ?_ (lw_methW h5)
  intro w hw
  simp only [List.mem_cons, List.not_mem_nil, or_false] at hw
  rcases hw with e | e | e | e
  · rw [e]; exact h1
  · rw [e]; exact h2
  · rw [e]; exact h3
  · rw [e]; exact h4
theorem lw_SW {own : String} {idx : Nat} {y : MethodName} {b : ByteArray} {L : Nat} {r : Option FieldType} {hh : List (Nat × Nat × Nat × Nat)} (h1 : Cond.methodLink own idx y ∈ lw_all) (h2 : Cond.static y ∈ lw_all) (h3 : Cond.initialized y.cls ∈ lw_all) (h4 : Cond.codeWith y b L r hh ∈ lw_all) : GoodIn lw_all (va_wsS own idx y (wsW_ y b L r hh)) := by
  refine lw_app ?_ (lw_methW h4)
  intro w hw
  simp only [List.mem_cons, List.not_mem_nil, or_false] at hw
  rcases hw with e | e | e
  · rw [e]; exact h1
  · rw [e]; exact h2
  · rw [e]; exact h3
/-- a word by its place in its run of the tables -/
theorem lw_at {r : List Cond} (hr : ∀ w ∈ r, w ∈ lw_tbl) {w : Cond} (i : Nat) (h : r[i]? = some w) : w ∈ lw_tbl := hr w (List.mem_of_getElem? h)
theorem lw_g {w : Cond} (h : w ∈ lw_tbl) (g : goodWord w = true) : w ∈ lw_all := List.mem_filter.mpr ⟨h, g⟩
theorem lw_ms : ∀ w ∈ k2_sels lw_privs, w ∈ lw_tbl := fun w h => show w ∈ k2_sels lw_privs ++ tables_1 from List.mem_append_left _ h
theorem lw_m1 : ∀ w ∈ tables_1_1, w ∈ lw_tbl := fun w h => show w ∈ k2_sels lw_privs ++ tables_1 from List.mem_append_right (k2_sels lw_privs) (show w ∈ tables_1 from List.mem_append_left _ h)
theorem lw_m2 : ∀ w ∈ tables_1_2, w ∈ lw_tbl := fun w h => show w ∈ k2_sels lw_privs ++ tables_1 from List.mem_append_right (k2_sels lw_privs) (show w ∈ tables_1 from List.mem_append_right _ h)
theorem qs0 : (Cond.selects "java/lang/Throwable" ⟨"java/lang/Throwable", "fillInStackTrace", "(I)Ljava/lang/Throwable;"⟩ ⟨"java/lang/Throwable", "fillInStackTrace", "(I)Ljava/lang/Throwable;"⟩) ∈ lw_all := lw_g (lw_at lw_ms 0 rfl) rfl
theorem qs1 : (Cond.selects "SpanDesk" ⟨"SpanDesk", "room", "()Z"⟩ ⟨"SpanDesk", "room", "()Z"⟩) ∈ lw_all := lw_g (lw_at lw_ms 1 rfl) rfl
theorem qs2 : (Cond.selects "Duration" ⟨"Duration", "plus", "(JJ)LDuration;"⟩ ⟨"Duration", "plus", "(JJ)LDuration;"⟩) ∈ lw_all := lw_g (lw_at lw_ms 2 rfl) rfl
-- ===== end of PART A; then your names; then what follows =====
/-! DECODE ROWS BY BYTES: one lemma an opcode; a method's code is cut into short pieces once, and a row reads its own piece alone. -/
set_option maxRecDepth 100000
/-- the code has just these bytes from pc on -/
def DkAt (code : ByteArray) (pc : Nat) (bs : List UInt8) : Prop := ∀ (j : Nat) (b : UInt8), bs[j]? = some b → code.data.toList[pc + j]? = some b
/-- the piece W has the bytes bs from its place j on -/
def dkIn (W : List UInt8) (j : Nat) (bs : List UInt8) : Bool := decide ((W.drop j).take bs.length = bs)
theorem dk_seg {l W T : List UInt8} {o o2 : Nat} (h : l.drop o = W ++ T) (n : Nat) (hn : W.length = n) (ho : o + n = o2) : l.drop o2 = T := by
  subst ho
  rw [← List.drop_drop, h, List.drop_left' hn]
theorem dk_at {code : ByteArray} {W T bs : List UInt8} {o pc : Nat} (h : code.data.toList.drop o = W ++ T) (j : Nat) (hp : o + j = pc) (hw : dkIn W j bs = true) : DkAt code pc bs := by
  subst hp
  intro i b e
  have h1 := of_decide_eq_true hw
  have h2 : i < bs.length := (List.getElem?_eq_some_iff.mp e).1
  have h3 : W[j + i]? = some b := by
    rw [← h1, List.getElem?_take, if_pos h2, List.getElem?_drop] at e
    exact e
  have h4 : j + i < W.length := (List.getElem?_eq_some_iff.mp h3).1
  have h5 : (code.data.toList.drop o)[j + i]? = some b := by
    rw [h, List.getElem?_append_left h4]
    exact h3
  rw [List.getElem?_drop, ← Nat.add_assoc] at h5
  exact h5
theorem dk_u1 {A : ByteArray} {p : Nat} {b : UInt8} (h : A.data.toList[p]? = some b) : (Reader.u1 : Reader DecodeError Nat) A p = .ok (b.toNat, p + 1) := by
  obtain ⟨h1, h2⟩ := List.getElem?_eq_some_iff.mp h
  have h3 : p < A.size := by simpa using h1
  have h4 : A[p]'h3 = b := h2
  have e : (Reader.u1 : Reader DecodeError Nat) A p = (if h : p < A.size then .ok (A[p].toNat, p + 1) else .error (HasTruncated.truncated p)) := by
    show (do if h : p < A.size then do set (p + 1); Pure.pure A[p].toNat else MonadExcept.throw (HasTruncated.truncated p) : Reader DecodeError Nat) A p = _
    by_cases hi : p < A.size
    · rw [dif_pos hi, dif_pos hi]; rfl
    · rw [dif_neg hi, dif_neg hi]; rfl
  rw [e, dif_pos h3, h4]
theorem dk_bind {α β : Type} {r : Reader DecodeError α} {f : α → Reader DecodeError β} {A : ByteArray} {p s : Nat} {a : α} (h : r A p = .ok (a, s)) : (r >>= f) A p = f a A s := by
  show (do let (a, s) ← r A p; f a A s : Except DecodeError (β × Nat)) = _
  rw [h]
  rfl
theorem dk_map {α β : Type} {r : Reader DecodeError α} {g : α → β} {A : ByteArray} {p s : Nat} {a : α} (h : r A p = .ok (a, s)) : (g <$> r) A p = .ok (g a, s) := by
  show (do let (a, s) ← r A p; .ok (g a, s) : Except DecodeError (β × Nat)) = _
  rw [h]
  rfl
theorem dk_u2 {A : ByteArray} {p : Nat} {a b : UInt8} (h : A.data.toList[p]? = some a) (h2 : A.data.toList[p + 1]? = some b) : (Reader.u2 : Reader DecodeError Nat) A p = .ok (a.toNat * 256 + b.toNat, p + 2) := by
  show (Reader.u1 >>= fun hi => Reader.u1 >>= fun lo => Pure.pure (hi * 256 + lo) : Reader DecodeError Nat) A p = _
  rw [dk_bind (dk_u1 h), dk_bind (dk_u1 h2)]
  rfl
theorem dk_of {code : ByteArray} {pc n : Nat} {i : Instr} (h : Decoder.instr pc code pc = .ok (i, pc + n)) : decode code pc = .ok (i, n) := by
  have e : decode code pc = (match Decoder.instr pc code pc with | .error x => .error x | .ok (j, s) => .ok (j, s - pc)) := by
    show (do let (j, s) ← Decoder.instr pc code pc; Pure.pure (j, s - pc) : Except DecodeError (Instr × Nat)) = _
    cases Decoder.instr pc code pc <;> rfl
  rw [e, h]
  show Except.ok (i, pc + n - pc) = _
  rw [Nat.add_sub_cancel_left]
theorem dk_2 {code : ByteArray} {pc : Nat} (h : DkAt code pc [2]) : decode code pc = .ok (.iconst (-1), 1) := dk_of ((dk_bind (dk_u1 (h 0 _ rfl))).trans rfl)
theorem dk_3 {code : ByteArray} {pc : Nat} (h : DkAt code pc [3]) : decode code pc = .ok (.iconst 0, 1) := dk_of ((dk_bind (dk_u1 (h 0 _ rfl))).trans rfl)
theorem dk_4 {code : ByteArray} {pc : Nat} (h : DkAt code pc [4]) : decode code pc = .ok (.iconst 1, 1) := dk_of ((dk_bind (dk_u1 (h 0 _ rfl))).trans rfl)
theorem dk_5 {code : ByteArray} {pc : Nat} (h : DkAt code pc [5]) : decode code pc = .ok (.iconst 2, 1) := dk_of ((dk_bind (dk_u1 (h 0 _ rfl))).trans rfl)
theorem dk_6 {code : ByteArray} {pc : Nat} (h : DkAt code pc [6]) : decode code pc = .ok (.iconst 3, 1) := dk_of ((dk_bind (dk_u1 (h 0 _ rfl))).trans rfl)
theorem dk_7 {code : ByteArray} {pc : Nat} (h : DkAt code pc [7]) : decode code pc = .ok (.iconst 4, 1) := dk_of ((dk_bind (dk_u1 (h 0 _ rfl))).trans rfl)
theorem dk_8 {code : ByteArray} {pc : Nat} (h : DkAt code pc [8]) : decode code pc = .ok (.iconst 5, 1) := dk_of ((dk_bind (dk_u1 (h 0 _ rfl))).trans rfl)
theorem dk_9 {code : ByteArray} {pc : Nat} (h : DkAt code pc [9]) : decode code pc = .ok (.lconst 0, 1) := dk_of ((dk_bind (dk_u1 (h 0 _ rfl))).trans rfl)
theorem dk_10 {code : ByteArray} {pc : Nat} (h : DkAt code pc [10]) : decode code pc = .ok (.lconst 1, 1) := dk_of ((dk_bind (dk_u1 (h 0 _ rfl))).trans rfl)
theorem dk_16 {code : ByteArray} {pc : Nat} (a : UInt8) (h : DkAt code pc [16, a]) : decode code pc = .ok (.bipush (Reader.signed 8 a.toNat), 2) := dk_of ((dk_bind (dk_u1 (h 0 _ rfl))).trans ((dk_bind (dk_map (dk_u1 (h 1 _ rfl)))).trans rfl))
theorem dk_18 {code : ByteArray} {pc : Nat} (a : UInt8) (h : DkAt code pc [18, a]) : decode code pc = .ok (.ldc a.toNat, 2) := dk_of ((dk_bind (dk_u1 (h 0 _ rfl))).trans ((dk_bind (dk_u1 (h 1 _ rfl))).trans rfl))
theorem dk_20 {code : ByteArray} {pc : Nat} (a b : UInt8) (h : DkAt code pc [20, a, b]) : decode code pc = .ok (.ldc2_w (a.toNat * 256 + b.toNat), 3) := dk_of ((dk_bind (dk_u1 (h 0 _ rfl))).trans ((dk_bind (dk_u2 (h 1 _ rfl) (h 2 _ rfl))).trans rfl))
theorem dk_21 {code : ByteArray} {pc : Nat} (a : UInt8) (h : DkAt code pc [21, a]) : decode code pc = .ok (.iload a.toNat, 2) := dk_of ((dk_bind (dk_u1 (h 0 _ rfl))).trans ((dk_bind (dk_u1 (h 1 _ rfl))).trans rfl))
theorem dk_22 {code : ByteArray} {pc : Nat} (a : UInt8) (h : DkAt code pc [22, a]) : decode code pc = .ok (.lload a.toNat, 2) := dk_of ((dk_bind (dk_u1 (h 0 _ rfl))).trans ((dk_bind (dk_u1 (h 1 _ rfl))).trans rfl))
theorem dk_25 {code : ByteArray} {pc : Nat} (a : UInt8) (h : DkAt code pc [25, a]) : decode code pc = .ok (.aload a.toNat, 2) := dk_of ((dk_bind (dk_u1 (h 0 _ rfl))).trans ((dk_bind (dk_u1 (h 1 _ rfl))).trans rfl))
theorem dk_26 {code : ByteArray} {pc : Nat} (h : DkAt code pc [26]) : decode code pc = .ok (.iload_n 0, 1) := dk_of ((dk_bind (dk_u1 (h 0 _ rfl))).trans rfl)
theorem dk_27 {code : ByteArray} {pc : Nat} (h : DkAt code pc [27]) : decode code pc = .ok (.iload_n 1, 1) := dk_of ((dk_bind (dk_u1 (h 0 _ rfl))).trans rfl)
theorem dk_28 {code : ByteArray} {pc : Nat} (h : DkAt code pc [28]) : decode code pc = .ok (.iload_n 2, 1) := dk_of ((dk_bind (dk_u1 (h 0 _ rfl))).trans rfl)
theorem dk_29 {code : ByteArray} {pc : Nat} (h : DkAt code pc [29]) : decode code pc = .ok (.iload_n 3, 1) := dk_of ((dk_bind (dk_u1 (h 0 _ rfl))).trans rfl)
theorem dk_30 {code : ByteArray} {pc : Nat} (h : DkAt code pc [30]) : decode code pc = .ok (.lload_n 0, 1) := dk_of ((dk_bind (dk_u1 (h 0 _ rfl))).trans rfl)
theorem dk_31 {code : ByteArray} {pc : Nat} (h : DkAt code pc [31]) : decode code pc = .ok (.lload_n 1, 1) := dk_of ((dk_bind (dk_u1 (h 0 _ rfl))).trans rfl)
theorem dk_32 {code : ByteArray} {pc : Nat} (h : DkAt code pc [32]) : decode code pc = .ok (.lload_n 2, 1) := dk_of ((dk_bind (dk_u1 (h 0 _ rfl))).trans rfl)
theorem dk_33 {code : ByteArray} {pc : Nat} (h : DkAt code pc [33]) : decode code pc = .ok (.lload_n 3, 1) := dk_of ((dk_bind (dk_u1 (h 0 _ rfl))).trans rfl)
theorem dk_42 {code : ByteArray} {pc : Nat} (h : DkAt code pc [42]) : decode code pc = .ok (.aload_n 0, 1) := dk_of ((dk_bind (dk_u1 (h 0 _ rfl))).trans rfl)
theorem dk_43 {code : ByteArray} {pc : Nat} (h : DkAt code pc [43]) : decode code pc = .ok (.aload_n 1, 1) := dk_of ((dk_bind (dk_u1 (h 0 _ rfl))).trans rfl)
theorem dk_44 {code : ByteArray} {pc : Nat} (h : DkAt code pc [44]) : decode code pc = .ok (.aload_n 2, 1) := dk_of ((dk_bind (dk_u1 (h 0 _ rfl))).trans rfl)
theorem dk_45 {code : ByteArray} {pc : Nat} (h : DkAt code pc [45]) : decode code pc = .ok (.aload_n 3, 1) := dk_of ((dk_bind (dk_u1 (h 0 _ rfl))).trans rfl)
theorem dk_46 {code : ByteArray} {pc : Nat} (h : DkAt code pc [46]) : decode code pc = .ok (.iaload, 1) := dk_of ((dk_bind (dk_u1 (h 0 _ rfl))).trans rfl)
theorem dk_47 {code : ByteArray} {pc : Nat} (h : DkAt code pc [47]) : decode code pc = .ok (.laload, 1) := dk_of ((dk_bind (dk_u1 (h 0 _ rfl))).trans rfl)
theorem dk_50 {code : ByteArray} {pc : Nat} (h : DkAt code pc [50]) : decode code pc = .ok (.aaload, 1) := dk_of ((dk_bind (dk_u1 (h 0 _ rfl))).trans rfl)
theorem dk_54 {code : ByteArray} {pc : Nat} (a : UInt8) (h : DkAt code pc [54, a]) : decode code pc = .ok (.istore a.toNat, 2) := dk_of ((dk_bind (dk_u1 (h 0 _ rfl))).trans ((dk_bind (dk_u1 (h 1 _ rfl))).trans rfl))
theorem dk_55 {code : ByteArray} {pc : Nat} (a : UInt8) (h : DkAt code pc [55, a]) : decode code pc = .ok (.lstore a.toNat, 2) := dk_of ((dk_bind (dk_u1 (h 0 _ rfl))).trans ((dk_bind (dk_u1 (h 1 _ rfl))).trans rfl))
theorem dk_58 {code : ByteArray} {pc : Nat} (a : UInt8) (h : DkAt code pc [58, a]) : decode code pc = .ok (.astore a.toNat, 2) := dk_of ((dk_bind (dk_u1 (h 0 _ rfl))).trans ((dk_bind (dk_u1 (h 1 _ rfl))).trans rfl))
theorem dk_60 {code : ByteArray} {pc : Nat} (h : DkAt code pc [60]) : decode code pc = .ok (.istore_n 1, 1) := dk_of ((dk_bind (dk_u1 (h 0 _ rfl))).trans rfl)
theorem dk_61 {code : ByteArray} {pc : Nat} (h : DkAt code pc [61]) : decode code pc = .ok (.istore_n 2, 1) := dk_of ((dk_bind (dk_u1 (h 0 _ rfl))).trans rfl)
theorem dk_62 {code : ByteArray} {pc : Nat} (h : DkAt code pc [62]) : decode code pc = .ok (.istore_n 3, 1) := dk_of ((dk_bind (dk_u1 (h 0 _ rfl))).trans rfl)
theorem dk_64 {code : ByteArray} {pc : Nat} (h : DkAt code pc [64]) : decode code pc = .ok (.lstore_n 1, 1) := dk_of ((dk_bind (dk_u1 (h 0 _ rfl))).trans rfl)
theorem dk_65 {code : ByteArray} {pc : Nat} (h : DkAt code pc [65]) : decode code pc = .ok (.lstore_n 2, 1) := dk_of ((dk_bind (dk_u1 (h 0 _ rfl))).trans rfl)
theorem dk_66 {code : ByteArray} {pc : Nat} (h : DkAt code pc [66]) : decode code pc = .ok (.lstore_n 3, 1) := dk_of ((dk_bind (dk_u1 (h 0 _ rfl))).trans rfl)
theorem dk_76 {code : ByteArray} {pc : Nat} (h : DkAt code pc [76]) : decode code pc = .ok (.astore_n 1, 1) := dk_of ((dk_bind (dk_u1 (h 0 _ rfl))).trans rfl)
theorem dk_77 {code : ByteArray} {pc : Nat} (h : DkAt code pc [77]) : decode code pc = .ok (.astore_n 2, 1) := dk_of ((dk_bind (dk_u1 (h 0 _ rfl))).trans rfl)
theorem dk_78 {code : ByteArray} {pc : Nat} (h : DkAt code pc [78]) : decode code pc = .ok (.astore_n 3, 1) := dk_of ((dk_bind (dk_u1 (h 0 _ rfl))).trans rfl)
theorem dk_80 {code : ByteArray} {pc : Nat} (h : DkAt code pc [80]) : decode code pc = .ok (.lastore, 1) := dk_of ((dk_bind (dk_u1 (h 0 _ rfl))).trans rfl)
theorem dk_83 {code : ByteArray} {pc : Nat} (h : DkAt code pc [83]) : decode code pc = .ok (.aastore, 1) := dk_of ((dk_bind (dk_u1 (h 0 _ rfl))).trans rfl)
theorem dk_87 {code : ByteArray} {pc : Nat} (h : DkAt code pc [87]) : decode code pc = .ok (.pop, 1) := dk_of ((dk_bind (dk_u1 (h 0 _ rfl))).trans rfl)
theorem dk_89 {code : ByteArray} {pc : Nat} (h : DkAt code pc [89]) : decode code pc = .ok (.dup, 1) := dk_of ((dk_bind (dk_u1 (h 0 _ rfl))).trans rfl)
theorem dk_92 {code : ByteArray} {pc : Nat} (h : DkAt code pc [92]) : decode code pc = .ok (.dup2, 1) := dk_of ((dk_bind (dk_u1 (h 0 _ rfl))).trans rfl)
theorem dk_96 {code : ByteArray} {pc : Nat} (h : DkAt code pc [96]) : decode code pc = .ok (.iadd, 1) := dk_of ((dk_bind (dk_u1 (h 0 _ rfl))).trans rfl)
theorem dk_97 {code : ByteArray} {pc : Nat} (h : DkAt code pc [97]) : decode code pc = .ok (.ladd, 1) := dk_of ((dk_bind (dk_u1 (h 0 _ rfl))).trans rfl)
theorem dk_100 {code : ByteArray} {pc : Nat} (h : DkAt code pc [100]) : decode code pc = .ok (.isub, 1) := dk_of ((dk_bind (dk_u1 (h 0 _ rfl))).trans rfl)
theorem dk_101 {code : ByteArray} {pc : Nat} (h : DkAt code pc [101]) : decode code pc = .ok (.lsub, 1) := dk_of ((dk_bind (dk_u1 (h 0 _ rfl))).trans rfl)
theorem dk_105 {code : ByteArray} {pc : Nat} (h : DkAt code pc [105]) : decode code pc = .ok (.lmul, 1) := dk_of ((dk_bind (dk_u1 (h 0 _ rfl))).trans rfl)
theorem dk_108 {code : ByteArray} {pc : Nat} (h : DkAt code pc [108]) : decode code pc = .ok (.idiv, 1) := dk_of ((dk_bind (dk_u1 (h 0 _ rfl))).trans rfl)
theorem dk_109 {code : ByteArray} {pc : Nat} (h : DkAt code pc [109]) : decode code pc = .ok (.ldiv, 1) := dk_of ((dk_bind (dk_u1 (h 0 _ rfl))).trans rfl)
theorem dk_112 {code : ByteArray} {pc : Nat} (h : DkAt code pc [112]) : decode code pc = .ok (.irem, 1) := dk_of ((dk_bind (dk_u1 (h 0 _ rfl))).trans rfl)
theorem dk_113 {code : ByteArray} {pc : Nat} (h : DkAt code pc [113]) : decode code pc = .ok (.lrem, 1) := dk_of ((dk_bind (dk_u1 (h 0 _ rfl))).trans rfl)
theorem dk_116 {code : ByteArray} {pc : Nat} (h : DkAt code pc [116]) : decode code pc = .ok (.ineg, 1) := dk_of ((dk_bind (dk_u1 (h 0 _ rfl))).trans rfl)
theorem dk_117 {code : ByteArray} {pc : Nat} (h : DkAt code pc [117]) : decode code pc = .ok (.lneg, 1) := dk_of ((dk_bind (dk_u1 (h 0 _ rfl))).trans rfl)
theorem dk_121 {code : ByteArray} {pc : Nat} (h : DkAt code pc [121]) : decode code pc = .ok (.lshl, 1) := dk_of ((dk_bind (dk_u1 (h 0 _ rfl))).trans rfl)
theorem dk_122 {code : ByteArray} {pc : Nat} (h : DkAt code pc [122]) : decode code pc = .ok (.ishr, 1) := dk_of ((dk_bind (dk_u1 (h 0 _ rfl))).trans rfl)
theorem dk_126 {code : ByteArray} {pc : Nat} (h : DkAt code pc [126]) : decode code pc = .ok (.iand, 1) := dk_of ((dk_bind (dk_u1 (h 0 _ rfl))).trans rfl)
theorem dk_127 {code : ByteArray} {pc : Nat} (h : DkAt code pc [127]) : decode code pc = .ok (.land, 1) := dk_of ((dk_bind (dk_u1 (h 0 _ rfl))).trans rfl)
theorem dk_129 {code : ByteArray} {pc : Nat} (h : DkAt code pc [129]) : decode code pc = .ok (.lor, 1) := dk_of ((dk_bind (dk_u1 (h 0 _ rfl))).trans rfl)
theorem dk_130 {code : ByteArray} {pc : Nat} (h : DkAt code pc [130]) : decode code pc = .ok (.ixor, 1) := dk_of ((dk_bind (dk_u1 (h 0 _ rfl))).trans rfl)
theorem dk_131 {code : ByteArray} {pc : Nat} (h : DkAt code pc [131]) : decode code pc = .ok (.lxor, 1) := dk_of ((dk_bind (dk_u1 (h 0 _ rfl))).trans rfl)
theorem dk_132 {code : ByteArray} {pc : Nat} (a b : UInt8) (h : DkAt code pc [132, a, b]) : decode code pc = .ok (.iinc a.toNat (Reader.signed 8 b.toNat), 3) := dk_of ((dk_bind (dk_u1 (h 0 _ rfl))).trans ((dk_bind (dk_u1 (h 1 _ rfl))).trans ((dk_bind (dk_map (dk_u1 (h 2 _ rfl)))).trans rfl)))
theorem dk_133 {code : ByteArray} {pc : Nat} (h : DkAt code pc [133]) : decode code pc = .ok (.i2l, 1) := dk_of ((dk_bind (dk_u1 (h 0 _ rfl))).trans rfl)
theorem dk_136 {code : ByteArray} {pc : Nat} (h : DkAt code pc [136]) : decode code pc = .ok (.l2i, 1) := dk_of ((dk_bind (dk_u1 (h 0 _ rfl))).trans rfl)
theorem dk_148 {code : ByteArray} {pc : Nat} (h : DkAt code pc [148]) : decode code pc = .ok (.lcmp, 1) := dk_of ((dk_bind (dk_u1 (h 0 _ rfl))).trans rfl)
theorem dk_153 {code : ByteArray} {pc : Nat} (a b : UInt8) (h : DkAt code pc [153, a, b]) : decode code pc = .ok (.ifCond .eq (Reader.signed 16 (a.toNat * 256 + b.toNat)), 3) := dk_of ((dk_bind (dk_u1 (h 0 _ rfl))).trans ((dk_bind (dk_map (dk_u2 (h 1 _ rfl) (h 2 _ rfl)))).trans rfl))
theorem dk_154 {code : ByteArray} {pc : Nat} (a b : UInt8) (h : DkAt code pc [154, a, b]) : decode code pc = .ok (.ifCond .ne (Reader.signed 16 (a.toNat * 256 + b.toNat)), 3) := dk_of ((dk_bind (dk_u1 (h 0 _ rfl))).trans ((dk_bind (dk_map (dk_u2 (h 1 _ rfl) (h 2 _ rfl)))).trans rfl))
theorem dk_155 {code : ByteArray} {pc : Nat} (a b : UInt8) (h : DkAt code pc [155, a, b]) : decode code pc = .ok (.ifCond .lt (Reader.signed 16 (a.toNat * 256 + b.toNat)), 3) := dk_of ((dk_bind (dk_u1 (h 0 _ rfl))).trans ((dk_bind (dk_map (dk_u2 (h 1 _ rfl) (h 2 _ rfl)))).trans rfl))
theorem dk_156 {code : ByteArray} {pc : Nat} (a b : UInt8) (h : DkAt code pc [156, a, b]) : decode code pc = .ok (.ifCond .ge (Reader.signed 16 (a.toNat * 256 + b.toNat)), 3) := dk_of ((dk_bind (dk_u1 (h 0 _ rfl))).trans ((dk_bind (dk_map (dk_u2 (h 1 _ rfl) (h 2 _ rfl)))).trans rfl))
theorem dk_158 {code : ByteArray} {pc : Nat} (a b : UInt8) (h : DkAt code pc [158, a, b]) : decode code pc = .ok (.ifCond .le (Reader.signed 16 (a.toNat * 256 + b.toNat)), 3) := dk_of ((dk_bind (dk_u1 (h 0 _ rfl))).trans ((dk_bind (dk_map (dk_u2 (h 1 _ rfl) (h 2 _ rfl)))).trans rfl))
theorem dk_159 {code : ByteArray} {pc : Nat} (a b : UInt8) (h : DkAt code pc [159, a, b]) : decode code pc = .ok (.if_icmp .eq (Reader.signed 16 (a.toNat * 256 + b.toNat)), 3) := dk_of ((dk_bind (dk_u1 (h 0 _ rfl))).trans ((dk_bind (dk_map (dk_u2 (h 1 _ rfl) (h 2 _ rfl)))).trans rfl))
theorem dk_160 {code : ByteArray} {pc : Nat} (a b : UInt8) (h : DkAt code pc [160, a, b]) : decode code pc = .ok (.if_icmp .ne (Reader.signed 16 (a.toNat * 256 + b.toNat)), 3) := dk_of ((dk_bind (dk_u1 (h 0 _ rfl))).trans ((dk_bind (dk_map (dk_u2 (h 1 _ rfl) (h 2 _ rfl)))).trans rfl))
theorem dk_162 {code : ByteArray} {pc : Nat} (a b : UInt8) (h : DkAt code pc [162, a, b]) : decode code pc = .ok (.if_icmp .ge (Reader.signed 16 (a.toNat * 256 + b.toNat)), 3) := dk_of ((dk_bind (dk_u1 (h 0 _ rfl))).trans ((dk_bind (dk_map (dk_u2 (h 1 _ rfl) (h 2 _ rfl)))).trans rfl))
theorem dk_167 {code : ByteArray} {pc : Nat} (a b : UInt8) (h : DkAt code pc [167, a, b]) : decode code pc = .ok (.goto (Reader.signed 16 (a.toNat * 256 + b.toNat)), 3) := dk_of ((dk_bind (dk_u1 (h 0 _ rfl))).trans ((dk_bind (dk_map (dk_u2 (h 1 _ rfl) (h 2 _ rfl)))).trans rfl))
theorem dk_172 {code : ByteArray} {pc : Nat} (h : DkAt code pc [172]) : decode code pc = .ok (.ireturn, 1) := dk_of ((dk_bind (dk_u1 (h 0 _ rfl))).trans rfl)
theorem dk_173 {code : ByteArray} {pc : Nat} (h : DkAt code pc [173]) : decode code pc = .ok (.lreturn, 1) := dk_of ((dk_bind (dk_u1 (h 0 _ rfl))).trans rfl)
theorem dk_176 {code : ByteArray} {pc : Nat} (h : DkAt code pc [176]) : decode code pc = .ok (.areturn, 1) := dk_of ((dk_bind (dk_u1 (h 0 _ rfl))).trans rfl)
theorem dk_177 {code : ByteArray} {pc : Nat} (h : DkAt code pc [177]) : decode code pc = .ok (.return_, 1) := dk_of ((dk_bind (dk_u1 (h 0 _ rfl))).trans rfl)
theorem dk_178 {code : ByteArray} {pc : Nat} (a b : UInt8) (h : DkAt code pc [178, a, b]) : decode code pc = .ok (.getstatic (a.toNat * 256 + b.toNat), 3) := dk_of ((dk_bind (dk_u1 (h 0 _ rfl))).trans ((dk_bind (dk_u2 (h 1 _ rfl) (h 2 _ rfl))).trans rfl))
theorem dk_180 {code : ByteArray} {pc : Nat} (a b : UInt8) (h : DkAt code pc [180, a, b]) : decode code pc = .ok (.getfield (a.toNat * 256 + b.toNat), 3) := dk_of ((dk_bind (dk_u1 (h 0 _ rfl))).trans ((dk_bind (dk_u2 (h 1 _ rfl) (h 2 _ rfl))).trans rfl))
theorem dk_181 {code : ByteArray} {pc : Nat} (a b : UInt8) (h : DkAt code pc [181, a, b]) : decode code pc = .ok (.putfield (a.toNat * 256 + b.toNat), 3) := dk_of ((dk_bind (dk_u1 (h 0 _ rfl))).trans ((dk_bind (dk_u2 (h 1 _ rfl) (h 2 _ rfl))).trans rfl))
theorem dk_182 {code : ByteArray} {pc : Nat} (a b : UInt8) (h : DkAt code pc [182, a, b]) : decode code pc = .ok (.invokevirtual (a.toNat * 256 + b.toNat), 3) := dk_of ((dk_bind (dk_u1 (h 0 _ rfl))).trans ((dk_bind (dk_u2 (h 1 _ rfl) (h 2 _ rfl))).trans rfl))
theorem dk_183 {code : ByteArray} {pc : Nat} (a b : UInt8) (h : DkAt code pc [183, a, b]) : decode code pc = .ok (.invokespecial (a.toNat * 256 + b.toNat), 3) := dk_of ((dk_bind (dk_u1 (h 0 _ rfl))).trans ((dk_bind (dk_u2 (h 1 _ rfl) (h 2 _ rfl))).trans rfl))
theorem dk_184 {code : ByteArray} {pc : Nat} (a b : UInt8) (h : DkAt code pc [184, a, b]) : decode code pc = .ok (.invokestatic (a.toNat * 256 + b.toNat), 3) := dk_of ((dk_bind (dk_u1 (h 0 _ rfl))).trans ((dk_bind (dk_u2 (h 1 _ rfl) (h 2 _ rfl))).trans rfl))
theorem dk_187 {code : ByteArray} {pc : Nat} (a b : UInt8) (h : DkAt code pc [187, a, b]) : decode code pc = .ok (.new (a.toNat * 256 + b.toNat), 3) := dk_of ((dk_bind (dk_u1 (h 0 _ rfl))).trans ((dk_bind (dk_u2 (h 1 _ rfl) (h 2 _ rfl))).trans rfl))
theorem dk_189 {code : ByteArray} {pc : Nat} (a b : UInt8) (h : DkAt code pc [189, a, b]) : decode code pc = .ok (.anewarray (a.toNat * 256 + b.toNat), 3) := dk_of ((dk_bind (dk_u1 (h 0 _ rfl))).trans ((dk_bind (dk_u2 (h 1 _ rfl) (h 2 _ rfl))).trans rfl))
theorem dk_190 {code : ByteArray} {pc : Nat} (h : DkAt code pc [190]) : decode code pc = .ok (.arraylength, 1) := dk_of ((dk_bind (dk_u1 (h 0 _ rfl))).trans rfl)
theorem dk_191 {code : ByteArray} {pc : Nat} (h : DkAt code pc [191]) : decode code pc = .ok (.athrow, 1) := dk_of ((dk_bind (dk_u1 (h 0 _ rfl))).trans rfl)
end
section
/-! java/lang/Object -/
set_option maxRecDepth 100000
def RJ4 : String := "java/lang/Object"
abbrev cJ4_init : ByteArray := object_method_1_code
def yJ4_init : MethodName := ⟨RJ4, "<init>", "()V"⟩
theorem dJ4_init_0 : decode cJ4_init 0 = .ok (.return_, 1) := by decide +kernel
theorem q17 : (Jvm.Cond.instanceMethod ({ cls := "java/lang/Object", name := "<init>", desc := "()V" } : Jvm.MethodName)) ∈ lw_all := lw_g (lw_at lw_m1 14 rfl) rfl
theorem q18 : (Jvm.Cond.code ({ cls := "java/lang/Object", name := "<init>", desc := "()V" } : Jvm.MethodName) object_method_1_code (1 : Nat) (Option.none : Option Jvm.ClassFile.FieldType)) ∈ lw_all := lw_g (lw_at lw_m1 15 rfl) rfl
/-! Jdk8Methods -/
set_option maxRecDepth 100000
def RX3 : String := "Jdk8Methods"
abbrev cX3_floorDiv : ByteArray := prog_3_method_3_code
def yX3_floorDiv : MethodName := ⟨RX3, "floorDiv", "(JJ)J"⟩
def dkwX3_floorDiv_0 : List UInt8 := [30, 9, 148, 155, 0, 9, 30, 32, 109, 167, 0, 10, 30, 10, 97, 32, 109, 10, 101, 173]
abbrev dktX3_floorDiv_0 : List UInt8 := dkwX3_floorDiv_0 ++ []
theorem dksX3_floorDiv_0 : cX3_floorDiv.data.toList.drop 0 = dktX3_floorDiv_0 := by decide +kernel
theorem dX3_floorDiv_0 : decode cX3_floorDiv 0 = .ok (.lload_n 0, 1) := dk_30 (dk_at dksX3_floorDiv_0 0 rfl rfl)
theorem dX3_floorDiv_1 : decode cX3_floorDiv 1 = .ok (.lconst 0, 1) := dk_9 (dk_at dksX3_floorDiv_0 1 rfl rfl)
theorem dX3_floorDiv_2 : decode cX3_floorDiv 2 = .ok (.lcmp, 1) := dk_148 (dk_at dksX3_floorDiv_0 2 rfl rfl)
theorem dX3_floorDiv_3 : decode cX3_floorDiv 3 = .ok (.ifCond .lt 9, 3) := dk_155 0 9 (dk_at dksX3_floorDiv_0 3 rfl rfl)
theorem dX3_floorDiv_6 : decode cX3_floorDiv 6 = .ok (.lload_n 0, 1) := dk_30 (dk_at dksX3_floorDiv_0 6 rfl rfl)
theorem dX3_floorDiv_7 : decode cX3_floorDiv 7 = .ok (.lload_n 2, 1) := dk_32 (dk_at dksX3_floorDiv_0 7 rfl rfl)
theorem dX3_floorDiv_8 : decode cX3_floorDiv 8 = .ok (.ldiv, 1) := dk_109 (dk_at dksX3_floorDiv_0 8 rfl rfl)
theorem dX3_floorDiv_9 : decode cX3_floorDiv 9 = .ok (.goto 10, 3) := dk_167 0 10 (dk_at dksX3_floorDiv_0 9 rfl rfl)
theorem dX3_floorDiv_12 : decode cX3_floorDiv 12 = .ok (.lload_n 0, 1) := dk_30 (dk_at dksX3_floorDiv_0 12 rfl rfl)
theorem dX3_floorDiv_13 : decode cX3_floorDiv 13 = .ok (.lconst 1, 1) := dk_10 (dk_at dksX3_floorDiv_0 13 rfl rfl)
theorem dX3_floorDiv_14 : decode cX3_floorDiv 14 = .ok (.ladd, 1) := dk_97 (dk_at dksX3_floorDiv_0 14 rfl rfl)
theorem dX3_floorDiv_15 : decode cX3_floorDiv 15 = .ok (.lload_n 2, 1) := dk_32 (dk_at dksX3_floorDiv_0 15 rfl rfl)
theorem dX3_floorDiv_16 : decode cX3_floorDiv 16 = .ok (.ldiv, 1) := dk_109 (dk_at dksX3_floorDiv_0 16 rfl rfl)
theorem dX3_floorDiv_17 : decode cX3_floorDiv 17 = .ok (.lconst 1, 1) := dk_10 (dk_at dksX3_floorDiv_0 17 rfl rfl)
theorem dX3_floorDiv_18 : decode cX3_floorDiv 18 = .ok (.lsub, 1) := dk_101 (dk_at dksX3_floorDiv_0 18 rfl rfl)
theorem dX3_floorDiv_19 : decode cX3_floorDiv 19 = .ok (.lreturn, 1) := dk_173 (dk_at dksX3_floorDiv_0 19 rfl rfl)
abbrev cX3_safeAdd : ByteArray := prog_3_method_2_code
def yX3_safeAdd : MethodName := ⟨RX3, "safeAdd", "(JJ)J"⟩
def dkwX3_safeAdd_1 : List UInt8 := [187, 0, 1, 89, 18, 3, 183, 0, 5, 191, 22, 4, 173]
abbrev dktX3_safeAdd_1 : List UInt8 := dkwX3_safeAdd_1 ++ []
def dkwX3_safeAdd_0 : List UInt8 := [30, 32, 97, 55, 4, 30, 22, 4, 131, 9, 148, 156, 0, 21, 30, 32, 131, 9, 148, 155, 0, 13]
abbrev dktX3_safeAdd_0 : List UInt8 := dkwX3_safeAdd_0 ++ dktX3_safeAdd_1
theorem dksX3_safeAdd_0 : cX3_safeAdd.data.toList.drop 0 = dktX3_safeAdd_0 := by decide +kernel
theorem dksX3_safeAdd_1 : cX3_safeAdd.data.toList.drop 22 = dktX3_safeAdd_1 := dk_seg dksX3_safeAdd_0 22 rfl rfl
theorem dX3_safeAdd_0 : decode cX3_safeAdd 0 = .ok (.lload_n 0, 1) := dk_30 (dk_at dksX3_safeAdd_0 0 rfl rfl)
theorem dX3_safeAdd_1 : decode cX3_safeAdd 1 = .ok (.lload_n 2, 1) := dk_32 (dk_at dksX3_safeAdd_0 1 rfl rfl)
theorem dX3_safeAdd_2 : decode cX3_safeAdd 2 = .ok (.ladd, 1) := dk_97 (dk_at dksX3_safeAdd_0 2 rfl rfl)
theorem dX3_safeAdd_3 : decode cX3_safeAdd 3 = .ok (.lstore 4, 2) := dk_55 4 (dk_at dksX3_safeAdd_0 3 rfl rfl)
theorem dX3_safeAdd_5 : decode cX3_safeAdd 5 = .ok (.lload_n 0, 1) := dk_30 (dk_at dksX3_safeAdd_0 5 rfl rfl)
theorem dX3_safeAdd_6 : decode cX3_safeAdd 6 = .ok (.lload 4, 2) := dk_22 4 (dk_at dksX3_safeAdd_0 6 rfl rfl)
theorem dX3_safeAdd_8 : decode cX3_safeAdd 8 = .ok (.lxor, 1) := dk_131 (dk_at dksX3_safeAdd_0 8 rfl rfl)
theorem dX3_safeAdd_9 : decode cX3_safeAdd 9 = .ok (.lconst 0, 1) := dk_9 (dk_at dksX3_safeAdd_0 9 rfl rfl)
theorem dX3_safeAdd_10 : decode cX3_safeAdd 10 = .ok (.lcmp, 1) := dk_148 (dk_at dksX3_safeAdd_0 10 rfl rfl)
theorem dX3_safeAdd_11 : decode cX3_safeAdd 11 = .ok (.ifCond .ge 21, 3) := dk_156 0 21 (dk_at dksX3_safeAdd_0 11 rfl rfl)
theorem dX3_safeAdd_14 : decode cX3_safeAdd 14 = .ok (.lload_n 0, 1) := dk_30 (dk_at dksX3_safeAdd_0 14 rfl rfl)
theorem dX3_safeAdd_15 : decode cX3_safeAdd 15 = .ok (.lload_n 2, 1) := dk_32 (dk_at dksX3_safeAdd_0 15 rfl rfl)
theorem dX3_safeAdd_16 : decode cX3_safeAdd 16 = .ok (.lxor, 1) := dk_131 (dk_at dksX3_safeAdd_0 16 rfl rfl)
theorem dX3_safeAdd_17 : decode cX3_safeAdd 17 = .ok (.lconst 0, 1) := dk_9 (dk_at dksX3_safeAdd_0 17 rfl rfl)
theorem dX3_safeAdd_18 : decode cX3_safeAdd 18 = .ok (.lcmp, 1) := dk_148 (dk_at dksX3_safeAdd_0 18 rfl rfl)
theorem dX3_safeAdd_19 : decode cX3_safeAdd 19 = .ok (.ifCond .lt 13, 3) := dk_155 0 13 (dk_at dksX3_safeAdd_0 19 rfl rfl)
theorem dX3_safeAdd_22 : decode cX3_safeAdd 22 = .ok (.new 1, 3) := dk_187 0 1 (dk_at dksX3_safeAdd_1 0 rfl rfl)
theorem dX3_safeAdd_25 : decode cX3_safeAdd 25 = .ok (.dup, 1) := dk_89 (dk_at dksX3_safeAdd_1 3 rfl rfl)
theorem dX3_safeAdd_26 : decode cX3_safeAdd 26 = .ok (.ldc 3, 2) := dk_18 3 (dk_at dksX3_safeAdd_1 4 rfl rfl)
theorem dX3_safeAdd_28 : decode cX3_safeAdd 28 = .ok (.invokespecial 5, 3) := dk_183 0 5 (dk_at dksX3_safeAdd_1 6 rfl rfl)
theorem dX3_safeAdd_31 : decode cX3_safeAdd 31 = .ok (.athrow, 1) := dk_191 (dk_at dksX3_safeAdd_1 9 rfl rfl)
theorem dX3_safeAdd_32 : decode cX3_safeAdd 32 = .ok (.lload 4, 2) := dk_22 4 (dk_at dksX3_safeAdd_1 10 rfl rfl)
theorem dX3_safeAdd_34 : decode cX3_safeAdd 34 = .ok (.lreturn, 1) := dk_173 (dk_at dksX3_safeAdd_1 12 rfl rfl)
abbrev cX3_floorMod : ByteArray := prog_3_method_4_code
def yX3_floorMod : MethodName := ⟨RX3, "floorMod", "(JI)I"⟩
def dkwX3_floorMod_0 : List UInt8 := [30, 28, 133, 113, 28, 133, 97, 28, 133, 113, 136, 172]
abbrev dktX3_floorMod_0 : List UInt8 := dkwX3_floorMod_0 ++ []
theorem dksX3_floorMod_0 : cX3_floorMod.data.toList.drop 0 = dktX3_floorMod_0 := by decide +kernel
theorem dX3_floorMod_0 : decode cX3_floorMod 0 = .ok (.lload_n 0, 1) := dk_30 (dk_at dksX3_floorMod_0 0 rfl rfl)
theorem dX3_floorMod_1 : decode cX3_floorMod 1 = .ok (.iload_n 2, 1) := dk_28 (dk_at dksX3_floorMod_0 1 rfl rfl)
theorem dX3_floorMod_2 : decode cX3_floorMod 2 = .ok (.i2l, 1) := dk_133 (dk_at dksX3_floorMod_0 2 rfl rfl)
theorem dX3_floorMod_3 : decode cX3_floorMod 3 = .ok (.lrem, 1) := dk_113 (dk_at dksX3_floorMod_0 3 rfl rfl)
theorem dX3_floorMod_4 : decode cX3_floorMod 4 = .ok (.iload_n 2, 1) := dk_28 (dk_at dksX3_floorMod_0 4 rfl rfl)
theorem dX3_floorMod_5 : decode cX3_floorMod 5 = .ok (.i2l, 1) := dk_133 (dk_at dksX3_floorMod_0 5 rfl rfl)
theorem dX3_floorMod_6 : decode cX3_floorMod 6 = .ok (.ladd, 1) := dk_97 (dk_at dksX3_floorMod_0 6 rfl rfl)
theorem dX3_floorMod_7 : decode cX3_floorMod 7 = .ok (.iload_n 2, 1) := dk_28 (dk_at dksX3_floorMod_0 7 rfl rfl)
theorem dX3_floorMod_8 : decode cX3_floorMod 8 = .ok (.i2l, 1) := dk_133 (dk_at dksX3_floorMod_0 8 rfl rfl)
theorem dX3_floorMod_9 : decode cX3_floorMod 9 = .ok (.lrem, 1) := dk_113 (dk_at dksX3_floorMod_0 9 rfl rfl)
theorem dX3_floorMod_10 : decode cX3_floorMod 10 = .ok (.l2i, 1) := dk_136 (dk_at dksX3_floorMod_0 10 rfl rfl)
theorem dX3_floorMod_11 : decode cX3_floorMod 11 = .ok (.ireturn, 1) := dk_172 (dk_at dksX3_floorMod_0 11 rfl rfl)
abbrev cX3_compareLongs : ByteArray := prog_3_method_1_code
def yX3_compareLongs : MethodName := ⟨RX3, "compareLongs", "(JJ)I"⟩
def dkwX3_compareLongs_0 : List UInt8 := [30, 32, 148, 156, 0, 5, 2, 172, 30, 32, 148, 158, 0, 5, 4, 172, 3, 172]
abbrev dktX3_compareLongs_0 : List UInt8 := dkwX3_compareLongs_0 ++ []
theorem dksX3_compareLongs_0 : cX3_compareLongs.data.toList.drop 0 = dktX3_compareLongs_0 := by decide +kernel
theorem dX3_compareLongs_0 : decode cX3_compareLongs 0 = .ok (.lload_n 0, 1) := dk_30 (dk_at dksX3_compareLongs_0 0 rfl rfl)
theorem dX3_compareLongs_1 : decode cX3_compareLongs 1 = .ok (.lload_n 2, 1) := dk_32 (dk_at dksX3_compareLongs_0 1 rfl rfl)
theorem dX3_compareLongs_2 : decode cX3_compareLongs 2 = .ok (.lcmp, 1) := dk_148 (dk_at dksX3_compareLongs_0 2 rfl rfl)
theorem dX3_compareLongs_3 : decode cX3_compareLongs 3 = .ok (.ifCond .ge 5, 3) := dk_156 0 5 (dk_at dksX3_compareLongs_0 3 rfl rfl)
theorem dX3_compareLongs_6 : decode cX3_compareLongs 6 = .ok (.iconst (-1), 1) := dk_2 (dk_at dksX3_compareLongs_0 6 rfl rfl)
theorem dX3_compareLongs_7 : decode cX3_compareLongs 7 = .ok (.ireturn, 1) := dk_172 (dk_at dksX3_compareLongs_0 7 rfl rfl)
theorem dX3_compareLongs_8 : decode cX3_compareLongs 8 = .ok (.lload_n 0, 1) := dk_30 (dk_at dksX3_compareLongs_0 8 rfl rfl)
theorem dX3_compareLongs_9 : decode cX3_compareLongs 9 = .ok (.lload_n 2, 1) := dk_32 (dk_at dksX3_compareLongs_0 9 rfl rfl)
theorem dX3_compareLongs_10 : decode cX3_compareLongs 10 = .ok (.lcmp, 1) := dk_148 (dk_at dksX3_compareLongs_0 10 rfl rfl)
theorem dX3_compareLongs_11 : decode cX3_compareLongs 11 = .ok (.ifCond .le 5, 3) := dk_158 0 5 (dk_at dksX3_compareLongs_0 11 rfl rfl)
theorem dX3_compareLongs_14 : decode cX3_compareLongs 14 = .ok (.iconst 1, 1) := dk_4 (dk_at dksX3_compareLongs_0 14 rfl rfl)
theorem dX3_compareLongs_15 : decode cX3_compareLongs 15 = .ok (.ireturn, 1) := dk_172 (dk_at dksX3_compareLongs_0 15 rfl rfl)
theorem dX3_compareLongs_16 : decode cX3_compareLongs 16 = .ok (.iconst 0, 1) := dk_3 (dk_at dksX3_compareLongs_0 16 rfl rfl)
theorem dX3_compareLongs_17 : decode cX3_compareLongs 17 = .ok (.ireturn, 1) := dk_172 (dk_at dksX3_compareLongs_0 17 rfl rfl)
theorem q6 : (Jvm.Cond.initialized "Jdk8Methods") ∈ lw_all := lw_g (lw_at lw_m1 3 rfl) rfl
theorem q26 : (Jvm.Cond.static ({ cls := "Jdk8Methods", name := "floorDiv", desc := "(JJ)J" } : Jvm.MethodName)) ∈ lw_all := lw_g (lw_at lw_m1 23 rfl) rfl
theorem q27 : (Jvm.Cond.code ({ cls := "Jdk8Methods", name := "floorDiv", desc := "(JJ)J" } : Jvm.MethodName) prog_3_method_3_code (4 : Nat) (Option.some Jvm.ClassFile.FieldType.long)) ∈ lw_all := lw_g (lw_at lw_m1 24 rfl) rfl
theorem q29 : (Jvm.Cond.static ({ cls := "Jdk8Methods", name := "safeAdd", desc := "(JJ)J" } : Jvm.MethodName)) ∈ lw_all := lw_g (lw_at lw_m1 26 rfl) rfl
theorem q30 : (Jvm.Cond.code ({ cls := "Jdk8Methods", name := "safeAdd", desc := "(JJ)J" } : Jvm.MethodName) prog_3_method_2_code (6 : Nat) (Option.some Jvm.ClassFile.FieldType.long)) ∈ lw_all := lw_g (lw_at lw_m1 27 rfl) rfl
theorem q31 : (Jvm.Cond.classLink "Jdk8Methods" (1 : Nat) "java/lang/ArithmeticException") ∈ lw_all := lw_g (lw_at lw_m1 28 rfl) rfl
theorem q70 : (Jvm.Cond.stringRef "Jdk8Methods" (3 : Nat) "left out") ∈ lw_tbl := lw_at lw_m1 67 rfl
theorem q71 : (Jvm.Cond.methodLink "Jdk8Methods" (5 : Nat) ({ cls := "java/lang/ArithmeticException", name := "<init>", desc := "(Ljava/lang/String;)V" } : Jvm.MethodName)) ∈ lw_all := lw_g (lw_at lw_m1 68 rfl) rfl
theorem q99 : (Jvm.Cond.static ({ cls := "Jdk8Methods", name := "floorMod", desc := "(JI)I" } : Jvm.MethodName)) ∈ lw_all := lw_g (lw_at lw_m1 96 rfl) rfl
theorem q100 : (Jvm.Cond.code ({ cls := "Jdk8Methods", name := "floorMod", desc := "(JI)I" } : Jvm.MethodName) prog_3_method_4_code (3 : Nat) (Option.some Jvm.ClassFile.FieldType.int)) ∈ lw_all := lw_g (lw_at lw_m1 97 rfl) rfl
theorem q199 : (Jvm.Cond.static ({ cls := "Jdk8Methods", name := "compareLongs", desc := "(JJ)I" } : Jvm.MethodName)) ∈ lw_all := lw_g (lw_at lw_m1 196 rfl) rfl
theorem q200 : (Jvm.Cond.code ({ cls := "Jdk8Methods", name := "compareLongs", desc := "(JJ)I" } : Jvm.MethodName) prog_3_method_1_code (4 : Nat) (Option.some Jvm.ClassFile.FieldType.int)) ∈ lw_all := lw_g (lw_at lw_m1 197 rfl) rfl
/-! Duration -/
set_option maxRecDepth 100000
def RX2 : String := "Duration"
def TX2 : u_T := fun k => match k with
  | 0 => ("Duration", "seconds", "J", true)
  | _ => ("Duration", "nanos", "I", true)
def tyX2 : Nat → FieldType := fun k => match k with
  | 0 => .long
  | _ => .int
abbrev wsX20 : List Cond := u_ws RX2 TX2 2
theorem nmX2 : ∀ a, a < 2 → ∀ b, b < 2 → a ≠ b → (TX2 a).2.1 ≠ (TX2 b).2.1 := by decide +kernel
theorem tyX2_ok : ∀ k, k < 2 → parseFieldDescriptor (TX2 k).2.2.1 = some (tyX2 k) := by decide +kernel
abbrev cX2_ofSeconds : ByteArray := prog_2_method_1_code
def yX2_ofSeconds : MethodName := ⟨RX2, "ofSeconds", "(JJ)LDuration;"⟩
def dkwX2_ofSeconds_1 : List UInt8 := [21, 6, 184, 0, 19, 176]
abbrev dktX2_ofSeconds_1 : List UInt8 := dkwX2_ofSeconds_1 ++ []
def dkwX2_ofSeconds_0 : List UInt8 := [30, 32, 20, 0, 3, 184, 0, 5, 184, 0, 11, 55, 4, 32, 18, 14, 184, 0, 15, 54, 6, 22, 4]
abbrev dktX2_ofSeconds_0 : List UInt8 := dkwX2_ofSeconds_0 ++ dktX2_ofSeconds_1
theorem dksX2_ofSeconds_0 : cX2_ofSeconds.data.toList.drop 0 = dktX2_ofSeconds_0 := by decide +kernel
theorem dksX2_ofSeconds_1 : cX2_ofSeconds.data.toList.drop 23 = dktX2_ofSeconds_1 := dk_seg dksX2_ofSeconds_0 23 rfl rfl
theorem dX2_ofSeconds_0 : decode cX2_ofSeconds 0 = .ok (.lload_n 0, 1) := dk_30 (dk_at dksX2_ofSeconds_0 0 rfl rfl)
theorem dX2_ofSeconds_1 : decode cX2_ofSeconds 1 = .ok (.lload_n 2, 1) := dk_32 (dk_at dksX2_ofSeconds_0 1 rfl rfl)
theorem dX2_ofSeconds_2 : decode cX2_ofSeconds 2 = .ok (.ldc2_w 3, 3) := dk_20 0 3 (dk_at dksX2_ofSeconds_0 2 rfl rfl)
theorem dX2_ofSeconds_5 : decode cX2_ofSeconds 5 = .ok (.invokestatic 5, 3) := dk_184 0 5 (dk_at dksX2_ofSeconds_0 5 rfl rfl)
theorem dX2_ofSeconds_8 : decode cX2_ofSeconds 8 = .ok (.invokestatic 11, 3) := dk_184 0 11 (dk_at dksX2_ofSeconds_0 8 rfl rfl)
theorem dX2_ofSeconds_11 : decode cX2_ofSeconds 11 = .ok (.lstore 4, 2) := dk_55 4 (dk_at dksX2_ofSeconds_0 11 rfl rfl)
theorem dX2_ofSeconds_13 : decode cX2_ofSeconds 13 = .ok (.lload_n 2, 1) := dk_32 (dk_at dksX2_ofSeconds_0 13 rfl rfl)
theorem dX2_ofSeconds_14 : decode cX2_ofSeconds 14 = .ok (.ldc 14, 2) := dk_18 14 (dk_at dksX2_ofSeconds_0 14 rfl rfl)
theorem dX2_ofSeconds_16 : decode cX2_ofSeconds 16 = .ok (.invokestatic 15, 3) := dk_184 0 15 (dk_at dksX2_ofSeconds_0 16 rfl rfl)
theorem dX2_ofSeconds_19 : decode cX2_ofSeconds 19 = .ok (.istore 6, 2) := dk_54 6 (dk_at dksX2_ofSeconds_0 19 rfl rfl)
theorem dX2_ofSeconds_21 : decode cX2_ofSeconds 21 = .ok (.lload 4, 2) := dk_22 4 (dk_at dksX2_ofSeconds_0 21 rfl rfl)
theorem dX2_ofSeconds_23 : decode cX2_ofSeconds 23 = .ok (.iload 6, 2) := dk_21 6 (dk_at dksX2_ofSeconds_1 0 rfl rfl)
theorem dX2_ofSeconds_25 : decode cX2_ofSeconds 25 = .ok (.invokestatic 19, 3) := dk_184 0 19 (dk_at dksX2_ofSeconds_1 2 rfl rfl)
theorem dX2_ofSeconds_28 : decode cX2_ofSeconds 28 = .ok (.areturn, 1) := dk_176 (dk_at dksX2_ofSeconds_1 5 rfl rfl)
abbrev cX2_create : ByteArray := prog_2_method_2_code
def yX2_create : MethodName := ⟨RX2, "create", "(JI)LDuration;"⟩
def dkwX2_create_0 : List UInt8 := [30, 28, 133, 129, 9, 148, 154, 0, 7, 178, 0, 23, 176, 187, 0, 1, 89, 30, 28, 183, 0, 27, 176]
abbrev dktX2_create_0 : List UInt8 := dkwX2_create_0 ++ []
theorem dksX2_create_0 : cX2_create.data.toList.drop 0 = dktX2_create_0 := by decide +kernel
theorem dX2_create_0 : decode cX2_create 0 = .ok (.lload_n 0, 1) := dk_30 (dk_at dksX2_create_0 0 rfl rfl)
theorem dX2_create_1 : decode cX2_create 1 = .ok (.iload_n 2, 1) := dk_28 (dk_at dksX2_create_0 1 rfl rfl)
theorem dX2_create_2 : decode cX2_create 2 = .ok (.i2l, 1) := dk_133 (dk_at dksX2_create_0 2 rfl rfl)
theorem dX2_create_3 : decode cX2_create 3 = .ok (.lor, 1) := dk_129 (dk_at dksX2_create_0 3 rfl rfl)
theorem dX2_create_4 : decode cX2_create 4 = .ok (.lconst 0, 1) := dk_9 (dk_at dksX2_create_0 4 rfl rfl)
theorem dX2_create_5 : decode cX2_create 5 = .ok (.lcmp, 1) := dk_148 (dk_at dksX2_create_0 5 rfl rfl)
theorem dX2_create_6 : decode cX2_create 6 = .ok (.ifCond .ne 7, 3) := dk_154 0 7 (dk_at dksX2_create_0 6 rfl rfl)
theorem dX2_create_9 : decode cX2_create 9 = .ok (.getstatic 23, 3) := dk_178 0 23 (dk_at dksX2_create_0 9 rfl rfl)
theorem dX2_create_12 : decode cX2_create 12 = .ok (.areturn, 1) := dk_176 (dk_at dksX2_create_0 12 rfl rfl)
theorem dX2_create_13 : decode cX2_create 13 = .ok (.new 1, 3) := dk_187 0 1 (dk_at dksX2_create_0 13 rfl rfl)
theorem dX2_create_16 : decode cX2_create 16 = .ok (.dup, 1) := dk_89 (dk_at dksX2_create_0 16 rfl rfl)
theorem dX2_create_17 : decode cX2_create 17 = .ok (.lload_n 0, 1) := dk_30 (dk_at dksX2_create_0 17 rfl rfl)
theorem dX2_create_18 : decode cX2_create 18 = .ok (.iload_n 2, 1) := dk_28 (dk_at dksX2_create_0 18 rfl rfl)
theorem dX2_create_19 : decode cX2_create 19 = .ok (.invokespecial 27, 3) := dk_183 0 27 (dk_at dksX2_create_0 19 rfl rfl)
theorem dX2_create_22 : decode cX2_create 22 = .ok (.areturn, 1) := dk_176 (dk_at dksX2_create_0 22 rfl rfl)
abbrev cX2_init : ByteArray := prog_2_method_3_code
def yX2_init : MethodName := ⟨RX2, "<init>", "(JI)V"⟩
def dkwX2_init_0 : List UInt8 := [42, 183, 0, 31, 42, 31, 181, 0, 36, 42, 29, 181, 0, 40, 177]
abbrev dktX2_init_0 : List UInt8 := dkwX2_init_0 ++ []
theorem dksX2_init_0 : cX2_init.data.toList.drop 0 = dktX2_init_0 := by decide +kernel
theorem dX2_init_0 : decode cX2_init 0 = .ok (.aload_n 0, 1) := dk_42 (dk_at dksX2_init_0 0 rfl rfl)
theorem dX2_init_1 : decode cX2_init 1 = .ok (.invokespecial 31, 3) := dk_183 0 31 (dk_at dksX2_init_0 1 rfl rfl)
theorem dX2_init_4 : decode cX2_init 4 = .ok (.aload_n 0, 1) := dk_42 (dk_at dksX2_init_0 4 rfl rfl)
theorem dX2_init_5 : decode cX2_init 5 = .ok (.lload_n 1, 1) := dk_31 (dk_at dksX2_init_0 5 rfl rfl)
theorem dX2_init_6 : decode cX2_init 6 = .ok (.putfield 36, 3) := dk_181 0 36 (dk_at dksX2_init_0 6 rfl rfl)
theorem dX2_init_9 : decode cX2_init 9 = .ok (.aload_n 0, 1) := dk_42 (dk_at dksX2_init_0 9 rfl rfl)
theorem dX2_init_10 : decode cX2_init 10 = .ok (.iload_n 3, 1) := dk_29 (dk_at dksX2_init_0 10 rfl rfl)
theorem dX2_init_11 : decode cX2_init 11 = .ok (.putfield 40, 3) := dk_181 0 40 (dk_at dksX2_init_0 11 rfl rfl)
theorem dX2_init_14 : decode cX2_init 14 = .ok (.return_, 1) := dk_177 (dk_at dksX2_init_0 14 rfl rfl)
abbrev cX2_getSeconds : ByteArray := prog_2_method_6_code
def yX2_getSeconds : MethodName := ⟨RX2, "getSeconds", "()J"⟩
theorem dX2_getSeconds_0 : decode cX2_getSeconds 0 = .ok (.aload_n 0, 1) := by decide +kernel
theorem dX2_getSeconds_1 : decode cX2_getSeconds 1 = .ok (.getfield 36, 3) := by decide +kernel
theorem dX2_getSeconds_4 : decode cX2_getSeconds 4 = .ok (.lreturn, 1) := by decide +kernel
abbrev cX2_getNano : ByteArray := prog_2_method_7_code
def yX2_getNano : MethodName := ⟨RX2, "getNano", "()I"⟩
theorem dX2_getNano_0 : decode cX2_getNano 0 = .ok (.aload_n 0, 1) := by decide +kernel
theorem dX2_getNano_1 : decode cX2_getNano 1 = .ok (.getfield 40, 3) := by decide +kernel
theorem dX2_getNano_4 : decode cX2_getNano 4 = .ok (.ireturn, 1) := by decide +kernel
abbrev cX2_isNegative : ByteArray := prog_2_method_5_code
def yX2_isNegative : MethodName := ⟨RX2, "isNegative", "()Z"⟩
def dkwX2_isNegative_0 : List UInt8 := [42, 180, 0, 36, 9, 148, 156, 0, 7, 4, 167, 0, 4, 3, 172]
abbrev dktX2_isNegative_0 : List UInt8 := dkwX2_isNegative_0 ++ []
theorem dksX2_isNegative_0 : cX2_isNegative.data.toList.drop 0 = dktX2_isNegative_0 := by decide +kernel
theorem dX2_isNegative_0 : decode cX2_isNegative 0 = .ok (.aload_n 0, 1) := dk_42 (dk_at dksX2_isNegative_0 0 rfl rfl)
theorem dX2_isNegative_1 : decode cX2_isNegative 1 = .ok (.getfield 36, 3) := dk_180 0 36 (dk_at dksX2_isNegative_0 1 rfl rfl)
theorem dX2_isNegative_4 : decode cX2_isNegative 4 = .ok (.lconst 0, 1) := dk_9 (dk_at dksX2_isNegative_0 4 rfl rfl)
theorem dX2_isNegative_5 : decode cX2_isNegative 5 = .ok (.lcmp, 1) := dk_148 (dk_at dksX2_isNegative_0 5 rfl rfl)
theorem dX2_isNegative_6 : decode cX2_isNegative 6 = .ok (.ifCond .ge 7, 3) := dk_156 0 7 (dk_at dksX2_isNegative_0 6 rfl rfl)
theorem dX2_isNegative_9 : decode cX2_isNegative 9 = .ok (.iconst 1, 1) := dk_4 (dk_at dksX2_isNegative_0 9 rfl rfl)
theorem dX2_isNegative_10 : decode cX2_isNegative 10 = .ok (.goto 4, 3) := dk_167 0 4 (dk_at dksX2_isNegative_0 10 rfl rfl)
theorem dX2_isNegative_13 : decode cX2_isNegative 13 = .ok (.iconst 0, 1) := dk_3 (dk_at dksX2_isNegative_0 13 rfl rfl)
theorem dX2_isNegative_14 : decode cX2_isNegative 14 = .ok (.ireturn, 1) := dk_172 (dk_at dksX2_isNegative_0 14 rfl rfl)
abbrev cX2_isZero : ByteArray := prog_2_method_4_code
def yX2_isZero : MethodName := ⟨RX2, "isZero", "()Z"⟩
def dkwX2_isZero_0 : List UInt8 := [42, 180, 0, 36, 42, 180, 0, 40, 133, 129, 9, 148, 154, 0, 7, 4, 167, 0, 4, 3, 172]
abbrev dktX2_isZero_0 : List UInt8 := dkwX2_isZero_0 ++ []
theorem dksX2_isZero_0 : cX2_isZero.data.toList.drop 0 = dktX2_isZero_0 := by decide +kernel
theorem dX2_isZero_0 : decode cX2_isZero 0 = .ok (.aload_n 0, 1) := dk_42 (dk_at dksX2_isZero_0 0 rfl rfl)
theorem dX2_isZero_1 : decode cX2_isZero 1 = .ok (.getfield 36, 3) := dk_180 0 36 (dk_at dksX2_isZero_0 1 rfl rfl)
theorem dX2_isZero_4 : decode cX2_isZero 4 = .ok (.aload_n 0, 1) := dk_42 (dk_at dksX2_isZero_0 4 rfl rfl)
theorem dX2_isZero_5 : decode cX2_isZero 5 = .ok (.getfield 40, 3) := dk_180 0 40 (dk_at dksX2_isZero_0 5 rfl rfl)
theorem dX2_isZero_8 : decode cX2_isZero 8 = .ok (.i2l, 1) := dk_133 (dk_at dksX2_isZero_0 8 rfl rfl)
theorem dX2_isZero_9 : decode cX2_isZero 9 = .ok (.lor, 1) := dk_129 (dk_at dksX2_isZero_0 9 rfl rfl)
theorem dX2_isZero_10 : decode cX2_isZero 10 = .ok (.lconst 0, 1) := dk_9 (dk_at dksX2_isZero_0 10 rfl rfl)
theorem dX2_isZero_11 : decode cX2_isZero 11 = .ok (.lcmp, 1) := dk_148 (dk_at dksX2_isZero_0 11 rfl rfl)
theorem dX2_isZero_12 : decode cX2_isZero 12 = .ok (.ifCond .ne 7, 3) := dk_154 0 7 (dk_at dksX2_isZero_0 12 rfl rfl)
theorem dX2_isZero_15 : decode cX2_isZero 15 = .ok (.iconst 1, 1) := dk_4 (dk_at dksX2_isZero_0 15 rfl rfl)
theorem dX2_isZero_16 : decode cX2_isZero 16 = .ok (.goto 4, 3) := dk_167 0 4 (dk_at dksX2_isZero_0 16 rfl rfl)
theorem dX2_isZero_19 : decode cX2_isZero 19 = .ok (.iconst 0, 1) := dk_3 (dk_at dksX2_isZero_0 19 rfl rfl)
theorem dX2_isZero_20 : decode cX2_isZero 20 = .ok (.ireturn, 1) := dk_172 (dk_at dksX2_isZero_0 20 rfl rfl)
abbrev cX2_toDays : ByteArray := prog_2_method_14_code
def yX2_toDays : MethodName := ⟨RX2, "toDays", "()J"⟩
def dkwX2_toDays_0 : List UInt8 := [42, 180, 0, 36, 20, 0, 71, 109, 173]
abbrev dktX2_toDays_0 : List UInt8 := dkwX2_toDays_0 ++ []
theorem dksX2_toDays_0 : cX2_toDays.data.toList.drop 0 = dktX2_toDays_0 := by decide +kernel
theorem dX2_toDays_0 : decode cX2_toDays 0 = .ok (.aload_n 0, 1) := dk_42 (dk_at dksX2_toDays_0 0 rfl rfl)
theorem dX2_toDays_1 : decode cX2_toDays 1 = .ok (.getfield 36, 3) := dk_180 0 36 (dk_at dksX2_toDays_0 1 rfl rfl)
theorem dX2_toDays_4 : decode cX2_toDays 4 = .ok (.ldc2_w 71, 3) := dk_20 0 71 (dk_at dksX2_toDays_0 4 rfl rfl)
theorem dX2_toDays_7 : decode cX2_toDays 7 = .ok (.ldiv, 1) := dk_109 (dk_at dksX2_toDays_0 7 rfl rfl)
theorem dX2_toDays_8 : decode cX2_toDays 8 = .ok (.lreturn, 1) := dk_173 (dk_at dksX2_toDays_0 8 rfl rfl)
abbrev cX2_toMinutes : ByteArray := prog_2_method_15_code
def yX2_toMinutes : MethodName := ⟨RX2, "toMinutes", "()J"⟩
def dkwX2_toMinutes_0 : List UInt8 := [42, 180, 0, 36, 20, 0, 73, 109, 173]
abbrev dktX2_toMinutes_0 : List UInt8 := dkwX2_toMinutes_0 ++ []
theorem dksX2_toMinutes_0 : cX2_toMinutes.data.toList.drop 0 = dktX2_toMinutes_0 := by decide +kernel
theorem dX2_toMinutes_0 : decode cX2_toMinutes 0 = .ok (.aload_n 0, 1) := dk_42 (dk_at dksX2_toMinutes_0 0 rfl rfl)
theorem dX2_toMinutes_1 : decode cX2_toMinutes 1 = .ok (.getfield 36, 3) := dk_180 0 36 (dk_at dksX2_toMinutes_0 1 rfl rfl)
theorem dX2_toMinutes_4 : decode cX2_toMinutes 4 = .ok (.ldc2_w 73, 3) := dk_20 0 73 (dk_at dksX2_toMinutes_0 4 rfl rfl)
theorem dX2_toMinutes_7 : decode cX2_toMinutes 7 = .ok (.ldiv, 1) := dk_109 (dk_at dksX2_toMinutes_0 7 rfl rfl)
theorem dX2_toMinutes_8 : decode cX2_toMinutes 8 = .ok (.lreturn, 1) := dk_173 (dk_at dksX2_toMinutes_0 8 rfl rfl)
abbrev cX2_compareTo : ByteArray := prog_2_method_16_code
def yX2_compareTo : MethodName := ⟨RX2, "compareTo", "(LDuration;)I"⟩
def dkwX2_compareTo_1 : List UInt8 := [180, 0, 40, 100, 172]
abbrev dktX2_compareTo_1 : List UInt8 := dkwX2_compareTo_1 ++ []
def dkwX2_compareTo_0 : List UInt8 := [42, 180, 0, 36, 43, 180, 0, 36, 184, 0, 75, 61, 28, 153, 0, 5, 28, 172, 42, 180, 0, 40, 43]
abbrev dktX2_compareTo_0 : List UInt8 := dkwX2_compareTo_0 ++ dktX2_compareTo_1
theorem dksX2_compareTo_0 : cX2_compareTo.data.toList.drop 0 = dktX2_compareTo_0 := by decide +kernel
theorem dksX2_compareTo_1 : cX2_compareTo.data.toList.drop 23 = dktX2_compareTo_1 := dk_seg dksX2_compareTo_0 23 rfl rfl
theorem dX2_compareTo_0 : decode cX2_compareTo 0 = .ok (.aload_n 0, 1) := dk_42 (dk_at dksX2_compareTo_0 0 rfl rfl)
theorem dX2_compareTo_1 : decode cX2_compareTo 1 = .ok (.getfield 36, 3) := dk_180 0 36 (dk_at dksX2_compareTo_0 1 rfl rfl)
theorem dX2_compareTo_4 : decode cX2_compareTo 4 = .ok (.aload_n 1, 1) := dk_43 (dk_at dksX2_compareTo_0 4 rfl rfl)
theorem dX2_compareTo_5 : decode cX2_compareTo 5 = .ok (.getfield 36, 3) := dk_180 0 36 (dk_at dksX2_compareTo_0 5 rfl rfl)
theorem dX2_compareTo_8 : decode cX2_compareTo 8 = .ok (.invokestatic 75, 3) := dk_184 0 75 (dk_at dksX2_compareTo_0 8 rfl rfl)
theorem dX2_compareTo_11 : decode cX2_compareTo 11 = .ok (.istore_n 2, 1) := dk_61 (dk_at dksX2_compareTo_0 11 rfl rfl)
theorem dX2_compareTo_12 : decode cX2_compareTo 12 = .ok (.iload_n 2, 1) := dk_28 (dk_at dksX2_compareTo_0 12 rfl rfl)
theorem dX2_compareTo_13 : decode cX2_compareTo 13 = .ok (.ifCond .eq 5, 3) := dk_153 0 5 (dk_at dksX2_compareTo_0 13 rfl rfl)
theorem dX2_compareTo_16 : decode cX2_compareTo 16 = .ok (.iload_n 2, 1) := dk_28 (dk_at dksX2_compareTo_0 16 rfl rfl)
theorem dX2_compareTo_17 : decode cX2_compareTo 17 = .ok (.ireturn, 1) := dk_172 (dk_at dksX2_compareTo_0 17 rfl rfl)
theorem dX2_compareTo_18 : decode cX2_compareTo 18 = .ok (.aload_n 0, 1) := dk_42 (dk_at dksX2_compareTo_0 18 rfl rfl)
theorem dX2_compareTo_19 : decode cX2_compareTo 19 = .ok (.getfield 40, 3) := dk_180 0 40 (dk_at dksX2_compareTo_0 19 rfl rfl)
theorem dX2_compareTo_22 : decode cX2_compareTo 22 = .ok (.aload_n 1, 1) := dk_43 (dk_at dksX2_compareTo_0 22 rfl rfl)
theorem dX2_compareTo_23 : decode cX2_compareTo 23 = .ok (.getfield 40, 3) := dk_180 0 40 (dk_at dksX2_compareTo_1 0 rfl rfl)
theorem dX2_compareTo_26 : decode cX2_compareTo 26 = .ok (.isub, 1) := dk_100 (dk_at dksX2_compareTo_1 3 rfl rfl)
theorem dX2_compareTo_27 : decode cX2_compareTo 27 = .ok (.ireturn, 1) := dk_172 (dk_at dksX2_compareTo_1 4 rfl rfl)
abbrev cX2_plus : ByteArray := prog_2_method_8_code
def yX2_plus : MethodName := ⟨RX2, "plus", "(LDuration;)LDuration;"⟩
def dkwX2_plus_0 : List UInt8 := [42, 43, 182, 0, 44, 43, 182, 0, 48, 133, 182, 0, 52, 176]
abbrev dktX2_plus_0 : List UInt8 := dkwX2_plus_0 ++ []
theorem dksX2_plus_0 : cX2_plus.data.toList.drop 0 = dktX2_plus_0 := by decide +kernel
theorem dX2_plus_0 : decode cX2_plus 0 = .ok (.aload_n 0, 1) := dk_42 (dk_at dksX2_plus_0 0 rfl rfl)
theorem dX2_plus_1 : decode cX2_plus 1 = .ok (.aload_n 1, 1) := dk_43 (dk_at dksX2_plus_0 1 rfl rfl)
theorem dX2_plus_2 : decode cX2_plus 2 = .ok (.invokevirtual 44, 3) := dk_182 0 44 (dk_at dksX2_plus_0 2 rfl rfl)
theorem dX2_plus_5 : decode cX2_plus 5 = .ok (.aload_n 1, 1) := dk_43 (dk_at dksX2_plus_0 5 rfl rfl)
theorem dX2_plus_6 : decode cX2_plus 6 = .ok (.invokevirtual 48, 3) := dk_182 0 48 (dk_at dksX2_plus_0 6 rfl rfl)
theorem dX2_plus_9 : decode cX2_plus 9 = .ok (.i2l, 1) := dk_133 (dk_at dksX2_plus_0 9 rfl rfl)
theorem dX2_plus_10 : decode cX2_plus 10 = .ok (.invokevirtual 52, 3) := dk_182 0 52 (dk_at dksX2_plus_0 10 rfl rfl)
theorem dX2_plus_13 : decode cX2_plus 13 = .ok (.areturn, 1) := dk_176 (dk_at dksX2_plus_0 13 rfl rfl)
abbrev cX2_plus_2 : ByteArray := prog_2_method_12_code
def yX2_plus_2 : MethodName := ⟨RX2, "plus", "(JJ)LDuration;"⟩
def dkwX2_plus_2_2 : List UInt8 := [22, 5, 22, 7, 184, 0, 60, 176]
abbrev dktX2_plus_2_2 : List UInt8 := dkwX2_plus_2_2 ++ []
def dkwX2_plus_2_1 : List UInt8 := [20, 0, 3, 109, 184, 0, 11, 55, 5, 33, 20, 0, 3, 113, 66, 42, 180, 0, 40, 133, 33, 97, 55, 7]
abbrev dktX2_plus_2_1 : List UInt8 := dkwX2_plus_2_1 ++ dktX2_plus_2_2
def dkwX2_plus_2_0 : List UInt8 := [31, 33, 129, 9, 148, 154, 0, 5, 42, 176, 42, 180, 0, 36, 31, 184, 0, 11, 55, 5, 22, 5, 33]
abbrev dktX2_plus_2_0 : List UInt8 := dkwX2_plus_2_0 ++ dktX2_plus_2_1
theorem dksX2_plus_2_0 : cX2_plus_2.data.toList.drop 0 = dktX2_plus_2_0 := by decide +kernel
theorem dksX2_plus_2_1 : cX2_plus_2.data.toList.drop 23 = dktX2_plus_2_1 := dk_seg dksX2_plus_2_0 23 rfl rfl
theorem dksX2_plus_2_2 : cX2_plus_2.data.toList.drop 47 = dktX2_plus_2_2 := dk_seg dksX2_plus_2_1 24 rfl rfl
theorem dX2_plus_2_0 : decode cX2_plus_2 0 = .ok (.lload_n 1, 1) := dk_31 (dk_at dksX2_plus_2_0 0 rfl rfl)
theorem dX2_plus_2_1 : decode cX2_plus_2 1 = .ok (.lload_n 3, 1) := dk_33 (dk_at dksX2_plus_2_0 1 rfl rfl)
theorem dX2_plus_2_2 : decode cX2_plus_2 2 = .ok (.lor, 1) := dk_129 (dk_at dksX2_plus_2_0 2 rfl rfl)
theorem dX2_plus_2_3 : decode cX2_plus_2 3 = .ok (.lconst 0, 1) := dk_9 (dk_at dksX2_plus_2_0 3 rfl rfl)
theorem dX2_plus_2_4 : decode cX2_plus_2 4 = .ok (.lcmp, 1) := dk_148 (dk_at dksX2_plus_2_0 4 rfl rfl)
theorem dX2_plus_2_5 : decode cX2_plus_2 5 = .ok (.ifCond .ne 5, 3) := dk_154 0 5 (dk_at dksX2_plus_2_0 5 rfl rfl)
theorem dX2_plus_2_8 : decode cX2_plus_2 8 = .ok (.aload_n 0, 1) := dk_42 (dk_at dksX2_plus_2_0 8 rfl rfl)
theorem dX2_plus_2_9 : decode cX2_plus_2 9 = .ok (.areturn, 1) := dk_176 (dk_at dksX2_plus_2_0 9 rfl rfl)
theorem dX2_plus_2_10 : decode cX2_plus_2 10 = .ok (.aload_n 0, 1) := dk_42 (dk_at dksX2_plus_2_0 10 rfl rfl)
theorem dX2_plus_2_11 : decode cX2_plus_2 11 = .ok (.getfield 36, 3) := dk_180 0 36 (dk_at dksX2_plus_2_0 11 rfl rfl)
theorem dX2_plus_2_14 : decode cX2_plus_2 14 = .ok (.lload_n 1, 1) := dk_31 (dk_at dksX2_plus_2_0 14 rfl rfl)
theorem dX2_plus_2_15 : decode cX2_plus_2 15 = .ok (.invokestatic 11, 3) := dk_184 0 11 (dk_at dksX2_plus_2_0 15 rfl rfl)
theorem dX2_plus_2_18 : decode cX2_plus_2 18 = .ok (.lstore 5, 2) := dk_55 5 (dk_at dksX2_plus_2_0 18 rfl rfl)
theorem dX2_plus_2_20 : decode cX2_plus_2 20 = .ok (.lload 5, 2) := dk_22 5 (dk_at dksX2_plus_2_0 20 rfl rfl)
theorem dX2_plus_2_22 : decode cX2_plus_2 22 = .ok (.lload_n 3, 1) := dk_33 (dk_at dksX2_plus_2_0 22 rfl rfl)
theorem dX2_plus_2_23 : decode cX2_plus_2 23 = .ok (.ldc2_w 3, 3) := dk_20 0 3 (dk_at dksX2_plus_2_1 0 rfl rfl)
theorem dX2_plus_2_26 : decode cX2_plus_2 26 = .ok (.ldiv, 1) := dk_109 (dk_at dksX2_plus_2_1 3 rfl rfl)
theorem dX2_plus_2_27 : decode cX2_plus_2 27 = .ok (.invokestatic 11, 3) := dk_184 0 11 (dk_at dksX2_plus_2_1 4 rfl rfl)
theorem dX2_plus_2_30 : decode cX2_plus_2 30 = .ok (.lstore 5, 2) := dk_55 5 (dk_at dksX2_plus_2_1 7 rfl rfl)
theorem dX2_plus_2_32 : decode cX2_plus_2 32 = .ok (.lload_n 3, 1) := dk_33 (dk_at dksX2_plus_2_1 9 rfl rfl)
theorem dX2_plus_2_33 : decode cX2_plus_2 33 = .ok (.ldc2_w 3, 3) := dk_20 0 3 (dk_at dksX2_plus_2_1 10 rfl rfl)
theorem dX2_plus_2_36 : decode cX2_plus_2 36 = .ok (.lrem, 1) := dk_113 (dk_at dksX2_plus_2_1 13 rfl rfl)
theorem dX2_plus_2_37 : decode cX2_plus_2 37 = .ok (.lstore_n 3, 1) := dk_66 (dk_at dksX2_plus_2_1 14 rfl rfl)
theorem dX2_plus_2_38 : decode cX2_plus_2 38 = .ok (.aload_n 0, 1) := dk_42 (dk_at dksX2_plus_2_1 15 rfl rfl)
theorem dX2_plus_2_39 : decode cX2_plus_2 39 = .ok (.getfield 40, 3) := dk_180 0 40 (dk_at dksX2_plus_2_1 16 rfl rfl)
theorem dX2_plus_2_42 : decode cX2_plus_2 42 = .ok (.i2l, 1) := dk_133 (dk_at dksX2_plus_2_1 19 rfl rfl)
theorem dX2_plus_2_43 : decode cX2_plus_2 43 = .ok (.lload_n 3, 1) := dk_33 (dk_at dksX2_plus_2_1 20 rfl rfl)
theorem dX2_plus_2_44 : decode cX2_plus_2 44 = .ok (.ladd, 1) := dk_97 (dk_at dksX2_plus_2_1 21 rfl rfl)
theorem dX2_plus_2_45 : decode cX2_plus_2 45 = .ok (.lstore 7, 2) := dk_55 7 (dk_at dksX2_plus_2_1 22 rfl rfl)
theorem dX2_plus_2_47 : decode cX2_plus_2 47 = .ok (.lload 5, 2) := dk_22 5 (dk_at dksX2_plus_2_2 0 rfl rfl)
theorem dX2_plus_2_49 : decode cX2_plus_2 49 = .ok (.lload 7, 2) := dk_22 7 (dk_at dksX2_plus_2_2 2 rfl rfl)
theorem dX2_plus_2_51 : decode cX2_plus_2 51 = .ok (.invokestatic 60, 3) := dk_184 0 60 (dk_at dksX2_plus_2_2 4 rfl rfl)
theorem dX2_plus_2_54 : decode cX2_plus_2 54 = .ok (.areturn, 1) := dk_176 (dk_at dksX2_plus_2_2 7 rfl rfl)
abbrev cX2_minus : ByteArray := prog_2_method_13_code
def yX2_minus : MethodName := ⟨RX2, "minus", "(LDuration;)LDuration;"⟩
def dkwX2_minus_1 : List UInt8 := [21, 4, 116, 133, 182, 0, 52, 10, 9, 182, 0, 52, 176, 42, 32, 117, 21, 4, 116, 133, 182, 0, 52, 176]
abbrev dktX2_minus_1 : List UInt8 := dkwX2_minus_1 ++ []
def dkwX2_minus_0 : List UInt8 := [43, 182, 0, 44, 65, 43, 182, 0, 48, 54, 4, 32, 20, 0, 65, 148, 154, 0, 20, 42, 20, 0, 67]
abbrev dktX2_minus_0 : List UInt8 := dkwX2_minus_0 ++ dktX2_minus_1
theorem dksX2_minus_0 : cX2_minus.data.toList.drop 0 = dktX2_minus_0 := by decide +kernel
theorem dksX2_minus_1 : cX2_minus.data.toList.drop 23 = dktX2_minus_1 := dk_seg dksX2_minus_0 23 rfl rfl
theorem dX2_minus_0 : decode cX2_minus 0 = .ok (.aload_n 1, 1) := dk_43 (dk_at dksX2_minus_0 0 rfl rfl)
theorem dX2_minus_1 : decode cX2_minus 1 = .ok (.invokevirtual 44, 3) := dk_182 0 44 (dk_at dksX2_minus_0 1 rfl rfl)
theorem dX2_minus_4 : decode cX2_minus 4 = .ok (.lstore_n 2, 1) := dk_65 (dk_at dksX2_minus_0 4 rfl rfl)
theorem dX2_minus_5 : decode cX2_minus 5 = .ok (.aload_n 1, 1) := dk_43 (dk_at dksX2_minus_0 5 rfl rfl)
theorem dX2_minus_6 : decode cX2_minus 6 = .ok (.invokevirtual 48, 3) := dk_182 0 48 (dk_at dksX2_minus_0 6 rfl rfl)
theorem dX2_minus_9 : decode cX2_minus 9 = .ok (.istore 4, 2) := dk_54 4 (dk_at dksX2_minus_0 9 rfl rfl)
theorem dX2_minus_11 : decode cX2_minus 11 = .ok (.lload_n 2, 1) := dk_32 (dk_at dksX2_minus_0 11 rfl rfl)
theorem dX2_minus_12 : decode cX2_minus 12 = .ok (.ldc2_w 65, 3) := dk_20 0 65 (dk_at dksX2_minus_0 12 rfl rfl)
theorem dX2_minus_15 : decode cX2_minus 15 = .ok (.lcmp, 1) := dk_148 (dk_at dksX2_minus_0 15 rfl rfl)
theorem dX2_minus_16 : decode cX2_minus 16 = .ok (.ifCond .ne 20, 3) := dk_154 0 20 (dk_at dksX2_minus_0 16 rfl rfl)
theorem dX2_minus_19 : decode cX2_minus 19 = .ok (.aload_n 0, 1) := dk_42 (dk_at dksX2_minus_0 19 rfl rfl)
theorem dX2_minus_20 : decode cX2_minus 20 = .ok (.ldc2_w 67, 3) := dk_20 0 67 (dk_at dksX2_minus_0 20 rfl rfl)
theorem dX2_minus_23 : decode cX2_minus 23 = .ok (.iload 4, 2) := dk_21 4 (dk_at dksX2_minus_1 0 rfl rfl)
theorem dX2_minus_25 : decode cX2_minus 25 = .ok (.ineg, 1) := dk_116 (dk_at dksX2_minus_1 2 rfl rfl)
theorem dX2_minus_26 : decode cX2_minus 26 = .ok (.i2l, 1) := dk_133 (dk_at dksX2_minus_1 3 rfl rfl)
theorem dX2_minus_27 : decode cX2_minus 27 = .ok (.invokevirtual 52, 3) := dk_182 0 52 (dk_at dksX2_minus_1 4 rfl rfl)
theorem dX2_minus_30 : decode cX2_minus 30 = .ok (.lconst 1, 1) := dk_10 (dk_at dksX2_minus_1 7 rfl rfl)
theorem dX2_minus_31 : decode cX2_minus 31 = .ok (.lconst 0, 1) := dk_9 (dk_at dksX2_minus_1 8 rfl rfl)
theorem dX2_minus_32 : decode cX2_minus 32 = .ok (.invokevirtual 52, 3) := dk_182 0 52 (dk_at dksX2_minus_1 9 rfl rfl)
theorem dX2_minus_35 : decode cX2_minus 35 = .ok (.areturn, 1) := dk_176 (dk_at dksX2_minus_1 12 rfl rfl)
theorem dX2_minus_36 : decode cX2_minus 36 = .ok (.aload_n 0, 1) := dk_42 (dk_at dksX2_minus_1 13 rfl rfl)
theorem dX2_minus_37 : decode cX2_minus 37 = .ok (.lload_n 2, 1) := dk_32 (dk_at dksX2_minus_1 14 rfl rfl)
theorem dX2_minus_38 : decode cX2_minus 38 = .ok (.lneg, 1) := dk_117 (dk_at dksX2_minus_1 15 rfl rfl)
theorem dX2_minus_39 : decode cX2_minus 39 = .ok (.iload 4, 2) := dk_21 4 (dk_at dksX2_minus_1 16 rfl rfl)
theorem dX2_minus_41 : decode cX2_minus 41 = .ok (.ineg, 1) := dk_116 (dk_at dksX2_minus_1 18 rfl rfl)
theorem dX2_minus_42 : decode cX2_minus 42 = .ok (.i2l, 1) := dk_133 (dk_at dksX2_minus_1 19 rfl rfl)
theorem dX2_minus_43 : decode cX2_minus 43 = .ok (.invokevirtual 52, 3) := dk_182 0 52 (dk_at dksX2_minus_1 20 rfl rfl)
theorem dX2_minus_46 : decode cX2_minus 46 = .ok (.areturn, 1) := dk_176 (dk_at dksX2_minus_1 23 rfl rfl)
abbrev cX2_plusSeconds : ByteArray := prog_2_method_9_code
def yX2_plusSeconds : MethodName := ⟨RX2, "plusSeconds", "(J)LDuration;"⟩
def dkwX2_plusSeconds_0 : List UInt8 := [42, 31, 9, 182, 0, 52, 176]
abbrev dktX2_plusSeconds_0 : List UInt8 := dkwX2_plusSeconds_0 ++ []
theorem dksX2_plusSeconds_0 : cX2_plusSeconds.data.toList.drop 0 = dktX2_plusSeconds_0 := by decide +kernel
theorem dX2_plusSeconds_0 : decode cX2_plusSeconds 0 = .ok (.aload_n 0, 1) := dk_42 (dk_at dksX2_plusSeconds_0 0 rfl rfl)
theorem dX2_plusSeconds_1 : decode cX2_plusSeconds 1 = .ok (.lload_n 1, 1) := dk_31 (dk_at dksX2_plusSeconds_0 1 rfl rfl)
theorem dX2_plusSeconds_2 : decode cX2_plusSeconds 2 = .ok (.lconst 0, 1) := dk_9 (dk_at dksX2_plusSeconds_0 2 rfl rfl)
theorem dX2_plusSeconds_3 : decode cX2_plusSeconds 3 = .ok (.invokevirtual 52, 3) := dk_182 0 52 (dk_at dksX2_plusSeconds_0 3 rfl rfl)
theorem dX2_plusSeconds_6 : decode cX2_plusSeconds 6 = .ok (.areturn, 1) := dk_176 (dk_at dksX2_plusSeconds_0 6 rfl rfl)
abbrev cX2_plusMillis : ByteArray := prog_2_method_10_code
def yX2_plusMillis : MethodName := ⟨RX2, "plusMillis", "(J)LDuration;"⟩
def dkwX2_plusMillis_0 : List UInt8 := [42, 31, 20, 0, 56, 109, 31, 20, 0, 56, 113, 20, 0, 58, 105, 182, 0, 52, 176]
abbrev dktX2_plusMillis_0 : List UInt8 := dkwX2_plusMillis_0 ++ []
theorem dksX2_plusMillis_0 : cX2_plusMillis.data.toList.drop 0 = dktX2_plusMillis_0 := by decide +kernel
theorem dX2_plusMillis_0 : decode cX2_plusMillis 0 = .ok (.aload_n 0, 1) := dk_42 (dk_at dksX2_plusMillis_0 0 rfl rfl)
theorem dX2_plusMillis_1 : decode cX2_plusMillis 1 = .ok (.lload_n 1, 1) := dk_31 (dk_at dksX2_plusMillis_0 1 rfl rfl)
theorem dX2_plusMillis_2 : decode cX2_plusMillis 2 = .ok (.ldc2_w 56, 3) := dk_20 0 56 (dk_at dksX2_plusMillis_0 2 rfl rfl)
theorem dX2_plusMillis_5 : decode cX2_plusMillis 5 = .ok (.ldiv, 1) := dk_109 (dk_at dksX2_plusMillis_0 5 rfl rfl)
theorem dX2_plusMillis_6 : decode cX2_plusMillis 6 = .ok (.lload_n 1, 1) := dk_31 (dk_at dksX2_plusMillis_0 6 rfl rfl)
theorem dX2_plusMillis_7 : decode cX2_plusMillis 7 = .ok (.ldc2_w 56, 3) := dk_20 0 56 (dk_at dksX2_plusMillis_0 7 rfl rfl)
theorem dX2_plusMillis_10 : decode cX2_plusMillis 10 = .ok (.lrem, 1) := dk_113 (dk_at dksX2_plusMillis_0 10 rfl rfl)
theorem dX2_plusMillis_11 : decode cX2_plusMillis 11 = .ok (.ldc2_w 58, 3) := dk_20 0 58 (dk_at dksX2_plusMillis_0 11 rfl rfl)
theorem dX2_plusMillis_14 : decode cX2_plusMillis 14 = .ok (.lmul, 1) := dk_105 (dk_at dksX2_plusMillis_0 14 rfl rfl)
theorem dX2_plusMillis_15 : decode cX2_plusMillis 15 = .ok (.invokevirtual 52, 3) := dk_182 0 52 (dk_at dksX2_plusMillis_0 15 rfl rfl)
theorem dX2_plusMillis_18 : decode cX2_plusMillis 18 = .ok (.areturn, 1) := dk_176 (dk_at dksX2_plusMillis_0 18 rfl rfl)
abbrev cX2_plusNanos : ByteArray := prog_2_method_11_code
def yX2_plusNanos : MethodName := ⟨RX2, "plusNanos", "(J)LDuration;"⟩
def dkwX2_plusNanos_0 : List UInt8 := [42, 9, 31, 182, 0, 52, 176]
abbrev dktX2_plusNanos_0 : List UInt8 := dkwX2_plusNanos_0 ++ []
theorem dksX2_plusNanos_0 : cX2_plusNanos.data.toList.drop 0 = dktX2_plusNanos_0 := by decide +kernel
theorem dX2_plusNanos_0 : decode cX2_plusNanos 0 = .ok (.aload_n 0, 1) := dk_42 (dk_at dksX2_plusNanos_0 0 rfl rfl)
theorem dX2_plusNanos_1 : decode cX2_plusNanos 1 = .ok (.lconst 0, 1) := dk_9 (dk_at dksX2_plusNanos_0 1 rfl rfl)
theorem dX2_plusNanos_2 : decode cX2_plusNanos 2 = .ok (.lload_n 1, 1) := dk_31 (dk_at dksX2_plusNanos_0 2 rfl rfl)
theorem dX2_plusNanos_3 : decode cX2_plusNanos 3 = .ok (.invokevirtual 52, 3) := dk_182 0 52 (dk_at dksX2_plusNanos_0 3 rfl rfl)
theorem dX2_plusNanos_6 : decode cX2_plusNanos 6 = .ok (.areturn, 1) := dk_176 (dk_at dksX2_plusNanos_0 6 rfl rfl)
theorem q5 : (Jvm.Cond.initialized "Duration") ∈ lw_all := lw_g (lw_at lw_m1 2 rfl) rfl
theorem q22 : (Jvm.Cond.static ({ cls := "Duration", name := "ofSeconds", desc := "(JJ)LDuration;" } : Jvm.MethodName)) ∈ lw_all := lw_g (lw_at lw_m1 19 rfl) rfl
theorem q23 : (Jvm.Cond.code ({ cls := "Duration", name := "ofSeconds", desc := "(JJ)LDuration;" } : Jvm.MethodName) prog_2_method_1_code (7 : Nat) (Option.some (Jvm.ClassFile.FieldType.object "Duration"))) ∈ lw_all := lw_g (lw_at lw_m1 20 rfl) rfl
theorem q24 : (Jvm.Cond.constantLong "Duration" (3 : Nat) (1000000000 : Int64)) ∈ lw_all := lw_g (lw_at lw_m1 21 rfl) rfl
theorem q25 : (Jvm.Cond.methodLink "Duration" (5 : Nat) ({ cls := "Jdk8Methods", name := "floorDiv", desc := "(JJ)J" } : Jvm.MethodName)) ∈ lw_all := lw_g (lw_at lw_m1 22 rfl) rfl
theorem q28 : (Jvm.Cond.methodLink "Duration" (11 : Nat) ({ cls := "Jdk8Methods", name := "safeAdd", desc := "(JJ)J" } : Jvm.MethodName)) ∈ lw_all := lw_g (lw_at lw_m1 25 rfl) rfl
theorem q97 : (Jvm.Cond.constant "Duration" (14 : Nat) (1000000000 : Int32)) ∈ lw_all := lw_g (lw_at lw_m1 94 rfl) rfl
theorem q98 : (Jvm.Cond.methodLink "Duration" (15 : Nat) ({ cls := "Jdk8Methods", name := "floorMod", desc := "(JI)I" } : Jvm.MethodName)) ∈ lw_all := lw_g (lw_at lw_m1 95 rfl) rfl
theorem q101 : (Jvm.Cond.methodLink "Duration" (19 : Nat) ({ cls := "Duration", name := "create", desc := "(JI)LDuration;" } : Jvm.MethodName)) ∈ lw_all := lw_g (lw_at lw_m1 98 rfl) rfl
theorem q102 : (Jvm.Cond.static ({ cls := "Duration", name := "create", desc := "(JI)LDuration;" } : Jvm.MethodName)) ∈ lw_all := lw_g (lw_at lw_m1 99 rfl) rfl
theorem q103 : (Jvm.Cond.code ({ cls := "Duration", name := "create", desc := "(JI)LDuration;" } : Jvm.MethodName) prog_2_method_2_code (3 : Nat) (Option.some (Jvm.ClassFile.FieldType.object "Duration"))) ∈ lw_all := lw_g (lw_at lw_m1 100 rfl) rfl
theorem q104 : (Jvm.Cond.fieldLink "Duration" (23 : Nat) "Duration" "ZERO" "LDuration;") ∈ lw_all := lw_g (lw_at lw_m1 101 rfl) rfl
theorem q105 : (Jvm.Cond.laysStatic "Duration" "ZERO" "LDuration;") ∈ lw_tbl := lw_at lw_m1 102 rfl
theorem q106 : (Jvm.Cond.classLink "Duration" (1 : Nat) "Duration") ∈ lw_all := lw_g (lw_at lw_m1 103 rfl) rfl
theorem q107 : (Jvm.Cond.instantiable "Duration" (2 : Nat)) ∈ lw_all := lw_g (lw_at lw_m1 104 rfl) rfl
theorem q108 : (Jvm.Cond.methodLink "Duration" (27 : Nat) ({ cls := "Duration", name := "<init>", desc := "(JI)V" } : Jvm.MethodName)) ∈ lw_all := lw_g (lw_at lw_m1 105 rfl) rfl
theorem q109 : (Jvm.Cond.instanceMethod ({ cls := "Duration", name := "<init>", desc := "(JI)V" } : Jvm.MethodName)) ∈ lw_all := lw_g (lw_at lw_m1 106 rfl) rfl
theorem q110 : (Jvm.Cond.code ({ cls := "Duration", name := "<init>", desc := "(JI)V" } : Jvm.MethodName) prog_2_method_3_code (4 : Nat) (Option.none : Option Jvm.ClassFile.FieldType)) ∈ lw_all := lw_g (lw_at lw_m1 107 rfl) rfl
theorem q111 : (Jvm.Cond.methodLink "Duration" (31 : Nat) ({ cls := "java/lang/Object", name := "<init>", desc := "()V" } : Jvm.MethodName)) ∈ lw_all := lw_g (lw_at lw_m1 108 rfl) rfl
theorem q112 : (Jvm.Cond.fieldLink "Duration" (36 : Nat) "Duration" "seconds" "J") ∈ lw_all := lw_g (lw_at lw_m1 109 rfl) rfl
theorem q113 : (Jvm.Cond.fieldLink "Duration" (40 : Nat) "Duration" "nanos" "I") ∈ lw_all := lw_g (lw_at lw_m1 110 rfl) rfl
theorem q114 : (Jvm.Cond.laysFinal "Duration" "Duration" "seconds" "J") ∈ lw_all := lw_g (lw_at lw_m1 111 rfl) rfl
theorem q115 : (Jvm.Cond.soleField "Duration" "seconds") ∈ lw_all := lw_g (lw_at lw_m1 112 rfl) rfl
theorem q116 : (Jvm.Cond.laysFinal "Duration" "Duration" "nanos" "I") ∈ lw_all := lw_g (lw_at lw_m1 113 rfl) rfl
theorem q117 : (Jvm.Cond.soleField "Duration" "nanos") ∈ lw_all := lw_g (lw_at lw_m1 114 rfl) rfl
theorem q118 : (Jvm.Cond.superclass "Duration" "java/lang/Object") ∈ lw_all := lw_g (lw_at lw_m1 115 rfl) rfl
theorem q143 : (Jvm.Cond.instanceMethod ({ cls := "Duration", name := "getSeconds", desc := "()J" } : Jvm.MethodName)) ∈ lw_all := lw_g (lw_at lw_m1 140 rfl) rfl
theorem q144 : (Jvm.Cond.selects "Duration" ({ cls := "Duration", name := "getSeconds", desc := "()J" } : Jvm.MethodName) ({ cls := "Duration", name := "getSeconds", desc := "()J" } : Jvm.MethodName)) ∈ lw_all := lw_g (lw_at lw_m1 141 rfl) rfl
theorem q145 : (Jvm.Cond.code ({ cls := "Duration", name := "getSeconds", desc := "()J" } : Jvm.MethodName) prog_2_method_6_code (1 : Nat) (Option.some Jvm.ClassFile.FieldType.long)) ∈ lw_all := lw_g (lw_at lw_m1 142 rfl) rfl
theorem q151 : (Jvm.Cond.instanceMethod ({ cls := "Duration", name := "getNano", desc := "()I" } : Jvm.MethodName)) ∈ lw_all := lw_g (lw_at lw_m1 148 rfl) rfl
theorem q152 : (Jvm.Cond.selects "Duration" ({ cls := "Duration", name := "getNano", desc := "()I" } : Jvm.MethodName) ({ cls := "Duration", name := "getNano", desc := "()I" } : Jvm.MethodName)) ∈ lw_all := lw_g (lw_at lw_m1 149 rfl) rfl
theorem q153 : (Jvm.Cond.code ({ cls := "Duration", name := "getNano", desc := "()I" } : Jvm.MethodName) prog_2_method_7_code (1 : Nat) (Option.some Jvm.ClassFile.FieldType.int)) ∈ lw_all := lw_g (lw_at lw_m1 150 rfl) rfl
theorem q159 : (Jvm.Cond.instanceMethod ({ cls := "Duration", name := "isNegative", desc := "()Z" } : Jvm.MethodName)) ∈ lw_all := lw_g (lw_at lw_m1 156 rfl) rfl
theorem q160 : (Jvm.Cond.selects "Duration" ({ cls := "Duration", name := "isNegative", desc := "()Z" } : Jvm.MethodName) ({ cls := "Duration", name := "isNegative", desc := "()Z" } : Jvm.MethodName)) ∈ lw_all := lw_g (lw_at lw_m1 157 rfl) rfl
theorem q161 : (Jvm.Cond.code ({ cls := "Duration", name := "isNegative", desc := "()Z" } : Jvm.MethodName) prog_2_method_5_code (1 : Nat) (Option.some Jvm.ClassFile.FieldType.boolean)) ∈ lw_all := lw_g (lw_at lw_m1 158 rfl) rfl
theorem q167 : (Jvm.Cond.instanceMethod ({ cls := "Duration", name := "isZero", desc := "()Z" } : Jvm.MethodName)) ∈ lw_all := lw_g (lw_at lw_m1 164 rfl) rfl
theorem q168 : (Jvm.Cond.selects "Duration" ({ cls := "Duration", name := "isZero", desc := "()Z" } : Jvm.MethodName) ({ cls := "Duration", name := "isZero", desc := "()Z" } : Jvm.MethodName)) ∈ lw_all := lw_g (lw_at lw_m1 165 rfl) rfl
theorem q169 : (Jvm.Cond.code ({ cls := "Duration", name := "isZero", desc := "()Z" } : Jvm.MethodName) prog_2_method_4_code (1 : Nat) (Option.some Jvm.ClassFile.FieldType.boolean)) ∈ lw_all := lw_g (lw_at lw_m1 166 rfl) rfl
theorem q175 : (Jvm.Cond.instanceMethod ({ cls := "Duration", name := "toDays", desc := "()J" } : Jvm.MethodName)) ∈ lw_all := lw_g (lw_at lw_m1 172 rfl) rfl
theorem q176 : (Jvm.Cond.selects "Duration" ({ cls := "Duration", name := "toDays", desc := "()J" } : Jvm.MethodName) ({ cls := "Duration", name := "toDays", desc := "()J" } : Jvm.MethodName)) ∈ lw_all := lw_g (lw_at lw_m1 173 rfl) rfl
theorem q177 : (Jvm.Cond.code ({ cls := "Duration", name := "toDays", desc := "()J" } : Jvm.MethodName) prog_2_method_14_code (1 : Nat) (Option.some Jvm.ClassFile.FieldType.long)) ∈ lw_all := lw_g (lw_at lw_m1 174 rfl) rfl
theorem q178 : (Jvm.Cond.constantLong "Duration" (71 : Nat) (86400 : Int64)) ∈ lw_all := lw_g (lw_at lw_m1 175 rfl) rfl
theorem q185 : (Jvm.Cond.instanceMethod ({ cls := "Duration", name := "toMinutes", desc := "()J" } : Jvm.MethodName)) ∈ lw_all := lw_g (lw_at lw_m1 182 rfl) rfl
theorem q186 : (Jvm.Cond.selects "Duration" ({ cls := "Duration", name := "toMinutes", desc := "()J" } : Jvm.MethodName) ({ cls := "Duration", name := "toMinutes", desc := "()J" } : Jvm.MethodName)) ∈ lw_all := lw_g (lw_at lw_m1 183 rfl) rfl
theorem q187 : (Jvm.Cond.code ({ cls := "Duration", name := "toMinutes", desc := "()J" } : Jvm.MethodName) prog_2_method_15_code (1 : Nat) (Option.some Jvm.ClassFile.FieldType.long)) ∈ lw_all := lw_g (lw_at lw_m1 184 rfl) rfl
theorem q188 : (Jvm.Cond.constantLong "Duration" (73 : Nat) (60 : Int64)) ∈ lw_all := lw_g (lw_at lw_m1 185 rfl) rfl
theorem q195 : (Jvm.Cond.instanceMethod ({ cls := "Duration", name := "compareTo", desc := "(LDuration;)I" } : Jvm.MethodName)) ∈ lw_all := lw_g (lw_at lw_m1 192 rfl) rfl
theorem q196 : (Jvm.Cond.selects "Duration" ({ cls := "Duration", name := "compareTo", desc := "(LDuration;)I" } : Jvm.MethodName) ({ cls := "Duration", name := "compareTo", desc := "(LDuration;)I" } : Jvm.MethodName)) ∈ lw_all := lw_g (lw_at lw_m1 193 rfl) rfl
theorem q197 : (Jvm.Cond.code ({ cls := "Duration", name := "compareTo", desc := "(LDuration;)I" } : Jvm.MethodName) prog_2_method_16_code (3 : Nat) (Option.some Jvm.ClassFile.FieldType.int)) ∈ lw_all := lw_g (lw_at lw_m1 194 rfl) rfl
theorem q198 : (Jvm.Cond.methodLink "Duration" (75 : Nat) ({ cls := "Jdk8Methods", name := "compareLongs", desc := "(JJ)I" } : Jvm.MethodName)) ∈ lw_all := lw_g (lw_at lw_m1 195 rfl) rfl
theorem q234 : (Jvm.Cond.instanceMethod ({ cls := "Duration", name := "plus", desc := "(LDuration;)LDuration;" } : Jvm.MethodName)) ∈ lw_all := lw_g (lw_at lw_m1 231 rfl) rfl
theorem q235 : (Jvm.Cond.selects "Duration" ({ cls := "Duration", name := "plus", desc := "(LDuration;)LDuration;" } : Jvm.MethodName) ({ cls := "Duration", name := "plus", desc := "(LDuration;)LDuration;" } : Jvm.MethodName)) ∈ lw_all := lw_g (lw_at lw_m1 232 rfl) rfl
theorem q236 : (Jvm.Cond.code ({ cls := "Duration", name := "plus", desc := "(LDuration;)LDuration;" } : Jvm.MethodName) prog_2_method_8_code (2 : Nat) (Option.some (Jvm.ClassFile.FieldType.object "Duration"))) ∈ lw_all := lw_g (lw_at lw_m1 233 rfl) rfl
theorem q237 : (Jvm.Cond.methodLink "Duration" (44 : Nat) ({ cls := "Duration", name := "getSeconds", desc := "()J" } : Jvm.MethodName)) ∈ lw_all := lw_g (lw_at lw_m1 234 rfl) rfl
theorem q238 : (Jvm.Cond.methodLink "Duration" (48 : Nat) ({ cls := "Duration", name := "getNano", desc := "()I" } : Jvm.MethodName)) ∈ lw_all := lw_g (lw_at lw_m1 235 rfl) rfl
theorem q239 : (Jvm.Cond.methodLink "Duration" (52 : Nat) ({ cls := "Duration", name := "plus", desc := "(JJ)LDuration;" } : Jvm.MethodName)) ∈ lw_all := lw_g (lw_at lw_m1 236 rfl) rfl
theorem q240 : (Jvm.Cond.privateMethod ({ cls := "Duration", name := "plus", desc := "(JJ)LDuration;" } : Jvm.MethodName)) ∈ lw_tbl := lw_at lw_m1 237 rfl
theorem q241 : (Jvm.Cond.instanceMethod ({ cls := "Duration", name := "plus", desc := "(JJ)LDuration;" } : Jvm.MethodName)) ∈ lw_all := lw_g (lw_at lw_m1 238 rfl) rfl
theorem q242 : (Jvm.Cond.code ({ cls := "Duration", name := "plus", desc := "(JJ)LDuration;" } : Jvm.MethodName) prog_2_method_12_code (9 : Nat) (Option.some (Jvm.ClassFile.FieldType.object "Duration"))) ∈ lw_all := lw_g (lw_at lw_m1 239 rfl) rfl
theorem q243 : (Jvm.Cond.methodLink "Duration" (60 : Nat) ({ cls := "Duration", name := "ofSeconds", desc := "(JJ)LDuration;" } : Jvm.MethodName)) ∈ lw_all := lw_g (lw_at lw_m2 0 rfl) rfl
theorem q249 : (Jvm.Cond.instanceMethod ({ cls := "Duration", name := "minus", desc := "(LDuration;)LDuration;" } : Jvm.MethodName)) ∈ lw_all := lw_g (lw_at lw_m2 6 rfl) rfl
theorem q250 : (Jvm.Cond.selects "Duration" ({ cls := "Duration", name := "minus", desc := "(LDuration;)LDuration;" } : Jvm.MethodName) ({ cls := "Duration", name := "minus", desc := "(LDuration;)LDuration;" } : Jvm.MethodName)) ∈ lw_all := lw_g (lw_at lw_m2 7 rfl) rfl
theorem q251 : (Jvm.Cond.code ({ cls := "Duration", name := "minus", desc := "(LDuration;)LDuration;" } : Jvm.MethodName) prog_2_method_13_code (5 : Nat) (Option.some (Jvm.ClassFile.FieldType.object "Duration"))) ∈ lw_all := lw_g (lw_at lw_m2 8 rfl) rfl
theorem q252 : (Jvm.Cond.constantLong "Duration" (65 : Nat) (-9223372036854775808 : Int64)) ∈ lw_all := lw_g (lw_at lw_m2 9 rfl) rfl
theorem q253 : (Jvm.Cond.constantLong "Duration" (67 : Nat) (9223372036854775807 : Int64)) ∈ lw_all := lw_g (lw_at lw_m2 10 rfl) rfl
theorem q259 : (Jvm.Cond.instanceMethod ({ cls := "Duration", name := "plusSeconds", desc := "(J)LDuration;" } : Jvm.MethodName)) ∈ lw_all := lw_g (lw_at lw_m2 16 rfl) rfl
theorem q260 : (Jvm.Cond.selects "Duration" ({ cls := "Duration", name := "plusSeconds", desc := "(J)LDuration;" } : Jvm.MethodName) ({ cls := "Duration", name := "plusSeconds", desc := "(J)LDuration;" } : Jvm.MethodName)) ∈ lw_all := lw_g (lw_at lw_m2 17 rfl) rfl
theorem q261 : (Jvm.Cond.code ({ cls := "Duration", name := "plusSeconds", desc := "(J)LDuration;" } : Jvm.MethodName) prog_2_method_9_code (3 : Nat) (Option.some (Jvm.ClassFile.FieldType.object "Duration"))) ∈ lw_all := lw_g (lw_at lw_m2 18 rfl) rfl
theorem q267 : (Jvm.Cond.instanceMethod ({ cls := "Duration", name := "plusMillis", desc := "(J)LDuration;" } : Jvm.MethodName)) ∈ lw_all := lw_g (lw_at lw_m2 24 rfl) rfl
theorem q268 : (Jvm.Cond.selects "Duration" ({ cls := "Duration", name := "plusMillis", desc := "(J)LDuration;" } : Jvm.MethodName) ({ cls := "Duration", name := "plusMillis", desc := "(J)LDuration;" } : Jvm.MethodName)) ∈ lw_all := lw_g (lw_at lw_m2 25 rfl) rfl
theorem q269 : (Jvm.Cond.code ({ cls := "Duration", name := "plusMillis", desc := "(J)LDuration;" } : Jvm.MethodName) prog_2_method_10_code (3 : Nat) (Option.some (Jvm.ClassFile.FieldType.object "Duration"))) ∈ lw_all := lw_g (lw_at lw_m2 26 rfl) rfl
theorem q270 : (Jvm.Cond.constantLong "Duration" (56 : Nat) (1000 : Int64)) ∈ lw_all := lw_g (lw_at lw_m2 27 rfl) rfl
theorem q271 : (Jvm.Cond.constantLong "Duration" (58 : Nat) (1000000 : Int64)) ∈ lw_all := lw_g (lw_at lw_m2 28 rfl) rfl
theorem q277 : (Jvm.Cond.instanceMethod ({ cls := "Duration", name := "plusNanos", desc := "(J)LDuration;" } : Jvm.MethodName)) ∈ lw_all := lw_g (lw_at lw_m2 34 rfl) rfl
theorem q278 : (Jvm.Cond.selects "Duration" ({ cls := "Duration", name := "plusNanos", desc := "(J)LDuration;" } : Jvm.MethodName) ({ cls := "Duration", name := "plusNanos", desc := "(J)LDuration;" } : Jvm.MethodName)) ∈ lw_all := lw_g (lw_at lw_m2 35 rfl) rfl
theorem q279 : (Jvm.Cond.code ({ cls := "Duration", name := "plusNanos", desc := "(J)LDuration;" } : Jvm.MethodName) prog_2_method_11_code (3 : Nat) (Option.some (Jvm.ClassFile.FieldType.object "Duration"))) ∈ lw_all := lw_g (lw_at lw_m2 36 rfl) rfl
theorem in_X2 : ∀ w ∈ wsX20, w ∈ lw_all := lw_in wsX20 [114, 116] (by decide +kernel) (by decide +kernel)
end
section
/-! SpanDesk -/
set_option maxRecDepth 100000
def RX1 : String := "SpanDesk"
def TX1 : u_T := fun k => match k with
  | _ => ("SpanDesk", "span", "[LDuration;", true)
def tyX1 : Nat → FieldType := fun k => match k with
  | _ => .array (.object "Duration")
abbrev wsX10 : List Cond := u_ws RX1 TX1 1
theorem nmX1 : ∀ a, a < 1 → ∀ b, b < 1 → a ≠ b → (TX1 a).2.1 ≠ (TX1 b).2.1 := by decide +kernel
theorem tyX1_ok : ∀ k, k < 1 → parseFieldDescriptor (TX1 k).2.2.1 = some (tyX1 k) := by decide +kernel
abbrev cX1_init : ByteArray := prog_5_method_1_code
def yX1_init : MethodName := ⟨RX1, "<init>", "()V"⟩
def dkwX1_init_1 : List UInt8 := [83, 181, 0, 13, 177]
abbrev dktX1_init_1 : List UInt8 := dkwX1_init_1 ++ []
def dkwX1_init_0 : List UInt8 := [42, 183, 0, 1, 42, 5, 189, 0, 7, 89, 3, 9, 9, 184, 0, 9, 83, 89, 4, 9, 9, 184, 0, 9]
abbrev dktX1_init_0 : List UInt8 := dkwX1_init_0 ++ dktX1_init_1
theorem dksX1_init_0 : cX1_init.data.toList.drop 0 = dktX1_init_0 := by decide +kernel
theorem dksX1_init_1 : cX1_init.data.toList.drop 24 = dktX1_init_1 := dk_seg dksX1_init_0 24 rfl rfl
theorem dX1_init_0 : decode cX1_init 0 = .ok (.aload_n 0, 1) := dk_42 (dk_at dksX1_init_0 0 rfl rfl)
theorem dX1_init_1 : decode cX1_init 1 = .ok (.invokespecial 1, 3) := dk_183 0 1 (dk_at dksX1_init_0 1 rfl rfl)
theorem dX1_init_4 : decode cX1_init 4 = .ok (.aload_n 0, 1) := dk_42 (dk_at dksX1_init_0 4 rfl rfl)
theorem dX1_init_5 : decode cX1_init 5 = .ok (.iconst 2, 1) := dk_5 (dk_at dksX1_init_0 5 rfl rfl)
theorem dX1_init_6 : decode cX1_init 6 = .ok (.anewarray 7, 3) := dk_189 0 7 (dk_at dksX1_init_0 6 rfl rfl)
theorem dX1_init_9 : decode cX1_init 9 = .ok (.dup, 1) := dk_89 (dk_at dksX1_init_0 9 rfl rfl)
theorem dX1_init_10 : decode cX1_init 10 = .ok (.iconst 0, 1) := dk_3 (dk_at dksX1_init_0 10 rfl rfl)
theorem dX1_init_11 : decode cX1_init 11 = .ok (.lconst 0, 1) := dk_9 (dk_at dksX1_init_0 11 rfl rfl)
theorem dX1_init_12 : decode cX1_init 12 = .ok (.lconst 0, 1) := dk_9 (dk_at dksX1_init_0 12 rfl rfl)
theorem dX1_init_13 : decode cX1_init 13 = .ok (.invokestatic 9, 3) := dk_184 0 9 (dk_at dksX1_init_0 13 rfl rfl)
theorem dX1_init_16 : decode cX1_init 16 = .ok (.aastore, 1) := dk_83 (dk_at dksX1_init_0 16 rfl rfl)
theorem dX1_init_17 : decode cX1_init 17 = .ok (.dup, 1) := dk_89 (dk_at dksX1_init_0 17 rfl rfl)
theorem dX1_init_18 : decode cX1_init 18 = .ok (.iconst 1, 1) := dk_4 (dk_at dksX1_init_0 18 rfl rfl)
theorem dX1_init_19 : decode cX1_init 19 = .ok (.lconst 0, 1) := dk_9 (dk_at dksX1_init_0 19 rfl rfl)
theorem dX1_init_20 : decode cX1_init 20 = .ok (.lconst 0, 1) := dk_9 (dk_at dksX1_init_0 20 rfl rfl)
theorem dX1_init_21 : decode cX1_init 21 = .ok (.invokestatic 9, 3) := dk_184 0 9 (dk_at dksX1_init_0 21 rfl rfl)
theorem dX1_init_24 : decode cX1_init 24 = .ok (.aastore, 1) := dk_83 (dk_at dksX1_init_1 0 rfl rfl)
theorem dX1_init_25 : decode cX1_init 25 = .ok (.putfield 13, 3) := dk_181 0 13 (dk_at dksX1_init_1 1 rfl rfl)
theorem dX1_init_28 : decode cX1_init 28 = .ok (.return_, 1) := dk_177 (dk_at dksX1_init_1 4 rfl rfl)
abbrev cX1_whole : ByteArray := prog_5_method_10_code
def yX1_whole : MethodName := ⟨RX1, "whole", "(I)J"⟩
def dkwX1_whole_0 : List UInt8 := [42, 180, 0, 13, 27, 4, 126, 50, 182, 0, 25, 173]
abbrev dktX1_whole_0 : List UInt8 := dkwX1_whole_0 ++ []
theorem dksX1_whole_0 : cX1_whole.data.toList.drop 0 = dktX1_whole_0 := by decide +kernel
theorem dX1_whole_0 : decode cX1_whole 0 = .ok (.aload_n 0, 1) := dk_42 (dk_at dksX1_whole_0 0 rfl rfl)
theorem dX1_whole_1 : decode cX1_whole 1 = .ok (.getfield 13, 3) := dk_180 0 13 (dk_at dksX1_whole_0 1 rfl rfl)
theorem dX1_whole_4 : decode cX1_whole 4 = .ok (.iload_n 1, 1) := dk_27 (dk_at dksX1_whole_0 4 rfl rfl)
theorem dX1_whole_5 : decode cX1_whole 5 = .ok (.iconst 1, 1) := dk_4 (dk_at dksX1_whole_0 5 rfl rfl)
theorem dX1_whole_6 : decode cX1_whole 6 = .ok (.iand, 1) := dk_126 (dk_at dksX1_whole_0 6 rfl rfl)
theorem dX1_whole_7 : decode cX1_whole 7 = .ok (.aaload, 1) := dk_50 (dk_at dksX1_whole_0 7 rfl rfl)
theorem dX1_whole_8 : decode cX1_whole 8 = .ok (.invokevirtual 25, 3) := dk_182 0 25 (dk_at dksX1_whole_0 8 rfl rfl)
theorem dX1_whole_11 : decode cX1_whole 11 = .ok (.lreturn, 1) := dk_173 (dk_at dksX1_whole_0 11 rfl rfl)
abbrev cX1_nano : ByteArray := prog_5_method_11_code
def yX1_nano : MethodName := ⟨RX1, "nano", "(I)I"⟩
def dkwX1_nano_0 : List UInt8 := [42, 180, 0, 13, 27, 4, 126, 50, 182, 0, 54, 172]
abbrev dktX1_nano_0 : List UInt8 := dkwX1_nano_0 ++ []
theorem dksX1_nano_0 : cX1_nano.data.toList.drop 0 = dktX1_nano_0 := by decide +kernel
theorem dX1_nano_0 : decode cX1_nano 0 = .ok (.aload_n 0, 1) := dk_42 (dk_at dksX1_nano_0 0 rfl rfl)
theorem dX1_nano_1 : decode cX1_nano 1 = .ok (.getfield 13, 3) := dk_180 0 13 (dk_at dksX1_nano_0 1 rfl rfl)
theorem dX1_nano_4 : decode cX1_nano 4 = .ok (.iload_n 1, 1) := dk_27 (dk_at dksX1_nano_0 4 rfl rfl)
theorem dX1_nano_5 : decode cX1_nano 5 = .ok (.iconst 1, 1) := dk_4 (dk_at dksX1_nano_0 5 rfl rfl)
theorem dX1_nano_6 : decode cX1_nano 6 = .ok (.iand, 1) := dk_126 (dk_at dksX1_nano_0 6 rfl rfl)
theorem dX1_nano_7 : decode cX1_nano 7 = .ok (.aaload, 1) := dk_50 (dk_at dksX1_nano_0 7 rfl rfl)
theorem dX1_nano_8 : decode cX1_nano 8 = .ok (.invokevirtual 54, 3) := dk_182 0 54 (dk_at dksX1_nano_0 8 rfl rfl)
theorem dX1_nano_11 : decode cX1_nano 11 = .ok (.ireturn, 1) := dk_172 (dk_at dksX1_nano_0 11 rfl rfl)
abbrev cX1_below : ByteArray := prog_5_method_12_code
def yX1_below : MethodName := ⟨RX1, "below", "(I)Z"⟩
def dkwX1_below_0 : List UInt8 := [42, 180, 0, 13, 27, 4, 126, 50, 182, 0, 58, 172]
abbrev dktX1_below_0 : List UInt8 := dkwX1_below_0 ++ []
theorem dksX1_below_0 : cX1_below.data.toList.drop 0 = dktX1_below_0 := by decide +kernel
theorem dX1_below_0 : decode cX1_below 0 = .ok (.aload_n 0, 1) := dk_42 (dk_at dksX1_below_0 0 rfl rfl)
theorem dX1_below_1 : decode cX1_below 1 = .ok (.getfield 13, 3) := dk_180 0 13 (dk_at dksX1_below_0 1 rfl rfl)
theorem dX1_below_4 : decode cX1_below 4 = .ok (.iload_n 1, 1) := dk_27 (dk_at dksX1_below_0 4 rfl rfl)
theorem dX1_below_5 : decode cX1_below 5 = .ok (.iconst 1, 1) := dk_4 (dk_at dksX1_below_0 5 rfl rfl)
theorem dX1_below_6 : decode cX1_below 6 = .ok (.iand, 1) := dk_126 (dk_at dksX1_below_0 6 rfl rfl)
theorem dX1_below_7 : decode cX1_below 7 = .ok (.aaload, 1) := dk_50 (dk_at dksX1_below_0 7 rfl rfl)
theorem dX1_below_8 : decode cX1_below 8 = .ok (.invokevirtual 58, 3) := dk_182 0 58 (dk_at dksX1_below_0 8 rfl rfl)
theorem dX1_below_11 : decode cX1_below 11 = .ok (.ireturn, 1) := dk_172 (dk_at dksX1_below_0 11 rfl rfl)
abbrev cX1_nought : ByteArray := prog_5_method_13_code
def yX1_nought : MethodName := ⟨RX1, "nought", "(I)Z"⟩
def dkwX1_nought_0 : List UInt8 := [42, 180, 0, 13, 27, 4, 126, 50, 182, 0, 61, 172]
abbrev dktX1_nought_0 : List UInt8 := dkwX1_nought_0 ++ []
theorem dksX1_nought_0 : cX1_nought.data.toList.drop 0 = dktX1_nought_0 := by decide +kernel
theorem dX1_nought_0 : decode cX1_nought 0 = .ok (.aload_n 0, 1) := dk_42 (dk_at dksX1_nought_0 0 rfl rfl)
theorem dX1_nought_1 : decode cX1_nought 1 = .ok (.getfield 13, 3) := dk_180 0 13 (dk_at dksX1_nought_0 1 rfl rfl)
theorem dX1_nought_4 : decode cX1_nought 4 = .ok (.iload_n 1, 1) := dk_27 (dk_at dksX1_nought_0 4 rfl rfl)
theorem dX1_nought_5 : decode cX1_nought 5 = .ok (.iconst 1, 1) := dk_4 (dk_at dksX1_nought_0 5 rfl rfl)
theorem dX1_nought_6 : decode cX1_nought 6 = .ok (.iand, 1) := dk_126 (dk_at dksX1_nought_0 6 rfl rfl)
theorem dX1_nought_7 : decode cX1_nought 7 = .ok (.aaload, 1) := dk_50 (dk_at dksX1_nought_0 7 rfl rfl)
theorem dX1_nought_8 : decode cX1_nought 8 = .ok (.invokevirtual 61, 3) := dk_182 0 61 (dk_at dksX1_nought_0 8 rfl rfl)
theorem dX1_nought_11 : decode cX1_nought 11 = .ok (.ireturn, 1) := dk_172 (dk_at dksX1_nought_0 11 rfl rfl)
abbrev cX1_days : ByteArray := prog_5_method_15_code
def yX1_days : MethodName := ⟨RX1, "days", "(I)J"⟩
def dkwX1_days_0 : List UInt8 := [42, 180, 0, 13, 27, 4, 126, 50, 182, 0, 68, 173]
abbrev dktX1_days_0 : List UInt8 := dkwX1_days_0 ++ []
theorem dksX1_days_0 : cX1_days.data.toList.drop 0 = dktX1_days_0 := by decide +kernel
theorem dX1_days_0 : decode cX1_days 0 = .ok (.aload_n 0, 1) := dk_42 (dk_at dksX1_days_0 0 rfl rfl)
theorem dX1_days_1 : decode cX1_days 1 = .ok (.getfield 13, 3) := dk_180 0 13 (dk_at dksX1_days_0 1 rfl rfl)
theorem dX1_days_4 : decode cX1_days 4 = .ok (.iload_n 1, 1) := dk_27 (dk_at dksX1_days_0 4 rfl rfl)
theorem dX1_days_5 : decode cX1_days 5 = .ok (.iconst 1, 1) := dk_4 (dk_at dksX1_days_0 5 rfl rfl)
theorem dX1_days_6 : decode cX1_days 6 = .ok (.iand, 1) := dk_126 (dk_at dksX1_days_0 6 rfl rfl)
theorem dX1_days_7 : decode cX1_days 7 = .ok (.aaload, 1) := dk_50 (dk_at dksX1_days_0 7 rfl rfl)
theorem dX1_days_8 : decode cX1_days 8 = .ok (.invokevirtual 68, 3) := dk_182 0 68 (dk_at dksX1_days_0 8 rfl rfl)
theorem dX1_days_11 : decode cX1_days 11 = .ok (.lreturn, 1) := dk_173 (dk_at dksX1_days_0 11 rfl rfl)
abbrev cX1_minutes : ByteArray := prog_5_method_16_code
def yX1_minutes : MethodName := ⟨RX1, "minutes", "(I)J"⟩
def dkwX1_minutes_0 : List UInt8 := [42, 180, 0, 13, 27, 4, 126, 50, 182, 0, 71, 173]
abbrev dktX1_minutes_0 : List UInt8 := dkwX1_minutes_0 ++ []
theorem dksX1_minutes_0 : cX1_minutes.data.toList.drop 0 = dktX1_minutes_0 := by decide +kernel
theorem dX1_minutes_0 : decode cX1_minutes 0 = .ok (.aload_n 0, 1) := dk_42 (dk_at dksX1_minutes_0 0 rfl rfl)
theorem dX1_minutes_1 : decode cX1_minutes 1 = .ok (.getfield 13, 3) := dk_180 0 13 (dk_at dksX1_minutes_0 1 rfl rfl)
theorem dX1_minutes_4 : decode cX1_minutes 4 = .ok (.iload_n 1, 1) := dk_27 (dk_at dksX1_minutes_0 4 rfl rfl)
theorem dX1_minutes_5 : decode cX1_minutes 5 = .ok (.iconst 1, 1) := dk_4 (dk_at dksX1_minutes_0 5 rfl rfl)
theorem dX1_minutes_6 : decode cX1_minutes 6 = .ok (.iand, 1) := dk_126 (dk_at dksX1_minutes_0 6 rfl rfl)
theorem dX1_minutes_7 : decode cX1_minutes 7 = .ok (.aaload, 1) := dk_50 (dk_at dksX1_minutes_0 7 rfl rfl)
theorem dX1_minutes_8 : decode cX1_minutes 8 = .ok (.invokevirtual 71, 3) := dk_182 0 71 (dk_at dksX1_minutes_0 8 rfl rfl)
theorem dX1_minutes_11 : decode cX1_minutes 11 = .ok (.lreturn, 1) := dk_173 (dk_at dksX1_minutes_0 11 rfl rfl)
abbrev cX1_order : ByteArray := prog_5_method_14_code
def yX1_order : MethodName := ⟨RX1, "order", "()I"⟩
def dkwX1_order_1 : List UInt8 := [27, 158, 0, 7, 4, 167, 0, 4, 3, 172]
abbrev dktX1_order_1 : List UInt8 := dkwX1_order_1 ++ []
def dkwX1_order_0 : List UInt8 := [42, 180, 0, 13, 3, 50, 42, 180, 0, 13, 4, 50, 182, 0, 64, 60, 27, 156, 0, 7, 2, 167, 0, 12]
abbrev dktX1_order_0 : List UInt8 := dkwX1_order_0 ++ dktX1_order_1
theorem dksX1_order_0 : cX1_order.data.toList.drop 0 = dktX1_order_0 := by decide +kernel
theorem dksX1_order_1 : cX1_order.data.toList.drop 24 = dktX1_order_1 := dk_seg dksX1_order_0 24 rfl rfl
theorem dX1_order_0 : decode cX1_order 0 = .ok (.aload_n 0, 1) := dk_42 (dk_at dksX1_order_0 0 rfl rfl)
theorem dX1_order_1 : decode cX1_order 1 = .ok (.getfield 13, 3) := dk_180 0 13 (dk_at dksX1_order_0 1 rfl rfl)
theorem dX1_order_4 : decode cX1_order 4 = .ok (.iconst 0, 1) := dk_3 (dk_at dksX1_order_0 4 rfl rfl)
theorem dX1_order_5 : decode cX1_order 5 = .ok (.aaload, 1) := dk_50 (dk_at dksX1_order_0 5 rfl rfl)
theorem dX1_order_6 : decode cX1_order 6 = .ok (.aload_n 0, 1) := dk_42 (dk_at dksX1_order_0 6 rfl rfl)
theorem dX1_order_7 : decode cX1_order 7 = .ok (.getfield 13, 3) := dk_180 0 13 (dk_at dksX1_order_0 7 rfl rfl)
theorem dX1_order_10 : decode cX1_order 10 = .ok (.iconst 1, 1) := dk_4 (dk_at dksX1_order_0 10 rfl rfl)
theorem dX1_order_11 : decode cX1_order 11 = .ok (.aaload, 1) := dk_50 (dk_at dksX1_order_0 11 rfl rfl)
theorem dX1_order_12 : decode cX1_order 12 = .ok (.invokevirtual 64, 3) := dk_182 0 64 (dk_at dksX1_order_0 12 rfl rfl)
theorem dX1_order_15 : decode cX1_order 15 = .ok (.istore_n 1, 1) := dk_60 (dk_at dksX1_order_0 15 rfl rfl)
theorem dX1_order_16 : decode cX1_order 16 = .ok (.iload_n 1, 1) := dk_27 (dk_at dksX1_order_0 16 rfl rfl)
theorem dX1_order_17 : decode cX1_order 17 = .ok (.ifCond .ge 7, 3) := dk_156 0 7 (dk_at dksX1_order_0 17 rfl rfl)
theorem dX1_order_20 : decode cX1_order 20 = .ok (.iconst (-1), 1) := dk_2 (dk_at dksX1_order_0 20 rfl rfl)
theorem dX1_order_21 : decode cX1_order 21 = .ok (.goto 12, 3) := dk_167 0 12 (dk_at dksX1_order_0 21 rfl rfl)
theorem dX1_order_24 : decode cX1_order 24 = .ok (.iload_n 1, 1) := dk_27 (dk_at dksX1_order_1 0 rfl rfl)
theorem dX1_order_25 : decode cX1_order 25 = .ok (.ifCond .le 7, 3) := dk_158 0 7 (dk_at dksX1_order_1 1 rfl rfl)
theorem dX1_order_28 : decode cX1_order 28 = .ok (.iconst 1, 1) := dk_4 (dk_at dksX1_order_1 4 rfl rfl)
theorem dX1_order_29 : decode cX1_order 29 = .ok (.goto 4, 3) := dk_167 0 4 (dk_at dksX1_order_1 5 rfl rfl)
theorem dX1_order_32 : decode cX1_order 32 = .ok (.iconst 0, 1) := dk_3 (dk_at dksX1_order_1 8 rfl rfl)
theorem dX1_order_33 : decode cX1_order 33 = .ok (.ireturn, 1) := dk_172 (dk_at dksX1_order_1 9 rfl rfl)
abbrev cX1_set : ByteArray := prog_5_method_3_code
def yX1_set : MethodName := ⟨RX1, "set", "(IIII)V"⟩
def dkwX1_set_0 : List UInt8 := [42, 180, 0, 13, 27, 4, 126, 28, 29, 184, 0, 21, 21, 4, 133, 184, 0, 9, 83, 177]
abbrev dktX1_set_0 : List UInt8 := dkwX1_set_0 ++ []
theorem dksX1_set_0 : cX1_set.data.toList.drop 0 = dktX1_set_0 := by decide +kernel
theorem dX1_set_0 : decode cX1_set 0 = .ok (.aload_n 0, 1) := dk_42 (dk_at dksX1_set_0 0 rfl rfl)
theorem dX1_set_1 : decode cX1_set 1 = .ok (.getfield 13, 3) := dk_180 0 13 (dk_at dksX1_set_0 1 rfl rfl)
theorem dX1_set_4 : decode cX1_set 4 = .ok (.iload_n 1, 1) := dk_27 (dk_at dksX1_set_0 4 rfl rfl)
theorem dX1_set_5 : decode cX1_set 5 = .ok (.iconst 1, 1) := dk_4 (dk_at dksX1_set_0 5 rfl rfl)
theorem dX1_set_6 : decode cX1_set 6 = .ok (.iand, 1) := dk_126 (dk_at dksX1_set_0 6 rfl rfl)
theorem dX1_set_7 : decode cX1_set 7 = .ok (.iload_n 2, 1) := dk_28 (dk_at dksX1_set_0 7 rfl rfl)
theorem dX1_set_8 : decode cX1_set 8 = .ok (.iload_n 3, 1) := dk_29 (dk_at dksX1_set_0 8 rfl rfl)
theorem dX1_set_9 : decode cX1_set 9 = .ok (.invokestatic 21, 3) := dk_184 0 21 (dk_at dksX1_set_0 9 rfl rfl)
theorem dX1_set_12 : decode cX1_set 12 = .ok (.iload 4, 2) := dk_21 4 (dk_at dksX1_set_0 12 rfl rfl)
theorem dX1_set_14 : decode cX1_set 14 = .ok (.i2l, 1) := dk_133 (dk_at dksX1_set_0 14 rfl rfl)
theorem dX1_set_15 : decode cX1_set 15 = .ok (.invokestatic 9, 3) := dk_184 0 9 (dk_at dksX1_set_0 15 rfl rfl)
theorem dX1_set_18 : decode cX1_set 18 = .ok (.aastore, 1) := dk_83 (dk_at dksX1_set_0 18 rfl rfl)
theorem dX1_set_19 : decode cX1_set 19 = .ok (.return_, 1) := dk_177 (dk_at dksX1_set_0 19 rfl rfl)
abbrev cX1_wide : ByteArray := prog_5_method_2_code
def yX1_wide : MethodName := ⟨RX1, "wide", "(II)J"⟩
def dkwX1_wide_0 : List UInt8 := [26, 16, 8, 122, 133, 16, 32, 121, 27, 133, 20, 0, 19, 127, 129, 173]
abbrev dktX1_wide_0 : List UInt8 := dkwX1_wide_0 ++ []
theorem dksX1_wide_0 : cX1_wide.data.toList.drop 0 = dktX1_wide_0 := by decide +kernel
theorem dX1_wide_0 : decode cX1_wide 0 = .ok (.iload_n 0, 1) := dk_26 (dk_at dksX1_wide_0 0 rfl rfl)
theorem dX1_wide_1 : decode cX1_wide 1 = .ok (.bipush 8, 2) := dk_16 8 (dk_at dksX1_wide_0 1 rfl rfl)
theorem dX1_wide_3 : decode cX1_wide 3 = .ok (.ishr, 1) := dk_122 (dk_at dksX1_wide_0 3 rfl rfl)
theorem dX1_wide_4 : decode cX1_wide 4 = .ok (.i2l, 1) := dk_133 (dk_at dksX1_wide_0 4 rfl rfl)
theorem dX1_wide_5 : decode cX1_wide 5 = .ok (.bipush 32, 2) := dk_16 32 (dk_at dksX1_wide_0 5 rfl rfl)
theorem dX1_wide_7 : decode cX1_wide 7 = .ok (.lshl, 1) := dk_121 (dk_at dksX1_wide_0 7 rfl rfl)
theorem dX1_wide_8 : decode cX1_wide 8 = .ok (.iload_n 1, 1) := dk_27 (dk_at dksX1_wide_0 8 rfl rfl)
theorem dX1_wide_9 : decode cX1_wide 9 = .ok (.i2l, 1) := dk_133 (dk_at dksX1_wide_0 9 rfl rfl)
theorem dX1_wide_10 : decode cX1_wide 10 = .ok (.ldc2_w 19, 3) := dk_20 0 19 (dk_at dksX1_wide_0 10 rfl rfl)
theorem dX1_wide_13 : decode cX1_wide 13 = .ok (.land, 1) := dk_127 (dk_at dksX1_wide_0 13 rfl rfl)
theorem dX1_wide_14 : decode cX1_wide 14 = .ok (.lor, 1) := dk_129 (dk_at dksX1_wide_0 14 rfl rfl)
theorem dX1_wide_15 : decode cX1_wide 15 = .ok (.lreturn, 1) := dk_173 (dk_at dksX1_wide_0 15 rfl rfl)
abbrev cX1_plus : ByteArray := prog_5_method_5_code
def yX1_plus : MethodName := ⟨RX1, "plus", "(I)Z"⟩
def dkwX1_plus_1 : List UInt8 := [42, 180, 0, 13, 27, 2, 130, 4, 126, 50, 182, 0, 37, 83, 4, 172]
abbrev dktX1_plus_1 : List UInt8 := dkwX1_plus_1 ++ []
def dkwX1_plus_0 : List UInt8 := [42, 182, 0, 33, 154, 0, 5, 3, 172, 42, 180, 0, 13, 27, 4, 126, 42, 180, 0, 13, 27, 4, 126, 50]
abbrev dktX1_plus_0 : List UInt8 := dkwX1_plus_0 ++ dktX1_plus_1
theorem dksX1_plus_0 : cX1_plus.data.toList.drop 0 = dktX1_plus_0 := by decide +kernel
theorem dksX1_plus_1 : cX1_plus.data.toList.drop 24 = dktX1_plus_1 := dk_seg dksX1_plus_0 24 rfl rfl
theorem dX1_plus_0 : decode cX1_plus 0 = .ok (.aload_n 0, 1) := dk_42 (dk_at dksX1_plus_0 0 rfl rfl)
theorem dX1_plus_1 : decode cX1_plus 1 = .ok (.invokevirtual 33, 3) := dk_182 0 33 (dk_at dksX1_plus_0 1 rfl rfl)
theorem dX1_plus_4 : decode cX1_plus 4 = .ok (.ifCond .ne 5, 3) := dk_154 0 5 (dk_at dksX1_plus_0 4 rfl rfl)
theorem dX1_plus_7 : decode cX1_plus 7 = .ok (.iconst 0, 1) := dk_3 (dk_at dksX1_plus_0 7 rfl rfl)
theorem dX1_plus_8 : decode cX1_plus 8 = .ok (.ireturn, 1) := dk_172 (dk_at dksX1_plus_0 8 rfl rfl)
theorem dX1_plus_9 : decode cX1_plus 9 = .ok (.aload_n 0, 1) := dk_42 (dk_at dksX1_plus_0 9 rfl rfl)
theorem dX1_plus_10 : decode cX1_plus 10 = .ok (.getfield 13, 3) := dk_180 0 13 (dk_at dksX1_plus_0 10 rfl rfl)
theorem dX1_plus_13 : decode cX1_plus 13 = .ok (.iload_n 1, 1) := dk_27 (dk_at dksX1_plus_0 13 rfl rfl)
theorem dX1_plus_14 : decode cX1_plus 14 = .ok (.iconst 1, 1) := dk_4 (dk_at dksX1_plus_0 14 rfl rfl)
theorem dX1_plus_15 : decode cX1_plus 15 = .ok (.iand, 1) := dk_126 (dk_at dksX1_plus_0 15 rfl rfl)
theorem dX1_plus_16 : decode cX1_plus 16 = .ok (.aload_n 0, 1) := dk_42 (dk_at dksX1_plus_0 16 rfl rfl)
theorem dX1_plus_17 : decode cX1_plus 17 = .ok (.getfield 13, 3) := dk_180 0 13 (dk_at dksX1_plus_0 17 rfl rfl)
theorem dX1_plus_20 : decode cX1_plus 20 = .ok (.iload_n 1, 1) := dk_27 (dk_at dksX1_plus_0 20 rfl rfl)
theorem dX1_plus_21 : decode cX1_plus 21 = .ok (.iconst 1, 1) := dk_4 (dk_at dksX1_plus_0 21 rfl rfl)
theorem dX1_plus_22 : decode cX1_plus 22 = .ok (.iand, 1) := dk_126 (dk_at dksX1_plus_0 22 rfl rfl)
theorem dX1_plus_23 : decode cX1_plus 23 = .ok (.aaload, 1) := dk_50 (dk_at dksX1_plus_0 23 rfl rfl)
theorem dX1_plus_24 : decode cX1_plus 24 = .ok (.aload_n 0, 1) := dk_42 (dk_at dksX1_plus_1 0 rfl rfl)
theorem dX1_plus_25 : decode cX1_plus 25 = .ok (.getfield 13, 3) := dk_180 0 13 (dk_at dksX1_plus_1 1 rfl rfl)
theorem dX1_plus_28 : decode cX1_plus 28 = .ok (.iload_n 1, 1) := dk_27 (dk_at dksX1_plus_1 4 rfl rfl)
theorem dX1_plus_29 : decode cX1_plus 29 = .ok (.iconst (-1), 1) := dk_2 (dk_at dksX1_plus_1 5 rfl rfl)
theorem dX1_plus_30 : decode cX1_plus 30 = .ok (.ixor, 1) := dk_130 (dk_at dksX1_plus_1 6 rfl rfl)
theorem dX1_plus_31 : decode cX1_plus 31 = .ok (.iconst 1, 1) := dk_4 (dk_at dksX1_plus_1 7 rfl rfl)
theorem dX1_plus_32 : decode cX1_plus 32 = .ok (.iand, 1) := dk_126 (dk_at dksX1_plus_1 8 rfl rfl)
theorem dX1_plus_33 : decode cX1_plus 33 = .ok (.aaload, 1) := dk_50 (dk_at dksX1_plus_1 9 rfl rfl)
theorem dX1_plus_34 : decode cX1_plus 34 = .ok (.invokevirtual 37, 3) := dk_182 0 37 (dk_at dksX1_plus_1 10 rfl rfl)
theorem dX1_plus_37 : decode cX1_plus 37 = .ok (.aastore, 1) := dk_83 (dk_at dksX1_plus_1 13 rfl rfl)
theorem dX1_plus_38 : decode cX1_plus 38 = .ok (.iconst 1, 1) := dk_4 (dk_at dksX1_plus_1 14 rfl rfl)
theorem dX1_plus_39 : decode cX1_plus 39 = .ok (.ireturn, 1) := dk_172 (dk_at dksX1_plus_1 15 rfl rfl)
abbrev cX1_room : ByteArray := prog_5_method_4_code
def yX1_room : MethodName := ⟨RX1, "room", "()Z"⟩
def dkwX1_room_2 : List UInt8 := [148, 158, 0, 7, 4, 167, 0, 4, 3, 172]
abbrev dktX1_room_2 : List UInt8 := dkwX1_room_2 ++ []
def dkwX1_room_1 : List UInt8 := [148, 156, 0, 31, 31, 20, 0, 31, 148, 158, 0, 23, 33, 20, 0, 29, 148, 156, 0, 15, 33, 20, 0, 31]
abbrev dktX1_room_1 : List UInt8 := dkwX1_room_1 ++ dktX1_room_2
def dkwX1_room_0 : List UInt8 := [42, 180, 0, 13, 3, 50, 182, 0, 25, 64, 42, 180, 0, 13, 4, 50, 182, 0, 25, 66, 31, 20, 0, 29]
abbrev dktX1_room_0 : List UInt8 := dkwX1_room_0 ++ dktX1_room_1
theorem dksX1_room_0 : cX1_room.data.toList.drop 0 = dktX1_room_0 := by decide +kernel
theorem dksX1_room_1 : cX1_room.data.toList.drop 24 = dktX1_room_1 := dk_seg dksX1_room_0 24 rfl rfl
theorem dksX1_room_2 : cX1_room.data.toList.drop 48 = dktX1_room_2 := dk_seg dksX1_room_1 24 rfl rfl
theorem dX1_room_0 : decode cX1_room 0 = .ok (.aload_n 0, 1) := dk_42 (dk_at dksX1_room_0 0 rfl rfl)
theorem dX1_room_1 : decode cX1_room 1 = .ok (.getfield 13, 3) := dk_180 0 13 (dk_at dksX1_room_0 1 rfl rfl)
theorem dX1_room_4 : decode cX1_room 4 = .ok (.iconst 0, 1) := dk_3 (dk_at dksX1_room_0 4 rfl rfl)
theorem dX1_room_5 : decode cX1_room 5 = .ok (.aaload, 1) := dk_50 (dk_at dksX1_room_0 5 rfl rfl)
theorem dX1_room_6 : decode cX1_room 6 = .ok (.invokevirtual 25, 3) := dk_182 0 25 (dk_at dksX1_room_0 6 rfl rfl)
theorem dX1_room_9 : decode cX1_room 9 = .ok (.lstore_n 1, 1) := dk_64 (dk_at dksX1_room_0 9 rfl rfl)
theorem dX1_room_10 : decode cX1_room 10 = .ok (.aload_n 0, 1) := dk_42 (dk_at dksX1_room_0 10 rfl rfl)
theorem dX1_room_11 : decode cX1_room 11 = .ok (.getfield 13, 3) := dk_180 0 13 (dk_at dksX1_room_0 11 rfl rfl)
theorem dX1_room_14 : decode cX1_room 14 = .ok (.iconst 1, 1) := dk_4 (dk_at dksX1_room_0 14 rfl rfl)
theorem dX1_room_15 : decode cX1_room 15 = .ok (.aaload, 1) := dk_50 (dk_at dksX1_room_0 15 rfl rfl)
theorem dX1_room_16 : decode cX1_room 16 = .ok (.invokevirtual 25, 3) := dk_182 0 25 (dk_at dksX1_room_0 16 rfl rfl)
theorem dX1_room_19 : decode cX1_room 19 = .ok (.lstore_n 3, 1) := dk_66 (dk_at dksX1_room_0 19 rfl rfl)
theorem dX1_room_20 : decode cX1_room 20 = .ok (.lload_n 1, 1) := dk_31 (dk_at dksX1_room_0 20 rfl rfl)
theorem dX1_room_21 : decode cX1_room 21 = .ok (.ldc2_w 29, 3) := dk_20 0 29 (dk_at dksX1_room_0 21 rfl rfl)
theorem dX1_room_24 : decode cX1_room 24 = .ok (.lcmp, 1) := dk_148 (dk_at dksX1_room_1 0 rfl rfl)
theorem dX1_room_25 : decode cX1_room 25 = .ok (.ifCond .ge 31, 3) := dk_156 0 31 (dk_at dksX1_room_1 1 rfl rfl)
theorem dX1_room_28 : decode cX1_room 28 = .ok (.lload_n 1, 1) := dk_31 (dk_at dksX1_room_1 4 rfl rfl)
theorem dX1_room_29 : decode cX1_room 29 = .ok (.ldc2_w 31, 3) := dk_20 0 31 (dk_at dksX1_room_1 5 rfl rfl)
theorem dX1_room_32 : decode cX1_room 32 = .ok (.lcmp, 1) := dk_148 (dk_at dksX1_room_1 8 rfl rfl)
theorem dX1_room_33 : decode cX1_room 33 = .ok (.ifCond .le 23, 3) := dk_158 0 23 (dk_at dksX1_room_1 9 rfl rfl)
theorem dX1_room_36 : decode cX1_room 36 = .ok (.lload_n 3, 1) := dk_33 (dk_at dksX1_room_1 12 rfl rfl)
theorem dX1_room_37 : decode cX1_room 37 = .ok (.ldc2_w 29, 3) := dk_20 0 29 (dk_at dksX1_room_1 13 rfl rfl)
theorem dX1_room_40 : decode cX1_room 40 = .ok (.lcmp, 1) := dk_148 (dk_at dksX1_room_1 16 rfl rfl)
theorem dX1_room_41 : decode cX1_room 41 = .ok (.ifCond .ge 15, 3) := dk_156 0 15 (dk_at dksX1_room_1 17 rfl rfl)
theorem dX1_room_44 : decode cX1_room 44 = .ok (.lload_n 3, 1) := dk_33 (dk_at dksX1_room_1 20 rfl rfl)
theorem dX1_room_45 : decode cX1_room 45 = .ok (.ldc2_w 31, 3) := dk_20 0 31 (dk_at dksX1_room_1 21 rfl rfl)
theorem dX1_room_48 : decode cX1_room 48 = .ok (.lcmp, 1) := dk_148 (dk_at dksX1_room_2 0 rfl rfl)
theorem dX1_room_49 : decode cX1_room 49 = .ok (.ifCond .le 7, 3) := dk_158 0 7 (dk_at dksX1_room_2 1 rfl rfl)
theorem dX1_room_52 : decode cX1_room 52 = .ok (.iconst 1, 1) := dk_4 (dk_at dksX1_room_2 4 rfl rfl)
theorem dX1_room_53 : decode cX1_room 53 = .ok (.goto 4, 3) := dk_167 0 4 (dk_at dksX1_room_2 5 rfl rfl)
theorem dX1_room_56 : decode cX1_room 56 = .ok (.iconst 0, 1) := dk_3 (dk_at dksX1_room_2 8 rfl rfl)
theorem dX1_room_57 : decode cX1_room 57 = .ok (.ireturn, 1) := dk_172 (dk_at dksX1_room_2 9 rfl rfl)
abbrev cX1_minus : ByteArray := prog_5_method_6_code
def yX1_minus : MethodName := ⟨RX1, "minus", "(I)Z"⟩
def dkwX1_minus_1 : List UInt8 := [42, 180, 0, 13, 27, 2, 130, 4, 126, 50, 182, 0, 41, 83, 4, 172]
abbrev dktX1_minus_1 : List UInt8 := dkwX1_minus_1 ++ []
def dkwX1_minus_0 : List UInt8 := [42, 182, 0, 33, 154, 0, 5, 3, 172, 42, 180, 0, 13, 27, 4, 126, 42, 180, 0, 13, 27, 4, 126, 50]
abbrev dktX1_minus_0 : List UInt8 := dkwX1_minus_0 ++ dktX1_minus_1
theorem dksX1_minus_0 : cX1_minus.data.toList.drop 0 = dktX1_minus_0 := by decide +kernel
theorem dksX1_minus_1 : cX1_minus.data.toList.drop 24 = dktX1_minus_1 := dk_seg dksX1_minus_0 24 rfl rfl
theorem dX1_minus_0 : decode cX1_minus 0 = .ok (.aload_n 0, 1) := dk_42 (dk_at dksX1_minus_0 0 rfl rfl)
theorem dX1_minus_1 : decode cX1_minus 1 = .ok (.invokevirtual 33, 3) := dk_182 0 33 (dk_at dksX1_minus_0 1 rfl rfl)
theorem dX1_minus_4 : decode cX1_minus 4 = .ok (.ifCond .ne 5, 3) := dk_154 0 5 (dk_at dksX1_minus_0 4 rfl rfl)
theorem dX1_minus_7 : decode cX1_minus 7 = .ok (.iconst 0, 1) := dk_3 (dk_at dksX1_minus_0 7 rfl rfl)
theorem dX1_minus_8 : decode cX1_minus 8 = .ok (.ireturn, 1) := dk_172 (dk_at dksX1_minus_0 8 rfl rfl)
theorem dX1_minus_9 : decode cX1_minus 9 = .ok (.aload_n 0, 1) := dk_42 (dk_at dksX1_minus_0 9 rfl rfl)
theorem dX1_minus_10 : decode cX1_minus 10 = .ok (.getfield 13, 3) := dk_180 0 13 (dk_at dksX1_minus_0 10 rfl rfl)
theorem dX1_minus_13 : decode cX1_minus 13 = .ok (.iload_n 1, 1) := dk_27 (dk_at dksX1_minus_0 13 rfl rfl)
theorem dX1_minus_14 : decode cX1_minus 14 = .ok (.iconst 1, 1) := dk_4 (dk_at dksX1_minus_0 14 rfl rfl)
theorem dX1_minus_15 : decode cX1_minus 15 = .ok (.iand, 1) := dk_126 (dk_at dksX1_minus_0 15 rfl rfl)
theorem dX1_minus_16 : decode cX1_minus 16 = .ok (.aload_n 0, 1) := dk_42 (dk_at dksX1_minus_0 16 rfl rfl)
theorem dX1_minus_17 : decode cX1_minus 17 = .ok (.getfield 13, 3) := dk_180 0 13 (dk_at dksX1_minus_0 17 rfl rfl)
theorem dX1_minus_20 : decode cX1_minus 20 = .ok (.iload_n 1, 1) := dk_27 (dk_at dksX1_minus_0 20 rfl rfl)
theorem dX1_minus_21 : decode cX1_minus 21 = .ok (.iconst 1, 1) := dk_4 (dk_at dksX1_minus_0 21 rfl rfl)
theorem dX1_minus_22 : decode cX1_minus 22 = .ok (.iand, 1) := dk_126 (dk_at dksX1_minus_0 22 rfl rfl)
theorem dX1_minus_23 : decode cX1_minus 23 = .ok (.aaload, 1) := dk_50 (dk_at dksX1_minus_0 23 rfl rfl)
theorem dX1_minus_24 : decode cX1_minus 24 = .ok (.aload_n 0, 1) := dk_42 (dk_at dksX1_minus_1 0 rfl rfl)
theorem dX1_minus_25 : decode cX1_minus 25 = .ok (.getfield 13, 3) := dk_180 0 13 (dk_at dksX1_minus_1 1 rfl rfl)
theorem dX1_minus_28 : decode cX1_minus 28 = .ok (.iload_n 1, 1) := dk_27 (dk_at dksX1_minus_1 4 rfl rfl)
theorem dX1_minus_29 : decode cX1_minus 29 = .ok (.iconst (-1), 1) := dk_2 (dk_at dksX1_minus_1 5 rfl rfl)
theorem dX1_minus_30 : decode cX1_minus 30 = .ok (.ixor, 1) := dk_130 (dk_at dksX1_minus_1 6 rfl rfl)
theorem dX1_minus_31 : decode cX1_minus 31 = .ok (.iconst 1, 1) := dk_4 (dk_at dksX1_minus_1 7 rfl rfl)
theorem dX1_minus_32 : decode cX1_minus 32 = .ok (.iand, 1) := dk_126 (dk_at dksX1_minus_1 8 rfl rfl)
theorem dX1_minus_33 : decode cX1_minus 33 = .ok (.aaload, 1) := dk_50 (dk_at dksX1_minus_1 9 rfl rfl)
theorem dX1_minus_34 : decode cX1_minus 34 = .ok (.invokevirtual 41, 3) := dk_182 0 41 (dk_at dksX1_minus_1 10 rfl rfl)
theorem dX1_minus_37 : decode cX1_minus 37 = .ok (.aastore, 1) := dk_83 (dk_at dksX1_minus_1 13 rfl rfl)
theorem dX1_minus_38 : decode cX1_minus 38 = .ok (.iconst 1, 1) := dk_4 (dk_at dksX1_minus_1 14 rfl rfl)
theorem dX1_minus_39 : decode cX1_minus 39 = .ok (.ireturn, 1) := dk_172 (dk_at dksX1_minus_1 15 rfl rfl)
abbrev cX1_seconds : ByteArray := prog_5_method_7_code
def yX1_seconds : MethodName := ⟨RX1, "seconds", "(II)Z"⟩
def dkwX1_seconds_1 : List UInt8 := [28, 133, 182, 0, 44, 83, 4, 172]
abbrev dktX1_seconds_1 : List UInt8 := dkwX1_seconds_1 ++ []
def dkwX1_seconds_0 : List UInt8 := [42, 182, 0, 33, 154, 0, 5, 3, 172, 42, 180, 0, 13, 27, 4, 126, 42, 180, 0, 13, 27, 4, 126, 50]
abbrev dktX1_seconds_0 : List UInt8 := dkwX1_seconds_0 ++ dktX1_seconds_1
theorem dksX1_seconds_0 : cX1_seconds.data.toList.drop 0 = dktX1_seconds_0 := by decide +kernel
theorem dksX1_seconds_1 : cX1_seconds.data.toList.drop 24 = dktX1_seconds_1 := dk_seg dksX1_seconds_0 24 rfl rfl
theorem dX1_seconds_0 : decode cX1_seconds 0 = .ok (.aload_n 0, 1) := dk_42 (dk_at dksX1_seconds_0 0 rfl rfl)
theorem dX1_seconds_1 : decode cX1_seconds 1 = .ok (.invokevirtual 33, 3) := dk_182 0 33 (dk_at dksX1_seconds_0 1 rfl rfl)
theorem dX1_seconds_4 : decode cX1_seconds 4 = .ok (.ifCond .ne 5, 3) := dk_154 0 5 (dk_at dksX1_seconds_0 4 rfl rfl)
theorem dX1_seconds_7 : decode cX1_seconds 7 = .ok (.iconst 0, 1) := dk_3 (dk_at dksX1_seconds_0 7 rfl rfl)
theorem dX1_seconds_8 : decode cX1_seconds 8 = .ok (.ireturn, 1) := dk_172 (dk_at dksX1_seconds_0 8 rfl rfl)
theorem dX1_seconds_9 : decode cX1_seconds 9 = .ok (.aload_n 0, 1) := dk_42 (dk_at dksX1_seconds_0 9 rfl rfl)
theorem dX1_seconds_10 : decode cX1_seconds 10 = .ok (.getfield 13, 3) := dk_180 0 13 (dk_at dksX1_seconds_0 10 rfl rfl)
theorem dX1_seconds_13 : decode cX1_seconds 13 = .ok (.iload_n 1, 1) := dk_27 (dk_at dksX1_seconds_0 13 rfl rfl)
theorem dX1_seconds_14 : decode cX1_seconds 14 = .ok (.iconst 1, 1) := dk_4 (dk_at dksX1_seconds_0 14 rfl rfl)
theorem dX1_seconds_15 : decode cX1_seconds 15 = .ok (.iand, 1) := dk_126 (dk_at dksX1_seconds_0 15 rfl rfl)
theorem dX1_seconds_16 : decode cX1_seconds 16 = .ok (.aload_n 0, 1) := dk_42 (dk_at dksX1_seconds_0 16 rfl rfl)
theorem dX1_seconds_17 : decode cX1_seconds 17 = .ok (.getfield 13, 3) := dk_180 0 13 (dk_at dksX1_seconds_0 17 rfl rfl)
theorem dX1_seconds_20 : decode cX1_seconds 20 = .ok (.iload_n 1, 1) := dk_27 (dk_at dksX1_seconds_0 20 rfl rfl)
theorem dX1_seconds_21 : decode cX1_seconds 21 = .ok (.iconst 1, 1) := dk_4 (dk_at dksX1_seconds_0 21 rfl rfl)
theorem dX1_seconds_22 : decode cX1_seconds 22 = .ok (.iand, 1) := dk_126 (dk_at dksX1_seconds_0 22 rfl rfl)
theorem dX1_seconds_23 : decode cX1_seconds 23 = .ok (.aaload, 1) := dk_50 (dk_at dksX1_seconds_0 23 rfl rfl)
theorem dX1_seconds_24 : decode cX1_seconds 24 = .ok (.iload_n 2, 1) := dk_28 (dk_at dksX1_seconds_1 0 rfl rfl)
theorem dX1_seconds_25 : decode cX1_seconds 25 = .ok (.i2l, 1) := dk_133 (dk_at dksX1_seconds_1 1 rfl rfl)
theorem dX1_seconds_26 : decode cX1_seconds 26 = .ok (.invokevirtual 44, 3) := dk_182 0 44 (dk_at dksX1_seconds_1 2 rfl rfl)
theorem dX1_seconds_29 : decode cX1_seconds 29 = .ok (.aastore, 1) := dk_83 (dk_at dksX1_seconds_1 5 rfl rfl)
theorem dX1_seconds_30 : decode cX1_seconds 30 = .ok (.iconst 1, 1) := dk_4 (dk_at dksX1_seconds_1 6 rfl rfl)
theorem dX1_seconds_31 : decode cX1_seconds 31 = .ok (.ireturn, 1) := dk_172 (dk_at dksX1_seconds_1 7 rfl rfl)
abbrev cX1_millis : ByteArray := prog_5_method_8_code
def yX1_millis : MethodName := ⟨RX1, "millis", "(II)Z"⟩
def dkwX1_millis_1 : List UInt8 := [28, 133, 182, 0, 48, 83, 4, 172]
abbrev dktX1_millis_1 : List UInt8 := dkwX1_millis_1 ++ []
def dkwX1_millis_0 : List UInt8 := [42, 182, 0, 33, 154, 0, 5, 3, 172, 42, 180, 0, 13, 27, 4, 126, 42, 180, 0, 13, 27, 4, 126, 50]
abbrev dktX1_millis_0 : List UInt8 := dkwX1_millis_0 ++ dktX1_millis_1
theorem dksX1_millis_0 : cX1_millis.data.toList.drop 0 = dktX1_millis_0 := by decide +kernel
theorem dksX1_millis_1 : cX1_millis.data.toList.drop 24 = dktX1_millis_1 := dk_seg dksX1_millis_0 24 rfl rfl
theorem dX1_millis_0 : decode cX1_millis 0 = .ok (.aload_n 0, 1) := dk_42 (dk_at dksX1_millis_0 0 rfl rfl)
theorem dX1_millis_1 : decode cX1_millis 1 = .ok (.invokevirtual 33, 3) := dk_182 0 33 (dk_at dksX1_millis_0 1 rfl rfl)
theorem dX1_millis_4 : decode cX1_millis 4 = .ok (.ifCond .ne 5, 3) := dk_154 0 5 (dk_at dksX1_millis_0 4 rfl rfl)
theorem dX1_millis_7 : decode cX1_millis 7 = .ok (.iconst 0, 1) := dk_3 (dk_at dksX1_millis_0 7 rfl rfl)
theorem dX1_millis_8 : decode cX1_millis 8 = .ok (.ireturn, 1) := dk_172 (dk_at dksX1_millis_0 8 rfl rfl)
theorem dX1_millis_9 : decode cX1_millis 9 = .ok (.aload_n 0, 1) := dk_42 (dk_at dksX1_millis_0 9 rfl rfl)
theorem dX1_millis_10 : decode cX1_millis 10 = .ok (.getfield 13, 3) := dk_180 0 13 (dk_at dksX1_millis_0 10 rfl rfl)
theorem dX1_millis_13 : decode cX1_millis 13 = .ok (.iload_n 1, 1) := dk_27 (dk_at dksX1_millis_0 13 rfl rfl)
theorem dX1_millis_14 : decode cX1_millis 14 = .ok (.iconst 1, 1) := dk_4 (dk_at dksX1_millis_0 14 rfl rfl)
theorem dX1_millis_15 : decode cX1_millis 15 = .ok (.iand, 1) := dk_126 (dk_at dksX1_millis_0 15 rfl rfl)
theorem dX1_millis_16 : decode cX1_millis 16 = .ok (.aload_n 0, 1) := dk_42 (dk_at dksX1_millis_0 16 rfl rfl)
theorem dX1_millis_17 : decode cX1_millis 17 = .ok (.getfield 13, 3) := dk_180 0 13 (dk_at dksX1_millis_0 17 rfl rfl)
theorem dX1_millis_20 : decode cX1_millis 20 = .ok (.iload_n 1, 1) := dk_27 (dk_at dksX1_millis_0 20 rfl rfl)
theorem dX1_millis_21 : decode cX1_millis 21 = .ok (.iconst 1, 1) := dk_4 (dk_at dksX1_millis_0 21 rfl rfl)
theorem dX1_millis_22 : decode cX1_millis 22 = .ok (.iand, 1) := dk_126 (dk_at dksX1_millis_0 22 rfl rfl)
theorem dX1_millis_23 : decode cX1_millis 23 = .ok (.aaload, 1) := dk_50 (dk_at dksX1_millis_0 23 rfl rfl)
theorem dX1_millis_24 : decode cX1_millis 24 = .ok (.iload_n 2, 1) := dk_28 (dk_at dksX1_millis_1 0 rfl rfl)
theorem dX1_millis_25 : decode cX1_millis 25 = .ok (.i2l, 1) := dk_133 (dk_at dksX1_millis_1 1 rfl rfl)
theorem dX1_millis_26 : decode cX1_millis 26 = .ok (.invokevirtual 48, 3) := dk_182 0 48 (dk_at dksX1_millis_1 2 rfl rfl)
theorem dX1_millis_29 : decode cX1_millis 29 = .ok (.aastore, 1) := dk_83 (dk_at dksX1_millis_1 5 rfl rfl)
theorem dX1_millis_30 : decode cX1_millis 30 = .ok (.iconst 1, 1) := dk_4 (dk_at dksX1_millis_1 6 rfl rfl)
theorem dX1_millis_31 : decode cX1_millis 31 = .ok (.ireturn, 1) := dk_172 (dk_at dksX1_millis_1 7 rfl rfl)
abbrev cX1_nanos : ByteArray := prog_5_method_9_code
def yX1_nanos : MethodName := ⟨RX1, "nanos", "(II)Z"⟩
def dkwX1_nanos_1 : List UInt8 := [28, 133, 182, 0, 51, 83, 4, 172]
abbrev dktX1_nanos_1 : List UInt8 := dkwX1_nanos_1 ++ []
def dkwX1_nanos_0 : List UInt8 := [42, 182, 0, 33, 154, 0, 5, 3, 172, 42, 180, 0, 13, 27, 4, 126, 42, 180, 0, 13, 27, 4, 126, 50]
abbrev dktX1_nanos_0 : List UInt8 := dkwX1_nanos_0 ++ dktX1_nanos_1
theorem dksX1_nanos_0 : cX1_nanos.data.toList.drop 0 = dktX1_nanos_0 := by decide +kernel
theorem dksX1_nanos_1 : cX1_nanos.data.toList.drop 24 = dktX1_nanos_1 := dk_seg dksX1_nanos_0 24 rfl rfl
theorem dX1_nanos_0 : decode cX1_nanos 0 = .ok (.aload_n 0, 1) := dk_42 (dk_at dksX1_nanos_0 0 rfl rfl)
theorem dX1_nanos_1 : decode cX1_nanos 1 = .ok (.invokevirtual 33, 3) := dk_182 0 33 (dk_at dksX1_nanos_0 1 rfl rfl)
theorem dX1_nanos_4 : decode cX1_nanos 4 = .ok (.ifCond .ne 5, 3) := dk_154 0 5 (dk_at dksX1_nanos_0 4 rfl rfl)
theorem dX1_nanos_7 : decode cX1_nanos 7 = .ok (.iconst 0, 1) := dk_3 (dk_at dksX1_nanos_0 7 rfl rfl)
theorem dX1_nanos_8 : decode cX1_nanos 8 = .ok (.ireturn, 1) := dk_172 (dk_at dksX1_nanos_0 8 rfl rfl)
theorem dX1_nanos_9 : decode cX1_nanos 9 = .ok (.aload_n 0, 1) := dk_42 (dk_at dksX1_nanos_0 9 rfl rfl)
theorem dX1_nanos_10 : decode cX1_nanos 10 = .ok (.getfield 13, 3) := dk_180 0 13 (dk_at dksX1_nanos_0 10 rfl rfl)
theorem dX1_nanos_13 : decode cX1_nanos 13 = .ok (.iload_n 1, 1) := dk_27 (dk_at dksX1_nanos_0 13 rfl rfl)
theorem dX1_nanos_14 : decode cX1_nanos 14 = .ok (.iconst 1, 1) := dk_4 (dk_at dksX1_nanos_0 14 rfl rfl)
theorem dX1_nanos_15 : decode cX1_nanos 15 = .ok (.iand, 1) := dk_126 (dk_at dksX1_nanos_0 15 rfl rfl)
theorem dX1_nanos_16 : decode cX1_nanos 16 = .ok (.aload_n 0, 1) := dk_42 (dk_at dksX1_nanos_0 16 rfl rfl)
theorem dX1_nanos_17 : decode cX1_nanos 17 = .ok (.getfield 13, 3) := dk_180 0 13 (dk_at dksX1_nanos_0 17 rfl rfl)
theorem dX1_nanos_20 : decode cX1_nanos 20 = .ok (.iload_n 1, 1) := dk_27 (dk_at dksX1_nanos_0 20 rfl rfl)
theorem dX1_nanos_21 : decode cX1_nanos 21 = .ok (.iconst 1, 1) := dk_4 (dk_at dksX1_nanos_0 21 rfl rfl)
theorem dX1_nanos_22 : decode cX1_nanos 22 = .ok (.iand, 1) := dk_126 (dk_at dksX1_nanos_0 22 rfl rfl)
theorem dX1_nanos_23 : decode cX1_nanos 23 = .ok (.aaload, 1) := dk_50 (dk_at dksX1_nanos_0 23 rfl rfl)
theorem dX1_nanos_24 : decode cX1_nanos 24 = .ok (.iload_n 2, 1) := dk_28 (dk_at dksX1_nanos_1 0 rfl rfl)
theorem dX1_nanos_25 : decode cX1_nanos 25 = .ok (.i2l, 1) := dk_133 (dk_at dksX1_nanos_1 1 rfl rfl)
theorem dX1_nanos_26 : decode cX1_nanos 26 = .ok (.invokevirtual 51, 3) := dk_182 0 51 (dk_at dksX1_nanos_1 2 rfl rfl)
theorem dX1_nanos_29 : decode cX1_nanos 29 = .ok (.aastore, 1) := dk_83 (dk_at dksX1_nanos_1 5 rfl rfl)
theorem dX1_nanos_30 : decode cX1_nanos 30 = .ok (.iconst 1, 1) := dk_4 (dk_at dksX1_nanos_1 6 rfl rfl)
theorem dX1_nanos_31 : decode cX1_nanos 31 = .ok (.ireturn, 1) := dk_172 (dk_at dksX1_nanos_1 7 rfl rfl)
theorem q4 : (Jvm.Cond.initialized "SpanDesk") ∈ lw_all := lw_g (lw_at lw_m1 1 rfl) rfl
theorem q12 : (Jvm.Cond.instantiable "SpanDesk" (1 : Nat)) ∈ lw_all := lw_g (lw_at lw_m1 9 rfl) rfl
theorem q14 : (Jvm.Cond.instanceMethod ({ cls := "SpanDesk", name := "<init>", desc := "()V" } : Jvm.MethodName)) ∈ lw_all := lw_g (lw_at lw_m1 11 rfl) rfl
theorem q15 : (Jvm.Cond.code ({ cls := "SpanDesk", name := "<init>", desc := "()V" } : Jvm.MethodName) prog_5_method_1_code (1 : Nat) (Option.none : Option Jvm.ClassFile.FieldType)) ∈ lw_all := lw_g (lw_at lw_m1 12 rfl) rfl
theorem q16 : (Jvm.Cond.methodLink "SpanDesk" (1 : Nat) ({ cls := "java/lang/Object", name := "<init>", desc := "()V" } : Jvm.MethodName)) ∈ lw_all := lw_g (lw_at lw_m1 13 rfl) rfl
theorem q19 : (Jvm.Cond.classLink "SpanDesk" (7 : Nat) "Duration") ∈ lw_all := lw_g (lw_at lw_m1 16 rfl) rfl
theorem q21 : (Jvm.Cond.methodLink "SpanDesk" (9 : Nat) ({ cls := "Duration", name := "ofSeconds", desc := "(JJ)LDuration;" } : Jvm.MethodName)) ∈ lw_all := lw_g (lw_at lw_m1 18 rfl) rfl
theorem q119 : (Jvm.Cond.fieldLink "SpanDesk" (13 : Nat) "SpanDesk" "span" "[LDuration;") ∈ lw_all := lw_g (lw_at lw_m1 116 rfl) rfl
theorem q120 : (Jvm.Cond.laysFinal "SpanDesk" "SpanDesk" "span" "[LDuration;") ∈ lw_all := lw_g (lw_at lw_m1 117 rfl) rfl
theorem q121 : (Jvm.Cond.soleField "SpanDesk" "span") ∈ lw_all := lw_g (lw_at lw_m1 118 rfl) rfl
theorem q122 : (Jvm.Cond.superclass "SpanDesk" "java/lang/Object") ∈ lw_all := lw_g (lw_at lw_m1 119 rfl) rfl
theorem q139 : (Jvm.Cond.instanceMethod ({ cls := "SpanDesk", name := "whole", desc := "(I)J" } : Jvm.MethodName)) ∈ lw_all := lw_g (lw_at lw_m1 136 rfl) rfl
theorem q140 : (Jvm.Cond.selects "SpanDesk" ({ cls := "SpanDesk", name := "whole", desc := "(I)J" } : Jvm.MethodName) ({ cls := "SpanDesk", name := "whole", desc := "(I)J" } : Jvm.MethodName)) ∈ lw_all := lw_g (lw_at lw_m1 137 rfl) rfl
theorem q141 : (Jvm.Cond.code ({ cls := "SpanDesk", name := "whole", desc := "(I)J" } : Jvm.MethodName) prog_5_method_10_code (2 : Nat) (Option.some Jvm.ClassFile.FieldType.long)) ∈ lw_all := lw_g (lw_at lw_m1 138 rfl) rfl
theorem q142 : (Jvm.Cond.methodLink "SpanDesk" (25 : Nat) ({ cls := "Duration", name := "getSeconds", desc := "()J" } : Jvm.MethodName)) ∈ lw_all := lw_g (lw_at lw_m1 139 rfl) rfl
theorem q147 : (Jvm.Cond.instanceMethod ({ cls := "SpanDesk", name := "nano", desc := "(I)I" } : Jvm.MethodName)) ∈ lw_all := lw_g (lw_at lw_m1 144 rfl) rfl
theorem q148 : (Jvm.Cond.selects "SpanDesk" ({ cls := "SpanDesk", name := "nano", desc := "(I)I" } : Jvm.MethodName) ({ cls := "SpanDesk", name := "nano", desc := "(I)I" } : Jvm.MethodName)) ∈ lw_all := lw_g (lw_at lw_m1 145 rfl) rfl
theorem q149 : (Jvm.Cond.code ({ cls := "SpanDesk", name := "nano", desc := "(I)I" } : Jvm.MethodName) prog_5_method_11_code (2 : Nat) (Option.some Jvm.ClassFile.FieldType.int)) ∈ lw_all := lw_g (lw_at lw_m1 146 rfl) rfl
theorem q150 : (Jvm.Cond.methodLink "SpanDesk" (54 : Nat) ({ cls := "Duration", name := "getNano", desc := "()I" } : Jvm.MethodName)) ∈ lw_all := lw_g (lw_at lw_m1 147 rfl) rfl
theorem q155 : (Jvm.Cond.instanceMethod ({ cls := "SpanDesk", name := "below", desc := "(I)Z" } : Jvm.MethodName)) ∈ lw_all := lw_g (lw_at lw_m1 152 rfl) rfl
theorem q156 : (Jvm.Cond.selects "SpanDesk" ({ cls := "SpanDesk", name := "below", desc := "(I)Z" } : Jvm.MethodName) ({ cls := "SpanDesk", name := "below", desc := "(I)Z" } : Jvm.MethodName)) ∈ lw_all := lw_g (lw_at lw_m1 153 rfl) rfl
theorem q157 : (Jvm.Cond.code ({ cls := "SpanDesk", name := "below", desc := "(I)Z" } : Jvm.MethodName) prog_5_method_12_code (2 : Nat) (Option.some Jvm.ClassFile.FieldType.boolean)) ∈ lw_all := lw_g (lw_at lw_m1 154 rfl) rfl
theorem q158 : (Jvm.Cond.methodLink "SpanDesk" (58 : Nat) ({ cls := "Duration", name := "isNegative", desc := "()Z" } : Jvm.MethodName)) ∈ lw_all := lw_g (lw_at lw_m1 155 rfl) rfl
theorem q163 : (Jvm.Cond.instanceMethod ({ cls := "SpanDesk", name := "nought", desc := "(I)Z" } : Jvm.MethodName)) ∈ lw_all := lw_g (lw_at lw_m1 160 rfl) rfl
theorem q164 : (Jvm.Cond.selects "SpanDesk" ({ cls := "SpanDesk", name := "nought", desc := "(I)Z" } : Jvm.MethodName) ({ cls := "SpanDesk", name := "nought", desc := "(I)Z" } : Jvm.MethodName)) ∈ lw_all := lw_g (lw_at lw_m1 161 rfl) rfl
theorem q165 : (Jvm.Cond.code ({ cls := "SpanDesk", name := "nought", desc := "(I)Z" } : Jvm.MethodName) prog_5_method_13_code (2 : Nat) (Option.some Jvm.ClassFile.FieldType.boolean)) ∈ lw_all := lw_g (lw_at lw_m1 162 rfl) rfl
theorem q166 : (Jvm.Cond.methodLink "SpanDesk" (61 : Nat) ({ cls := "Duration", name := "isZero", desc := "()Z" } : Jvm.MethodName)) ∈ lw_all := lw_g (lw_at lw_m1 163 rfl) rfl
theorem q171 : (Jvm.Cond.instanceMethod ({ cls := "SpanDesk", name := "days", desc := "(I)J" } : Jvm.MethodName)) ∈ lw_all := lw_g (lw_at lw_m1 168 rfl) rfl
theorem q172 : (Jvm.Cond.selects "SpanDesk" ({ cls := "SpanDesk", name := "days", desc := "(I)J" } : Jvm.MethodName) ({ cls := "SpanDesk", name := "days", desc := "(I)J" } : Jvm.MethodName)) ∈ lw_all := lw_g (lw_at lw_m1 169 rfl) rfl
theorem q173 : (Jvm.Cond.code ({ cls := "SpanDesk", name := "days", desc := "(I)J" } : Jvm.MethodName) prog_5_method_15_code (2 : Nat) (Option.some Jvm.ClassFile.FieldType.long)) ∈ lw_all := lw_g (lw_at lw_m1 170 rfl) rfl
theorem q174 : (Jvm.Cond.methodLink "SpanDesk" (68 : Nat) ({ cls := "Duration", name := "toDays", desc := "()J" } : Jvm.MethodName)) ∈ lw_all := lw_g (lw_at lw_m1 171 rfl) rfl
theorem q181 : (Jvm.Cond.instanceMethod ({ cls := "SpanDesk", name := "minutes", desc := "(I)J" } : Jvm.MethodName)) ∈ lw_all := lw_g (lw_at lw_m1 178 rfl) rfl
theorem q182 : (Jvm.Cond.selects "SpanDesk" ({ cls := "SpanDesk", name := "minutes", desc := "(I)J" } : Jvm.MethodName) ({ cls := "SpanDesk", name := "minutes", desc := "(I)J" } : Jvm.MethodName)) ∈ lw_all := lw_g (lw_at lw_m1 179 rfl) rfl
theorem q183 : (Jvm.Cond.code ({ cls := "SpanDesk", name := "minutes", desc := "(I)J" } : Jvm.MethodName) prog_5_method_16_code (2 : Nat) (Option.some Jvm.ClassFile.FieldType.long)) ∈ lw_all := lw_g (lw_at lw_m1 180 rfl) rfl
theorem q184 : (Jvm.Cond.methodLink "SpanDesk" (71 : Nat) ({ cls := "Duration", name := "toMinutes", desc := "()J" } : Jvm.MethodName)) ∈ lw_all := lw_g (lw_at lw_m1 181 rfl) rfl
theorem q191 : (Jvm.Cond.instanceMethod ({ cls := "SpanDesk", name := "order", desc := "()I" } : Jvm.MethodName)) ∈ lw_all := lw_g (lw_at lw_m1 188 rfl) rfl
theorem q192 : (Jvm.Cond.selects "SpanDesk" ({ cls := "SpanDesk", name := "order", desc := "()I" } : Jvm.MethodName) ({ cls := "SpanDesk", name := "order", desc := "()I" } : Jvm.MethodName)) ∈ lw_all := lw_g (lw_at lw_m1 189 rfl) rfl
theorem q193 : (Jvm.Cond.code ({ cls := "SpanDesk", name := "order", desc := "()I" } : Jvm.MethodName) prog_5_method_14_code (2 : Nat) (Option.some Jvm.ClassFile.FieldType.int)) ∈ lw_all := lw_g (lw_at lw_m1 190 rfl) rfl
theorem q194 : (Jvm.Cond.methodLink "SpanDesk" (64 : Nat) ({ cls := "Duration", name := "compareTo", desc := "(LDuration;)I" } : Jvm.MethodName)) ∈ lw_all := lw_g (lw_at lw_m1 191 rfl) rfl
theorem q205 : (Jvm.Cond.instanceMethod ({ cls := "SpanDesk", name := "set", desc := "(IIII)V" } : Jvm.MethodName)) ∈ lw_all := lw_g (lw_at lw_m1 202 rfl) rfl
theorem q206 : (Jvm.Cond.selects "SpanDesk" ({ cls := "SpanDesk", name := "set", desc := "(IIII)V" } : Jvm.MethodName) ({ cls := "SpanDesk", name := "set", desc := "(IIII)V" } : Jvm.MethodName)) ∈ lw_all := lw_g (lw_at lw_m1 203 rfl) rfl
theorem q207 : (Jvm.Cond.code ({ cls := "SpanDesk", name := "set", desc := "(IIII)V" } : Jvm.MethodName) prog_5_method_3_code (5 : Nat) (Option.none : Option Jvm.ClassFile.FieldType)) ∈ lw_all := lw_g (lw_at lw_m1 204 rfl) rfl
theorem q208 : (Jvm.Cond.methodLink "SpanDesk" (21 : Nat) ({ cls := "SpanDesk", name := "wide", desc := "(II)J" } : Jvm.MethodName)) ∈ lw_all := lw_g (lw_at lw_m1 205 rfl) rfl
theorem q209 : (Jvm.Cond.static ({ cls := "SpanDesk", name := "wide", desc := "(II)J" } : Jvm.MethodName)) ∈ lw_all := lw_g (lw_at lw_m1 206 rfl) rfl
theorem q210 : (Jvm.Cond.code ({ cls := "SpanDesk", name := "wide", desc := "(II)J" } : Jvm.MethodName) prog_5_method_2_code (2 : Nat) (Option.some Jvm.ClassFile.FieldType.long)) ∈ lw_all := lw_g (lw_at lw_m1 207 rfl) rfl
theorem q211 : (Jvm.Cond.constantLong "SpanDesk" (19 : Nat) (4294967295 : Int64)) ∈ lw_all := lw_g (lw_at lw_m1 208 rfl) rfl
theorem q224 : (Jvm.Cond.instanceMethod ({ cls := "SpanDesk", name := "plus", desc := "(I)Z" } : Jvm.MethodName)) ∈ lw_all := lw_g (lw_at lw_m1 221 rfl) rfl
theorem q225 : (Jvm.Cond.selects "SpanDesk" ({ cls := "SpanDesk", name := "plus", desc := "(I)Z" } : Jvm.MethodName) ({ cls := "SpanDesk", name := "plus", desc := "(I)Z" } : Jvm.MethodName)) ∈ lw_all := lw_g (lw_at lw_m1 222 rfl) rfl
theorem q226 : (Jvm.Cond.code ({ cls := "SpanDesk", name := "plus", desc := "(I)Z" } : Jvm.MethodName) prog_5_method_5_code (2 : Nat) (Option.some Jvm.ClassFile.FieldType.boolean)) ∈ lw_all := lw_g (lw_at lw_m1 223 rfl) rfl
theorem q227 : (Jvm.Cond.methodLink "SpanDesk" (33 : Nat) ({ cls := "SpanDesk", name := "room", desc := "()Z" } : Jvm.MethodName)) ∈ lw_all := lw_g (lw_at lw_m1 224 rfl) rfl
theorem q228 : (Jvm.Cond.privateMethod ({ cls := "SpanDesk", name := "room", desc := "()Z" } : Jvm.MethodName)) ∈ lw_tbl := lw_at lw_m1 225 rfl
theorem q229 : (Jvm.Cond.instanceMethod ({ cls := "SpanDesk", name := "room", desc := "()Z" } : Jvm.MethodName)) ∈ lw_all := lw_g (lw_at lw_m1 226 rfl) rfl
theorem q230 : (Jvm.Cond.code ({ cls := "SpanDesk", name := "room", desc := "()Z" } : Jvm.MethodName) prog_5_method_4_code (5 : Nat) (Option.some Jvm.ClassFile.FieldType.boolean)) ∈ lw_all := lw_g (lw_at lw_m1 227 rfl) rfl
theorem q231 : (Jvm.Cond.constantLong "SpanDesk" (29 : Nat) (4611686018427387904 : Int64)) ∈ lw_all := lw_g (lw_at lw_m1 228 rfl) rfl
theorem q232 : (Jvm.Cond.constantLong "SpanDesk" (31 : Nat) (-4611686018427387904 : Int64)) ∈ lw_all := lw_g (lw_at lw_m1 229 rfl) rfl
theorem q233 : (Jvm.Cond.methodLink "SpanDesk" (37 : Nat) ({ cls := "Duration", name := "plus", desc := "(LDuration;)LDuration;" } : Jvm.MethodName)) ∈ lw_all := lw_g (lw_at lw_m1 230 rfl) rfl
theorem q245 : (Jvm.Cond.instanceMethod ({ cls := "SpanDesk", name := "minus", desc := "(I)Z" } : Jvm.MethodName)) ∈ lw_all := lw_g (lw_at lw_m2 2 rfl) rfl
theorem q246 : (Jvm.Cond.selects "SpanDesk" ({ cls := "SpanDesk", name := "minus", desc := "(I)Z" } : Jvm.MethodName) ({ cls := "SpanDesk", name := "minus", desc := "(I)Z" } : Jvm.MethodName)) ∈ lw_all := lw_g (lw_at lw_m2 3 rfl) rfl
theorem q247 : (Jvm.Cond.code ({ cls := "SpanDesk", name := "minus", desc := "(I)Z" } : Jvm.MethodName) prog_5_method_6_code (2 : Nat) (Option.some Jvm.ClassFile.FieldType.boolean)) ∈ lw_all := lw_g (lw_at lw_m2 4 rfl) rfl
theorem q248 : (Jvm.Cond.methodLink "SpanDesk" (41 : Nat) ({ cls := "Duration", name := "minus", desc := "(LDuration;)LDuration;" } : Jvm.MethodName)) ∈ lw_all := lw_g (lw_at lw_m2 5 rfl) rfl
theorem q255 : (Jvm.Cond.instanceMethod ({ cls := "SpanDesk", name := "seconds", desc := "(II)Z" } : Jvm.MethodName)) ∈ lw_all := lw_g (lw_at lw_m2 12 rfl) rfl
theorem q256 : (Jvm.Cond.selects "SpanDesk" ({ cls := "SpanDesk", name := "seconds", desc := "(II)Z" } : Jvm.MethodName) ({ cls := "SpanDesk", name := "seconds", desc := "(II)Z" } : Jvm.MethodName)) ∈ lw_all := lw_g (lw_at lw_m2 13 rfl) rfl
theorem q257 : (Jvm.Cond.code ({ cls := "SpanDesk", name := "seconds", desc := "(II)Z" } : Jvm.MethodName) prog_5_method_7_code (3 : Nat) (Option.some Jvm.ClassFile.FieldType.boolean)) ∈ lw_all := lw_g (lw_at lw_m2 14 rfl) rfl
theorem q258 : (Jvm.Cond.methodLink "SpanDesk" (44 : Nat) ({ cls := "Duration", name := "plusSeconds", desc := "(J)LDuration;" } : Jvm.MethodName)) ∈ lw_all := lw_g (lw_at lw_m2 15 rfl) rfl
theorem q263 : (Jvm.Cond.instanceMethod ({ cls := "SpanDesk", name := "millis", desc := "(II)Z" } : Jvm.MethodName)) ∈ lw_all := lw_g (lw_at lw_m2 20 rfl) rfl
theorem q264 : (Jvm.Cond.selects "SpanDesk" ({ cls := "SpanDesk", name := "millis", desc := "(II)Z" } : Jvm.MethodName) ({ cls := "SpanDesk", name := "millis", desc := "(II)Z" } : Jvm.MethodName)) ∈ lw_all := lw_g (lw_at lw_m2 21 rfl) rfl
theorem q265 : (Jvm.Cond.code ({ cls := "SpanDesk", name := "millis", desc := "(II)Z" } : Jvm.MethodName) prog_5_method_8_code (3 : Nat) (Option.some Jvm.ClassFile.FieldType.boolean)) ∈ lw_all := lw_g (lw_at lw_m2 22 rfl) rfl
theorem q266 : (Jvm.Cond.methodLink "SpanDesk" (48 : Nat) ({ cls := "Duration", name := "plusMillis", desc := "(J)LDuration;" } : Jvm.MethodName)) ∈ lw_all := lw_g (lw_at lw_m2 23 rfl) rfl
theorem q273 : (Jvm.Cond.instanceMethod ({ cls := "SpanDesk", name := "nanos", desc := "(II)Z" } : Jvm.MethodName)) ∈ lw_all := lw_g (lw_at lw_m2 30 rfl) rfl
theorem q274 : (Jvm.Cond.selects "SpanDesk" ({ cls := "SpanDesk", name := "nanos", desc := "(II)Z" } : Jvm.MethodName) ({ cls := "SpanDesk", name := "nanos", desc := "(II)Z" } : Jvm.MethodName)) ∈ lw_all := lw_g (lw_at lw_m2 31 rfl) rfl
theorem q275 : (Jvm.Cond.code ({ cls := "SpanDesk", name := "nanos", desc := "(II)Z" } : Jvm.MethodName) prog_5_method_9_code (3 : Nat) (Option.some Jvm.ClassFile.FieldType.boolean)) ∈ lw_all := lw_g (lw_at lw_m2 32 rfl) rfl
theorem q276 : (Jvm.Cond.methodLink "SpanDesk" (51 : Nat) ({ cls := "Duration", name := "plusNanos", desc := "(J)LDuration;" } : Jvm.MethodName)) ∈ lw_all := lw_g (lw_at lw_m2 33 rfl) rfl
theorem in_X1 : ∀ w ∈ wsX10, w ∈ lw_all := lw_in wsX10 [120] (by decide +kernel) (by decide +kernel)
end
section
/-! SpanDeskLaw -/
set_option maxRecDepth 100000
def RX0 : String := "SpanDeskLaw"
abbrev cX0_cell : ByteArray := method_2_code
def yX0_cell : MethodName := ⟨RX0, "cell", "([II)I"⟩
def dkwX0_cell_0 : List UInt8 := [27, 42, 190, 162, 0, 9, 42, 27, 46, 167, 0, 4, 3, 172]
abbrev dktX0_cell_0 : List UInt8 := dkwX0_cell_0 ++ []
theorem dksX0_cell_0 : cX0_cell.data.toList.drop 0 = dktX0_cell_0 := by decide +kernel
theorem dX0_cell_0 : decode cX0_cell 0 = .ok (.iload_n 1, 1) := dk_27 (dk_at dksX0_cell_0 0 rfl rfl)
theorem dX0_cell_1 : decode cX0_cell 1 = .ok (.aload_n 0, 1) := dk_42 (dk_at dksX0_cell_0 1 rfl rfl)
theorem dX0_cell_2 : decode cX0_cell 2 = .ok (.arraylength, 1) := dk_190 (dk_at dksX0_cell_0 2 rfl rfl)
theorem dX0_cell_3 : decode cX0_cell 3 = .ok (.if_icmp .ge 9, 3) := dk_162 0 9 (dk_at dksX0_cell_0 3 rfl rfl)
theorem dX0_cell_6 : decode cX0_cell 6 = .ok (.aload_n 0, 1) := dk_42 (dk_at dksX0_cell_0 6 rfl rfl)
theorem dX0_cell_7 : decode cX0_cell 7 = .ok (.iload_n 1, 1) := dk_27 (dk_at dksX0_cell_0 7 rfl rfl)
theorem dX0_cell_8 : decode cX0_cell 8 = .ok (.iaload, 1) := dk_46 (dk_at dksX0_cell_0 8 rfl rfl)
theorem dX0_cell_9 : decode cX0_cell 9 = .ok (.goto 4, 3) := dk_167 0 4 (dk_at dksX0_cell_0 9 rfl rfl)
theorem dX0_cell_12 : decode cX0_cell 12 = .ok (.iconst 0, 1) := dk_3 (dk_at dksX0_cell_0 12 rfl rfl)
theorem dX0_cell_13 : decode cX0_cell 13 = .ok (.ireturn, 1) := dk_172 (dk_at dksX0_cell_0 13 rfl rfl)
abbrev cX0_mod : ByteArray := method_3_code
def yX0_mod : MethodName := ⟨RX0, "mod", "(II)I"⟩
def dkwX0_mod_0 : List UInt8 := [26, 18, 7, 126, 27, 112, 172]
abbrev dktX0_mod_0 : List UInt8 := dkwX0_mod_0 ++ []
theorem dksX0_mod_0 : cX0_mod.data.toList.drop 0 = dktX0_mod_0 := by decide +kernel
theorem dX0_mod_0 : decode cX0_mod 0 = .ok (.iload_n 0, 1) := dk_26 (dk_at dksX0_mod_0 0 rfl rfl)
theorem dX0_mod_1 : decode cX0_mod 1 = .ok (.ldc 7, 2) := dk_18 7 (dk_at dksX0_mod_0 1 rfl rfl)
theorem dX0_mod_3 : decode cX0_mod 3 = .ok (.iand, 1) := dk_126 (dk_at dksX0_mod_0 3 rfl rfl)
theorem dX0_mod_4 : decode cX0_mod 4 = .ok (.iload_n 1, 1) := dk_27 (dk_at dksX0_mod_0 4 rfl rfl)
theorem dX0_mod_5 : decode cX0_mod 5 = .ok (.irem, 1) := dk_112 (dk_at dksX0_mod_0 5 rfl rfl)
theorem dX0_mod_6 : decode cX0_mod 6 = .ok (.ireturn, 1) := dk_172 (dk_at dksX0_mod_0 6 rfl rfl)
abbrev cX0_near : ByteArray := method_6_code
def yX0_near : MethodName := ⟨RX0, "near", "([J)Z"⟩
def dkwX0_near_1 : List UInt8 := [3, 172]
abbrev dktX0_near_1 : List UInt8 := dkwX0_near_1 ++ []
def dkwX0_near_0 : List UInt8 := [42, 3, 47, 20, 0, 16, 148, 156, 0, 17, 42, 3, 47, 20, 0, 18, 148, 158, 0, 7, 4, 167, 0, 4]
abbrev dktX0_near_0 : List UInt8 := dkwX0_near_0 ++ dktX0_near_1
theorem dksX0_near_0 : cX0_near.data.toList.drop 0 = dktX0_near_0 := by decide +kernel
theorem dksX0_near_1 : cX0_near.data.toList.drop 24 = dktX0_near_1 := dk_seg dksX0_near_0 24 rfl rfl
theorem dX0_near_0 : decode cX0_near 0 = .ok (.aload_n 0, 1) := dk_42 (dk_at dksX0_near_0 0 rfl rfl)
theorem dX0_near_1 : decode cX0_near 1 = .ok (.iconst 0, 1) := dk_3 (dk_at dksX0_near_0 1 rfl rfl)
theorem dX0_near_2 : decode cX0_near 2 = .ok (.laload, 1) := dk_47 (dk_at dksX0_near_0 2 rfl rfl)
theorem dX0_near_3 : decode cX0_near 3 = .ok (.ldc2_w 16, 3) := dk_20 0 16 (dk_at dksX0_near_0 3 rfl rfl)
theorem dX0_near_6 : decode cX0_near 6 = .ok (.lcmp, 1) := dk_148 (dk_at dksX0_near_0 6 rfl rfl)
theorem dX0_near_7 : decode cX0_near 7 = .ok (.ifCond .ge 17, 3) := dk_156 0 17 (dk_at dksX0_near_0 7 rfl rfl)
theorem dX0_near_10 : decode cX0_near 10 = .ok (.aload_n 0, 1) := dk_42 (dk_at dksX0_near_0 10 rfl rfl)
theorem dX0_near_11 : decode cX0_near 11 = .ok (.iconst 0, 1) := dk_3 (dk_at dksX0_near_0 11 rfl rfl)
theorem dX0_near_12 : decode cX0_near 12 = .ok (.laload, 1) := dk_47 (dk_at dksX0_near_0 12 rfl rfl)
theorem dX0_near_13 : decode cX0_near 13 = .ok (.ldc2_w 18, 3) := dk_20 0 18 (dk_at dksX0_near_0 13 rfl rfl)
theorem dX0_near_16 : decode cX0_near 16 = .ok (.lcmp, 1) := dk_148 (dk_at dksX0_near_0 16 rfl rfl)
theorem dX0_near_17 : decode cX0_near 17 = .ok (.ifCond .le 7, 3) := dk_158 0 7 (dk_at dksX0_near_0 17 rfl rfl)
theorem dX0_near_20 : decode cX0_near 20 = .ok (.iconst 1, 1) := dk_4 (dk_at dksX0_near_0 20 rfl rfl)
theorem dX0_near_21 : decode cX0_near 21 = .ok (.goto 4, 3) := dk_167 0 4 (dk_at dksX0_near_0 21 rfl rfl)
theorem dX0_near_24 : decode cX0_near 24 = .ok (.iconst 0, 1) := dk_3 (dk_at dksX0_near_1 0 rfl rfl)
theorem dX0_near_25 : decode cX0_near 25 = .ok (.ireturn, 1) := dk_172 (dk_at dksX0_near_1 1 rfl rfl)
abbrev cX0_shown : ByteArray := method_7_code
def yX0_shown : MethodName := ⟨RX0, "shown", "(LSpanDesk;[[JI)Z"⟩
def dkwX0_shown_9 : List UInt8 := [47, 148, 158, 0, 7, 4, 167, 0, 4, 3, 160, 0, 7, 4, 167, 0, 4, 3, 172]
abbrev dktX0_shown_9 : List UInt8 := dkwX0_shown_9 ++ []
def dkwX0_shown_8 : List UInt8 := [167, 0, 34, 45, 4, 47, 25, 4, 4, 47, 148, 156, 0, 7, 2, 167, 0, 19, 45, 4, 47, 25, 4, 4]
abbrev dktX0_shown_8 : List UInt8 := dkwX0_shown_8 ++ dktX0_shown_9
def dkwX0_shown_7 : List UInt8 := [25, 4, 3, 47, 148, 153, 0, 22, 45, 3, 47, 25, 4, 3, 47, 148, 156, 0, 7, 2, 167, 0, 38, 4]
abbrev dktX0_shown_7 : List UInt8 := dkwX0_shown_7 ++ dktX0_shown_8
def dkwX0_shown_6 : List UInt8 := [172, 132, 3, 1, 167, 255, 112, 43, 3, 50, 78, 43, 4, 50, 58, 4, 42, 182, 0, 47, 45, 3, 47]
abbrev dktX0_shown_6 : List UInt8 := dkwX0_shown_6 ++ dktX0_shown_7
def dkwX0_shown_5 : List UInt8 := [109, 148, 154, 0, 21, 42, 21, 4, 182, 0, 42, 25, 5, 3, 47, 20, 0, 45, 109, 148, 153, 0, 5, 3]
abbrev dktX0_shown_5 : List UInt8 := dkwX0_shown_5 ++ dktX0_shown_6
def dkwX0_shown_4 : List UInt8 := [154, 0, 7, 4, 167, 0, 4, 3, 160, 0, 39, 42, 21, 4, 182, 0, 37, 25, 5, 3, 47, 20, 0, 40]
abbrev dktX0_shown_4 : List UInt8 := dkwX0_shown_4 ++ dktX0_shown_5
def dkwX0_shown_3 : List UInt8 := [160, 0, 71, 42, 21, 4, 182, 0, 34, 25, 5, 3, 47, 9, 148, 154, 0, 16, 25, 5, 4, 47, 9, 148]
abbrev dktX0_shown_3 : List UInt8 := dkwX0_shown_3 ++ dktX0_shown_4
def dkwX0_shown_2 : List UInt8 := [154, 0, 94, 42, 21, 4, 182, 0, 30, 25, 5, 3, 47, 9, 148, 156, 0, 7, 4, 167, 0, 4, 3]
abbrev dktX0_shown_2 : List UInt8 := dkwX0_shown_2 ++ dktX0_shown_3
def dkwX0_shown_1 : List UInt8 := [182, 0, 20, 25, 5, 3, 47, 148, 154, 0, 109, 42, 21, 4, 182, 0, 26, 133, 25, 5, 4, 47, 148]
abbrev dktX0_shown_1 : List UInt8 := dkwX0_shown_1 ++ dktX0_shown_2
def dkwX0_shown_0 : List UInt8 := [3, 62, 29, 5, 162, 0, 145, 28, 28, 4, 126, 100, 29, 96, 54, 4, 43, 29, 50, 58, 5, 42, 21, 4]
abbrev dktX0_shown_0 : List UInt8 := dkwX0_shown_0 ++ dktX0_shown_1
theorem dksX0_shown_0 : cX0_shown.data.toList.drop 0 = dktX0_shown_0 := by decide +kernel
theorem dksX0_shown_1 : cX0_shown.data.toList.drop 24 = dktX0_shown_1 := dk_seg dksX0_shown_0 24 rfl rfl
theorem dksX0_shown_2 : cX0_shown.data.toList.drop 47 = dktX0_shown_2 := dk_seg dksX0_shown_1 23 rfl rfl
theorem dksX0_shown_3 : cX0_shown.data.toList.drop 70 = dktX0_shown_3 := dk_seg dksX0_shown_2 23 rfl rfl
theorem dksX0_shown_4 : cX0_shown.data.toList.drop 94 = dktX0_shown_4 := dk_seg dksX0_shown_3 24 rfl rfl
theorem dksX0_shown_5 : cX0_shown.data.toList.drop 118 = dktX0_shown_5 := dk_seg dksX0_shown_4 24 rfl rfl
theorem dksX0_shown_6 : cX0_shown.data.toList.drop 142 = dktX0_shown_6 := dk_seg dksX0_shown_5 24 rfl rfl
theorem dksX0_shown_7 : cX0_shown.data.toList.drop 165 = dktX0_shown_7 := dk_seg dksX0_shown_6 23 rfl rfl
theorem dksX0_shown_8 : cX0_shown.data.toList.drop 189 = dktX0_shown_8 := dk_seg dksX0_shown_7 24 rfl rfl
theorem dksX0_shown_9 : cX0_shown.data.toList.drop 213 = dktX0_shown_9 := dk_seg dksX0_shown_8 24 rfl rfl
theorem dX0_shown_0 : decode cX0_shown 0 = .ok (.iconst 0, 1) := dk_3 (dk_at dksX0_shown_0 0 rfl rfl)
theorem dX0_shown_1 : decode cX0_shown 1 = .ok (.istore_n 3, 1) := dk_62 (dk_at dksX0_shown_0 1 rfl rfl)
theorem dX0_shown_2 : decode cX0_shown 2 = .ok (.iload_n 3, 1) := dk_29 (dk_at dksX0_shown_0 2 rfl rfl)
theorem dX0_shown_3 : decode cX0_shown 3 = .ok (.iconst 2, 1) := dk_5 (dk_at dksX0_shown_0 3 rfl rfl)
theorem dX0_shown_4 : decode cX0_shown 4 = .ok (.if_icmp .ge 145, 3) := dk_162 0 145 (dk_at dksX0_shown_0 4 rfl rfl)
theorem dX0_shown_7 : decode cX0_shown 7 = .ok (.iload_n 2, 1) := dk_28 (dk_at dksX0_shown_0 7 rfl rfl)
theorem dX0_shown_8 : decode cX0_shown 8 = .ok (.iload_n 2, 1) := dk_28 (dk_at dksX0_shown_0 8 rfl rfl)
theorem dX0_shown_9 : decode cX0_shown 9 = .ok (.iconst 1, 1) := dk_4 (dk_at dksX0_shown_0 9 rfl rfl)
theorem dX0_shown_10 : decode cX0_shown 10 = .ok (.iand, 1) := dk_126 (dk_at dksX0_shown_0 10 rfl rfl)
theorem dX0_shown_11 : decode cX0_shown 11 = .ok (.isub, 1) := dk_100 (dk_at dksX0_shown_0 11 rfl rfl)
theorem dX0_shown_12 : decode cX0_shown 12 = .ok (.iload_n 3, 1) := dk_29 (dk_at dksX0_shown_0 12 rfl rfl)
theorem dX0_shown_13 : decode cX0_shown 13 = .ok (.iadd, 1) := dk_96 (dk_at dksX0_shown_0 13 rfl rfl)
theorem dX0_shown_14 : decode cX0_shown 14 = .ok (.istore 4, 2) := dk_54 4 (dk_at dksX0_shown_0 14 rfl rfl)
theorem dX0_shown_16 : decode cX0_shown 16 = .ok (.aload_n 1, 1) := dk_43 (dk_at dksX0_shown_0 16 rfl rfl)
theorem dX0_shown_17 : decode cX0_shown 17 = .ok (.iload_n 3, 1) := dk_29 (dk_at dksX0_shown_0 17 rfl rfl)
theorem dX0_shown_18 : decode cX0_shown 18 = .ok (.aaload, 1) := dk_50 (dk_at dksX0_shown_0 18 rfl rfl)
theorem dX0_shown_19 : decode cX0_shown 19 = .ok (.astore 5, 2) := dk_58 5 (dk_at dksX0_shown_0 19 rfl rfl)
theorem dX0_shown_21 : decode cX0_shown 21 = .ok (.aload_n 0, 1) := dk_42 (dk_at dksX0_shown_0 21 rfl rfl)
theorem dX0_shown_22 : decode cX0_shown 22 = .ok (.iload 4, 2) := dk_21 4 (dk_at dksX0_shown_0 22 rfl rfl)
theorem dX0_shown_24 : decode cX0_shown 24 = .ok (.invokevirtual 20, 3) := dk_182 0 20 (dk_at dksX0_shown_1 0 rfl rfl)
theorem dX0_shown_27 : decode cX0_shown 27 = .ok (.aload 5, 2) := dk_25 5 (dk_at dksX0_shown_1 3 rfl rfl)
theorem dX0_shown_29 : decode cX0_shown 29 = .ok (.iconst 0, 1) := dk_3 (dk_at dksX0_shown_1 5 rfl rfl)
theorem dX0_shown_30 : decode cX0_shown 30 = .ok (.laload, 1) := dk_47 (dk_at dksX0_shown_1 6 rfl rfl)
theorem dX0_shown_31 : decode cX0_shown 31 = .ok (.lcmp, 1) := dk_148 (dk_at dksX0_shown_1 7 rfl rfl)
theorem dX0_shown_32 : decode cX0_shown 32 = .ok (.ifCond .ne 109, 3) := dk_154 0 109 (dk_at dksX0_shown_1 8 rfl rfl)
theorem dX0_shown_35 : decode cX0_shown 35 = .ok (.aload_n 0, 1) := dk_42 (dk_at dksX0_shown_1 11 rfl rfl)
theorem dX0_shown_36 : decode cX0_shown 36 = .ok (.iload 4, 2) := dk_21 4 (dk_at dksX0_shown_1 12 rfl rfl)
theorem dX0_shown_38 : decode cX0_shown 38 = .ok (.invokevirtual 26, 3) := dk_182 0 26 (dk_at dksX0_shown_1 14 rfl rfl)
theorem dX0_shown_41 : decode cX0_shown 41 = .ok (.i2l, 1) := dk_133 (dk_at dksX0_shown_1 17 rfl rfl)
theorem dX0_shown_42 : decode cX0_shown 42 = .ok (.aload 5, 2) := dk_25 5 (dk_at dksX0_shown_1 18 rfl rfl)
theorem dX0_shown_44 : decode cX0_shown 44 = .ok (.iconst 1, 1) := dk_4 (dk_at dksX0_shown_1 20 rfl rfl)
theorem dX0_shown_45 : decode cX0_shown 45 = .ok (.laload, 1) := dk_47 (dk_at dksX0_shown_1 21 rfl rfl)
theorem dX0_shown_46 : decode cX0_shown 46 = .ok (.lcmp, 1) := dk_148 (dk_at dksX0_shown_1 22 rfl rfl)
theorem dX0_shown_47 : decode cX0_shown 47 = .ok (.ifCond .ne 94, 3) := dk_154 0 94 (dk_at dksX0_shown_2 0 rfl rfl)
theorem dX0_shown_50 : decode cX0_shown 50 = .ok (.aload_n 0, 1) := dk_42 (dk_at dksX0_shown_2 3 rfl rfl)
theorem dX0_shown_51 : decode cX0_shown 51 = .ok (.iload 4, 2) := dk_21 4 (dk_at dksX0_shown_2 4 rfl rfl)
theorem dX0_shown_53 : decode cX0_shown 53 = .ok (.invokevirtual 30, 3) := dk_182 0 30 (dk_at dksX0_shown_2 6 rfl rfl)
theorem dX0_shown_56 : decode cX0_shown 56 = .ok (.aload 5, 2) := dk_25 5 (dk_at dksX0_shown_2 9 rfl rfl)
theorem dX0_shown_58 : decode cX0_shown 58 = .ok (.iconst 0, 1) := dk_3 (dk_at dksX0_shown_2 11 rfl rfl)
theorem dX0_shown_59 : decode cX0_shown 59 = .ok (.laload, 1) := dk_47 (dk_at dksX0_shown_2 12 rfl rfl)
theorem dX0_shown_60 : decode cX0_shown 60 = .ok (.lconst 0, 1) := dk_9 (dk_at dksX0_shown_2 13 rfl rfl)
theorem dX0_shown_61 : decode cX0_shown 61 = .ok (.lcmp, 1) := dk_148 (dk_at dksX0_shown_2 14 rfl rfl)
theorem dX0_shown_62 : decode cX0_shown 62 = .ok (.ifCond .ge 7, 3) := dk_156 0 7 (dk_at dksX0_shown_2 15 rfl rfl)
theorem dX0_shown_65 : decode cX0_shown 65 = .ok (.iconst 1, 1) := dk_4 (dk_at dksX0_shown_2 18 rfl rfl)
theorem dX0_shown_66 : decode cX0_shown 66 = .ok (.goto 4, 3) := dk_167 0 4 (dk_at dksX0_shown_2 19 rfl rfl)
theorem dX0_shown_69 : decode cX0_shown 69 = .ok (.iconst 0, 1) := dk_3 (dk_at dksX0_shown_2 22 rfl rfl)
theorem dX0_shown_70 : decode cX0_shown 70 = .ok (.if_icmp .ne 71, 3) := dk_160 0 71 (dk_at dksX0_shown_3 0 rfl rfl)
theorem dX0_shown_73 : decode cX0_shown 73 = .ok (.aload_n 0, 1) := dk_42 (dk_at dksX0_shown_3 3 rfl rfl)
theorem dX0_shown_74 : decode cX0_shown 74 = .ok (.iload 4, 2) := dk_21 4 (dk_at dksX0_shown_3 4 rfl rfl)
theorem dX0_shown_76 : decode cX0_shown 76 = .ok (.invokevirtual 34, 3) := dk_182 0 34 (dk_at dksX0_shown_3 6 rfl rfl)
theorem dX0_shown_79 : decode cX0_shown 79 = .ok (.aload 5, 2) := dk_25 5 (dk_at dksX0_shown_3 9 rfl rfl)
theorem dX0_shown_81 : decode cX0_shown 81 = .ok (.iconst 0, 1) := dk_3 (dk_at dksX0_shown_3 11 rfl rfl)
theorem dX0_shown_82 : decode cX0_shown 82 = .ok (.laload, 1) := dk_47 (dk_at dksX0_shown_3 12 rfl rfl)
theorem dX0_shown_83 : decode cX0_shown 83 = .ok (.lconst 0, 1) := dk_9 (dk_at dksX0_shown_3 13 rfl rfl)
theorem dX0_shown_84 : decode cX0_shown 84 = .ok (.lcmp, 1) := dk_148 (dk_at dksX0_shown_3 14 rfl rfl)
theorem dX0_shown_85 : decode cX0_shown 85 = .ok (.ifCond .ne 16, 3) := dk_154 0 16 (dk_at dksX0_shown_3 15 rfl rfl)
theorem dX0_shown_88 : decode cX0_shown 88 = .ok (.aload 5, 2) := dk_25 5 (dk_at dksX0_shown_3 18 rfl rfl)
theorem dX0_shown_90 : decode cX0_shown 90 = .ok (.iconst 1, 1) := dk_4 (dk_at dksX0_shown_3 20 rfl rfl)
theorem dX0_shown_91 : decode cX0_shown 91 = .ok (.laload, 1) := dk_47 (dk_at dksX0_shown_3 21 rfl rfl)
theorem dX0_shown_92 : decode cX0_shown 92 = .ok (.lconst 0, 1) := dk_9 (dk_at dksX0_shown_3 22 rfl rfl)
theorem dX0_shown_93 : decode cX0_shown 93 = .ok (.lcmp, 1) := dk_148 (dk_at dksX0_shown_3 23 rfl rfl)
theorem dX0_shown_94 : decode cX0_shown 94 = .ok (.ifCond .ne 7, 3) := dk_154 0 7 (dk_at dksX0_shown_4 0 rfl rfl)
theorem dX0_shown_97 : decode cX0_shown 97 = .ok (.iconst 1, 1) := dk_4 (dk_at dksX0_shown_4 3 rfl rfl)
theorem dX0_shown_98 : decode cX0_shown 98 = .ok (.goto 4, 3) := dk_167 0 4 (dk_at dksX0_shown_4 4 rfl rfl)
theorem dX0_shown_101 : decode cX0_shown 101 = .ok (.iconst 0, 1) := dk_3 (dk_at dksX0_shown_4 7 rfl rfl)
theorem dX0_shown_102 : decode cX0_shown 102 = .ok (.if_icmp .ne 39, 3) := dk_160 0 39 (dk_at dksX0_shown_4 8 rfl rfl)
theorem dX0_shown_105 : decode cX0_shown 105 = .ok (.aload_n 0, 1) := dk_42 (dk_at dksX0_shown_4 11 rfl rfl)
theorem dX0_shown_106 : decode cX0_shown 106 = .ok (.iload 4, 2) := dk_21 4 (dk_at dksX0_shown_4 12 rfl rfl)
theorem dX0_shown_108 : decode cX0_shown 108 = .ok (.invokevirtual 37, 3) := dk_182 0 37 (dk_at dksX0_shown_4 14 rfl rfl)
theorem dX0_shown_111 : decode cX0_shown 111 = .ok (.aload 5, 2) := dk_25 5 (dk_at dksX0_shown_4 17 rfl rfl)
theorem dX0_shown_113 : decode cX0_shown 113 = .ok (.iconst 0, 1) := dk_3 (dk_at dksX0_shown_4 19 rfl rfl)
theorem dX0_shown_114 : decode cX0_shown 114 = .ok (.laload, 1) := dk_47 (dk_at dksX0_shown_4 20 rfl rfl)
theorem dX0_shown_115 : decode cX0_shown 115 = .ok (.ldc2_w 40, 3) := dk_20 0 40 (dk_at dksX0_shown_4 21 rfl rfl)
theorem dX0_shown_118 : decode cX0_shown 118 = .ok (.ldiv, 1) := dk_109 (dk_at dksX0_shown_5 0 rfl rfl)
theorem dX0_shown_119 : decode cX0_shown 119 = .ok (.lcmp, 1) := dk_148 (dk_at dksX0_shown_5 1 rfl rfl)
theorem dX0_shown_120 : decode cX0_shown 120 = .ok (.ifCond .ne 21, 3) := dk_154 0 21 (dk_at dksX0_shown_5 2 rfl rfl)
theorem dX0_shown_123 : decode cX0_shown 123 = .ok (.aload_n 0, 1) := dk_42 (dk_at dksX0_shown_5 5 rfl rfl)
theorem dX0_shown_124 : decode cX0_shown 124 = .ok (.iload 4, 2) := dk_21 4 (dk_at dksX0_shown_5 6 rfl rfl)
theorem dX0_shown_126 : decode cX0_shown 126 = .ok (.invokevirtual 42, 3) := dk_182 0 42 (dk_at dksX0_shown_5 8 rfl rfl)
theorem dX0_shown_129 : decode cX0_shown 129 = .ok (.aload 5, 2) := dk_25 5 (dk_at dksX0_shown_5 11 rfl rfl)
theorem dX0_shown_131 : decode cX0_shown 131 = .ok (.iconst 0, 1) := dk_3 (dk_at dksX0_shown_5 13 rfl rfl)
theorem dX0_shown_132 : decode cX0_shown 132 = .ok (.laload, 1) := dk_47 (dk_at dksX0_shown_5 14 rfl rfl)
theorem dX0_shown_133 : decode cX0_shown 133 = .ok (.ldc2_w 45, 3) := dk_20 0 45 (dk_at dksX0_shown_5 15 rfl rfl)
theorem dX0_shown_136 : decode cX0_shown 136 = .ok (.ldiv, 1) := dk_109 (dk_at dksX0_shown_5 18 rfl rfl)
theorem dX0_shown_137 : decode cX0_shown 137 = .ok (.lcmp, 1) := dk_148 (dk_at dksX0_shown_5 19 rfl rfl)
theorem dX0_shown_138 : decode cX0_shown 138 = .ok (.ifCond .eq 5, 3) := dk_153 0 5 (dk_at dksX0_shown_5 20 rfl rfl)
theorem dX0_shown_141 : decode cX0_shown 141 = .ok (.iconst 0, 1) := dk_3 (dk_at dksX0_shown_5 23 rfl rfl)
theorem dX0_shown_142 : decode cX0_shown 142 = .ok (.ireturn, 1) := dk_172 (dk_at dksX0_shown_6 0 rfl rfl)
theorem dX0_shown_143 : decode cX0_shown 143 = .ok (.iinc 3 1, 3) := dk_132 3 1 (dk_at dksX0_shown_6 1 rfl rfl)
theorem dX0_shown_146 : decode cX0_shown 146 = .ok (.goto (-144), 3) := dk_167 255 112 (dk_at dksX0_shown_6 4 rfl rfl)
theorem dX0_shown_149 : decode cX0_shown 149 = .ok (.aload_n 1, 1) := dk_43 (dk_at dksX0_shown_6 7 rfl rfl)
theorem dX0_shown_150 : decode cX0_shown 150 = .ok (.iconst 0, 1) := dk_3 (dk_at dksX0_shown_6 8 rfl rfl)
theorem dX0_shown_151 : decode cX0_shown 151 = .ok (.aaload, 1) := dk_50 (dk_at dksX0_shown_6 9 rfl rfl)
theorem dX0_shown_152 : decode cX0_shown 152 = .ok (.astore_n 3, 1) := dk_78 (dk_at dksX0_shown_6 10 rfl rfl)
theorem dX0_shown_153 : decode cX0_shown 153 = .ok (.aload_n 1, 1) := dk_43 (dk_at dksX0_shown_6 11 rfl rfl)
theorem dX0_shown_154 : decode cX0_shown 154 = .ok (.iconst 1, 1) := dk_4 (dk_at dksX0_shown_6 12 rfl rfl)
theorem dX0_shown_155 : decode cX0_shown 155 = .ok (.aaload, 1) := dk_50 (dk_at dksX0_shown_6 13 rfl rfl)
theorem dX0_shown_156 : decode cX0_shown 156 = .ok (.astore 4, 2) := dk_58 4 (dk_at dksX0_shown_6 14 rfl rfl)
theorem dX0_shown_158 : decode cX0_shown 158 = .ok (.aload_n 0, 1) := dk_42 (dk_at dksX0_shown_6 16 rfl rfl)
theorem dX0_shown_159 : decode cX0_shown 159 = .ok (.invokevirtual 47, 3) := dk_182 0 47 (dk_at dksX0_shown_6 17 rfl rfl)
theorem dX0_shown_162 : decode cX0_shown 162 = .ok (.aload_n 3, 1) := dk_45 (dk_at dksX0_shown_6 20 rfl rfl)
theorem dX0_shown_163 : decode cX0_shown 163 = .ok (.iconst 0, 1) := dk_3 (dk_at dksX0_shown_6 21 rfl rfl)
theorem dX0_shown_164 : decode cX0_shown 164 = .ok (.laload, 1) := dk_47 (dk_at dksX0_shown_6 22 rfl rfl)
theorem dX0_shown_165 : decode cX0_shown 165 = .ok (.aload 4, 2) := dk_25 4 (dk_at dksX0_shown_7 0 rfl rfl)
theorem dX0_shown_167 : decode cX0_shown 167 = .ok (.iconst 0, 1) := dk_3 (dk_at dksX0_shown_7 2 rfl rfl)
theorem dX0_shown_168 : decode cX0_shown 168 = .ok (.laload, 1) := dk_47 (dk_at dksX0_shown_7 3 rfl rfl)
theorem dX0_shown_169 : decode cX0_shown 169 = .ok (.lcmp, 1) := dk_148 (dk_at dksX0_shown_7 4 rfl rfl)
theorem dX0_shown_170 : decode cX0_shown 170 = .ok (.ifCond .eq 22, 3) := dk_153 0 22 (dk_at dksX0_shown_7 5 rfl rfl)
theorem dX0_shown_173 : decode cX0_shown 173 = .ok (.aload_n 3, 1) := dk_45 (dk_at dksX0_shown_7 8 rfl rfl)
theorem dX0_shown_174 : decode cX0_shown 174 = .ok (.iconst 0, 1) := dk_3 (dk_at dksX0_shown_7 9 rfl rfl)
theorem dX0_shown_175 : decode cX0_shown 175 = .ok (.laload, 1) := dk_47 (dk_at dksX0_shown_7 10 rfl rfl)
theorem dX0_shown_176 : decode cX0_shown 176 = .ok (.aload 4, 2) := dk_25 4 (dk_at dksX0_shown_7 11 rfl rfl)
theorem dX0_shown_178 : decode cX0_shown 178 = .ok (.iconst 0, 1) := dk_3 (dk_at dksX0_shown_7 13 rfl rfl)
theorem dX0_shown_179 : decode cX0_shown 179 = .ok (.laload, 1) := dk_47 (dk_at dksX0_shown_7 14 rfl rfl)
theorem dX0_shown_180 : decode cX0_shown 180 = .ok (.lcmp, 1) := dk_148 (dk_at dksX0_shown_7 15 rfl rfl)
theorem dX0_shown_181 : decode cX0_shown 181 = .ok (.ifCond .ge 7, 3) := dk_156 0 7 (dk_at dksX0_shown_7 16 rfl rfl)
theorem dX0_shown_184 : decode cX0_shown 184 = .ok (.iconst (-1), 1) := dk_2 (dk_at dksX0_shown_7 19 rfl rfl)
theorem dX0_shown_185 : decode cX0_shown 185 = .ok (.goto 38, 3) := dk_167 0 38 (dk_at dksX0_shown_7 20 rfl rfl)
theorem dX0_shown_188 : decode cX0_shown 188 = .ok (.iconst 1, 1) := dk_4 (dk_at dksX0_shown_7 23 rfl rfl)
theorem dX0_shown_189 : decode cX0_shown 189 = .ok (.goto 34, 3) := dk_167 0 34 (dk_at dksX0_shown_8 0 rfl rfl)
theorem dX0_shown_192 : decode cX0_shown 192 = .ok (.aload_n 3, 1) := dk_45 (dk_at dksX0_shown_8 3 rfl rfl)
theorem dX0_shown_193 : decode cX0_shown 193 = .ok (.iconst 1, 1) := dk_4 (dk_at dksX0_shown_8 4 rfl rfl)
theorem dX0_shown_194 : decode cX0_shown 194 = .ok (.laload, 1) := dk_47 (dk_at dksX0_shown_8 5 rfl rfl)
theorem dX0_shown_195 : decode cX0_shown 195 = .ok (.aload 4, 2) := dk_25 4 (dk_at dksX0_shown_8 6 rfl rfl)
theorem dX0_shown_197 : decode cX0_shown 197 = .ok (.iconst 1, 1) := dk_4 (dk_at dksX0_shown_8 8 rfl rfl)
theorem dX0_shown_198 : decode cX0_shown 198 = .ok (.laload, 1) := dk_47 (dk_at dksX0_shown_8 9 rfl rfl)
theorem dX0_shown_199 : decode cX0_shown 199 = .ok (.lcmp, 1) := dk_148 (dk_at dksX0_shown_8 10 rfl rfl)
theorem dX0_shown_200 : decode cX0_shown 200 = .ok (.ifCond .ge 7, 3) := dk_156 0 7 (dk_at dksX0_shown_8 11 rfl rfl)
theorem dX0_shown_203 : decode cX0_shown 203 = .ok (.iconst (-1), 1) := dk_2 (dk_at dksX0_shown_8 14 rfl rfl)
theorem dX0_shown_204 : decode cX0_shown 204 = .ok (.goto 19, 3) := dk_167 0 19 (dk_at dksX0_shown_8 15 rfl rfl)
theorem dX0_shown_207 : decode cX0_shown 207 = .ok (.aload_n 3, 1) := dk_45 (dk_at dksX0_shown_8 18 rfl rfl)
theorem dX0_shown_208 : decode cX0_shown 208 = .ok (.iconst 1, 1) := dk_4 (dk_at dksX0_shown_8 19 rfl rfl)
theorem dX0_shown_209 : decode cX0_shown 209 = .ok (.laload, 1) := dk_47 (dk_at dksX0_shown_8 20 rfl rfl)
theorem dX0_shown_210 : decode cX0_shown 210 = .ok (.aload 4, 2) := dk_25 4 (dk_at dksX0_shown_8 21 rfl rfl)
theorem dX0_shown_212 : decode cX0_shown 212 = .ok (.iconst 1, 1) := dk_4 (dk_at dksX0_shown_8 23 rfl rfl)
theorem dX0_shown_213 : decode cX0_shown 213 = .ok (.laload, 1) := dk_47 (dk_at dksX0_shown_9 0 rfl rfl)
theorem dX0_shown_214 : decode cX0_shown 214 = .ok (.lcmp, 1) := dk_148 (dk_at dksX0_shown_9 1 rfl rfl)
theorem dX0_shown_215 : decode cX0_shown 215 = .ok (.ifCond .le 7, 3) := dk_158 0 7 (dk_at dksX0_shown_9 2 rfl rfl)
theorem dX0_shown_218 : decode cX0_shown 218 = .ok (.iconst 1, 1) := dk_4 (dk_at dksX0_shown_9 5 rfl rfl)
theorem dX0_shown_219 : decode cX0_shown 219 = .ok (.goto 4, 3) := dk_167 0 4 (dk_at dksX0_shown_9 6 rfl rfl)
theorem dX0_shown_222 : decode cX0_shown 222 = .ok (.iconst 0, 1) := dk_3 (dk_at dksX0_shown_9 9 rfl rfl)
theorem dX0_shown_223 : decode cX0_shown 223 = .ok (.if_icmp .ne 7, 3) := dk_160 0 7 (dk_at dksX0_shown_9 10 rfl rfl)
theorem dX0_shown_226 : decode cX0_shown 226 = .ok (.iconst 1, 1) := dk_4 (dk_at dksX0_shown_9 13 rfl rfl)
theorem dX0_shown_227 : decode cX0_shown 227 = .ok (.goto 4, 3) := dk_167 0 4 (dk_at dksX0_shown_9 14 rfl rfl)
theorem dX0_shown_230 : decode cX0_shown 230 = .ok (.iconst 0, 1) := dk_3 (dk_at dksX0_shown_9 17 rfl rfl)
theorem dX0_shown_231 : decode cX0_shown 231 = .ok (.ireturn, 1) := dk_172 (dk_at dksX0_shown_9 18 rfl rfl)
abbrev cX0_laid : ByteArray := method_8_code
def yX0_laid : MethodName := ⟨RX0, "laid", "(LSpanDesk;[[JIIII)V"⟩
def dkwX0_laid_2 : List UInt8 := [184, 0, 57, 177]
abbrev dktX0_laid_2 : List UInt8 := dkwX0_laid_2 ++ []
def dkwX0_laid_1 : List UInt8 := [133, 16, 32, 121, 21, 4, 133, 20, 0, 55, 127, 129, 80, 25, 6, 4, 9, 80, 25, 6, 9, 21, 5, 133]
abbrev dktX0_laid_1 : List UInt8 := dkwX0_laid_1 ++ dktX0_laid_2
def dkwX0_laid_0 : List UInt8 := [42, 28, 29, 21, 4, 21, 5, 182, 0, 51, 43, 28, 4, 126, 50, 58, 6, 25, 6, 3, 29, 16, 8, 122]
abbrev dktX0_laid_0 : List UInt8 := dkwX0_laid_0 ++ dktX0_laid_1
theorem dksX0_laid_0 : cX0_laid.data.toList.drop 0 = dktX0_laid_0 := by decide +kernel
theorem dksX0_laid_1 : cX0_laid.data.toList.drop 24 = dktX0_laid_1 := dk_seg dksX0_laid_0 24 rfl rfl
theorem dksX0_laid_2 : cX0_laid.data.toList.drop 48 = dktX0_laid_2 := dk_seg dksX0_laid_1 24 rfl rfl
theorem dX0_laid_0 : decode cX0_laid 0 = .ok (.aload_n 0, 1) := dk_42 (dk_at dksX0_laid_0 0 rfl rfl)
theorem dX0_laid_1 : decode cX0_laid 1 = .ok (.iload_n 2, 1) := dk_28 (dk_at dksX0_laid_0 1 rfl rfl)
theorem dX0_laid_2 : decode cX0_laid 2 = .ok (.iload_n 3, 1) := dk_29 (dk_at dksX0_laid_0 2 rfl rfl)
theorem dX0_laid_3 : decode cX0_laid 3 = .ok (.iload 4, 2) := dk_21 4 (dk_at dksX0_laid_0 3 rfl rfl)
theorem dX0_laid_5 : decode cX0_laid 5 = .ok (.iload 5, 2) := dk_21 5 (dk_at dksX0_laid_0 5 rfl rfl)
theorem dX0_laid_7 : decode cX0_laid 7 = .ok (.invokevirtual 51, 3) := dk_182 0 51 (dk_at dksX0_laid_0 7 rfl rfl)
theorem dX0_laid_10 : decode cX0_laid 10 = .ok (.aload_n 1, 1) := dk_43 (dk_at dksX0_laid_0 10 rfl rfl)
theorem dX0_laid_11 : decode cX0_laid 11 = .ok (.iload_n 2, 1) := dk_28 (dk_at dksX0_laid_0 11 rfl rfl)
theorem dX0_laid_12 : decode cX0_laid 12 = .ok (.iconst 1, 1) := dk_4 (dk_at dksX0_laid_0 12 rfl rfl)
theorem dX0_laid_13 : decode cX0_laid 13 = .ok (.iand, 1) := dk_126 (dk_at dksX0_laid_0 13 rfl rfl)
theorem dX0_laid_14 : decode cX0_laid 14 = .ok (.aaload, 1) := dk_50 (dk_at dksX0_laid_0 14 rfl rfl)
theorem dX0_laid_15 : decode cX0_laid 15 = .ok (.astore 6, 2) := dk_58 6 (dk_at dksX0_laid_0 15 rfl rfl)
theorem dX0_laid_17 : decode cX0_laid 17 = .ok (.aload 6, 2) := dk_25 6 (dk_at dksX0_laid_0 17 rfl rfl)
theorem dX0_laid_19 : decode cX0_laid 19 = .ok (.iconst 0, 1) := dk_3 (dk_at dksX0_laid_0 19 rfl rfl)
theorem dX0_laid_20 : decode cX0_laid 20 = .ok (.iload_n 3, 1) := dk_29 (dk_at dksX0_laid_0 20 rfl rfl)
theorem dX0_laid_21 : decode cX0_laid 21 = .ok (.bipush 8, 2) := dk_16 8 (dk_at dksX0_laid_0 21 rfl rfl)
theorem dX0_laid_23 : decode cX0_laid 23 = .ok (.ishr, 1) := dk_122 (dk_at dksX0_laid_0 23 rfl rfl)
theorem dX0_laid_24 : decode cX0_laid 24 = .ok (.i2l, 1) := dk_133 (dk_at dksX0_laid_1 0 rfl rfl)
theorem dX0_laid_25 : decode cX0_laid 25 = .ok (.bipush 32, 2) := dk_16 32 (dk_at dksX0_laid_1 1 rfl rfl)
theorem dX0_laid_27 : decode cX0_laid 27 = .ok (.lshl, 1) := dk_121 (dk_at dksX0_laid_1 3 rfl rfl)
theorem dX0_laid_28 : decode cX0_laid 28 = .ok (.iload 4, 2) := dk_21 4 (dk_at dksX0_laid_1 4 rfl rfl)
theorem dX0_laid_30 : decode cX0_laid 30 = .ok (.i2l, 1) := dk_133 (dk_at dksX0_laid_1 6 rfl rfl)
theorem dX0_laid_31 : decode cX0_laid 31 = .ok (.ldc2_w 55, 3) := dk_20 0 55 (dk_at dksX0_laid_1 7 rfl rfl)
theorem dX0_laid_34 : decode cX0_laid 34 = .ok (.land, 1) := dk_127 (dk_at dksX0_laid_1 10 rfl rfl)
theorem dX0_laid_35 : decode cX0_laid 35 = .ok (.lor, 1) := dk_129 (dk_at dksX0_laid_1 11 rfl rfl)
theorem dX0_laid_36 : decode cX0_laid 36 = .ok (.lastore, 1) := dk_80 (dk_at dksX0_laid_1 12 rfl rfl)
theorem dX0_laid_37 : decode cX0_laid 37 = .ok (.aload 6, 2) := dk_25 6 (dk_at dksX0_laid_1 13 rfl rfl)
theorem dX0_laid_39 : decode cX0_laid 39 = .ok (.iconst 1, 1) := dk_4 (dk_at dksX0_laid_1 15 rfl rfl)
theorem dX0_laid_40 : decode cX0_laid 40 = .ok (.lconst 0, 1) := dk_9 (dk_at dksX0_laid_1 16 rfl rfl)
theorem dX0_laid_41 : decode cX0_laid 41 = .ok (.lastore, 1) := dk_80 (dk_at dksX0_laid_1 17 rfl rfl)
theorem dX0_laid_42 : decode cX0_laid 42 = .ok (.aload 6, 2) := dk_25 6 (dk_at dksX0_laid_1 18 rfl rfl)
theorem dX0_laid_44 : decode cX0_laid 44 = .ok (.lconst 0, 1) := dk_9 (dk_at dksX0_laid_1 20 rfl rfl)
theorem dX0_laid_45 : decode cX0_laid 45 = .ok (.iload 5, 2) := dk_21 5 (dk_at dksX0_laid_1 21 rfl rfl)
theorem dX0_laid_47 : decode cX0_laid 47 = .ok (.i2l, 1) := dk_133 (dk_at dksX0_laid_1 23 rfl rfl)
theorem dX0_laid_48 : decode cX0_laid 48 = .ok (.invokestatic 57, 3) := dk_184 0 57 (dk_at dksX0_laid_2 0 rfl rfl)
theorem dX0_laid_51 : decode cX0_laid 51 = .ok (.return_, 1) := dk_177 (dk_at dksX0_laid_2 3 rfl rfl)
abbrev cX0_more : ByteArray := method_5_code
def yX0_more : MethodName := ⟨RX0, "more", "([JJJ)V"⟩
def dkwX0_more_1 : List UInt8 := [4, 22, 5, 22, 5, 20, 0, 10, 184, 0, 12, 20, 0, 10, 105, 101, 80, 177]
abbrev dktX0_more_1 : List UInt8 := dkwX0_more_1 ++ []
def dkwX0_more_0 : List UInt8 := [42, 4, 47, 33, 97, 55, 5, 42, 3, 92, 47, 31, 22, 5, 20, 0, 10, 184, 0, 12, 97, 97, 80, 42]
abbrev dktX0_more_0 : List UInt8 := dkwX0_more_0 ++ dktX0_more_1
theorem dksX0_more_0 : cX0_more.data.toList.drop 0 = dktX0_more_0 := by decide +kernel
theorem dksX0_more_1 : cX0_more.data.toList.drop 24 = dktX0_more_1 := dk_seg dksX0_more_0 24 rfl rfl
theorem dX0_more_0 : decode cX0_more 0 = .ok (.aload_n 0, 1) := dk_42 (dk_at dksX0_more_0 0 rfl rfl)
theorem dX0_more_1 : decode cX0_more 1 = .ok (.iconst 1, 1) := dk_4 (dk_at dksX0_more_0 1 rfl rfl)
theorem dX0_more_2 : decode cX0_more 2 = .ok (.laload, 1) := dk_47 (dk_at dksX0_more_0 2 rfl rfl)
theorem dX0_more_3 : decode cX0_more 3 = .ok (.lload_n 3, 1) := dk_33 (dk_at dksX0_more_0 3 rfl rfl)
theorem dX0_more_4 : decode cX0_more 4 = .ok (.ladd, 1) := dk_97 (dk_at dksX0_more_0 4 rfl rfl)
theorem dX0_more_5 : decode cX0_more 5 = .ok (.lstore 5, 2) := dk_55 5 (dk_at dksX0_more_0 5 rfl rfl)
theorem dX0_more_7 : decode cX0_more 7 = .ok (.aload_n 0, 1) := dk_42 (dk_at dksX0_more_0 7 rfl rfl)
theorem dX0_more_8 : decode cX0_more 8 = .ok (.iconst 0, 1) := dk_3 (dk_at dksX0_more_0 8 rfl rfl)
theorem dX0_more_9 : decode cX0_more 9 = .ok (.dup2, 1) := dk_92 (dk_at dksX0_more_0 9 rfl rfl)
theorem dX0_more_10 : decode cX0_more 10 = .ok (.laload, 1) := dk_47 (dk_at dksX0_more_0 10 rfl rfl)
theorem dX0_more_11 : decode cX0_more 11 = .ok (.lload_n 1, 1) := dk_31 (dk_at dksX0_more_0 11 rfl rfl)
theorem dX0_more_12 : decode cX0_more 12 = .ok (.lload 5, 2) := dk_22 5 (dk_at dksX0_more_0 12 rfl rfl)
theorem dX0_more_14 : decode cX0_more 14 = .ok (.ldc2_w 10, 3) := dk_20 0 10 (dk_at dksX0_more_0 14 rfl rfl)
theorem dX0_more_17 : decode cX0_more 17 = .ok (.invokestatic 12, 3) := dk_184 0 12 (dk_at dksX0_more_0 17 rfl rfl)
theorem dX0_more_20 : decode cX0_more 20 = .ok (.ladd, 1) := dk_97 (dk_at dksX0_more_0 20 rfl rfl)
theorem dX0_more_21 : decode cX0_more 21 = .ok (.ladd, 1) := dk_97 (dk_at dksX0_more_0 21 rfl rfl)
theorem dX0_more_22 : decode cX0_more 22 = .ok (.lastore, 1) := dk_80 (dk_at dksX0_more_0 22 rfl rfl)
theorem dX0_more_23 : decode cX0_more 23 = .ok (.aload_n 0, 1) := dk_42 (dk_at dksX0_more_0 23 rfl rfl)
theorem dX0_more_24 : decode cX0_more 24 = .ok (.iconst 1, 1) := dk_4 (dk_at dksX0_more_1 0 rfl rfl)
theorem dX0_more_25 : decode cX0_more 25 = .ok (.lload 5, 2) := dk_22 5 (dk_at dksX0_more_1 1 rfl rfl)
theorem dX0_more_27 : decode cX0_more 27 = .ok (.lload 5, 2) := dk_22 5 (dk_at dksX0_more_1 3 rfl rfl)
theorem dX0_more_29 : decode cX0_more 29 = .ok (.ldc2_w 10, 3) := dk_20 0 10 (dk_at dksX0_more_1 5 rfl rfl)
theorem dX0_more_32 : decode cX0_more 32 = .ok (.invokestatic 12, 3) := dk_184 0 12 (dk_at dksX0_more_1 8 rfl rfl)
theorem dX0_more_35 : decode cX0_more 35 = .ok (.ldc2_w 10, 3) := dk_20 0 10 (dk_at dksX0_more_1 11 rfl rfl)
theorem dX0_more_38 : decode cX0_more 38 = .ok (.lmul, 1) := dk_105 (dk_at dksX0_more_1 14 rfl rfl)
theorem dX0_more_39 : decode cX0_more 39 = .ok (.lsub, 1) := dk_101 (dk_at dksX0_more_1 15 rfl rfl)
theorem dX0_more_40 : decode cX0_more 40 = .ok (.lastore, 1) := dk_80 (dk_at dksX0_more_1 16 rfl rfl)
theorem dX0_more_41 : decode cX0_more 41 = .ok (.return_, 1) := dk_177 (dk_at dksX0_more_1 17 rfl rfl)
abbrev cX0_floor : ByteArray := method_4_code
def yX0_floor : MethodName := ⟨RX0, "floor", "(JJ)J"⟩
def dkwX0_floor_0 : List UInt8 := [30, 32, 113, 9, 148, 156, 0, 11, 30, 32, 109, 10, 101, 167, 0, 6, 30, 32, 109, 173]
abbrev dktX0_floor_0 : List UInt8 := dkwX0_floor_0 ++ []
theorem dksX0_floor_0 : cX0_floor.data.toList.drop 0 = dktX0_floor_0 := by decide +kernel
theorem dX0_floor_0 : decode cX0_floor 0 = .ok (.lload_n 0, 1) := dk_30 (dk_at dksX0_floor_0 0 rfl rfl)
theorem dX0_floor_1 : decode cX0_floor 1 = .ok (.lload_n 2, 1) := dk_32 (dk_at dksX0_floor_0 1 rfl rfl)
theorem dX0_floor_2 : decode cX0_floor 2 = .ok (.lrem, 1) := dk_113 (dk_at dksX0_floor_0 2 rfl rfl)
theorem dX0_floor_3 : decode cX0_floor 3 = .ok (.lconst 0, 1) := dk_9 (dk_at dksX0_floor_0 3 rfl rfl)
theorem dX0_floor_4 : decode cX0_floor 4 = .ok (.lcmp, 1) := dk_148 (dk_at dksX0_floor_0 4 rfl rfl)
theorem dX0_floor_5 : decode cX0_floor 5 = .ok (.ifCond .ge 11, 3) := dk_156 0 11 (dk_at dksX0_floor_0 5 rfl rfl)
theorem dX0_floor_8 : decode cX0_floor 8 = .ok (.lload_n 0, 1) := dk_30 (dk_at dksX0_floor_0 8 rfl rfl)
theorem dX0_floor_9 : decode cX0_floor 9 = .ok (.lload_n 2, 1) := dk_32 (dk_at dksX0_floor_0 9 rfl rfl)
theorem dX0_floor_10 : decode cX0_floor 10 = .ok (.ldiv, 1) := dk_109 (dk_at dksX0_floor_0 10 rfl rfl)
theorem dX0_floor_11 : decode cX0_floor 11 = .ok (.lconst 1, 1) := dk_10 (dk_at dksX0_floor_0 11 rfl rfl)
theorem dX0_floor_12 : decode cX0_floor 12 = .ok (.lsub, 1) := dk_101 (dk_at dksX0_floor_0 12 rfl rfl)
theorem dX0_floor_13 : decode cX0_floor 13 = .ok (.goto 6, 3) := dk_167 0 6 (dk_at dksX0_floor_0 13 rfl rfl)
theorem dX0_floor_16 : decode cX0_floor 16 = .ok (.lload_n 0, 1) := dk_30 (dk_at dksX0_floor_0 16 rfl rfl)
theorem dX0_floor_17 : decode cX0_floor 17 = .ok (.lload_n 2, 1) := dk_32 (dk_at dksX0_floor_0 17 rfl rfl)
theorem dX0_floor_18 : decode cX0_floor 18 = .ok (.ldiv, 1) := dk_109 (dk_at dksX0_floor_0 18 rfl rfl)
theorem dX0_floor_19 : decode cX0_floor 19 = .ok (.lreturn, 1) := dk_173 (dk_at dksX0_floor_0 19 rfl rfl)
abbrev cX0_changed : ByteArray := method_9_code
def yX0_changed : MethodName := ⟨RX0, "changed", "(LSpanDesk;[[JIII)Z"⟩
def dkwX0_changed_9 : List UInt8 := [184, 0, 57, 28, 7, 160, 0, 12, 25, 6, 9, 21, 4, 133, 184, 0, 57, 4, 172]
abbrev dktX0_changed_9 : List UInt8 := dkwX0_changed_9 ++ []
def dkwX0_changed_8 : List UInt8 := [184, 0, 12, 21, 4, 133, 21, 4, 133, 20, 0, 81, 184, 0, 12, 20, 0, 81, 105, 101, 20, 0, 83, 105]
abbrev dktX0_changed_8 : List UInt8 := dkwX0_changed_8 ++ dktX0_changed_9
def dkwX0_changed_7 : List UInt8 := [25, 6, 21, 4, 133, 9, 184, 0, 57, 28, 6, 160, 0, 38, 25, 6, 21, 4, 133, 20, 0, 81]
abbrev dktX0_changed_7 : List UInt8 := dkwX0_changed_7 ++ dktX0_changed_8
def dkwX0_changed_6 : List UInt8 := [160, 0, 18, 25, 6, 25, 7, 3, 47, 117, 25, 7, 4, 47, 117, 184, 0, 57, 28, 5, 160, 0, 12]
abbrev dktX0_changed_6 : List UInt8 := dkwX0_changed_6 ++ dktX0_changed_7
def dkwX0_changed_5 : List UInt8 := [154, 0, 5, 4, 172, 28, 154, 0, 16, 25, 6, 25, 7, 3, 47, 25, 7, 4, 47, 184, 0, 57, 28, 4]
abbrev dktX0_changed_5 : List UInt8 := dkwX0_changed_5 ++ dktX0_changed_6
def dkwX0_changed_4 : List UInt8 := [167, 0, 10, 42, 29, 21, 4, 182, 0, 78, 54, 8, 21, 8, 21, 5, 159, 0, 5, 3, 172, 21, 5]
abbrev dktX0_changed_4 : List UInt8 := dkwX0_changed_4 ++ dktX0_changed_5
def dkwX0_changed_3 : List UInt8 := [42, 29, 21, 4, 182, 0, 71, 167, 0, 25, 28, 6, 160, 0, 13, 42, 29, 21, 4, 182, 0, 75]
abbrev dktX0_changed_3 : List UInt8 := dkwX0_changed_3 ++ dktX0_changed_4
def dkwX0_changed_2 : List UInt8 := [182, 0, 65, 167, 0, 53, 28, 4, 160, 0, 11, 42, 29, 182, 0, 68, 167, 0, 40, 28, 5, 160, 0, 13]
abbrev dktX0_changed_2 : List UInt8 := dkwX0_changed_2 ++ dktX0_changed_3
def dkwX0_changed_1 : List UInt8 := [54, 5, 43, 29, 4, 126, 50, 58, 6, 43, 29, 2, 130, 4, 126, 50, 58, 7, 28, 154, 0, 11, 42, 29]
abbrev dktX0_changed_1 : List UInt8 := dkwX0_changed_1 ++ dktX0_changed_2
def dkwX0_changed_0 : List UInt8 := [43, 3, 50, 184, 0, 61, 153, 0, 16, 43, 4, 50, 184, 0, 61, 153, 0, 7, 4, 167, 0, 4, 3]
abbrev dktX0_changed_0 : List UInt8 := dkwX0_changed_0 ++ dktX0_changed_1
theorem dksX0_changed_0 : cX0_changed.data.toList.drop 0 = dktX0_changed_0 := by decide +kernel
theorem dksX0_changed_1 : cX0_changed.data.toList.drop 23 = dktX0_changed_1 := dk_seg dksX0_changed_0 23 rfl rfl
theorem dksX0_changed_2 : cX0_changed.data.toList.drop 47 = dktX0_changed_2 := dk_seg dksX0_changed_1 24 rfl rfl
theorem dksX0_changed_3 : cX0_changed.data.toList.drop 71 = dktX0_changed_3 := dk_seg dksX0_changed_2 24 rfl rfl
theorem dksX0_changed_4 : cX0_changed.data.toList.drop 93 = dktX0_changed_4 := dk_seg dksX0_changed_3 22 rfl rfl
theorem dksX0_changed_5 : cX0_changed.data.toList.drop 116 = dktX0_changed_5 := dk_seg dksX0_changed_4 23 rfl rfl
theorem dksX0_changed_6 : cX0_changed.data.toList.drop 140 = dktX0_changed_6 := dk_seg dksX0_changed_5 24 rfl rfl
theorem dksX0_changed_7 : cX0_changed.data.toList.drop 163 = dktX0_changed_7 := dk_seg dksX0_changed_6 23 rfl rfl
theorem dksX0_changed_8 : cX0_changed.data.toList.drop 185 = dktX0_changed_8 := dk_seg dksX0_changed_7 22 rfl rfl
theorem dksX0_changed_9 : cX0_changed.data.toList.drop 209 = dktX0_changed_9 := dk_seg dksX0_changed_8 24 rfl rfl
theorem dX0_changed_0 : decode cX0_changed 0 = .ok (.aload_n 1, 1) := dk_43 (dk_at dksX0_changed_0 0 rfl rfl)
theorem dX0_changed_1 : decode cX0_changed 1 = .ok (.iconst 0, 1) := dk_3 (dk_at dksX0_changed_0 1 rfl rfl)
theorem dX0_changed_2 : decode cX0_changed 2 = .ok (.aaload, 1) := dk_50 (dk_at dksX0_changed_0 2 rfl rfl)
theorem dX0_changed_3 : decode cX0_changed 3 = .ok (.invokestatic 61, 3) := dk_184 0 61 (dk_at dksX0_changed_0 3 rfl rfl)
theorem dX0_changed_6 : decode cX0_changed 6 = .ok (.ifCond .eq 16, 3) := dk_153 0 16 (dk_at dksX0_changed_0 6 rfl rfl)
theorem dX0_changed_9 : decode cX0_changed 9 = .ok (.aload_n 1, 1) := dk_43 (dk_at dksX0_changed_0 9 rfl rfl)
theorem dX0_changed_10 : decode cX0_changed 10 = .ok (.iconst 1, 1) := dk_4 (dk_at dksX0_changed_0 10 rfl rfl)
theorem dX0_changed_11 : decode cX0_changed 11 = .ok (.aaload, 1) := dk_50 (dk_at dksX0_changed_0 11 rfl rfl)
theorem dX0_changed_12 : decode cX0_changed 12 = .ok (.invokestatic 61, 3) := dk_184 0 61 (dk_at dksX0_changed_0 12 rfl rfl)
theorem dX0_changed_15 : decode cX0_changed 15 = .ok (.ifCond .eq 7, 3) := dk_153 0 7 (dk_at dksX0_changed_0 15 rfl rfl)
theorem dX0_changed_18 : decode cX0_changed 18 = .ok (.iconst 1, 1) := dk_4 (dk_at dksX0_changed_0 18 rfl rfl)
theorem dX0_changed_19 : decode cX0_changed 19 = .ok (.goto 4, 3) := dk_167 0 4 (dk_at dksX0_changed_0 19 rfl rfl)
theorem dX0_changed_22 : decode cX0_changed 22 = .ok (.iconst 0, 1) := dk_3 (dk_at dksX0_changed_0 22 rfl rfl)
theorem dX0_changed_23 : decode cX0_changed 23 = .ok (.istore 5, 2) := dk_54 5 (dk_at dksX0_changed_1 0 rfl rfl)
theorem dX0_changed_25 : decode cX0_changed 25 = .ok (.aload_n 1, 1) := dk_43 (dk_at dksX0_changed_1 2 rfl rfl)
theorem dX0_changed_26 : decode cX0_changed 26 = .ok (.iload_n 3, 1) := dk_29 (dk_at dksX0_changed_1 3 rfl rfl)
theorem dX0_changed_27 : decode cX0_changed 27 = .ok (.iconst 1, 1) := dk_4 (dk_at dksX0_changed_1 4 rfl rfl)
theorem dX0_changed_28 : decode cX0_changed 28 = .ok (.iand, 1) := dk_126 (dk_at dksX0_changed_1 5 rfl rfl)
theorem dX0_changed_29 : decode cX0_changed 29 = .ok (.aaload, 1) := dk_50 (dk_at dksX0_changed_1 6 rfl rfl)
theorem dX0_changed_30 : decode cX0_changed 30 = .ok (.astore 6, 2) := dk_58 6 (dk_at dksX0_changed_1 7 rfl rfl)
theorem dX0_changed_32 : decode cX0_changed 32 = .ok (.aload_n 1, 1) := dk_43 (dk_at dksX0_changed_1 9 rfl rfl)
theorem dX0_changed_33 : decode cX0_changed 33 = .ok (.iload_n 3, 1) := dk_29 (dk_at dksX0_changed_1 10 rfl rfl)
theorem dX0_changed_34 : decode cX0_changed 34 = .ok (.iconst (-1), 1) := dk_2 (dk_at dksX0_changed_1 11 rfl rfl)
theorem dX0_changed_35 : decode cX0_changed 35 = .ok (.ixor, 1) := dk_130 (dk_at dksX0_changed_1 12 rfl rfl)
theorem dX0_changed_36 : decode cX0_changed 36 = .ok (.iconst 1, 1) := dk_4 (dk_at dksX0_changed_1 13 rfl rfl)
theorem dX0_changed_37 : decode cX0_changed 37 = .ok (.iand, 1) := dk_126 (dk_at dksX0_changed_1 14 rfl rfl)
theorem dX0_changed_38 : decode cX0_changed 38 = .ok (.aaload, 1) := dk_50 (dk_at dksX0_changed_1 15 rfl rfl)
theorem dX0_changed_39 : decode cX0_changed 39 = .ok (.astore 7, 2) := dk_58 7 (dk_at dksX0_changed_1 16 rfl rfl)
theorem dX0_changed_41 : decode cX0_changed 41 = .ok (.iload_n 2, 1) := dk_28 (dk_at dksX0_changed_1 18 rfl rfl)
theorem dX0_changed_42 : decode cX0_changed 42 = .ok (.ifCond .ne 11, 3) := dk_154 0 11 (dk_at dksX0_changed_1 19 rfl rfl)
theorem dX0_changed_45 : decode cX0_changed 45 = .ok (.aload_n 0, 1) := dk_42 (dk_at dksX0_changed_1 22 rfl rfl)
theorem dX0_changed_46 : decode cX0_changed 46 = .ok (.iload_n 3, 1) := dk_29 (dk_at dksX0_changed_1 23 rfl rfl)
theorem dX0_changed_47 : decode cX0_changed 47 = .ok (.invokevirtual 65, 3) := dk_182 0 65 (dk_at dksX0_changed_2 0 rfl rfl)
theorem dX0_changed_50 : decode cX0_changed 50 = .ok (.goto 53, 3) := dk_167 0 53 (dk_at dksX0_changed_2 3 rfl rfl)
theorem dX0_changed_53 : decode cX0_changed 53 = .ok (.iload_n 2, 1) := dk_28 (dk_at dksX0_changed_2 6 rfl rfl)
theorem dX0_changed_54 : decode cX0_changed 54 = .ok (.iconst 1, 1) := dk_4 (dk_at dksX0_changed_2 7 rfl rfl)
theorem dX0_changed_55 : decode cX0_changed 55 = .ok (.if_icmp .ne 11, 3) := dk_160 0 11 (dk_at dksX0_changed_2 8 rfl rfl)
theorem dX0_changed_58 : decode cX0_changed 58 = .ok (.aload_n 0, 1) := dk_42 (dk_at dksX0_changed_2 11 rfl rfl)
theorem dX0_changed_59 : decode cX0_changed 59 = .ok (.iload_n 3, 1) := dk_29 (dk_at dksX0_changed_2 12 rfl rfl)
theorem dX0_changed_60 : decode cX0_changed 60 = .ok (.invokevirtual 68, 3) := dk_182 0 68 (dk_at dksX0_changed_2 13 rfl rfl)
theorem dX0_changed_63 : decode cX0_changed 63 = .ok (.goto 40, 3) := dk_167 0 40 (dk_at dksX0_changed_2 16 rfl rfl)
theorem dX0_changed_66 : decode cX0_changed 66 = .ok (.iload_n 2, 1) := dk_28 (dk_at dksX0_changed_2 19 rfl rfl)
theorem dX0_changed_67 : decode cX0_changed 67 = .ok (.iconst 2, 1) := dk_5 (dk_at dksX0_changed_2 20 rfl rfl)
theorem dX0_changed_68 : decode cX0_changed 68 = .ok (.if_icmp .ne 13, 3) := dk_160 0 13 (dk_at dksX0_changed_2 21 rfl rfl)
theorem dX0_changed_71 : decode cX0_changed 71 = .ok (.aload_n 0, 1) := dk_42 (dk_at dksX0_changed_3 0 rfl rfl)
theorem dX0_changed_72 : decode cX0_changed 72 = .ok (.iload_n 3, 1) := dk_29 (dk_at dksX0_changed_3 1 rfl rfl)
theorem dX0_changed_73 : decode cX0_changed 73 = .ok (.iload 4, 2) := dk_21 4 (dk_at dksX0_changed_3 2 rfl rfl)
theorem dX0_changed_75 : decode cX0_changed 75 = .ok (.invokevirtual 71, 3) := dk_182 0 71 (dk_at dksX0_changed_3 4 rfl rfl)
theorem dX0_changed_78 : decode cX0_changed 78 = .ok (.goto 25, 3) := dk_167 0 25 (dk_at dksX0_changed_3 7 rfl rfl)
theorem dX0_changed_81 : decode cX0_changed 81 = .ok (.iload_n 2, 1) := dk_28 (dk_at dksX0_changed_3 10 rfl rfl)
theorem dX0_changed_82 : decode cX0_changed 82 = .ok (.iconst 3, 1) := dk_6 (dk_at dksX0_changed_3 11 rfl rfl)
theorem dX0_changed_83 : decode cX0_changed 83 = .ok (.if_icmp .ne 13, 3) := dk_160 0 13 (dk_at dksX0_changed_3 12 rfl rfl)
theorem dX0_changed_86 : decode cX0_changed 86 = .ok (.aload_n 0, 1) := dk_42 (dk_at dksX0_changed_3 15 rfl rfl)
theorem dX0_changed_87 : decode cX0_changed 87 = .ok (.iload_n 3, 1) := dk_29 (dk_at dksX0_changed_3 16 rfl rfl)
theorem dX0_changed_88 : decode cX0_changed 88 = .ok (.iload 4, 2) := dk_21 4 (dk_at dksX0_changed_3 17 rfl rfl)
theorem dX0_changed_90 : decode cX0_changed 90 = .ok (.invokevirtual 75, 3) := dk_182 0 75 (dk_at dksX0_changed_3 19 rfl rfl)
theorem dX0_changed_93 : decode cX0_changed 93 = .ok (.goto 10, 3) := dk_167 0 10 (dk_at dksX0_changed_4 0 rfl rfl)
theorem dX0_changed_96 : decode cX0_changed 96 = .ok (.aload_n 0, 1) := dk_42 (dk_at dksX0_changed_4 3 rfl rfl)
theorem dX0_changed_97 : decode cX0_changed 97 = .ok (.iload_n 3, 1) := dk_29 (dk_at dksX0_changed_4 4 rfl rfl)
theorem dX0_changed_98 : decode cX0_changed 98 = .ok (.iload 4, 2) := dk_21 4 (dk_at dksX0_changed_4 5 rfl rfl)
theorem dX0_changed_100 : decode cX0_changed 100 = .ok (.invokevirtual 78, 3) := dk_182 0 78 (dk_at dksX0_changed_4 7 rfl rfl)
theorem dX0_changed_103 : decode cX0_changed 103 = .ok (.istore 8, 2) := dk_54 8 (dk_at dksX0_changed_4 10 rfl rfl)
theorem dX0_changed_105 : decode cX0_changed 105 = .ok (.iload 8, 2) := dk_21 8 (dk_at dksX0_changed_4 12 rfl rfl)
theorem dX0_changed_107 : decode cX0_changed 107 = .ok (.iload 5, 2) := dk_21 5 (dk_at dksX0_changed_4 14 rfl rfl)
theorem dX0_changed_109 : decode cX0_changed 109 = .ok (.if_icmp .eq 5, 3) := dk_159 0 5 (dk_at dksX0_changed_4 16 rfl rfl)
theorem dX0_changed_112 : decode cX0_changed 112 = .ok (.iconst 0, 1) := dk_3 (dk_at dksX0_changed_4 19 rfl rfl)
theorem dX0_changed_113 : decode cX0_changed 113 = .ok (.ireturn, 1) := dk_172 (dk_at dksX0_changed_4 20 rfl rfl)
theorem dX0_changed_114 : decode cX0_changed 114 = .ok (.iload 5, 2) := dk_21 5 (dk_at dksX0_changed_4 21 rfl rfl)
theorem dX0_changed_116 : decode cX0_changed 116 = .ok (.ifCond .ne 5, 3) := dk_154 0 5 (dk_at dksX0_changed_5 0 rfl rfl)
theorem dX0_changed_119 : decode cX0_changed 119 = .ok (.iconst 1, 1) := dk_4 (dk_at dksX0_changed_5 3 rfl rfl)
theorem dX0_changed_120 : decode cX0_changed 120 = .ok (.ireturn, 1) := dk_172 (dk_at dksX0_changed_5 4 rfl rfl)
theorem dX0_changed_121 : decode cX0_changed 121 = .ok (.iload_n 2, 1) := dk_28 (dk_at dksX0_changed_5 5 rfl rfl)
theorem dX0_changed_122 : decode cX0_changed 122 = .ok (.ifCond .ne 16, 3) := dk_154 0 16 (dk_at dksX0_changed_5 6 rfl rfl)
theorem dX0_changed_125 : decode cX0_changed 125 = .ok (.aload 6, 2) := dk_25 6 (dk_at dksX0_changed_5 9 rfl rfl)
theorem dX0_changed_127 : decode cX0_changed 127 = .ok (.aload 7, 2) := dk_25 7 (dk_at dksX0_changed_5 11 rfl rfl)
theorem dX0_changed_129 : decode cX0_changed 129 = .ok (.iconst 0, 1) := dk_3 (dk_at dksX0_changed_5 13 rfl rfl)
theorem dX0_changed_130 : decode cX0_changed 130 = .ok (.laload, 1) := dk_47 (dk_at dksX0_changed_5 14 rfl rfl)
theorem dX0_changed_131 : decode cX0_changed 131 = .ok (.aload 7, 2) := dk_25 7 (dk_at dksX0_changed_5 15 rfl rfl)
theorem dX0_changed_133 : decode cX0_changed 133 = .ok (.iconst 1, 1) := dk_4 (dk_at dksX0_changed_5 17 rfl rfl)
theorem dX0_changed_134 : decode cX0_changed 134 = .ok (.laload, 1) := dk_47 (dk_at dksX0_changed_5 18 rfl rfl)
theorem dX0_changed_135 : decode cX0_changed 135 = .ok (.invokestatic 57, 3) := dk_184 0 57 (dk_at dksX0_changed_5 19 rfl rfl)
theorem dX0_changed_138 : decode cX0_changed 138 = .ok (.iload_n 2, 1) := dk_28 (dk_at dksX0_changed_5 22 rfl rfl)
theorem dX0_changed_139 : decode cX0_changed 139 = .ok (.iconst 1, 1) := dk_4 (dk_at dksX0_changed_5 23 rfl rfl)
theorem dX0_changed_140 : decode cX0_changed 140 = .ok (.if_icmp .ne 18, 3) := dk_160 0 18 (dk_at dksX0_changed_6 0 rfl rfl)
theorem dX0_changed_143 : decode cX0_changed 143 = .ok (.aload 6, 2) := dk_25 6 (dk_at dksX0_changed_6 3 rfl rfl)
theorem dX0_changed_145 : decode cX0_changed 145 = .ok (.aload 7, 2) := dk_25 7 (dk_at dksX0_changed_6 5 rfl rfl)
theorem dX0_changed_147 : decode cX0_changed 147 = .ok (.iconst 0, 1) := dk_3 (dk_at dksX0_changed_6 7 rfl rfl)
theorem dX0_changed_148 : decode cX0_changed 148 = .ok (.laload, 1) := dk_47 (dk_at dksX0_changed_6 8 rfl rfl)
theorem dX0_changed_149 : decode cX0_changed 149 = .ok (.lneg, 1) := dk_117 (dk_at dksX0_changed_6 9 rfl rfl)
theorem dX0_changed_150 : decode cX0_changed 150 = .ok (.aload 7, 2) := dk_25 7 (dk_at dksX0_changed_6 10 rfl rfl)
theorem dX0_changed_152 : decode cX0_changed 152 = .ok (.iconst 1, 1) := dk_4 (dk_at dksX0_changed_6 12 rfl rfl)
theorem dX0_changed_153 : decode cX0_changed 153 = .ok (.laload, 1) := dk_47 (dk_at dksX0_changed_6 13 rfl rfl)
theorem dX0_changed_154 : decode cX0_changed 154 = .ok (.lneg, 1) := dk_117 (dk_at dksX0_changed_6 14 rfl rfl)
theorem dX0_changed_155 : decode cX0_changed 155 = .ok (.invokestatic 57, 3) := dk_184 0 57 (dk_at dksX0_changed_6 15 rfl rfl)
theorem dX0_changed_158 : decode cX0_changed 158 = .ok (.iload_n 2, 1) := dk_28 (dk_at dksX0_changed_6 18 rfl rfl)
theorem dX0_changed_159 : decode cX0_changed 159 = .ok (.iconst 2, 1) := dk_5 (dk_at dksX0_changed_6 19 rfl rfl)
theorem dX0_changed_160 : decode cX0_changed 160 = .ok (.if_icmp .ne 12, 3) := dk_160 0 12 (dk_at dksX0_changed_6 20 rfl rfl)
theorem dX0_changed_163 : decode cX0_changed 163 = .ok (.aload 6, 2) := dk_25 6 (dk_at dksX0_changed_7 0 rfl rfl)
theorem dX0_changed_165 : decode cX0_changed 165 = .ok (.iload 4, 2) := dk_21 4 (dk_at dksX0_changed_7 2 rfl rfl)
theorem dX0_changed_167 : decode cX0_changed 167 = .ok (.i2l, 1) := dk_133 (dk_at dksX0_changed_7 4 rfl rfl)
theorem dX0_changed_168 : decode cX0_changed 168 = .ok (.lconst 0, 1) := dk_9 (dk_at dksX0_changed_7 5 rfl rfl)
theorem dX0_changed_169 : decode cX0_changed 169 = .ok (.invokestatic 57, 3) := dk_184 0 57 (dk_at dksX0_changed_7 6 rfl rfl)
theorem dX0_changed_172 : decode cX0_changed 172 = .ok (.iload_n 2, 1) := dk_28 (dk_at dksX0_changed_7 9 rfl rfl)
theorem dX0_changed_173 : decode cX0_changed 173 = .ok (.iconst 3, 1) := dk_6 (dk_at dksX0_changed_7 10 rfl rfl)
theorem dX0_changed_174 : decode cX0_changed 174 = .ok (.if_icmp .ne 38, 3) := dk_160 0 38 (dk_at dksX0_changed_7 11 rfl rfl)
theorem dX0_changed_177 : decode cX0_changed 177 = .ok (.aload 6, 2) := dk_25 6 (dk_at dksX0_changed_7 14 rfl rfl)
theorem dX0_changed_179 : decode cX0_changed 179 = .ok (.iload 4, 2) := dk_21 4 (dk_at dksX0_changed_7 16 rfl rfl)
theorem dX0_changed_181 : decode cX0_changed 181 = .ok (.i2l, 1) := dk_133 (dk_at dksX0_changed_7 18 rfl rfl)
theorem dX0_changed_182 : decode cX0_changed 182 = .ok (.ldc2_w 81, 3) := dk_20 0 81 (dk_at dksX0_changed_7 19 rfl rfl)
theorem dX0_changed_185 : decode cX0_changed 185 = .ok (.invokestatic 12, 3) := dk_184 0 12 (dk_at dksX0_changed_8 0 rfl rfl)
theorem dX0_changed_188 : decode cX0_changed 188 = .ok (.iload 4, 2) := dk_21 4 (dk_at dksX0_changed_8 3 rfl rfl)
theorem dX0_changed_190 : decode cX0_changed 190 = .ok (.i2l, 1) := dk_133 (dk_at dksX0_changed_8 5 rfl rfl)
theorem dX0_changed_191 : decode cX0_changed 191 = .ok (.iload 4, 2) := dk_21 4 (dk_at dksX0_changed_8 6 rfl rfl)
theorem dX0_changed_193 : decode cX0_changed 193 = .ok (.i2l, 1) := dk_133 (dk_at dksX0_changed_8 8 rfl rfl)
theorem dX0_changed_194 : decode cX0_changed 194 = .ok (.ldc2_w 81, 3) := dk_20 0 81 (dk_at dksX0_changed_8 9 rfl rfl)
theorem dX0_changed_197 : decode cX0_changed 197 = .ok (.invokestatic 12, 3) := dk_184 0 12 (dk_at dksX0_changed_8 12 rfl rfl)
theorem dX0_changed_200 : decode cX0_changed 200 = .ok (.ldc2_w 81, 3) := dk_20 0 81 (dk_at dksX0_changed_8 15 rfl rfl)
theorem dX0_changed_203 : decode cX0_changed 203 = .ok (.lmul, 1) := dk_105 (dk_at dksX0_changed_8 18 rfl rfl)
theorem dX0_changed_204 : decode cX0_changed 204 = .ok (.lsub, 1) := dk_101 (dk_at dksX0_changed_8 19 rfl rfl)
theorem dX0_changed_205 : decode cX0_changed 205 = .ok (.ldc2_w 83, 3) := dk_20 0 83 (dk_at dksX0_changed_8 20 rfl rfl)
theorem dX0_changed_208 : decode cX0_changed 208 = .ok (.lmul, 1) := dk_105 (dk_at dksX0_changed_8 23 rfl rfl)
theorem dX0_changed_209 : decode cX0_changed 209 = .ok (.invokestatic 57, 3) := dk_184 0 57 (dk_at dksX0_changed_9 0 rfl rfl)
theorem dX0_changed_212 : decode cX0_changed 212 = .ok (.iload_n 2, 1) := dk_28 (dk_at dksX0_changed_9 3 rfl rfl)
theorem dX0_changed_213 : decode cX0_changed 213 = .ok (.iconst 4, 1) := dk_7 (dk_at dksX0_changed_9 4 rfl rfl)
theorem dX0_changed_214 : decode cX0_changed 214 = .ok (.if_icmp .ne 12, 3) := dk_160 0 12 (dk_at dksX0_changed_9 5 rfl rfl)
theorem dX0_changed_217 : decode cX0_changed 217 = .ok (.aload 6, 2) := dk_25 6 (dk_at dksX0_changed_9 8 rfl rfl)
theorem dX0_changed_219 : decode cX0_changed 219 = .ok (.lconst 0, 1) := dk_9 (dk_at dksX0_changed_9 10 rfl rfl)
theorem dX0_changed_220 : decode cX0_changed 220 = .ok (.iload 4, 2) := dk_21 4 (dk_at dksX0_changed_9 11 rfl rfl)
theorem dX0_changed_222 : decode cX0_changed 222 = .ok (.i2l, 1) := dk_133 (dk_at dksX0_changed_9 13 rfl rfl)
theorem dX0_changed_223 : decode cX0_changed 223 = .ok (.invokestatic 57, 3) := dk_184 0 57 (dk_at dksX0_changed_9 14 rfl rfl)
theorem dX0_changed_226 : decode cX0_changed 226 = .ok (.iconst 1, 1) := dk_4 (dk_at dksX0_changed_9 17 rfl rfl)
theorem dX0_changed_227 : decode cX0_changed 227 = .ok (.ireturn, 1) := dk_172 (dk_at dksX0_changed_9 18 rfl rfl)
theorem q3 : (Jvm.Cond.initialized "SpanDeskLaw") ∈ lw_all := lw_g (lw_at lw_m1 0 rfl) rfl
theorem q11 : (Jvm.Cond.classLink "SpanDeskLaw" (21 : Nat) "SpanDesk") ∈ lw_all := lw_g (lw_at lw_m1 8 rfl) rfl
theorem q13 : (Jvm.Cond.methodLink "SpanDeskLaw" (85 : Nat) ({ cls := "SpanDesk", name := "<init>", desc := "()V" } : Jvm.MethodName)) ∈ lw_all := lw_g (lw_at lw_m1 10 rfl) rfl
theorem q123 : (Jvm.Cond.methodLink "SpanDeskLaw" (88 : Nat) ({ cls := "SpanDeskLaw", name := "cell", desc := "([II)I" } : Jvm.MethodName)) ∈ lw_all := lw_g (lw_at lw_m1 120 rfl) rfl
theorem q124 : (Jvm.Cond.static ({ cls := "SpanDeskLaw", name := "cell", desc := "([II)I" } : Jvm.MethodName)) ∈ lw_all := lw_g (lw_at lw_m1 121 rfl) rfl
theorem q125 : (Jvm.Cond.code ({ cls := "SpanDeskLaw", name := "cell", desc := "([II)I" } : Jvm.MethodName) method_2_code (2 : Nat) (Option.some Jvm.ClassFile.FieldType.int)) ∈ lw_all := lw_g (lw_at lw_m1 122 rfl) rfl
theorem q126 : (Jvm.Cond.methodLink "SpanDeskLaw" (96 : Nat) ({ cls := "SpanDeskLaw", name := "mod", desc := "(II)I" } : Jvm.MethodName)) ∈ lw_all := lw_g (lw_at lw_m1 123 rfl) rfl
theorem q127 : (Jvm.Cond.static ({ cls := "SpanDeskLaw", name := "mod", desc := "(II)I" } : Jvm.MethodName)) ∈ lw_all := lw_g (lw_at lw_m1 124 rfl) rfl
theorem q128 : (Jvm.Cond.code ({ cls := "SpanDeskLaw", name := "mod", desc := "(II)I" } : Jvm.MethodName) method_3_code (2 : Nat) (Option.some Jvm.ClassFile.FieldType.int)) ∈ lw_all := lw_g (lw_at lw_m1 125 rfl) rfl
theorem q129 : (Jvm.Cond.constant "SpanDeskLaw" (7 : Nat) (2147483647 : Int32)) ∈ lw_all := lw_g (lw_at lw_m1 126 rfl) rfl
theorem q130 : (Jvm.Cond.methodLink "SpanDeskLaw" (61 : Nat) ({ cls := "SpanDeskLaw", name := "near", desc := "([J)Z" } : Jvm.MethodName)) ∈ lw_all := lw_g (lw_at lw_m1 127 rfl) rfl
theorem q131 : (Jvm.Cond.static ({ cls := "SpanDeskLaw", name := "near", desc := "([J)Z" } : Jvm.MethodName)) ∈ lw_all := lw_g (lw_at lw_m1 128 rfl) rfl
theorem q132 : (Jvm.Cond.code ({ cls := "SpanDeskLaw", name := "near", desc := "([J)Z" } : Jvm.MethodName) method_6_code (1 : Nat) (Option.some Jvm.ClassFile.FieldType.boolean)) ∈ lw_all := lw_g (lw_at lw_m1 129 rfl) rfl
theorem q133 : (Jvm.Cond.constantLong "SpanDeskLaw" (16 : Nat) (4611686018427387904 : Int64)) ∈ lw_all := lw_g (lw_at lw_m1 130 rfl) rfl
theorem q134 : (Jvm.Cond.constantLong "SpanDeskLaw" (18 : Nat) (-4611686018427387904 : Int64)) ∈ lw_all := lw_g (lw_at lw_m1 131 rfl) rfl
theorem q135 : (Jvm.Cond.methodLink "SpanDeskLaw" (92 : Nat) ({ cls := "SpanDeskLaw", name := "shown", desc := "(LSpanDesk;[[JI)Z" } : Jvm.MethodName)) ∈ lw_all := lw_g (lw_at lw_m1 132 rfl) rfl
theorem q136 : (Jvm.Cond.static ({ cls := "SpanDeskLaw", name := "shown", desc := "(LSpanDesk;[[JI)Z" } : Jvm.MethodName)) ∈ lw_all := lw_g (lw_at lw_m1 133 rfl) rfl
theorem q137 : (Jvm.Cond.code ({ cls := "SpanDeskLaw", name := "shown", desc := "(LSpanDesk;[[JI)Z" } : Jvm.MethodName) method_7_code (6 : Nat) (Option.some Jvm.ClassFile.FieldType.boolean)) ∈ lw_all := lw_g (lw_at lw_m1 134 rfl) rfl
theorem q138 : (Jvm.Cond.methodLink "SpanDeskLaw" (20 : Nat) ({ cls := "SpanDesk", name := "whole", desc := "(I)J" } : Jvm.MethodName)) ∈ lw_all := lw_g (lw_at lw_m1 135 rfl) rfl
theorem q146 : (Jvm.Cond.methodLink "SpanDeskLaw" (26 : Nat) ({ cls := "SpanDesk", name := "nano", desc := "(I)I" } : Jvm.MethodName)) ∈ lw_all := lw_g (lw_at lw_m1 143 rfl) rfl
theorem q154 : (Jvm.Cond.methodLink "SpanDeskLaw" (30 : Nat) ({ cls := "SpanDesk", name := "below", desc := "(I)Z" } : Jvm.MethodName)) ∈ lw_all := lw_g (lw_at lw_m1 151 rfl) rfl
theorem q162 : (Jvm.Cond.methodLink "SpanDeskLaw" (34 : Nat) ({ cls := "SpanDesk", name := "nought", desc := "(I)Z" } : Jvm.MethodName)) ∈ lw_all := lw_g (lw_at lw_m1 159 rfl) rfl
theorem q170 : (Jvm.Cond.methodLink "SpanDeskLaw" (37 : Nat) ({ cls := "SpanDesk", name := "days", desc := "(I)J" } : Jvm.MethodName)) ∈ lw_all := lw_g (lw_at lw_m1 167 rfl) rfl
theorem q179 : (Jvm.Cond.constantLong "SpanDeskLaw" (40 : Nat) (86400 : Int64)) ∈ lw_all := lw_g (lw_at lw_m1 176 rfl) rfl
theorem q180 : (Jvm.Cond.methodLink "SpanDeskLaw" (42 : Nat) ({ cls := "SpanDesk", name := "minutes", desc := "(I)J" } : Jvm.MethodName)) ∈ lw_all := lw_g (lw_at lw_m1 177 rfl) rfl
theorem q189 : (Jvm.Cond.constantLong "SpanDeskLaw" (45 : Nat) (60 : Int64)) ∈ lw_all := lw_g (lw_at lw_m1 186 rfl) rfl
theorem q190 : (Jvm.Cond.methodLink "SpanDeskLaw" (47 : Nat) ({ cls := "SpanDesk", name := "order", desc := "()I" } : Jvm.MethodName)) ∈ lw_all := lw_g (lw_at lw_m1 187 rfl) rfl
theorem q201 : (Jvm.Cond.methodLink "SpanDeskLaw" (100 : Nat) ({ cls := "SpanDeskLaw", name := "laid", desc := "(LSpanDesk;[[JIIII)V" } : Jvm.MethodName)) ∈ lw_all := lw_g (lw_at lw_m1 198 rfl) rfl
theorem q202 : (Jvm.Cond.static ({ cls := "SpanDeskLaw", name := "laid", desc := "(LSpanDesk;[[JIIII)V" } : Jvm.MethodName)) ∈ lw_all := lw_g (lw_at lw_m1 199 rfl) rfl
theorem q203 : (Jvm.Cond.code ({ cls := "SpanDeskLaw", name := "laid", desc := "(LSpanDesk;[[JIIII)V" } : Jvm.MethodName) method_8_code (7 : Nat) (Option.none : Option Jvm.ClassFile.FieldType)) ∈ lw_all := lw_g (lw_at lw_m1 200 rfl) rfl
theorem q204 : (Jvm.Cond.methodLink "SpanDeskLaw" (51 : Nat) ({ cls := "SpanDesk", name := "set", desc := "(IIII)V" } : Jvm.MethodName)) ∈ lw_all := lw_g (lw_at lw_m1 201 rfl) rfl
theorem q212 : (Jvm.Cond.constantLong "SpanDeskLaw" (55 : Nat) (4294967295 : Int64)) ∈ lw_all := lw_g (lw_at lw_m1 209 rfl) rfl
theorem q213 : (Jvm.Cond.methodLink "SpanDeskLaw" (57 : Nat) ({ cls := "SpanDeskLaw", name := "more", desc := "([JJJ)V" } : Jvm.MethodName)) ∈ lw_all := lw_g (lw_at lw_m1 210 rfl) rfl
theorem q214 : (Jvm.Cond.static ({ cls := "SpanDeskLaw", name := "more", desc := "([JJJ)V" } : Jvm.MethodName)) ∈ lw_all := lw_g (lw_at lw_m1 211 rfl) rfl
theorem q215 : (Jvm.Cond.code ({ cls := "SpanDeskLaw", name := "more", desc := "([JJJ)V" } : Jvm.MethodName) method_5_code (7 : Nat) (Option.none : Option Jvm.ClassFile.FieldType)) ∈ lw_all := lw_g (lw_at lw_m1 212 rfl) rfl
theorem q216 : (Jvm.Cond.constantLong "SpanDeskLaw" (10 : Nat) (1000000000 : Int64)) ∈ lw_all := lw_g (lw_at lw_m1 213 rfl) rfl
theorem q217 : (Jvm.Cond.methodLink "SpanDeskLaw" (12 : Nat) ({ cls := "SpanDeskLaw", name := "floor", desc := "(JJ)J" } : Jvm.MethodName)) ∈ lw_all := lw_g (lw_at lw_m1 214 rfl) rfl
theorem q218 : (Jvm.Cond.static ({ cls := "SpanDeskLaw", name := "floor", desc := "(JJ)J" } : Jvm.MethodName)) ∈ lw_all := lw_g (lw_at lw_m1 215 rfl) rfl
theorem q219 : (Jvm.Cond.code ({ cls := "SpanDeskLaw", name := "floor", desc := "(JJ)J" } : Jvm.MethodName) method_4_code (4 : Nat) (Option.some Jvm.ClassFile.FieldType.long)) ∈ lw_all := lw_g (lw_at lw_m1 216 rfl) rfl
theorem q220 : (Jvm.Cond.methodLink "SpanDeskLaw" (104 : Nat) ({ cls := "SpanDeskLaw", name := "changed", desc := "(LSpanDesk;[[JIII)Z" } : Jvm.MethodName)) ∈ lw_all := lw_g (lw_at lw_m1 217 rfl) rfl
theorem q221 : (Jvm.Cond.static ({ cls := "SpanDeskLaw", name := "changed", desc := "(LSpanDesk;[[JIII)Z" } : Jvm.MethodName)) ∈ lw_all := lw_g (lw_at lw_m1 218 rfl) rfl
theorem q222 : (Jvm.Cond.code ({ cls := "SpanDeskLaw", name := "changed", desc := "(LSpanDesk;[[JIII)Z" } : Jvm.MethodName) method_9_code (9 : Nat) (Option.some Jvm.ClassFile.FieldType.boolean)) ∈ lw_all := lw_g (lw_at lw_m1 219 rfl) rfl
theorem q223 : (Jvm.Cond.methodLink "SpanDeskLaw" (65 : Nat) ({ cls := "SpanDesk", name := "plus", desc := "(I)Z" } : Jvm.MethodName)) ∈ lw_all := lw_g (lw_at lw_m1 220 rfl) rfl
theorem q244 : (Jvm.Cond.methodLink "SpanDeskLaw" (68 : Nat) ({ cls := "SpanDesk", name := "minus", desc := "(I)Z" } : Jvm.MethodName)) ∈ lw_all := lw_g (lw_at lw_m2 1 rfl) rfl
theorem q254 : (Jvm.Cond.methodLink "SpanDeskLaw" (71 : Nat) ({ cls := "SpanDesk", name := "seconds", desc := "(II)Z" } : Jvm.MethodName)) ∈ lw_all := lw_g (lw_at lw_m2 11 rfl) rfl
theorem q262 : (Jvm.Cond.methodLink "SpanDeskLaw" (75 : Nat) ({ cls := "SpanDesk", name := "millis", desc := "(II)Z" } : Jvm.MethodName)) ∈ lw_all := lw_g (lw_at lw_m2 19 rfl) rfl
theorem q272 : (Jvm.Cond.methodLink "SpanDeskLaw" (78 : Nat) ({ cls := "SpanDesk", name := "nanos", desc := "(II)Z" } : Jvm.MethodName)) ∈ lw_all := lw_g (lw_at lw_m2 29 rfl) rfl
theorem q280 : (Jvm.Cond.constantLong "SpanDeskLaw" (81 : Nat) (1000 : Int64)) ∈ lw_all := lw_g (lw_at lw_m2 37 rfl) rfl
theorem q281 : (Jvm.Cond.constantLong "SpanDeskLaw" (83 : Nat) (1000000 : Int64)) ∈ lw_all := lw_g (lw_at lw_m2 38 rfl) rfl
theorem q282 : (Jvm.Cond.classLink "SpanDeskLaw" (86 : Nat) "[[J") ∈ lw_all := lw_g (lw_at lw_m2 39 rfl) rfl
theorem q284 : (Jvm.Cond.constant "SpanDeskLaw" (108 : Nat) (-2147483648 : Int32)) ∈ lw_all := lw_g (lw_at lw_m2 41 rfl) rfl
/-! the law's own entry -/
set_option maxRecDepth 100000
abbrev cL_law : ByteArray := code
def dkwL_law_18 : List UInt8 := [172]
abbrev dktL_law_18 : List UInt8 := dkwL_law_18 ++ []
def dkwL_law_17 : List UInt8 := [184, 0, 61, 153, 0, 14, 44, 4, 50, 184, 0, 61, 153, 0, 5, 3, 172, 132, 3, 1, 167, 255, 108, 4]
abbrev dktL_law_17 : List UInt8 := dkwL_law_17 ++ dktL_law_18
def dkwL_law_16 : List UInt8 := [153, 0, 13, 43, 44, 21, 4, 184, 0, 92, 154, 0, 5, 3, 172, 132, 4, 1, 167, 255, 200, 44, 3, 50]
abbrev dktL_law_16 : List UInt8 := dkwL_law_16 ++ dktL_law_17
def dkwL_law_15 : List UInt8 := [153, 0, 35, 43, 44, 5, 21, 4, 6, 112, 96, 21, 4, 42, 21, 4, 184, 0, 88, 184, 0, 104]
abbrev dktL_law_15 : List UInt8 := dkwL_law_15 ++ dktL_law_16
def dkwL_law_14 : List UInt8 := [184, 0, 100, 3, 54, 4, 21, 4, 16, 16, 162, 0, 55, 43, 44, 3, 21, 4, 3, 184, 0, 104]
abbrev dktL_law_14 : List UInt8 := dkwL_law_14 ++ dktL_law_15
def dkwL_law_13 : List UInt8 := [154, 0, 8, 18, 7, 167, 0, 5, 18, 108, 42, 16, 10, 184, 0, 88, 42, 16, 11, 184, 0, 88]
abbrev dktL_law_13 : List UInt8 := dkwL_law_13 ++ dktL_law_14
def dkwL_law_12 : List UInt8 := [167, 0, 5, 18, 108, 42, 16, 8, 184, 0, 88, 42, 16, 9, 184, 0, 88, 184, 0, 100, 43, 44, 4, 29]
abbrev dktL_law_12 : List UInt8 := dkwL_law_12 ++ dktL_law_13
def dkwL_law_11 : List UInt8 := [132, 3, 1, 167, 255, 192, 3, 62, 29, 5, 162, 0, 149, 43, 44, 3, 29, 154, 0, 8, 18, 7]
abbrev dktL_law_11 : List UInt8 := dkwL_law_11 ++ dktL_law_12
def dkwL_law_10 : List UInt8 := [108, 42, 29, 184, 0, 88, 184, 0, 104, 153, 0, 12, 43, 44, 29, 184, 0, 92, 154, 0, 5, 3, 172]
abbrev dktL_law_10 : List UInt8 := dkwL_law_10 ++ dktL_law_11
def dkwL_law_9 : List UInt8 := [29, 16, 32, 112, 122, 4, 126, 29, 29, 184, 0, 104, 153, 0, 33, 43, 44, 5, 29, 6, 112, 96, 29, 5]
abbrev dktL_law_9 : List UInt8 := dkwL_law_9 ++ dktL_law_10
def dkwL_law_8 : List UInt8 := [16, 6, 184, 0, 88, 184, 0, 100, 3, 62, 29, 16, 40, 162, 0, 64, 43, 44, 42, 16, 7, 184, 0, 88]
abbrev dktL_law_8 : List UInt8 := dkwL_law_8 ++ dktL_law_9
def dkwL_law_7 : List UInt8 := [43, 44, 4, 42, 7, 184, 0, 88, 42, 3, 184, 0, 88, 16, 31, 126, 122, 42, 8, 184, 0, 88, 42]
abbrev dktL_law_7 : List UInt8 := dkwL_law_7 ++ dktL_law_8
def dkwL_law_6 : List UInt8 := [167, 255, 149, 43, 44, 3, 42, 4, 184, 0, 88, 42, 5, 184, 0, 88, 42, 6, 184, 0, 88, 184, 0, 100]
abbrev dktL_law_6 : List UInt8 := dkwL_law_6 ++ dktL_law_7
def dkwL_law_5 : List UInt8 := [3, 172, 43, 44, 42, 29, 5, 96, 184, 0, 88, 184, 0, 92, 154, 0, 5, 3, 172, 132, 3, 6]
abbrev dktL_law_5 : List UInt8 := dkwL_law_5 ++ dktL_law_6
def dkwL_law_4 : List UInt8 := [167, 0, 26, 43, 44, 21, 4, 6, 100, 21, 5, 42, 29, 8, 96, 184, 0, 88, 184, 0, 104, 154, 0, 5]
abbrev dktL_law_4 : List UInt8 := dkwL_law_4 ++ dktL_law_5
def dkwL_law_3 : List UInt8 := [42, 29, 5, 96, 184, 0, 88, 42, 29, 6, 96, 184, 0, 88, 42, 29, 7, 96, 184, 0, 88, 184, 0, 100]
abbrev dktL_law_3 : List UInt8 := dkwL_law_3 ++ dktL_law_4
def dkwL_law_2 : List UInt8 := [184, 0, 96, 54, 4, 42, 29, 4, 96, 184, 0, 88, 54, 5, 21, 4, 6, 162, 0, 34, 43, 44, 21, 5]
abbrev dktL_law_2 : List UInt8 := dkwL_law_2 ++ dktL_law_3
def dkwL_law_1 : List UInt8 := [184, 0, 92, 154, 0, 5, 3, 172, 3, 62, 29, 16, 96, 162, 0, 107, 42, 29, 184, 0, 88, 16, 8]
abbrev dktL_law_1 : List UInt8 := dkwL_law_1 ++ dktL_law_2
def dkwL_law_0 : List UInt8 := [187, 0, 21, 89, 183, 0, 85, 76, 5, 5, 197, 0, 86, 2, 77, 43, 44, 42, 3, 184, 0, 88]
abbrev dktL_law_0 : List UInt8 := dkwL_law_0 ++ dktL_law_1
theorem dksL_law_0 : cL_law.data.toList.drop 0 = dktL_law_0 := by decide +kernel
theorem dksL_law_1 : cL_law.data.toList.drop 22 = dktL_law_1 := dk_seg dksL_law_0 22 rfl rfl
theorem dksL_law_2 : cL_law.data.toList.drop 45 = dktL_law_2 := dk_seg dksL_law_1 23 rfl rfl
theorem dksL_law_3 : cL_law.data.toList.drop 69 = dktL_law_3 := dk_seg dksL_law_2 24 rfl rfl
theorem dksL_law_4 : cL_law.data.toList.drop 93 = dktL_law_4 := dk_seg dksL_law_3 24 rfl rfl
theorem dksL_law_5 : cL_law.data.toList.drop 117 = dktL_law_5 := dk_seg dksL_law_4 24 rfl rfl
theorem dksL_law_6 : cL_law.data.toList.drop 139 = dktL_law_6 := dk_seg dksL_law_5 22 rfl rfl
theorem dksL_law_7 : cL_law.data.toList.drop 163 = dktL_law_7 := dk_seg dksL_law_6 24 rfl rfl
theorem dksL_law_8 : cL_law.data.toList.drop 186 = dktL_law_8 := dk_seg dksL_law_7 23 rfl rfl
theorem dksL_law_9 : cL_law.data.toList.drop 210 = dktL_law_9 := dk_seg dksL_law_8 24 rfl rfl
theorem dksL_law_10 : cL_law.data.toList.drop 234 = dktL_law_10 := dk_seg dksL_law_9 24 rfl rfl
theorem dksL_law_11 : cL_law.data.toList.drop 257 = dktL_law_11 := dk_seg dksL_law_10 23 rfl rfl
theorem dksL_law_12 : cL_law.data.toList.drop 279 = dktL_law_12 := dk_seg dksL_law_11 22 rfl rfl
theorem dksL_law_13 : cL_law.data.toList.drop 303 = dktL_law_13 := dk_seg dksL_law_12 24 rfl rfl
theorem dksL_law_14 : cL_law.data.toList.drop 325 = dktL_law_14 := dk_seg dksL_law_13 22 rfl rfl
theorem dksL_law_15 : cL_law.data.toList.drop 347 = dktL_law_15 := dk_seg dksL_law_14 22 rfl rfl
theorem dksL_law_16 : cL_law.data.toList.drop 369 = dktL_law_16 := dk_seg dksL_law_15 22 rfl rfl
theorem dksL_law_17 : cL_law.data.toList.drop 393 = dktL_law_17 := dk_seg dksL_law_16 24 rfl rfl
theorem dksL_law_18 : cL_law.data.toList.drop 417 = dktL_law_18 := dk_seg dksL_law_17 24 rfl rfl
theorem dL_law_0 : decode cL_law 0 = .ok (.new 21, 3) := dk_187 0 21 (dk_at dksL_law_0 0 rfl rfl)
theorem dL_law_3 : decode cL_law 3 = .ok (.dup, 1) := dk_89 (dk_at dksL_law_0 3 rfl rfl)
theorem dL_law_4 : decode cL_law 4 = .ok (.invokespecial 85, 3) := dk_183 0 85 (dk_at dksL_law_0 4 rfl rfl)
theorem dL_law_7 : decode cL_law 7 = .ok (.astore_n 1, 1) := dk_76 (dk_at dksL_law_0 7 rfl rfl)
theorem dL_law_8 : decode cL_law 8 = .ok (.iconst 2, 1) := dk_5 (dk_at dksL_law_0 8 rfl rfl)
theorem dL_law_9 : decode cL_law 9 = .ok (.iconst 2, 1) := dk_5 (dk_at dksL_law_0 9 rfl rfl)
theorem dL_law_10 : decode cL_law 10 = .ok (.multianewarray 86 2, 4) := by decide +kernel
theorem dL_law_14 : decode cL_law 14 = .ok (.astore_n 2, 1) := dk_77 (dk_at dksL_law_0 14 rfl rfl)
theorem dL_law_15 : decode cL_law 15 = .ok (.aload_n 1, 1) := dk_43 (dk_at dksL_law_0 15 rfl rfl)
theorem dL_law_16 : decode cL_law 16 = .ok (.aload_n 2, 1) := dk_44 (dk_at dksL_law_0 16 rfl rfl)
theorem dL_law_17 : decode cL_law 17 = .ok (.aload_n 0, 1) := dk_42 (dk_at dksL_law_0 17 rfl rfl)
theorem dL_law_18 : decode cL_law 18 = .ok (.iconst 0, 1) := dk_3 (dk_at dksL_law_0 18 rfl rfl)
theorem dL_law_19 : decode cL_law 19 = .ok (.invokestatic 88, 3) := dk_184 0 88 (dk_at dksL_law_0 19 rfl rfl)
theorem dL_law_22 : decode cL_law 22 = .ok (.invokestatic 92, 3) := dk_184 0 92 (dk_at dksL_law_1 0 rfl rfl)
theorem dL_law_25 : decode cL_law 25 = .ok (.ifCond .ne 5, 3) := dk_154 0 5 (dk_at dksL_law_1 3 rfl rfl)
theorem dL_law_28 : decode cL_law 28 = .ok (.iconst 0, 1) := dk_3 (dk_at dksL_law_1 6 rfl rfl)
theorem dL_law_29 : decode cL_law 29 = .ok (.ireturn, 1) := dk_172 (dk_at dksL_law_1 7 rfl rfl)
theorem dL_law_30 : decode cL_law 30 = .ok (.iconst 0, 1) := dk_3 (dk_at dksL_law_1 8 rfl rfl)
theorem dL_law_31 : decode cL_law 31 = .ok (.istore_n 3, 1) := dk_62 (dk_at dksL_law_1 9 rfl rfl)
theorem dL_law_32 : decode cL_law 32 = .ok (.iload_n 3, 1) := dk_29 (dk_at dksL_law_1 10 rfl rfl)
theorem dL_law_33 : decode cL_law 33 = .ok (.bipush 96, 2) := dk_16 96 (dk_at dksL_law_1 11 rfl rfl)
theorem dL_law_35 : decode cL_law 35 = .ok (.if_icmp .ge 107, 3) := dk_162 0 107 (dk_at dksL_law_1 13 rfl rfl)
theorem dL_law_38 : decode cL_law 38 = .ok (.aload_n 0, 1) := dk_42 (dk_at dksL_law_1 16 rfl rfl)
theorem dL_law_39 : decode cL_law 39 = .ok (.iload_n 3, 1) := dk_29 (dk_at dksL_law_1 17 rfl rfl)
theorem dL_law_40 : decode cL_law 40 = .ok (.invokestatic 88, 3) := dk_184 0 88 (dk_at dksL_law_1 18 rfl rfl)
theorem dL_law_43 : decode cL_law 43 = .ok (.bipush 8, 2) := dk_16 8 (dk_at dksL_law_1 21 rfl rfl)
theorem dL_law_45 : decode cL_law 45 = .ok (.invokestatic 96, 3) := dk_184 0 96 (dk_at dksL_law_2 0 rfl rfl)
theorem dL_law_48 : decode cL_law 48 = .ok (.istore 4, 2) := dk_54 4 (dk_at dksL_law_2 3 rfl rfl)
theorem dL_law_50 : decode cL_law 50 = .ok (.aload_n 0, 1) := dk_42 (dk_at dksL_law_2 5 rfl rfl)
theorem dL_law_51 : decode cL_law 51 = .ok (.iload_n 3, 1) := dk_29 (dk_at dksL_law_2 6 rfl rfl)
theorem dL_law_52 : decode cL_law 52 = .ok (.iconst 1, 1) := dk_4 (dk_at dksL_law_2 7 rfl rfl)
theorem dL_law_53 : decode cL_law 53 = .ok (.iadd, 1) := dk_96 (dk_at dksL_law_2 8 rfl rfl)
theorem dL_law_54 : decode cL_law 54 = .ok (.invokestatic 88, 3) := dk_184 0 88 (dk_at dksL_law_2 9 rfl rfl)
theorem dL_law_57 : decode cL_law 57 = .ok (.istore 5, 2) := dk_54 5 (dk_at dksL_law_2 12 rfl rfl)
theorem dL_law_59 : decode cL_law 59 = .ok (.iload 4, 2) := dk_21 4 (dk_at dksL_law_2 14 rfl rfl)
theorem dL_law_61 : decode cL_law 61 = .ok (.iconst 3, 1) := dk_6 (dk_at dksL_law_2 16 rfl rfl)
theorem dL_law_62 : decode cL_law 62 = .ok (.if_icmp .ge 34, 3) := dk_162 0 34 (dk_at dksL_law_2 17 rfl rfl)
theorem dL_law_65 : decode cL_law 65 = .ok (.aload_n 1, 1) := dk_43 (dk_at dksL_law_2 20 rfl rfl)
theorem dL_law_66 : decode cL_law 66 = .ok (.aload_n 2, 1) := dk_44 (dk_at dksL_law_2 21 rfl rfl)
theorem dL_law_67 : decode cL_law 67 = .ok (.iload 5, 2) := dk_21 5 (dk_at dksL_law_2 22 rfl rfl)
theorem dL_law_69 : decode cL_law 69 = .ok (.aload_n 0, 1) := dk_42 (dk_at dksL_law_3 0 rfl rfl)
theorem dL_law_70 : decode cL_law 70 = .ok (.iload_n 3, 1) := dk_29 (dk_at dksL_law_3 1 rfl rfl)
theorem dL_law_71 : decode cL_law 71 = .ok (.iconst 2, 1) := dk_5 (dk_at dksL_law_3 2 rfl rfl)
theorem dL_law_72 : decode cL_law 72 = .ok (.iadd, 1) := dk_96 (dk_at dksL_law_3 3 rfl rfl)
theorem dL_law_73 : decode cL_law 73 = .ok (.invokestatic 88, 3) := dk_184 0 88 (dk_at dksL_law_3 4 rfl rfl)
theorem dL_law_76 : decode cL_law 76 = .ok (.aload_n 0, 1) := dk_42 (dk_at dksL_law_3 7 rfl rfl)
theorem dL_law_77 : decode cL_law 77 = .ok (.iload_n 3, 1) := dk_29 (dk_at dksL_law_3 8 rfl rfl)
theorem dL_law_78 : decode cL_law 78 = .ok (.iconst 3, 1) := dk_6 (dk_at dksL_law_3 9 rfl rfl)
theorem dL_law_79 : decode cL_law 79 = .ok (.iadd, 1) := dk_96 (dk_at dksL_law_3 10 rfl rfl)
theorem dL_law_80 : decode cL_law 80 = .ok (.invokestatic 88, 3) := dk_184 0 88 (dk_at dksL_law_3 11 rfl rfl)
theorem dL_law_83 : decode cL_law 83 = .ok (.aload_n 0, 1) := dk_42 (dk_at dksL_law_3 14 rfl rfl)
theorem dL_law_84 : decode cL_law 84 = .ok (.iload_n 3, 1) := dk_29 (dk_at dksL_law_3 15 rfl rfl)
theorem dL_law_85 : decode cL_law 85 = .ok (.iconst 4, 1) := dk_7 (dk_at dksL_law_3 16 rfl rfl)
theorem dL_law_86 : decode cL_law 86 = .ok (.iadd, 1) := dk_96 (dk_at dksL_law_3 17 rfl rfl)
theorem dL_law_87 : decode cL_law 87 = .ok (.invokestatic 88, 3) := dk_184 0 88 (dk_at dksL_law_3 18 rfl rfl)
theorem dL_law_90 : decode cL_law 90 = .ok (.invokestatic 100, 3) := dk_184 0 100 (dk_at dksL_law_3 21 rfl rfl)
theorem dL_law_93 : decode cL_law 93 = .ok (.goto 26, 3) := dk_167 0 26 (dk_at dksL_law_4 0 rfl rfl)
theorem dL_law_96 : decode cL_law 96 = .ok (.aload_n 1, 1) := dk_43 (dk_at dksL_law_4 3 rfl rfl)
theorem dL_law_97 : decode cL_law 97 = .ok (.aload_n 2, 1) := dk_44 (dk_at dksL_law_4 4 rfl rfl)
theorem dL_law_98 : decode cL_law 98 = .ok (.iload 4, 2) := dk_21 4 (dk_at dksL_law_4 5 rfl rfl)
theorem dL_law_100 : decode cL_law 100 = .ok (.iconst 3, 1) := dk_6 (dk_at dksL_law_4 7 rfl rfl)
theorem dL_law_101 : decode cL_law 101 = .ok (.isub, 1) := dk_100 (dk_at dksL_law_4 8 rfl rfl)
theorem dL_law_102 : decode cL_law 102 = .ok (.iload 5, 2) := dk_21 5 (dk_at dksL_law_4 9 rfl rfl)
theorem dL_law_104 : decode cL_law 104 = .ok (.aload_n 0, 1) := dk_42 (dk_at dksL_law_4 11 rfl rfl)
theorem dL_law_105 : decode cL_law 105 = .ok (.iload_n 3, 1) := dk_29 (dk_at dksL_law_4 12 rfl rfl)
theorem dL_law_106 : decode cL_law 106 = .ok (.iconst 5, 1) := dk_8 (dk_at dksL_law_4 13 rfl rfl)
theorem dL_law_107 : decode cL_law 107 = .ok (.iadd, 1) := dk_96 (dk_at dksL_law_4 14 rfl rfl)
theorem dL_law_108 : decode cL_law 108 = .ok (.invokestatic 88, 3) := dk_184 0 88 (dk_at dksL_law_4 15 rfl rfl)
theorem dL_law_111 : decode cL_law 111 = .ok (.invokestatic 104, 3) := dk_184 0 104 (dk_at dksL_law_4 18 rfl rfl)
theorem dL_law_114 : decode cL_law 114 = .ok (.ifCond .ne 5, 3) := dk_154 0 5 (dk_at dksL_law_4 21 rfl rfl)
theorem dL_law_117 : decode cL_law 117 = .ok (.iconst 0, 1) := dk_3 (dk_at dksL_law_5 0 rfl rfl)
theorem dL_law_118 : decode cL_law 118 = .ok (.ireturn, 1) := dk_172 (dk_at dksL_law_5 1 rfl rfl)
theorem dL_law_119 : decode cL_law 119 = .ok (.aload_n 1, 1) := dk_43 (dk_at dksL_law_5 2 rfl rfl)
theorem dL_law_120 : decode cL_law 120 = .ok (.aload_n 2, 1) := dk_44 (dk_at dksL_law_5 3 rfl rfl)
theorem dL_law_121 : decode cL_law 121 = .ok (.aload_n 0, 1) := dk_42 (dk_at dksL_law_5 4 rfl rfl)
theorem dL_law_122 : decode cL_law 122 = .ok (.iload_n 3, 1) := dk_29 (dk_at dksL_law_5 5 rfl rfl)
theorem dL_law_123 : decode cL_law 123 = .ok (.iconst 2, 1) := dk_5 (dk_at dksL_law_5 6 rfl rfl)
theorem dL_law_124 : decode cL_law 124 = .ok (.iadd, 1) := dk_96 (dk_at dksL_law_5 7 rfl rfl)
theorem dL_law_125 : decode cL_law 125 = .ok (.invokestatic 88, 3) := dk_184 0 88 (dk_at dksL_law_5 8 rfl rfl)
theorem dL_law_128 : decode cL_law 128 = .ok (.invokestatic 92, 3) := dk_184 0 92 (dk_at dksL_law_5 11 rfl rfl)
theorem dL_law_131 : decode cL_law 131 = .ok (.ifCond .ne 5, 3) := dk_154 0 5 (dk_at dksL_law_5 14 rfl rfl)
theorem dL_law_134 : decode cL_law 134 = .ok (.iconst 0, 1) := dk_3 (dk_at dksL_law_5 17 rfl rfl)
theorem dL_law_135 : decode cL_law 135 = .ok (.ireturn, 1) := dk_172 (dk_at dksL_law_5 18 rfl rfl)
theorem dL_law_136 : decode cL_law 136 = .ok (.iinc 3 6, 3) := dk_132 3 6 (dk_at dksL_law_5 19 rfl rfl)
theorem dL_law_139 : decode cL_law 139 = .ok (.goto (-107), 3) := dk_167 255 149 (dk_at dksL_law_6 0 rfl rfl)
theorem dL_law_142 : decode cL_law 142 = .ok (.aload_n 1, 1) := dk_43 (dk_at dksL_law_6 3 rfl rfl)
theorem dL_law_143 : decode cL_law 143 = .ok (.aload_n 2, 1) := dk_44 (dk_at dksL_law_6 4 rfl rfl)
theorem dL_law_144 : decode cL_law 144 = .ok (.iconst 0, 1) := dk_3 (dk_at dksL_law_6 5 rfl rfl)
theorem dL_law_145 : decode cL_law 145 = .ok (.aload_n 0, 1) := dk_42 (dk_at dksL_law_6 6 rfl rfl)
theorem dL_law_146 : decode cL_law 146 = .ok (.iconst 1, 1) := dk_4 (dk_at dksL_law_6 7 rfl rfl)
theorem dL_law_147 : decode cL_law 147 = .ok (.invokestatic 88, 3) := dk_184 0 88 (dk_at dksL_law_6 8 rfl rfl)
theorem dL_law_150 : decode cL_law 150 = .ok (.aload_n 0, 1) := dk_42 (dk_at dksL_law_6 11 rfl rfl)
theorem dL_law_151 : decode cL_law 151 = .ok (.iconst 2, 1) := dk_5 (dk_at dksL_law_6 12 rfl rfl)
theorem dL_law_152 : decode cL_law 152 = .ok (.invokestatic 88, 3) := dk_184 0 88 (dk_at dksL_law_6 13 rfl rfl)
theorem dL_law_155 : decode cL_law 155 = .ok (.aload_n 0, 1) := dk_42 (dk_at dksL_law_6 16 rfl rfl)
theorem dL_law_156 : decode cL_law 156 = .ok (.iconst 3, 1) := dk_6 (dk_at dksL_law_6 17 rfl rfl)
theorem dL_law_157 : decode cL_law 157 = .ok (.invokestatic 88, 3) := dk_184 0 88 (dk_at dksL_law_6 18 rfl rfl)
theorem dL_law_160 : decode cL_law 160 = .ok (.invokestatic 100, 3) := dk_184 0 100 (dk_at dksL_law_6 21 rfl rfl)
theorem dL_law_163 : decode cL_law 163 = .ok (.aload_n 1, 1) := dk_43 (dk_at dksL_law_7 0 rfl rfl)
theorem dL_law_164 : decode cL_law 164 = .ok (.aload_n 2, 1) := dk_44 (dk_at dksL_law_7 1 rfl rfl)
theorem dL_law_165 : decode cL_law 165 = .ok (.iconst 1, 1) := dk_4 (dk_at dksL_law_7 2 rfl rfl)
theorem dL_law_166 : decode cL_law 166 = .ok (.aload_n 0, 1) := dk_42 (dk_at dksL_law_7 3 rfl rfl)
theorem dL_law_167 : decode cL_law 167 = .ok (.iconst 4, 1) := dk_7 (dk_at dksL_law_7 4 rfl rfl)
theorem dL_law_168 : decode cL_law 168 = .ok (.invokestatic 88, 3) := dk_184 0 88 (dk_at dksL_law_7 5 rfl rfl)
theorem dL_law_171 : decode cL_law 171 = .ok (.aload_n 0, 1) := dk_42 (dk_at dksL_law_7 8 rfl rfl)
theorem dL_law_172 : decode cL_law 172 = .ok (.iconst 0, 1) := dk_3 (dk_at dksL_law_7 9 rfl rfl)
theorem dL_law_173 : decode cL_law 173 = .ok (.invokestatic 88, 3) := dk_184 0 88 (dk_at dksL_law_7 10 rfl rfl)
theorem dL_law_176 : decode cL_law 176 = .ok (.bipush 31, 2) := dk_16 31 (dk_at dksL_law_7 13 rfl rfl)
theorem dL_law_178 : decode cL_law 178 = .ok (.iand, 1) := dk_126 (dk_at dksL_law_7 15 rfl rfl)
theorem dL_law_179 : decode cL_law 179 = .ok (.ishr, 1) := dk_122 (dk_at dksL_law_7 16 rfl rfl)
theorem dL_law_180 : decode cL_law 180 = .ok (.aload_n 0, 1) := dk_42 (dk_at dksL_law_7 17 rfl rfl)
theorem dL_law_181 : decode cL_law 181 = .ok (.iconst 5, 1) := dk_8 (dk_at dksL_law_7 18 rfl rfl)
theorem dL_law_182 : decode cL_law 182 = .ok (.invokestatic 88, 3) := dk_184 0 88 (dk_at dksL_law_7 19 rfl rfl)
theorem dL_law_185 : decode cL_law 185 = .ok (.aload_n 0, 1) := dk_42 (dk_at dksL_law_7 22 rfl rfl)
theorem dL_law_186 : decode cL_law 186 = .ok (.bipush 6, 2) := dk_16 6 (dk_at dksL_law_8 0 rfl rfl)
theorem dL_law_188 : decode cL_law 188 = .ok (.invokestatic 88, 3) := dk_184 0 88 (dk_at dksL_law_8 2 rfl rfl)
theorem dL_law_191 : decode cL_law 191 = .ok (.invokestatic 100, 3) := dk_184 0 100 (dk_at dksL_law_8 5 rfl rfl)
theorem dL_law_194 : decode cL_law 194 = .ok (.iconst 0, 1) := dk_3 (dk_at dksL_law_8 8 rfl rfl)
theorem dL_law_195 : decode cL_law 195 = .ok (.istore_n 3, 1) := dk_62 (dk_at dksL_law_8 9 rfl rfl)
theorem dL_law_196 : decode cL_law 196 = .ok (.iload_n 3, 1) := dk_29 (dk_at dksL_law_8 10 rfl rfl)
theorem dL_law_197 : decode cL_law 197 = .ok (.bipush 40, 2) := dk_16 40 (dk_at dksL_law_8 11 rfl rfl)
theorem dL_law_199 : decode cL_law 199 = .ok (.if_icmp .ge 64, 3) := dk_162 0 64 (dk_at dksL_law_8 13 rfl rfl)
theorem dL_law_202 : decode cL_law 202 = .ok (.aload_n 1, 1) := dk_43 (dk_at dksL_law_8 16 rfl rfl)
theorem dL_law_203 : decode cL_law 203 = .ok (.aload_n 2, 1) := dk_44 (dk_at dksL_law_8 17 rfl rfl)
theorem dL_law_204 : decode cL_law 204 = .ok (.aload_n 0, 1) := dk_42 (dk_at dksL_law_8 18 rfl rfl)
theorem dL_law_205 : decode cL_law 205 = .ok (.bipush 7, 2) := dk_16 7 (dk_at dksL_law_8 19 rfl rfl)
theorem dL_law_207 : decode cL_law 207 = .ok (.invokestatic 88, 3) := dk_184 0 88 (dk_at dksL_law_8 21 rfl rfl)
theorem dL_law_210 : decode cL_law 210 = .ok (.iload_n 3, 1) := dk_29 (dk_at dksL_law_9 0 rfl rfl)
theorem dL_law_211 : decode cL_law 211 = .ok (.bipush 32, 2) := dk_16 32 (dk_at dksL_law_9 1 rfl rfl)
theorem dL_law_213 : decode cL_law 213 = .ok (.irem, 1) := dk_112 (dk_at dksL_law_9 3 rfl rfl)
theorem dL_law_214 : decode cL_law 214 = .ok (.ishr, 1) := dk_122 (dk_at dksL_law_9 4 rfl rfl)
theorem dL_law_215 : decode cL_law 215 = .ok (.iconst 1, 1) := dk_4 (dk_at dksL_law_9 5 rfl rfl)
theorem dL_law_216 : decode cL_law 216 = .ok (.iand, 1) := dk_126 (dk_at dksL_law_9 6 rfl rfl)
theorem dL_law_217 : decode cL_law 217 = .ok (.iload_n 3, 1) := dk_29 (dk_at dksL_law_9 7 rfl rfl)
theorem dL_law_218 : decode cL_law 218 = .ok (.iload_n 3, 1) := dk_29 (dk_at dksL_law_9 8 rfl rfl)
theorem dL_law_219 : decode cL_law 219 = .ok (.invokestatic 104, 3) := dk_184 0 104 (dk_at dksL_law_9 9 rfl rfl)
theorem dL_law_222 : decode cL_law 222 = .ok (.ifCond .eq 33, 3) := dk_153 0 33 (dk_at dksL_law_9 12 rfl rfl)
theorem dL_law_225 : decode cL_law 225 = .ok (.aload_n 1, 1) := dk_43 (dk_at dksL_law_9 15 rfl rfl)
theorem dL_law_226 : decode cL_law 226 = .ok (.aload_n 2, 1) := dk_44 (dk_at dksL_law_9 16 rfl rfl)
theorem dL_law_227 : decode cL_law 227 = .ok (.iconst 2, 1) := dk_5 (dk_at dksL_law_9 17 rfl rfl)
theorem dL_law_228 : decode cL_law 228 = .ok (.iload_n 3, 1) := dk_29 (dk_at dksL_law_9 18 rfl rfl)
theorem dL_law_229 : decode cL_law 229 = .ok (.iconst 3, 1) := dk_6 (dk_at dksL_law_9 19 rfl rfl)
theorem dL_law_230 : decode cL_law 230 = .ok (.irem, 1) := dk_112 (dk_at dksL_law_9 20 rfl rfl)
theorem dL_law_231 : decode cL_law 231 = .ok (.iadd, 1) := dk_96 (dk_at dksL_law_9 21 rfl rfl)
theorem dL_law_232 : decode cL_law 232 = .ok (.iload_n 3, 1) := dk_29 (dk_at dksL_law_9 22 rfl rfl)
theorem dL_law_233 : decode cL_law 233 = .ok (.iconst 2, 1) := dk_5 (dk_at dksL_law_9 23 rfl rfl)
theorem dL_law_234 : decode cL_law 234 = .ok (.idiv, 1) := dk_108 (dk_at dksL_law_10 0 rfl rfl)
theorem dL_law_235 : decode cL_law 235 = .ok (.aload_n 0, 1) := dk_42 (dk_at dksL_law_10 1 rfl rfl)
theorem dL_law_236 : decode cL_law 236 = .ok (.iload_n 3, 1) := dk_29 (dk_at dksL_law_10 2 rfl rfl)
theorem dL_law_237 : decode cL_law 237 = .ok (.invokestatic 88, 3) := dk_184 0 88 (dk_at dksL_law_10 3 rfl rfl)
theorem dL_law_240 : decode cL_law 240 = .ok (.invokestatic 104, 3) := dk_184 0 104 (dk_at dksL_law_10 6 rfl rfl)
theorem dL_law_243 : decode cL_law 243 = .ok (.ifCond .eq 12, 3) := dk_153 0 12 (dk_at dksL_law_10 9 rfl rfl)
theorem dL_law_246 : decode cL_law 246 = .ok (.aload_n 1, 1) := dk_43 (dk_at dksL_law_10 12 rfl rfl)
theorem dL_law_247 : decode cL_law 247 = .ok (.aload_n 2, 1) := dk_44 (dk_at dksL_law_10 13 rfl rfl)
theorem dL_law_248 : decode cL_law 248 = .ok (.iload_n 3, 1) := dk_29 (dk_at dksL_law_10 14 rfl rfl)
theorem dL_law_249 : decode cL_law 249 = .ok (.invokestatic 92, 3) := dk_184 0 92 (dk_at dksL_law_10 15 rfl rfl)
theorem dL_law_252 : decode cL_law 252 = .ok (.ifCond .ne 5, 3) := dk_154 0 5 (dk_at dksL_law_10 18 rfl rfl)
theorem dL_law_255 : decode cL_law 255 = .ok (.iconst 0, 1) := dk_3 (dk_at dksL_law_10 21 rfl rfl)
theorem dL_law_256 : decode cL_law 256 = .ok (.ireturn, 1) := dk_172 (dk_at dksL_law_10 22 rfl rfl)
theorem dL_law_257 : decode cL_law 257 = .ok (.iinc 3 1, 3) := dk_132 3 1 (dk_at dksL_law_11 0 rfl rfl)
theorem dL_law_260 : decode cL_law 260 = .ok (.goto (-64), 3) := dk_167 255 192 (dk_at dksL_law_11 3 rfl rfl)
theorem dL_law_263 : decode cL_law 263 = .ok (.iconst 0, 1) := dk_3 (dk_at dksL_law_11 6 rfl rfl)
theorem dL_law_264 : decode cL_law 264 = .ok (.istore_n 3, 1) := dk_62 (dk_at dksL_law_11 7 rfl rfl)
theorem dL_law_265 : decode cL_law 265 = .ok (.iload_n 3, 1) := dk_29 (dk_at dksL_law_11 8 rfl rfl)
theorem dL_law_266 : decode cL_law 266 = .ok (.iconst 2, 1) := dk_5 (dk_at dksL_law_11 9 rfl rfl)
theorem dL_law_267 : decode cL_law 267 = .ok (.if_icmp .ge 149, 3) := dk_162 0 149 (dk_at dksL_law_11 10 rfl rfl)
theorem dL_law_270 : decode cL_law 270 = .ok (.aload_n 1, 1) := dk_43 (dk_at dksL_law_11 13 rfl rfl)
theorem dL_law_271 : decode cL_law 271 = .ok (.aload_n 2, 1) := dk_44 (dk_at dksL_law_11 14 rfl rfl)
theorem dL_law_272 : decode cL_law 272 = .ok (.iconst 0, 1) := dk_3 (dk_at dksL_law_11 15 rfl rfl)
theorem dL_law_273 : decode cL_law 273 = .ok (.iload_n 3, 1) := dk_29 (dk_at dksL_law_11 16 rfl rfl)
theorem dL_law_274 : decode cL_law 274 = .ok (.ifCond .ne 8, 3) := dk_154 0 8 (dk_at dksL_law_11 17 rfl rfl)
theorem dL_law_277 : decode cL_law 277 = .ok (.ldc 7, 2) := dk_18 7 (dk_at dksL_law_11 20 rfl rfl)
theorem dL_law_279 : decode cL_law 279 = .ok (.goto 5, 3) := dk_167 0 5 (dk_at dksL_law_12 0 rfl rfl)
theorem dL_law_282 : decode cL_law 282 = .ok (.ldc 108, 2) := dk_18 108 (dk_at dksL_law_12 3 rfl rfl)
theorem dL_law_284 : decode cL_law 284 = .ok (.aload_n 0, 1) := dk_42 (dk_at dksL_law_12 5 rfl rfl)
theorem dL_law_285 : decode cL_law 285 = .ok (.bipush 8, 2) := dk_16 8 (dk_at dksL_law_12 6 rfl rfl)
theorem dL_law_287 : decode cL_law 287 = .ok (.invokestatic 88, 3) := dk_184 0 88 (dk_at dksL_law_12 8 rfl rfl)
theorem dL_law_290 : decode cL_law 290 = .ok (.aload_n 0, 1) := dk_42 (dk_at dksL_law_12 11 rfl rfl)
theorem dL_law_291 : decode cL_law 291 = .ok (.bipush 9, 2) := dk_16 9 (dk_at dksL_law_12 12 rfl rfl)
theorem dL_law_293 : decode cL_law 293 = .ok (.invokestatic 88, 3) := dk_184 0 88 (dk_at dksL_law_12 14 rfl rfl)
theorem dL_law_296 : decode cL_law 296 = .ok (.invokestatic 100, 3) := dk_184 0 100 (dk_at dksL_law_12 17 rfl rfl)
theorem dL_law_299 : decode cL_law 299 = .ok (.aload_n 1, 1) := dk_43 (dk_at dksL_law_12 20 rfl rfl)
theorem dL_law_300 : decode cL_law 300 = .ok (.aload_n 2, 1) := dk_44 (dk_at dksL_law_12 21 rfl rfl)
theorem dL_law_301 : decode cL_law 301 = .ok (.iconst 1, 1) := dk_4 (dk_at dksL_law_12 22 rfl rfl)
theorem dL_law_302 : decode cL_law 302 = .ok (.iload_n 3, 1) := dk_29 (dk_at dksL_law_12 23 rfl rfl)
theorem dL_law_303 : decode cL_law 303 = .ok (.ifCond .ne 8, 3) := dk_154 0 8 (dk_at dksL_law_13 0 rfl rfl)
theorem dL_law_306 : decode cL_law 306 = .ok (.ldc 7, 2) := dk_18 7 (dk_at dksL_law_13 3 rfl rfl)
theorem dL_law_308 : decode cL_law 308 = .ok (.goto 5, 3) := dk_167 0 5 (dk_at dksL_law_13 5 rfl rfl)
theorem dL_law_311 : decode cL_law 311 = .ok (.ldc 108, 2) := dk_18 108 (dk_at dksL_law_13 8 rfl rfl)
theorem dL_law_313 : decode cL_law 313 = .ok (.aload_n 0, 1) := dk_42 (dk_at dksL_law_13 10 rfl rfl)
theorem dL_law_314 : decode cL_law 314 = .ok (.bipush 10, 2) := dk_16 10 (dk_at dksL_law_13 11 rfl rfl)
theorem dL_law_316 : decode cL_law 316 = .ok (.invokestatic 88, 3) := dk_184 0 88 (dk_at dksL_law_13 13 rfl rfl)
theorem dL_law_319 : decode cL_law 319 = .ok (.aload_n 0, 1) := dk_42 (dk_at dksL_law_13 16 rfl rfl)
theorem dL_law_320 : decode cL_law 320 = .ok (.bipush 11, 2) := dk_16 11 (dk_at dksL_law_13 17 rfl rfl)
theorem dL_law_322 : decode cL_law 322 = .ok (.invokestatic 88, 3) := dk_184 0 88 (dk_at dksL_law_13 19 rfl rfl)
theorem dL_law_325 : decode cL_law 325 = .ok (.invokestatic 100, 3) := dk_184 0 100 (dk_at dksL_law_14 0 rfl rfl)
theorem dL_law_328 : decode cL_law 328 = .ok (.iconst 0, 1) := dk_3 (dk_at dksL_law_14 3 rfl rfl)
theorem dL_law_329 : decode cL_law 329 = .ok (.istore 4, 2) := dk_54 4 (dk_at dksL_law_14 4 rfl rfl)
theorem dL_law_331 : decode cL_law 331 = .ok (.iload 4, 2) := dk_21 4 (dk_at dksL_law_14 6 rfl rfl)
theorem dL_law_333 : decode cL_law 333 = .ok (.bipush 16, 2) := dk_16 16 (dk_at dksL_law_14 8 rfl rfl)
theorem dL_law_335 : decode cL_law 335 = .ok (.if_icmp .ge 55, 3) := dk_162 0 55 (dk_at dksL_law_14 10 rfl rfl)
theorem dL_law_338 : decode cL_law 338 = .ok (.aload_n 1, 1) := dk_43 (dk_at dksL_law_14 13 rfl rfl)
theorem dL_law_339 : decode cL_law 339 = .ok (.aload_n 2, 1) := dk_44 (dk_at dksL_law_14 14 rfl rfl)
theorem dL_law_340 : decode cL_law 340 = .ok (.iconst 0, 1) := dk_3 (dk_at dksL_law_14 15 rfl rfl)
theorem dL_law_341 : decode cL_law 341 = .ok (.iload 4, 2) := dk_21 4 (dk_at dksL_law_14 16 rfl rfl)
theorem dL_law_343 : decode cL_law 343 = .ok (.iconst 0, 1) := dk_3 (dk_at dksL_law_14 18 rfl rfl)
theorem dL_law_344 : decode cL_law 344 = .ok (.invokestatic 104, 3) := dk_184 0 104 (dk_at dksL_law_14 19 rfl rfl)
theorem dL_law_347 : decode cL_law 347 = .ok (.ifCond .eq 35, 3) := dk_153 0 35 (dk_at dksL_law_15 0 rfl rfl)
theorem dL_law_350 : decode cL_law 350 = .ok (.aload_n 1, 1) := dk_43 (dk_at dksL_law_15 3 rfl rfl)
theorem dL_law_351 : decode cL_law 351 = .ok (.aload_n 2, 1) := dk_44 (dk_at dksL_law_15 4 rfl rfl)
theorem dL_law_352 : decode cL_law 352 = .ok (.iconst 2, 1) := dk_5 (dk_at dksL_law_15 5 rfl rfl)
theorem dL_law_353 : decode cL_law 353 = .ok (.iload 4, 2) := dk_21 4 (dk_at dksL_law_15 6 rfl rfl)
theorem dL_law_355 : decode cL_law 355 = .ok (.iconst 3, 1) := dk_6 (dk_at dksL_law_15 8 rfl rfl)
theorem dL_law_356 : decode cL_law 356 = .ok (.irem, 1) := dk_112 (dk_at dksL_law_15 9 rfl rfl)
theorem dL_law_357 : decode cL_law 357 = .ok (.iadd, 1) := dk_96 (dk_at dksL_law_15 10 rfl rfl)
theorem dL_law_358 : decode cL_law 358 = .ok (.iload 4, 2) := dk_21 4 (dk_at dksL_law_15 11 rfl rfl)
theorem dL_law_360 : decode cL_law 360 = .ok (.aload_n 0, 1) := dk_42 (dk_at dksL_law_15 13 rfl rfl)
theorem dL_law_361 : decode cL_law 361 = .ok (.iload 4, 2) := dk_21 4 (dk_at dksL_law_15 14 rfl rfl)
theorem dL_law_363 : decode cL_law 363 = .ok (.invokestatic 88, 3) := dk_184 0 88 (dk_at dksL_law_15 16 rfl rfl)
theorem dL_law_366 : decode cL_law 366 = .ok (.invokestatic 104, 3) := dk_184 0 104 (dk_at dksL_law_15 19 rfl rfl)
theorem dL_law_369 : decode cL_law 369 = .ok (.ifCond .eq 13, 3) := dk_153 0 13 (dk_at dksL_law_16 0 rfl rfl)
theorem dL_law_372 : decode cL_law 372 = .ok (.aload_n 1, 1) := dk_43 (dk_at dksL_law_16 3 rfl rfl)
theorem dL_law_373 : decode cL_law 373 = .ok (.aload_n 2, 1) := dk_44 (dk_at dksL_law_16 4 rfl rfl)
theorem dL_law_374 : decode cL_law 374 = .ok (.iload 4, 2) := dk_21 4 (dk_at dksL_law_16 5 rfl rfl)
theorem dL_law_376 : decode cL_law 376 = .ok (.invokestatic 92, 3) := dk_184 0 92 (dk_at dksL_law_16 7 rfl rfl)
theorem dL_law_379 : decode cL_law 379 = .ok (.ifCond .ne 5, 3) := dk_154 0 5 (dk_at dksL_law_16 10 rfl rfl)
theorem dL_law_382 : decode cL_law 382 = .ok (.iconst 0, 1) := dk_3 (dk_at dksL_law_16 13 rfl rfl)
theorem dL_law_383 : decode cL_law 383 = .ok (.ireturn, 1) := dk_172 (dk_at dksL_law_16 14 rfl rfl)
theorem dL_law_384 : decode cL_law 384 = .ok (.iinc 4 1, 3) := dk_132 4 1 (dk_at dksL_law_16 15 rfl rfl)
theorem dL_law_387 : decode cL_law 387 = .ok (.goto (-56), 3) := dk_167 255 200 (dk_at dksL_law_16 18 rfl rfl)
theorem dL_law_390 : decode cL_law 390 = .ok (.aload_n 2, 1) := dk_44 (dk_at dksL_law_16 21 rfl rfl)
theorem dL_law_391 : decode cL_law 391 = .ok (.iconst 0, 1) := dk_3 (dk_at dksL_law_16 22 rfl rfl)
theorem dL_law_392 : decode cL_law 392 = .ok (.aaload, 1) := dk_50 (dk_at dksL_law_16 23 rfl rfl)
theorem dL_law_393 : decode cL_law 393 = .ok (.invokestatic 61, 3) := dk_184 0 61 (dk_at dksL_law_17 0 rfl rfl)
theorem dL_law_396 : decode cL_law 396 = .ok (.ifCond .eq 14, 3) := dk_153 0 14 (dk_at dksL_law_17 3 rfl rfl)
theorem dL_law_399 : decode cL_law 399 = .ok (.aload_n 2, 1) := dk_44 (dk_at dksL_law_17 6 rfl rfl)
theorem dL_law_400 : decode cL_law 400 = .ok (.iconst 1, 1) := dk_4 (dk_at dksL_law_17 7 rfl rfl)
theorem dL_law_401 : decode cL_law 401 = .ok (.aaload, 1) := dk_50 (dk_at dksL_law_17 8 rfl rfl)
theorem dL_law_402 : decode cL_law 402 = .ok (.invokestatic 61, 3) := dk_184 0 61 (dk_at dksL_law_17 9 rfl rfl)
theorem dL_law_405 : decode cL_law 405 = .ok (.ifCond .eq 5, 3) := dk_153 0 5 (dk_at dksL_law_17 12 rfl rfl)
theorem dL_law_408 : decode cL_law 408 = .ok (.iconst 0, 1) := dk_3 (dk_at dksL_law_17 15 rfl rfl)
theorem dL_law_409 : decode cL_law 409 = .ok (.ireturn, 1) := dk_172 (dk_at dksL_law_17 16 rfl rfl)
theorem dL_law_410 : decode cL_law 410 = .ok (.iinc 3 1, 3) := dk_132 3 1 (dk_at dksL_law_17 17 rfl rfl)
theorem dL_law_413 : decode cL_law 413 = .ok (.goto (-148), 3) := dk_167 255 108 (dk_at dksL_law_17 20 rfl rfl)
theorem dL_law_416 : decode cL_law 416 = .ok (.iconst 1, 1) := dk_4 (dk_at dksL_law_17 23 rfl rfl)
theorem dL_law_417 : decode cL_law 417 = .ok (.ireturn, 1) := dk_172 (dk_at dksL_law_18 0 rfl rfl)
theorem q20 : (Jvm.Cond.arrayOver (Jvm.ClassFile.FieldType.object "Duration")) ∈ lw_tbl := lw_at lw_m1 17 rfl
set_option maxRecDepth 100000
theorem q96 : (Jvm.Cond.arrayClass Jvm.ClassFile.FieldType.byte) ∈ lw_all := lw_g (lw_at lw_m1 93 rfl) rfl
theorem q283 : (Jvm.Cond.arrayOver (Jvm.ClassFile.FieldType.array Jvm.ClassFile.FieldType.long)) ∈ lw_tbl := lw_at lw_m2 40 rfl
theorem q285 : (Jvm.Cond.arrayClass Jvm.ClassFile.FieldType.long) ∈ lw_all := lw_g (lw_at lw_m2 42 rfl) rfl
end
section
/-! PART 02: numbers, no program in sight -/
theorem sd_bm64 {x : Int} (h1 : -9223372036854775808 ≤ x) (h2 : x < 9223372036854775808) : x.bmod (2 ^ 64) = x := by
  apply Int.bmod_eq_of_le
  · show -((18446744073709551616 : Int) / 2) ≤ x
    omega
  · show x < ((18446744073709551616 : Int) + 1) / 2
    omega
theorem sd_bm32 {x : Int} (h1 : -2147483648 ≤ x) (h2 : x < 2147483648) : x.bmod (2 ^ 32) = x := by
  apply Int.bmod_eq_of_le
  · show -((4294967296 : Int) / 2) ≤ x
    omega
  · show x < ((4294967296 : Int) + 1) / 2
    omega
theorem sd_lb (x : Int64) : -9223372036854775808 ≤ x.toInt ∧ x.toInt < 9223372036854775808 := ⟨x.le_toInt, x.toInt_lt⟩
theorem sd_ib (x : Int32) : -2147483648 ≤ x.toInt ∧ x.toInt < 2147483648 := ⟨x.le_toInt, x.toInt_lt⟩
theorem sd_add {a b : Int64} (h1 : -9223372036854775808 ≤ a.toInt + b.toInt) (h2 : a.toInt + b.toInt < 9223372036854775808) : (a + b).toInt = a.toInt + b.toInt := by
  rw [Int64.toInt_add, sd_bm64 h1 h2]
theorem sd_sub {a b : Int64} (h1 : -9223372036854775808 ≤ a.toInt - b.toInt) (h2 : a.toInt - b.toInt < 9223372036854775808) : (a - b).toInt = a.toInt - b.toInt := by
  rw [Int64.toInt_sub, sd_bm64 h1 h2]
theorem sd_mul {a b : Int64} (h1 : -9223372036854775808 ≤ a.toInt * b.toInt) (h2 : a.toInt * b.toInt < 9223372036854775808) : (a * b).toInt = a.toInt * b.toInt := by
  rw [Int64.toInt_mul, sd_bm64 h1 h2]
theorem sd_neg {a : Int64} (h1 : -9223372036854775808 < a.toInt) : (-a).toInt = -a.toInt := by
  have h2 := sd_lb a
  rw [Int64.toInt_neg, sd_bm64 (by omega) (by omega)]
theorem sd_tdiv (x : Int) {k : Int} : (0 ≤ x → x.tdiv k = x / k) ∧ (x < 0 → x.tdiv k = -((-x) / k)) := by
  refine ⟨fun h => Int.tdiv_eq_ediv_of_nonneg h, fun h => ?_⟩
  have h1 := Int.neg_tdiv (-x) k
  rw [Int.neg_neg] at h1
  rw [h1, Int.tdiv_eq_ediv_of_nonneg (by omega)]
theorem sd_div (a : Int64) {b : Int64} {k : Int} (hb : b.toInt = k) (hk : 0 < k) : (a / b).toInt = a.toInt.tdiv k := by
  rw [Int64.toInt_div_of_ne_right, hb]
  intro h
  rw [h] at hb
  have h1 : ((-1 : Int64)).toInt = -1 := by decide
  omega
theorem sd_div9 (a : Int64) : (a / 1000000000).toInt = a.toInt.tdiv 1000000000 := sd_div a rfl (by decide)
theorem sd_div3 (a : Int64) : (a / 1000).toInt = a.toInt.tdiv 1000 := sd_div a rfl (by decide)
theorem sd_rem9 (a : Int64) : (a - a / 1000000000 * 1000000000).toInt = a.toInt - a.toInt.tdiv 1000000000 * 1000000000 := by
  have h := sd_lb a
  have h1 := sd_div9 a
  have h2 := sd_tdiv a.toInt (k := 1000000000)
  have hc : (1000000000 : Int64).toInt = 1000000000 := rfl
  rcases Int.lt_or_le a.toInt 0 with q | q
  · have h3 := h2.2 q
    have h4 : (a / 1000000000 * 1000000000).toInt = a.toInt.tdiv 1000000000 * 1000000000 := by
      rw [sd_mul (by rw [h1, hc, h3]; omega) (by rw [h1, hc, h3]; omega), h1, hc]
    rw [sd_sub (by rw [h4, h3]; omega) (by rw [h4, h3]; omega), h4]
  · have h3 := h2.1 q
    have h4 : (a / 1000000000 * 1000000000).toInt = a.toInt.tdiv 1000000000 * 1000000000 := by
      rw [sd_mul (by rw [h1, hc, h3]; omega) (by rw [h1, hc, h3]; omega), h1, hc]
    rw [sd_sub (by rw [h4, h3]; omega) (by rw [h4, h3]; omega), h4]
theorem sd_rem3 (a : Int64) : (a - a / 1000 * 1000).toInt = a.toInt - a.toInt.tdiv 1000 * 1000 := by
  have h := sd_lb a
  have h1 := sd_div3 a
  have h2 := sd_tdiv a.toInt (k := 1000)
  have hc : (1000 : Int64).toInt = 1000 := rfl
  rcases Int.lt_or_le a.toInt 0 with q | q
  · have h3 := h2.2 q
    have h4 : (a / 1000 * 1000).toInt = a.toInt.tdiv 1000 * 1000 := by
      rw [sd_mul (by rw [h1, hc, h3]; omega) (by rw [h1, hc, h3]; omega), h1, hc]
    rw [sd_sub (by rw [h4, h3]; omega) (by rw [h4, h3]; omega), h4]
  · have h3 := h2.1 q
    have h4 : (a / 1000 * 1000).toInt = a.toInt.tdiv 1000 * 1000 := by
      rw [sd_mul (by rw [h1, hc, h3]; omega) (by rw [h1, hc, h3]; omega), h1, hc]
    rw [sd_sub (by rw [h4, h3]; omega) (by rw [h4, h3]; omega), h4]
/-- remainder and quotient by 1000000000, as Java has them -/
theorem sd_qr9 (a : Int64) : ((a / 1000000000).toInt = if 0 ≤ a.toInt then a.toInt / 1000000000 else -((-a.toInt) / 1000000000)) ∧ ((a - a / 1000000000 * 1000000000).toInt = if 0 ≤ a.toInt then a.toInt % 1000000000 else -((-a.toInt) % 1000000000)) := by
  have h1 := sd_div9 a
  have h2 := sd_tdiv a.toInt (k := 1000000000)
  have h3 := sd_rem9 a
  rcases Int.lt_or_le a.toInt 0 with q | q
  · have h4 := h2.2 q
    rw [if_neg (by omega), if_neg (by omega), h1, h3, h4]
    exact ⟨rfl, by omega⟩
  · have h4 := h2.1 q
    rw [if_pos q, if_pos q, h1, h3, h4]
    exact ⟨rfl, by omega⟩
theorem sd_qr3 (a : Int64) : ((a / 1000).toInt = if 0 ≤ a.toInt then a.toInt / 1000 else -((-a.toInt) / 1000)) ∧ ((a - a / 1000 * 1000).toInt = if 0 ≤ a.toInt then a.toInt % 1000 else -((-a.toInt) % 1000)) := by
  have h1 := sd_div3 a
  have h2 := sd_tdiv a.toInt (k := 1000)
  have h3 := sd_rem3 a
  rcases Int.lt_or_le a.toInt 0 with q | q
  · have h4 := h2.2 q
    rw [if_neg (by omega), if_neg (by omega), h1, h3, h4]
    exact ⟨rfl, by omega⟩
  · have h4 := h2.1 q
    rw [if_pos q, if_pos q, h1, h3, h4]
    exact ⟨rfl, by omega⟩
theorem sd_lneg (x : Int64) : x.toInt < 0 ↔ x.toBitVec.msb = true := by
  rw [← Int64.toInt_toBitVec, BitVec.msb_eq_toInt]
  exact (decide_eq_true_iff).symm
theorem sd_xor (a b : Int64) : (a ^^^ b).toInt < 0 ↔ ¬ (a.toInt < 0 ↔ b.toInt < 0) := by
  rw [sd_lneg, sd_lneg, sd_lneg, Int64.toBitVec_xor, BitVec.msb_xor]
  cases a.toBitVec.msb <;> cases b.toBitVec.msb <;> simp
theorem sd_or (a b : Int64) : (a ||| b) = 0 ↔ a = 0 ∧ b = 0 := by
  constructor
  · intro h
    have h1 : (a ||| b).toBitVec = (0 : Int64).toBitVec := by rw [h]
    rw [Int64.toBitVec_or] at h1
    have h2 := BitVec.or_eq_zero_iff.mp h1
    exact ⟨Int64.toBitVec_inj.mp h2.1, Int64.toBitVec_inj.mp h2.2⟩
  · intro h
    rw [h.1, h.2]
    rfl
theorem sd_l0 (a : Int64) : a = 0 ↔ a.toInt = 0 := by
  rw [← Int64.toInt_inj]
  exact Iff.rfl
theorem sd_i0 (n : Int32) : n.toInt64 = 0 ↔ n.toInt = 0 := by
  rw [sd_l0, Int32.toInt_toInt64]
/-- the seconds that `set` takes: (long) (h >> 8) << 32 | l & 4294967295 -/
def wd (h l : Int32) : Int64 := ((h >>> ((8 : Int32) &&& 31)).toInt64 <<< ((32 : Int32).toInt64 &&& 63)) ||| (l.toInt64 &&& 4294967295)
theorem wd_val (h l : Int32) : ∃ y : Int, 0 ≤ y ∧ y < 4294967296 ∧ (wd h l).toInt = h.toInt / 256 * 4294967296 + y := by
  have hX : (h >>> ((8 : Int32) &&& 31)).toInt64.toInt = h.toInt / 256 := by
    rw [Int32.toInt_toInt64, pk_shr _ _ 8 (by decide), Int.shiftRight_eq_div_pow]
    rfl
  have hb := sd_ib h
  unfold wd
  generalize (h >>> ((8 : Int32) &&& 31)).toInt64 = X at hX ⊢
  generalize l.toInt64 = Y
  have hN : (X <<< ((32 : Int32).toInt64 &&& 63)).toBitVec.toNat = X.toBitVec.toNat * 2 ^ 32 % 2 ^ 64 := by
    show (X.toBitVec <<< ((((32 : Int32).toInt64 &&& 63) : Int64).toBitVec.smod 64).toNat).toNat = _
    rw [show ((((32 : Int32).toInt64 &&& 63) : Int64).toBitVec.smod 64).toNat = 32 from by decide, BitVec.toNat_shiftLeft, Nat.shiftLeft_eq]
  have hY : (Y &&& 4294967295).toBitVec.toNat = Y.toBitVec.toNat % 2 ^ 32 := by
    rw [Int64.toBitVec_and, BitVec.toNat_and, show (4294967295 : Int64).toBitVec.toNat = 2 ^ 32 - 1 from by decide, Nat.and_two_pow_sub_one_eq_mod]
  have hO : ((X <<< ((32 : Int32).toInt64 &&& 63)) ||| (Y &&& 4294967295)).toBitVec.toNat = 2 ^ 32 * (X.toBitVec.toNat % 2 ^ 32) + Y.toBitVec.toNat % 2 ^ 32 := by
    rw [Int64.toBitVec_or, BitVec.toNat_or, hN, hY, show X.toBitVec.toNat * 2 ^ 32 % 2 ^ 64 = 2 ^ 32 * (X.toBitVec.toNat % 2 ^ 32) from by omega, Nat.two_pow_add_eq_or_of_lt (Nat.mod_lt _ (by decide))]
  have e1 : X.toInt = if 2 * X.toBitVec.toNat < 2 ^ 64 then (X.toBitVec.toNat : Int) else (X.toBitVec.toNat : Int) - ((2 ^ 64 : Nat) : Int) := BitVec.toInt_eq_toNat_cond _
  have e2 : ((X <<< ((32 : Int32).toInt64 &&& 63)) ||| (Y &&& 4294967295)).toInt = if 2 * ((X <<< ((32 : Int32).toInt64 &&& 63)) ||| (Y &&& 4294967295)).toBitVec.toNat < 2 ^ 64 then (((X <<< ((32 : Int32).toInt64 &&& 63)) ||| (Y &&& 4294967295)).toBitVec.toNat : Int) else (((X <<< ((32 : Int32).toInt64 &&& 63)) ||| (Y &&& 4294967295)).toBitVec.toNat : Int) - ((2 ^ 64 : Nat) : Int) := BitVec.toInt_eq_toNat_cond _
  rw [hO] at e2
  have hXl := X.toBitVec.isLt
  refine ⟨((Y.toBitVec.toNat % 2 ^ 32 : Nat) : Int), by omega, by omega, ?_⟩
  rw [e2]
  split at e1 <;> split <;> omega
theorem wd_in (h l : Int32) : -36028797018963968 ≤ (wd h l).toInt ∧ (wd h l).toInt < 36028797018963968 := by
  obtain ⟨y, h1, h2, h3⟩ := wd_val h l
  have hb := sd_ib h
  omega
/-! a Duration's fields, a row of the law's, by the whole number of nanoseconds -/
def Sp (u : Int64) (n : Int32) (T : Int) : Prop := 0 ≤ n.toInt ∧ n.toInt < 1000000000 ∧ T = u.toInt * 1000000000 + n.toInt
def Rw (Z : Nat → Int64) (T : Int) : Prop := 0 ≤ (Z 1).toInt ∧ (Z 1).toInt < 1000000000 ∧ T = (Z 0).toInt * 1000000000 + (Z 1).toInt
theorem Sp.rw {u : Int64} {n : Int32} {Z : Nat → Int64} {T : Int} (h : Sp u n T) (k : Rw Z T) : u = Z 0 ∧ n.toInt64 = Z 1 := by
  obtain ⟨h1, h2, h3⟩ := h
  obtain ⟨k1, k2, k3⟩ := k
  refine ⟨Int64.toInt_inj.mp (by omega), Int64.toInt_inj.mp ?_⟩
  rw [Int32.toInt_toInt64]
  omega
/-- the seconds, rounded down, lie between -2^62 and 2^62 -/
abbrev nr (t : Int) : Prop := -4611686018427387904 < t / 1000000000 ∧ t / 1000000000 < 4611686018427387904
abbrev near2 (T : Nat → Int) : Prop := nr (T 0) ∧ nr (T 1)
theorem Sp.sec {u : Int64} {n : Int32} {T : Int} (h : Sp u n T) : u.toInt = T / 1000000000 := by
  obtain ⟨h1, h2, h3⟩ := h
  omega
theorem Rw.sec {Z : Nat → Int64} {T : Int} (h : Rw Z T) : (Z 0).toInt = T / 1000000000 := by
  obtain ⟨h1, h2, h3⟩ := h
  omega
/-- which of the two an index names -/
def ix (w : Int32) : Nat := (w &&& 1).toNatClampNeg
theorem ix_and (w : Int32) : (w &&& 1) = nI (w.toBitVec.toNat % 2) := pk_and w 1 (by decide)
theorem ix_mod (w : Int32) : ix w = w.toBitVec.toNat % 2 := by
  unfold ix
  rw [ix_and, nI_clamp (by omega)]
theorem ix_lt (w : Int32) : ix w < 2 := by
  rw [ix_mod]
  omega
theorem ix_eq (w : Int32) : (w &&& 1) = nI (ix w) := by
  rw [ix_and, ix_mod]
theorem ix_in (w : Int32) : vp_in (w &&& 1) 2 := by
  rw [ix_eq]
  exact vp_in_nI (ix_lt w) (by decide)
theorem ix_not (w : Int32) : ix (w ^^^ (-1)) = 1 - ix w := by
  rw [ix_mod, ix_mod, Int32.toBitVec_xor, BitVec.toNat_xor, show ((-1 : Int32)).toBitVec.toNat = 2 ^ 32 - 1 from by decide]
  have h : (w.toBitVec.toNat ^^^ (2 ^ 32 - 1)) % 2 = (w.toBitVec.toNat % 2) ^^^ ((2 ^ 32 - 1) % 2) := by
    have := Nat.xor_mod_two_pow (a := w.toBitVec.toNat) (b := 2 ^ 32 - 1) (n := 1)
    simpa using this
  rw [h]
  rcases (show w.toBitVec.toNat % 2 = 0 ∨ w.toBitVec.toNat % 2 = 1 by omega) with q | q <;> rw [q] <;> decide
theorem ix_nI {k : Nat} (h : k < 2147483648) : ix (nI k) = k % 2 := by
  rw [ix_mod, pk_tn (by omega)]
/-- any - (any & 1) + k names the k-th -/
theorem ix_even (a : Int32) {k : Nat} (hk : k < 2) : ix (a - (a &&& 1) + nI k) = k := by
  rw [ix_mod, ix_and, Int32.toBitVec_add, Int32.toBitVec_sub, BitVec.toNat_add, BitVec.toNat_sub, pk_tn (by omega), pk_tn (by omega)]
  have h := a.toBitVec.isLt
  omega
/-- T with its i-th value made t -/
def tset (T : Nat → Int) (i : Nat) (t : Int) : Nat → Int := fun k => if k = i then t else T k
theorem tset_self (T : Nat → Int) (i : Nat) (t : Int) : tset T i t i = t := if_pos rfl
theorem tset_ne (T : Nat → Int) {i k : Nat} (t : Int) (h : k ≠ i) : tset T i t k = T k := if_neg h
/-- what a change of a kind adds -/
def dlt (kind : Nat) (T : Nat → Int) (i : Nat) (n : Int32) : Int := match kind with
  | 0 => T (1 - i)
  | 1 => -T (1 - i)
  | 2 => n.toInt * 1000000000
  | 3 => n.toInt * 1000000
  | _ => n.toInt
/-- .. and what it makes of the two: nothing where it is refused -/
def chg (kind : Nat) (i : Nat) (n : Int32) (T : Nat → Int) : Nat → Int := if near2 T then tset T i (T i + dlt kind T i n) else T
theorem chg_yes {kind i : Nat} {n : Int32} {T : Nat → Int} (h : near2 T) : chg kind i n T = tset T i (T i + dlt kind T i n) := if_pos h
theorem chg_no {kind i : Nat} {n : Int32} {T : Nat → Int} (h : ¬ near2 T) : chg kind i n T = T := if_neg h
theorem sd_z0 : (0 : Int64).toInt = 0 := rfl
end
section
/-! PART 03: rows of my own over the kit's -/
abbrev vwCl : List vw_C := [(RX1, TX1, 1), (RX2, TX2, 2)]
/-- an object, a Duration, the desk, a long[2], an array of 2 references: each a world of one cell -/
abbrev Ob (D : va_G) (r ci : Nat) (fs : List Value) (H : Heap) : Prop := va_P D vwCl [(r, .inr (ci, fs))] H
/-- a Duration: by its class and its fields (of ZERO's cell the Statement says no more) -/
def Du (D : va_G) (r : Nat) (u : Int64) (n : Int32) (H : Heap) : Prop := ∃ cell : Cell, H[r]? = some cell ∧ cell.cls = D.1 1 ∧ cell.vm.isStatics = false ∧ cell.vm ≠ .unknown ∧ cell.slots[D.2 1 0]? = some (.long u) ∧ cell.slots[D.2 1 1]? = some (.int n)
abbrev Dk (D : va_G) (hd ha : Nat) (H : Heap) : Prop := va_P D vwCl [(hd, .inr (0, [.ref ha]))] H
abbrev La (D : va_G) (a : Nat) (cL : ClassId) (Z : Nat → Int64) (H : Heap) : Prop := va_P D vwCl [(a, .inl (cL, 2, .inr (.inl Z)))] H
abbrev Ra (D : va_G) (a : Nat) (cA : ClassId) (F : Nat → Option Nat) (H : Heap) : Prop := va_P D vwCl [(a, .inl (cA, 2, .inr (.inr (.inr (.inr F)))))] H
/-- the places that a method may write: these cells, and those that it makes -/
def Ax (as : List Nat) (sz : Nat) : Nat → Prop := fun q => q ∈ as ∨ sz ≤ q
theorem vP0 {D : va_G} {cl : List vw_C} {H : Heap} : va_P D cl [] H := fun k q h => by simp at h
theorem vD0 {A : Nat → Prop} : va_D A [] := ⟨fun i j p q h => by simp at h, fun k q h => by simp at h⟩
theorem vD1 {A : Nat → Prop} {a : Nat} {e : va_E} (h : A a) : va_D A [(a, e)] := by
  refine ⟨fun i j p q h1 h2 _ => ?_, fun k q h1 => ?_⟩
  · have a1 : i < 1 := (List.getElem?_eq_some_iff.mp h1).1
    have a2 : j < 1 := (List.getElem?_eq_some_iff.mp h2).1
    omega
  · have a1 : k < 1 := (List.getElem?_eq_some_iff.mp h1).1
    rw [show k = 0 by omega] at h1
    cases h1
    exact h
theorem vP1 {D : va_G} {cl : List vw_C} {a : Nat} {e : va_E} {H : Heap} (h : va_at D cl (a, e) H) : va_P D cl [(a, e)] H := by
  intro k q hk
  have a1 : k < 1 := (List.getElem?_eq_some_iff.mp hk).1
  rw [show k = 0 by omega] at hk
  cases hk
  exact h
theorem pk1 {D : va_G} {cl : List vw_C} {a : Nat} {e : va_E} {H H1 : Heap} (h : va_P D cl [(a, e)] H) (hq : H1[a]? = H[a]?) : va_P D cl [(a, e)] H1 := vP1 ((h 0 _ rfl).kept hq)
theorem pk_lt1 {D : va_G} {cl : List vw_C} {a : Nat} {e : va_E} {H : Heap} (h : va_P D cl [(a, e)] H) : a < H.size := (h 0 _ rfl).lt
/-- the cell at a is an array -/
def IsArr (s : State) (H : Heap) (a : Nat) : Prop := ∃ (cell : Cell) (k : Class) (comp : ClassId) (t : FieldType), H[a]? = some cell ∧ cell.vm.isStatics = false ∧ s.vm.classes[cell.cls]? = some k ∧ k.kind = .array comp t
theorem vp_cell_cls (cA : ClassId) (x : vp_A) : (vp_cell cA x).cls = cA ∧ (vp_cell cA x).vm = .none := by
  obtain ⟨n, f⟩ := x
  rcases f with f | f | f | f | f <;> exact ⟨rfl, rfl⟩
theorem isArr_of {D : va_G} {cl : List vw_C} {tys : List (ClassId × FieldType)} {s : State} {H : Heap} {a : Nat} {cA : ClassId} {x : vp_A} {ty : FieldType} (hK : va_K D cl tys s) (h : va_P D cl [(a, .inl (cA, x))] H) (t0 : Nat) (ht : tys[t0]? = some (cA, ty)) : IsArr s H a := by
  have h1 : H[a]? = some (vp_cell cA x) := h 0 _ rfl
  obtain ⟨-, k, hk, comp, hkind⟩ := (hK.2 t0 _ ht).1 0 (fun _ => .null)
  obtain ⟨e1, e2⟩ := vp_cell_cls cA x
  exact ⟨_, k, comp, ty, h1, by rw [e2]; rfl, by rw [e1]; exact hk, hkind⟩
theorem ob_ne {D : va_G} {cl : List vw_C} {tys : List (ClassId × FieldType)} {s : State} {H : Heap} {r ci a : Nat} {fs : List Value} {q : vw_C} (hK : va_K D cl tys s) (hc : cl[ci]? = some q) (h : va_P D cl [(r, .inr (ci, fs))] H) (ha : IsArr s H a) : r ≠ a := by
  intro e
  subst e
  obtain ⟨cell, k, comp, t, h1, -, h3, h4⟩ := ha
  obtain ⟨q', g0, cell', g1, g2, g3, -⟩ := h 0 _ rfl
  cases h1.symm.trans g1
  obtain ⟨-, hfc, kC, hkC, hkind⟩ := hK.1 ci q hc
  rw [g2] at h3
  cases h3.symm.trans hkC
  rw [hkind] at h4
  cases h4
theorem Du.of {D : va_G} {r : Nat} {u : Int64} {n : Int32} {H : Heap} (h : Ob D r 1 [.long u, .int n] H) : Du D r u n H := by
  obtain ⟨q', g0, cell, g1, g2, g3, g4⟩ := h 0 _ rfl
  cases g0
  exact ⟨cell, g1, g2, by rw [g3]; rfl, (by rw [g3]; intro h; cases h), g4 0 (show 0 < 2 by decide), g4 1 (show 1 < 2 by decide)⟩
theorem Du.k1 {D : va_G} {r : Nat} {u : Int64} {n : Int32} {H H1 : Heap} (h : Du D r u n H) (hq : H1[r]? = H[r]?) : Du D r u n H1 := by
  obtain ⟨cell, h1, h2⟩ := h
  exact ⟨cell, hq.trans h1, h2⟩
theorem Du.lt {D : va_G} {r : Nat} {u : Int64} {n : Int32} {H : Heap} (h : Du D r u n H) : r < H.size := by
  obtain ⟨cell, h1, -⟩ := h
  exact (Array.getElem?_eq_some_iff.mp h1).1
theorem Du.recv {D : va_G} {r : Nat} {u : Int64} {n : Int32} {H : Heap} {tys : List (ClassId × FieldType)} {s : State} (hK : va_K D vwCl tys s) (h : Du D r u n H) : ∃ cell : Cell, H[r]? = some cell ∧ cell.vm.isStatics = false ∧ s.vm.findClass RX2 = some cell.cls := by
  obtain ⟨cell, h1, h2, h3, -⟩ := h
  exact ⟨cell, h1, h3, by rw [h2]; exact (hK.1 1 _ rfl).2.1⟩
theorem Du.ne {D : va_G} {tys : List (ClassId × FieldType)} {s : State} {H : Heap} {r a : Nat} {u : Int64} {n : Int32} (hK : va_K D vwCl tys s) (h : Du D r u n H) (ha : IsArr s H a) : r ≠ a := by
  intro e
  subst e
  obtain ⟨cell, k, comp, t, h1, -, h3, h4⟩ := ha
  obtain ⟨cell', g1, g2, -⟩ := h
  cases h1.symm.trans g1
  obtain ⟨-, hfc, kC, hkC, hkind⟩ := hK.1 1 _ rfl
  rw [g2] at h3
  cases h3.symm.trans hkC
  rw [hkind] at h4
  cases h4
theorem Du.Ok {D : va_G} {tys : List (ClassId × FieldType)} {s : State} {H H1 : Heap} {r : Nat} {u : Int64} {n : Int32} {as : List Nat} (hK : va_K D vwCl tys s) (h : Du D r u n H) (has : ∀ a ∈ as, IsArr s H a) (hq : ∀ q : Nat, q < H.size → ¬ Ax as H.size q → H1[q]? = H[q]?) : Du D r u n H1 := by
  refine h.k1 (hq r h.lt fun hz => ?_)
  rcases hz with hz | hz
  · exact Du.ne hK h (has r hz) rfl
  · exact absurd h.lt (by omega)
theorem Du.S {D : va_G} {A : Nat → Prop} {r : Nat} {u : Int64} {n : Int32} {H0 H : Heap} {locs : List Loc} (h : Du D r u n H0) (hS : va_S A H0 H locs) (hn : ¬ A r) : Du D r u n H := h.k1 (hS.2.1 r h.lt hn)
/-- a static that nobody writes stays: its cell is no array -/
theorem Zk {C n d : String} {v : Value} {s : State} {H H1 : Heap} {as : List Nat} (h : va_Z C n d v (fun _ => False) s H) (has : ∀ a ∈ as, IsArr s H a) (hq : ∀ q : Nat, q < H.size → ¬ Ax as H.size q → H1[q]? = H[q]?) : va_Z C n d v (fun _ => False) s H1 := by
  obtain ⟨cf, kf, fi, f, a, cell, h1, h2, h3, h4, h5, h6, h7, h8⟩ := h
  have hlt : a < H.size := (Array.getElem?_eq_some_iff.mp h5).1
  refine ⟨cf, kf, fi, f, a, cell, h1, h2, h3, h4, ?_, h6, h7, h8⟩
  rw [hq a hlt ?_]
  · exact h5
  · intro hz
    rcases hz with hz | hz
    · obtain ⟨c2, k, comp, t, g1, g2, -⟩ := has a hz
      cases h5.symm.trans g1
      rw [h6] at g2
      cases g2
    · omega
/-- an object stays where arrays are written -/
theorem Ok {D : va_G} {cl : List vw_C} {tys : List (ClassId × FieldType)} {s : State} {H H1 : Heap} {r ci : Nat} {fs : List Value} {q : vw_C} {as : List Nat} (hK : va_K D cl tys s) (hc : cl[ci]? = some q) (h : va_P D cl [(r, .inr (ci, fs))] H) (has : ∀ a ∈ as, IsArr s H a) (hq : ∀ q : Nat, q < H.size → ¬ Ax as H.size q → H1[q]? = H[q]?) : va_P D cl [(r, .inr (ci, fs))] H1 := by
  refine pk1 h (hq r (pk_lt1 h) fun hz => ?_)
  rcases hz with hz | hz
  · exact ob_ne hK hc h (has r hz) rfl
  · exact absurd (pk_lt1 h) (by omega)
/-- another array stays -/
theorem Ak {D : va_G} {cl : List vw_C} {H H1 : Heap} {a : Nat} {e : va_E} {as : List Nat} (h : va_P D cl [(a, e)] H) (hn : a ∉ as) (hq : ∀ q : Nat, q < H.size → ¬ Ax as H.size q → H1[q]? = H[q]?) : va_P D cl [(a, e)] H1 := by
  refine pk1 h (hq a (pk_lt1 h) fun hz => ?_)
  rcases hz with hz | hz
  · exact hn hz
  · exact absurd (pk_lt1 h) (by omega)
/-- the k-th of the two holds T nanoseconds -/
def Spn (D : va_G) (F : Nat → Option Nat) (k : Nat) (T : Int) (H : Heap) : Prop := ∃ (r : Nat) (u : Int64) (n : Int32), F k = some r ∧ Du D r u n H ∧ Sp u n T
def Pair (D : va_G) (F : Nat → Option Nat) (T : Nat → Int) (H : Heap) : Prop := ∀ k, k < 2 → Spn D F k (T k) H
theorem Pair.keep {D : va_G} {tys : List (ClassId × FieldType)} {s : State} {H H1 : Heap} {F : Nat → Option Nat} {T : Nat → Int} {as : List Nat} (h : Pair D F T H) (hK : va_K D vwCl tys s) (has : ∀ a ∈ as, IsArr s H a) (hq : ∀ q : Nat, q < H.size → ¬ Ax as H.size q → H1[q]? = H[q]?) : Pair D F T H1 := by
  intro k hk
  obtain ⟨r, u, n, h1, h2, h3⟩ := h k hk
  exact ⟨r, u, n, h1, Du.Ok hK h2 has hq, h3⟩
/-- a store of a new Duration at place i -/
theorem Pair.put {D : va_G} {F : Nat → Option Nat} {T : Nat → Int} {H : Heap} {i r : Nat} {u : Int64} {n : Int32} {t : Int} (h : Pair D F T H) (hD : Du D r u n H) (hS : Sp u n t) : Pair D (va_up F i (some r)) (tset T i t) H := by
  intro k hk
  by_cases e : k = i
  · subst e
    rw [tset_self]
    exact ⟨r, u, n, va_up_self _ _ _, hD, hS⟩
  · rw [tset_ne _ _ e]
    obtain ⟨r1, u1, n1, h1, h2, h3⟩ := h k hk
    exact ⟨r1, u1, n1, by rw [va_up_ne _ _ e]; exact h1, h2, h3⟩
/-! starts -/
theorem sd_preS {s : State} {H : Heap} {av : List Value} {r : Heap → State → Prop} (hR : ∀ (h : Heap) (U U' : State), U.vm.Alike U'.vm → r h U → r h U') (h : r H s) : PreS s H (va_Pc av (fun U => r U.heap U)) av :=
  ⟨fun a U g mk q => ⟨q.1, hR U.heap U (U.calling g mk a) (Vm.Alike.refl U.vm) q.2⟩, fun U hU hW => ⟨rfl, by show r U.heap U; rw [hU]; exact hR _ _ _ hW.alike h⟩⟩
theorem sd_preV {s : State} {H : Heap} {C : String} {b : Addr} {As : List Value} {r : Heap → State → Prop} (hR : ∀ (h : Heap) (U U' : State), U.vm.Alike U'.vm → r h U → r h U') (hrecv : ∃ cellB : Cell, H[b]? = some cellB ∧ cellB.vm.isStatics = false ∧ s.vm.findClass C = some cellB.cls) (h : r H s) : PreV s H C b (va_Pc (Value.ref b :: As) (fun U => r U.heap U)) As :=
  ⟨fun a U g mk q => ⟨q.1, hR U.heap U (U.calling g mk a) (Vm.Alike.refl U.vm) q.2⟩, hrecv, fun U hU hW => ⟨rfl, by show r U.heap U; rw [hU]; exact hR _ _ _ hW.alike h⟩⟩
def P0 (_ : Heap) (_ : State) : Prop := True
theorem P0.st (h : Heap) (U U' : State) (_ : U.vm.Alike U'.vm) (_ : P0 h U) : P0 h U' := trivial
section SDR
variable {p : Program} {l : Launch} {e : Env} {R : Room} {s : State} {m : MethodId} {args : Array Value} {below : List Frame} {meth : Method} {c : Code} {H : Heap} {locs : List Loc} {cells slots : Nat} {Q : State → Prop}
variable {cc : ByteArray} {pc : Nat} {ls : Array Slot} {rest : List Value} {D : va_G} {cl : List vw_C} {A : Nat → Prop} {a : Nat} {tys : List (ClassId × FieldType)} {H0 : Heap}
/-! a comparison of longs and the branch behind it, by whole numbers -/
theorem sd_lge (hx : p.tables.exec = Jvm.exec) (hb : c.code = cc) {x y : Int64} {off : Int} {tgt : Nat} (d1 : decode cc pc = .ok (.lcmp, 1)) (d2 : decode cc (pc + 1) = .ok (.ifCond .ge off, 3)) (ht : ((pc + 1 : Nat) : Int) + off = (tgt : Int))
    (kt : y.toInt ≤ x.toInt → W p l e R s m args below meth c H locs cells slots Q (F0 m tgt ls rest)) (kf : x.toInt < y.toInt → W p l e R s m args below meth c H locs cells slots Q (F0 m (pc + 1 + 3) ls rest)) : W p l e R s m args below meth c H locs cells slots Q (F0 m pc ls (.long y :: .long x :: rest)) := by
  refine W.lcmp hx hb d1 ?_
  refine lv_if_ge (tgt := tgt) hx hb d2 ht (fun h => kt ?_) (fun h => kf ?_)
  · rw [lg_cmp_ge, Int64.le_iff_toInt_le] at h
    exact h
  · rw [lg_cmp_ge, Int64.le_iff_toInt_le] at h
    omega
theorem sd_lle (hx : p.tables.exec = Jvm.exec) (hb : c.code = cc) {x y : Int64} {off : Int} {tgt : Nat} (d1 : decode cc pc = .ok (.lcmp, 1)) (d2 : decode cc (pc + 1) = .ok (.ifCond .le off, 3)) (ht : ((pc + 1 : Nat) : Int) + off = (tgt : Int))
    (kt : x.toInt ≤ y.toInt → W p l e R s m args below meth c H locs cells slots Q (F0 m tgt ls rest)) (kf : y.toInt < x.toInt → W p l e R s m args below meth c H locs cells slots Q (F0 m (pc + 1 + 3) ls rest)) : W p l e R s m args below meth c H locs cells slots Q (F0 m pc ls (.long y :: .long x :: rest)) := by
  refine W.lcmp hx hb d1 ?_
  refine lv_if_le (tgt := tgt) hx hb d2 ht (fun h => kt ?_) (fun h => kf ?_)
  · rw [lg_cmp_le, Int64.le_iff_toInt_le] at h
    exact h
  · rw [lg_cmp_le, Int64.le_iff_toInt_le] at h
    omega
theorem sd_llt (hx : p.tables.exec = Jvm.exec) (hb : c.code = cc) {x y : Int64} {off : Int} {tgt : Nat} (d1 : decode cc pc = .ok (.lcmp, 1)) (d2 : decode cc (pc + 1) = .ok (.ifCond .lt off, 3)) (ht : ((pc + 1 : Nat) : Int) + off = (tgt : Int))
    (kt : x.toInt < y.toInt → W p l e R s m args below meth c H locs cells slots Q (F0 m tgt ls rest)) (kf : y.toInt ≤ x.toInt → W p l e R s m args below meth c H locs cells slots Q (F0 m (pc + 1 + 3) ls rest)) : W p l e R s m args below meth c H locs cells slots Q (F0 m pc ls (.long y :: .long x :: rest)) := by
  refine W.lcmp hx hb d1 ?_
  refine lv_if_lt (tgt := tgt) hx hb d2 ht (fun h => kt ?_) (fun h => kf ?_)
  · rw [lg_cmp_lt, Int64.lt_iff_toInt_lt] at h
    exact h
  · rw [lg_cmp_lt, Int64.lt_iff_toInt_lt] at h
    omega
theorem sd_lne (hx : p.tables.exec = Jvm.exec) (hb : c.code = cc) {x y : Int64} {off : Int} {tgt : Nat} (d1 : decode cc pc = .ok (.lcmp, 1)) (d2 : decode cc (pc + 1) = .ok (.ifCond .ne off, 3)) (ht : ((pc + 1 : Nat) : Int) + off = (tgt : Int))
    (kt : ¬ x = y → W p l e R s m args below meth c H locs cells slots Q (F0 m tgt ls rest)) (kf : x = y → W p l e R s m args below meth c H locs cells slots Q (F0 m (pc + 1 + 3) ls rest)) : W p l e R s m args below meth c H locs cells slots Q (F0 m pc ls (.long y :: .long x :: rest)) := by
  refine W.lcmp hx hb d1 ?_
  refine lv_if_ne (tgt := tgt) hx hb d2 ht (fun h => kt ?_) (fun h => kf ?_)
  · intro q
    exact absurd ((lg_cmp_eq x y).mpr q) h
  · exact (lg_cmp_eq x y).mp h
theorem sd_leq (hx : p.tables.exec = Jvm.exec) (hb : c.code = cc) {x y : Int64} {off : Int} {tgt : Nat} (d1 : decode cc pc = .ok (.lcmp, 1)) (d2 : decode cc (pc + 1) = .ok (.ifCond .eq off, 3)) (ht : ((pc + 1 : Nat) : Int) + off = (tgt : Int))
    (kt : x = y → W p l e R s m args below meth c H locs cells slots Q (F0 m tgt ls rest)) (kf : ¬ x = y → W p l e R s m args below meth c H locs cells slots Q (F0 m (pc + 1 + 3) ls rest)) : W p l e R s m args below meth c H locs cells slots Q (F0 m pc ls (.long y :: .long x :: rest)) := by
  refine W.lcmp hx hb d1 ?_
  refine lv_if_eq (tgt := tgt) hx hb d2 ht (fun h => kt ?_) (fun h => kf ?_)
  · exact (lg_cmp_eq x y).mp h
  · intro q
    exact absurd ((lg_cmp_eq x y).mpr q) h
/-! arrays of one known cell -/
theorem sd_lald (hx : p.tables.exec = Jvm.exec) (hb : c.code = cc) (hK : va_K D cl tys s) {cA : ClassId} {n : Nat} {f : Nat → Int64} (hP : va_P D cl [(a, .inl (cA, n, .inr (.inl f)))] H) (t0 : Nat) (ht : tys[t0]? = some (cA, .long)) {i : Int32} {v : Int64} (hin : vp_in i n) (hv : f i.toNatClampNeg = v) (hdg : decode cc pc = .ok (.laload, 1))
    (kk : W p l e R s m args below meth c H locs cells slots Q (F0 m (pc + 1) ls (.long v :: rest))) : W p l e R s m args below meth c H locs cells slots Q (F0 m pc ls (.int i :: .ref a :: rest)) := by
  subst hv
  exact va_lald hx hb hK hP 0 t0 rfl ht hin hdg kk
theorem sd_aald (hx : p.tables.exec = Jvm.exec) (hb : c.code = cc) (hK : va_K D cl tys s) {cA : ClassId} {n : Nat} {f : Nat → Option Nat} {ty : FieldType} (hP : va_P D cl [(a, .inl (cA, n, .inr (.inr (.inr (.inr f)))))] H) (t0 : Nat) (ht : tys[t0]? = some (cA, ty)) (hty : ty.isReference = true) {i : Int32} {r : Nat} (hin : vp_in i n) (hv : f i.toNatClampNeg = some r) (hdg : decode cc pc = .ok (.aaload, 1))
    (kk : W p l e R s m args below meth c H locs cells slots Q (F0 m (pc + 1) ls (.ref r :: rest))) : W p l e R s m args below meth c H locs cells slots Q (F0 m pc ls (.int i :: .ref a :: rest)) := by
  have hlt : i.toNatClampNeg < n := Nat.not_le.mp fun q => hin (Or.inr q)
  refine W.aald (v := .ref r) (ty := ty) hx hb (hP 0 _ rfl) ((hK.2 t0 _ ht).1 n (fun j => va_rf (f j))) hty (fun q => by cases q) (by show ¬ (i < 0 ∨ (arrV _ _ _).slots.size ≤ _); rw [arrV_size]; exact hin) ?_ rfl rfl hdg kk
  show (arrV _ _ _).slots[_]? = _
  rw [arrV_read _ _ hlt, hv]
  rfl
theorem sd_last (hx : p.tables.exec = Jvm.exec) (hb : c.code = cc) (hK : va_K D cl tys s) {cA : ClassId} {n : Nat} {f : Nat → Int64} (hP : va_P D cl [(a, .inl (cA, n, .inr (.inl f)))] H) (hS : va_S A H0 H locs) (hA : A a) (t0 : Nat) (ht : tys[t0]? = some (cA, .long)) {i : Int32} {x : Int64} (hin : vp_in i n) (hdg : decode cc pc = .ok (.lastore, 1))
    (kk : ∀ (H1 : Heap) (locs1 : List Loc), va_P D cl [(a, .inl (cA, n, .inr (.inl (vp_updL f i.toNatClampNeg x))))] H1 → H1.size = H.size → (∀ q : Nat, q ≠ a → H1[q]? = H[q]?) → va_S A H0 H1 locs1 → W p l e R s m args below meth c H1 locs1 cells slots Q (F0 m (pc + 1) ls rest)) : W p l e R s m args below meth c H locs cells slots Q (F0 m pc ls (.long x :: .int i :: .ref a :: rest)) := by
  refine W.last hx hb (hP 0 _ rfl) ((hK.2 t0 _ ht).1 n (fun j => .long (f j))) (fun q => by cases q) (by show ¬ (i < 0 ∨ (arrV _ _ _).slots.size ≤ _); rw [arrV_size]; exact hin) rfl rfl hdg fun H1 e1 z oq => ?_
  refine kk H1 _ (vP1 ?_) z oq (hS.put z oq hA)
  show H1[a]? = some (vp_cell _ _)
  rw [e1, vp_cell_l, vp_cell_l, arrV_store]
  congr 2
  funext j
  by_cases hj : j = i.toNatClampNeg
  · subst hj
    simp [updV, vp_updL]
  · simp [updV, vp_updL, hj]
/-- a Duration laid into an array of them -/
theorem sd_aast (hx : p.tables.exec = Jvm.exec) (hb : c.code = cc) {uu : Int64} {nn : Int32} (hK : va_K D vwCl tys s) {cA : ClassId} {n v : Nat} {f : Nat → Option Nat} (hP : va_P D vwCl [(a, .inl (cA, n, .inr (.inr (.inr (.inr f)))))] H) (hV : Du D v uu nn H) (hS : va_S A H0 H locs) (hA : A a) (t0 : Nat) (ht : tys[t0]? = some (cA, .object "Duration")) {i : Int32} (hin : vp_in i n) (hdg : decode cc pc = .ok (.aastore, 1))
    (kk : ∀ (H1 : Heap) (locs1 : List Loc), va_P D vwCl [(a, .inl (cA, n, .inr (.inr (.inr (.inr (va_up f i.toNatClampNeg (some v)))))))] H1 → H1.size = H.size → (∀ q : Nat, q ≠ a → H1[q]? = H[q]?) → va_S A H0 H1 locs1 → W p l e R s m args below meth c H1 locs1 cells slots Q (F0 m (pc + 1) ls rest)) : W p l e R s m args below meth c H locs cells slots Q (F0 m pc ls (.ref v :: .int i :: .ref a :: rest)) := by
  have hlt : i.toNatClampNeg < n := Nat.not_le.mp fun q => hin (Or.inr q)
  have h0 : ¬ i < 0 := fun q => hin (Or.inl q)
  obtain ⟨cellV, g1, g2, g3, -⟩ := hV
  have hcls := (hK.1 1 _ rfl).2
  obtain ⟨kA, comp, k1, k2, k3, -⟩ := (hK.2 t0 _ ht).2
  have hcomp : comp = D.1 1 := Option.some.inj (k3.symm.trans hcls.1)
  subst hcomp
  obtain ⟨kC, hkC, -⟩ := hcls.2
  refine W.aast hx hb (hP 0 _ rfl) (fun q h => by cases h) (fun h => by cases h) k1 k2 rfl hkC ⟨h0, by show _ < (arrV _ _ _).slots.size; rw [arrV_size]; exact hlt⟩ g1 (fun q h => by rw [h] at g3; cases g3) (by rw [g2]; exact hkC) (by rw [g2]; exact va_assign hcls) rfl rfl hdg fun H1 e1 z oq => ?_
  refine kk H1 _ (vP1 ?_) z oq (hS.put z oq hA)
  show H1[a]? = some (vp_cell _ _)
  rw [e1, vp_cell_q, vp_cell_q, arrV_store]
  congr 2
  funext j
  by_cases hj : j = i.toNatClampNeg
  · subst hj
    simp [updV, va_up, va_rf]
  · simp [updV, va_up, hj]
/-- a Duration's field -/
theorem sd_getD0 (hx : p.tables.exec = Jvm.exec) (hb : c.code = cc) (hts : ∀ w ∈ lw_all, w.before args s = true) (hown : s.vm.findClass RX2 = some m.cls) (hK : va_K D vwCl tys s) {u : Int64} {n : Int32} (hP : Du D a u n H) (hdg : decode cc pc = .ok (.getfield 36, 3))
    (kk : W p l e R s m args below meth c H locs cells slots Q (F0 m (pc + 3) ls (.long u :: rest))) : W p l e R s m args below meth c H locs cells slots Q (F0 m pc ls (.ref a :: rest)) := by
  obtain ⟨cell, q1, q2, -, q3, q4, -⟩ := hP
  obtain ⟨hS, hfc, kC, hkC, hkind⟩ := hK.1 1 _ rfl
  obtain ⟨cf, kf, fi, f, hi, hsl⟩ := hS 0 (show 0 < 2 by decide)
  refine W.getf hx hb hown (hts _ q112) hi (u_facts hfc hkC (u_lays hts in_X2 (show 0 < 2 by decide)) hi).1 q1 q3 (v := .long u) ?_ rfl rfl hdg kk
  rw [hsl]
  exact q4
theorem sd_getD1 (hx : p.tables.exec = Jvm.exec) (hb : c.code = cc) (hts : ∀ w ∈ lw_all, w.before args s = true) (hown : s.vm.findClass RX2 = some m.cls) (hK : va_K D vwCl tys s) {u : Int64} {n : Int32} (hP : Du D a u n H) (hdg : decode cc pc = .ok (.getfield 40, 3))
    (kk : W p l e R s m args below meth c H locs cells slots Q (F0 m (pc + 3) ls (.int n :: rest))) : W p l e R s m args below meth c H locs cells slots Q (F0 m pc ls (.ref a :: rest)) := by
  obtain ⟨cell, q1, q2, -, q3, -, q5⟩ := hP
  obtain ⟨hS, hfc, kC, hkC, hkind⟩ := hK.1 1 _ rfl
  obtain ⟨cf, kf, fi, f, hi, hsl⟩ := hS 1 (show 1 < 2 by decide)
  refine W.getf hx hb hown (hts _ q113) hi (u_facts hfc hkC (u_lays hts in_X2 (show 1 < 2 by decide)) hi).1 q1 q3 (v := .int n) ?_ rfl rfl hdg kk
  rw [hsl]
  exact q5
end SDR
end
section
/-! PART 04: Jdk8Methods (printed by gen04.py) -/
set_option maxHeartbeats 4000000 in
set_option maxRecDepth 100000 in
/-- floorDiv(a, 1000000000): rounded down -/
theorem metX3_floorDiv (l : Launch) (a : Int64) : Met l yX3_floorDiv (ws_ yX3_floorDiv cX3_floorDiv 4 (some .long)) ({ frames := 0, cells := 0, slots := 0, locals := 0 } : Room) (va_Pc [.long a, .long 1000000000] (fun U => P0 U.heap U)) (vp_Sl (fun v => v.toInt = a.toInt / 1000000000)) 0 0 (fun _ => False) := by
  refine Met.ofW (cc := cX3_floorDiv) (maxL := 4) (ret := (some .long)) (by decide) rfl ?_
  intro p e s m args below meth c s₁ B hml hv
  obtain ⟨rfl, hv⟩ := hv
  have hx := B.exec
  have hb := B.bytes
  have hr := B.returns
  have hts := atoms_spec (ws := ws_ yX3_floorDiv cX3_floorDiv 4 (some .long)) B.pre
  have hts : ∀ w ∈ lw_all, w.before _ s = true := fun w h => hts w (List.mem_cons_of_mem _ h)
  have hown : s.vm.findClass RX3 = some m.cls := findClass_of_methodNamed B.named
  have hlocks := B.notSynchronized
  have hl := lv_entry ([.long a, .long 1000000000]) (n := 4) (Nat.le_of_ble_eq_true rfl)
  rw [lg_entry_eq]
  generalize (lg_sl ([.long a, .long 1000000000]) ++ List.replicate (4 - (lg_sl ([.long a, .long 1000000000])).length) Slot.unset).toArray = ls at hl ⊢
  have hl : lv_has ls 4 [(0, .long a), (2, .long 1000000000)] := hl
  have qr := sd_qr9 a
  have qb := sd_lb a
  refine lv_lload_n (pc := 0) hx hb dX3_floorDiv_0 rfl (lv_at hl 0 rfl) ?_
  refine lv_lconst (pc := 1) (v := 0) hx hb dX3_floorDiv_1 (by decide) ?_
  refine sd_llt (pc := 2) (tgt := 12) hx hb dX3_floorDiv_2 dX3_floorDiv_3 (by decide) (fun c2 => ?_) (fun c2 => ?_)
  · rw [sd_z0] at c2
    refine lv_lload_n (pc := 12) hx hb dX3_floorDiv_12 rfl (lv_at hl 0 rfl) ?_
    refine lv_lconst (pc := 13) (v := 1) hx hb dX3_floorDiv_13 (by decide) ?_
    refine lv_ladd (pc := 14) hx hb dX3_floorDiv_14 ?_
    refine lv_topl (fun v14 e14 => ?_)
    refine lv_lload_n (pc := 15) hx hb dX3_floorDiv_15 rfl (lv_at hl 1 rfl) ?_
    refine lv_ldiv (pc := 16) hx hb dX3_floorDiv_16 (by decide) ?_
    refine lv_topl (fun v16 e16 => ?_)
    refine lv_lconst (pc := 17) (v := 1) hx hb dX3_floorDiv_17 (by decide) ?_
    refine lv_lsub (pc := 18) hx hb dX3_floorDiv_18 ?_
    refine lv_topl (fun v18 e18 => ?_)
    have qs := sd_qr9 v14
    have h14 : v14.toInt = a.toInt + 1 := by rw [e14]; exact sd_add (b := 1) (by rw [show (1 : Int64).toInt = 1 from rfl]; omega) (by rw [show (1 : Int64).toInt = 1 from rfl]; omega)
    have h16 : v16.toInt = -((-v14.toInt) / 1000000000) := by
      rw [e16, qs.1]
      rcases Int.lt_or_le v14.toInt 0 with q | q
      · rw [if_neg (by omega)]
      · rw [if_pos q]; omega
    have h18 : v18.toInt = v16.toInt - 1 := by rw [e18]; exact sd_sub (b := 1) (by rw [show (1 : Int64).toInt = 1 from rfl]; omega) (by rw [show (1 : Int64).toInt = 1 from rfl]; omega)
    exact W.lret (v := v18) hx hb hr (fun t ht hW => ⟨v18, rfl, by (try dsimp only); rw [h18, h16, h14]; omega, ht⟩) t_nil dX3_floorDiv_19
  · rw [sd_z0] at c2
    refine lv_lload_n (pc := 6) hx hb dX3_floorDiv_6 rfl (lv_at hl 0 rfl) ?_
    refine lv_lload_n (pc := 7) hx hb dX3_floorDiv_7 rfl (lv_at hl 1 rfl) ?_
    refine lv_ldiv (pc := 8) hx hb dX3_floorDiv_8 (by decide) ?_
    refine lv_topl (fun v8 e8 => ?_)
    refine lv_goto (pc := 9) (tgt := 19) hx hb dX3_floorDiv_9 (by decide) ?_
    exact W.lret (v := v8) hx hb hr (fun t ht hW => ⟨v8, rfl, by (try dsimp only); rw [e8, qr.1]; rw [if_pos c2], ht⟩) t_nil dX3_floorDiv_19
set_option maxHeartbeats 4000000 in
set_option maxRecDepth 100000 in
/-- safeAdd(a, b) where nothing overflows -/
theorem metX3_safeAdd (l : Launch) (a b : Int64) (h1 : -9223372036854775808 ≤ a.toInt + b.toInt) (h2 : a.toInt + b.toInt < 9223372036854775808) : Met l yX3_safeAdd (ws_ yX3_safeAdd cX3_safeAdd 6 (some .long)) ({ frames := 0, cells := 0, slots := 0, locals := 0 } : Room) (va_Pc [.long a, .long b] (fun U => P0 U.heap U)) (vp_Sl (fun v => v.toInt = a.toInt + b.toInt)) 0 0 (fun _ => False) := by
  refine Met.ofW (cc := cX3_safeAdd) (maxL := 6) (ret := (some .long)) (by decide) rfl ?_
  intro p e s m args below meth c s₁ B hml hv
  obtain ⟨rfl, hv⟩ := hv
  have hx := B.exec
  have hb := B.bytes
  have hr := B.returns
  have hts := atoms_spec (ws := ws_ yX3_safeAdd cX3_safeAdd 6 (some .long)) B.pre
  have hts : ∀ w ∈ lw_all, w.before _ s = true := fun w h => hts w (List.mem_cons_of_mem _ h)
  have hown : s.vm.findClass RX3 = some m.cls := findClass_of_methodNamed B.named
  have hlocks := B.notSynchronized
  have hl := lv_entry ([.long a, .long b]) (n := 6) (Nat.le_of_ble_eq_true rfl)
  rw [lg_entry_eq]
  generalize (lg_sl ([.long a, .long b]) ++ List.replicate (6 - (lg_sl ([.long a, .long b])).length) Slot.unset).toArray = ls at hl ⊢
  have hl : lv_has ls 6 [(0, .long a), (2, .long b)] := hl
  refine lv_lload_n (pc := 0) hx hb dX3_safeAdd_0 rfl (lv_at hl 0 rfl) ?_
  refine lv_lload_n (pc := 1) hx hb dX3_safeAdd_1 rfl (lv_at hl 1 rfl) ?_
  refine lv_ladd (pc := 2) hx hb dX3_safeAdd_2 ?_
  refine lv_topl (fun v2 e2 => ?_)
  refine lv_lstore (pc := 3) (lv' := [(4, .long v2), (0, .long a), (2, .long b)]) hx hb dX3_safeAdd_3 hl (by decide) rfl (fun ls hl => ?_)
  refine lv_lload_n (pc := 5) hx hb dX3_safeAdd_5 rfl (lv_at hl 1 rfl) ?_
  refine lv_lload (pc := 6) hx hb dX3_safeAdd_6 (lv_at hl 0 rfl) ?_
  refine lv_lxor (pc := 8) hx hb dX3_safeAdd_8 ?_
  refine lv_topl (fun v8 e8 => ?_)
  refine lv_lconst (pc := 9) (v := 0) hx hb dX3_safeAdd_9 (by decide) ?_
  have h3 : v2.toInt = a.toInt + b.toInt := by rw [e2]; exact sd_add h1 h2
  refine sd_lge (pc := 10) (tgt := 32) hx hb dX3_safeAdd_10 dX3_safeAdd_11 (by decide) (fun c10 => ?_) (fun c10 => ?_)
  · rw [sd_z0] at c10
    refine lv_lload (pc := 32) hx hb dX3_safeAdd_32 (lv_at hl 0 rfl) ?_
    exact W.lret (v := v2) hx hb hr (fun t ht hW => ⟨v2, rfl, h3, ht⟩) t_nil dX3_safeAdd_34
  · rw [sd_z0] at c10
    refine lv_lload_n (pc := 14) hx hb dX3_safeAdd_14 rfl (lv_at hl 1 rfl) ?_
    refine lv_lload_n (pc := 15) hx hb dX3_safeAdd_15 rfl (lv_at hl 2 rfl) ?_
    refine lv_lxor (pc := 16) hx hb dX3_safeAdd_16 ?_
    refine lv_topl (fun v16 e16 => ?_)
    refine lv_lconst (pc := 17) (v := 0) hx hb dX3_safeAdd_17 (by decide) ?_
    have h4 : (a ^^^ v2).toInt < 0 := by rw [← e8]; exact c10
    refine sd_llt (pc := 18) (tgt := 32) hx hb dX3_safeAdd_18 dX3_safeAdd_19 (by decide) (fun c18 => ?_) (fun c18 => False.elim (by rw [e16, sd_z0] at c18; have h5 := (sd_xor a v2).mp h4; have h6 : ¬ (a ^^^ b).toInt < 0 := (by omega); rw [sd_xor] at h6; omega))
    refine lv_lload (pc := 32) hx hb dX3_safeAdd_32 (lv_at hl 0 rfl) ?_
    exact W.lret (v := v2) hx hb hr (fun t ht hW => ⟨v2, rfl, h3, ht⟩) t_nil dX3_safeAdd_34
set_option maxHeartbeats 4000000 in
set_option maxRecDepth 100000 in
/-- floorMod(a, 1000000000) -/
theorem metX3_floorMod (l : Launch) (a : Int64) : Met l yX3_floorMod (ws_ yX3_floorMod cX3_floorMod 3 (some .int)) ({ frames := 0, cells := 0, slots := 0, locals := 0 } : Room) (va_Pc [.long a, .int 1000000000] (fun U => P0 U.heap U)) (vp_Si (fun v => v.toInt = a.toInt % 1000000000)) 0 0 (fun _ => False) := by
  refine Met.ofW (cc := cX3_floorMod) (maxL := 3) (ret := (some .int)) (by decide) rfl ?_
  intro p e s m args below meth c s₁ B hml hv
  obtain ⟨rfl, hv⟩ := hv
  have hx := B.exec
  have hb := B.bytes
  have hr := B.returns
  have hts := atoms_spec (ws := ws_ yX3_floorMod cX3_floorMod 3 (some .int)) B.pre
  have hts : ∀ w ∈ lw_all, w.before _ s = true := fun w h => hts w (List.mem_cons_of_mem _ h)
  have hown : s.vm.findClass RX3 = some m.cls := findClass_of_methodNamed B.named
  have hlocks := B.notSynchronized
  have hl := lv_entry ([.long a, .int 1000000000]) (n := 3) (Nat.le_of_ble_eq_true rfl)
  rw [lg_entry_eq]
  generalize (lg_sl ([.long a, .int 1000000000]) ++ List.replicate (3 - (lg_sl ([.long a, .int 1000000000])).length) Slot.unset).toArray = ls at hl ⊢
  have hl : lv_has ls 3 [(0, .long a), (2, .int 1000000000)] := hl
  have qr := sd_qr9 a
  have qb := sd_lb a
  refine lv_lload_n (pc := 0) hx hb dX3_floorMod_0 rfl (lv_at hl 0 rfl) ?_
  refine lv_iload_n (pc := 1) hx hb dX3_floorMod_1 rfl (lv_at hl 1 rfl) ?_
  refine lv_i2l (pc := 2) hx hb dX3_floorMod_2 rfl ?_
  refine lv_topl (fun v2 e2 => ?_)
  have h2 : v2 = 1000000000 := e2
  subst h2
  refine lv_lrem (pc := 3) hx hb dX3_floorMod_3 (by decide) ?_
  refine lv_topl (fun v3 e3 => ?_)
  refine lv_iload_n (pc := 4) hx hb dX3_floorMod_4 rfl (lv_at hl 1 rfl) ?_
  refine lv_i2l (pc := 5) hx hb dX3_floorMod_5 rfl ?_
  refine lv_topl (fun v5 e5 => ?_)
  have h5 : v5 = 1000000000 := e5
  subst h5
  refine lv_ladd (pc := 6) hx hb dX3_floorMod_6 ?_
  refine lv_topl (fun v6 e6 => ?_)
  refine lv_iload_n (pc := 7) hx hb dX3_floorMod_7 rfl (lv_at hl 1 rfl) ?_
  refine lv_i2l (pc := 8) hx hb dX3_floorMod_8 rfl ?_
  refine lv_topl (fun v8 e8 => ?_)
  have h8 : v8 = 1000000000 := e8
  subst h8
  refine lv_lrem (pc := 9) hx hb dX3_floorMod_9 (by decide) ?_
  refine lv_topl (fun v9 e9 => ?_)
  refine lv_l2i (pc := 10) hx hb dX3_floorMod_10 rfl ?_
  refine lv_topi (fun v10 e10 => ?_)
  have qs := sd_qr9 v6
  have hc : (1000000000 : Int64).toInt = 1000000000 := rfl
  have h3 : v3.toInt = if 0 ≤ a.toInt then a.toInt % 1000000000 else -((-a.toInt) % 1000000000) := by rw [e3]; exact qr.2
  have h3b : -1000000000 < v3.toInt ∧ v3.toInt < 1000000000 ∧ v3.toInt % 1000000000 = a.toInt % 1000000000 := by rw [h3]; split <;> omega
  have h6 : v6.toInt = v3.toInt + 1000000000 := by rw [e6, sd_add (by rw [hc]; omega) (by rw [hc]; omega), hc]
  have h9 : v9.toInt = v6.toInt % 1000000000 := by rw [e9, qs.2, if_pos (by omega)]
  have h10 : v10.toInt = v9.toInt := by rw [e10, Int64.toInt_toInt32, sd_bm32 (by omega) (by omega)]
  exact W.iret (v := v10) hx hb hr (fun t ht hW => ⟨v10, rfl, by (try dsimp only); rw [h10, h9, h6]; omega, ht⟩) t_nil dX3_floorMod_11
set_option maxHeartbeats 4000000 in
set_option maxRecDepth 100000 in
/-- compareLongs -/
theorem metX3_compareLongs (l : Launch) (a b : Int64) : Met l yX3_compareLongs (ws_ yX3_compareLongs cX3_compareLongs 4 (some .int)) ({ frames := 0, cells := 0, slots := 0, locals := 0 } : Room) (va_Pc [.long a, .long b] (fun U => P0 U.heap U)) (vp_Si (fun v => v = if a.toInt < b.toInt then -1 else if b.toInt < a.toInt then 1 else 0)) 0 0 (fun _ => False) := by
  refine Met.ofW (cc := cX3_compareLongs) (maxL := 4) (ret := (some .int)) (by decide) rfl ?_
  intro p e s m args below meth c s₁ B hml hv
  obtain ⟨rfl, hv⟩ := hv
  have hx := B.exec
  have hb := B.bytes
  have hr := B.returns
  have hts := atoms_spec (ws := ws_ yX3_compareLongs cX3_compareLongs 4 (some .int)) B.pre
  have hts : ∀ w ∈ lw_all, w.before _ s = true := fun w h => hts w (List.mem_cons_of_mem _ h)
  have hown : s.vm.findClass RX3 = some m.cls := findClass_of_methodNamed B.named
  have hlocks := B.notSynchronized
  have hl := lv_entry ([.long a, .long b]) (n := 4) (Nat.le_of_ble_eq_true rfl)
  rw [lg_entry_eq]
  generalize (lg_sl ([.long a, .long b]) ++ List.replicate (4 - (lg_sl ([.long a, .long b])).length) Slot.unset).toArray = ls at hl ⊢
  have hl : lv_has ls 4 [(0, .long a), (2, .long b)] := hl
  refine lv_lload_n (pc := 0) hx hb dX3_compareLongs_0 rfl (lv_at hl 0 rfl) ?_
  refine lv_lload_n (pc := 1) hx hb dX3_compareLongs_1 rfl (lv_at hl 1 rfl) ?_
  refine sd_lge (pc := 2) (tgt := 8) hx hb dX3_compareLongs_2 dX3_compareLongs_3 (by decide) (fun c2 => ?_) (fun c2 => ?_)
  · refine lv_lload_n (pc := 8) hx hb dX3_compareLongs_8 rfl (lv_at hl 0 rfl) ?_
    refine lv_lload_n (pc := 9) hx hb dX3_compareLongs_9 rfl (lv_at hl 1 rfl) ?_
    refine sd_lle (pc := 10) (tgt := 16) hx hb dX3_compareLongs_10 dX3_compareLongs_11 (by decide) (fun c10 => ?_) (fun c10 => ?_)
    · refine lv_iconst (pc := 16) (v := 0) hx hb dX3_compareLongs_16 (by decide) ?_
      exact W.iret (v := 0) hx hb hr (fun t ht hW => ⟨0, rfl, by (try dsimp only); rw [if_neg (by omega), if_neg (by omega)], ht⟩) t_nil dX3_compareLongs_17
    · refine lv_iconst (pc := 14) (v := 1) hx hb dX3_compareLongs_14 (by decide) ?_
      exact W.iret (v := 1) hx hb hr (fun t ht hW => ⟨1, rfl, by (try dsimp only); rw [if_neg (by omega), if_pos c10], ht⟩) t_nil dX3_compareLongs_15
  · refine lv_iconst (pc := 6) (v := (-1)) hx hb dX3_compareLongs_6 (by decide) ?_
    exact W.iret (v := (-1)) hx hb hr (fun t ht hW => ⟨(-1), rfl, by (try dsimp only); rw [if_pos c2], ht⟩) t_nil dX3_compareLongs_7
end
section
/-! PART 05: Duration (printed by gen05.py) -/
theorem sd_ineg {a : Int32} (h : -2147483648 < a.toInt) : (-a).toInt = -a.toInt := by
  have h2 := sd_ib a
  rw [Int32.toInt_neg, sd_bm32 (by omega) (by omega)]
theorem Axf {A : Nat → Prop} {H0 H : Heap} {locs : List Loc} {as : List Nat} (hS : va_S A H0 H locs) (hA : ∀ q : Nat, H0.size ≤ q → A q) (has : ∀ a ∈ as, A a) : ∀ q : Nat, Ax as H.size q → A q := by
  intro q h
  rcases h with h | h
  · exact has q h
  · exact hA q (Nat.le_trans hS.1 h)
theorem Ax0 {A : Nat → Prop} : ∀ a ∈ ([] : List Nat), A a := fun a h => by simp at h
theorem Ax1 {A : Nat → Prop} {a : Nat} (h : A a) : ∀ b ∈ [a], A b := fun b hb => by rw [List.mem_singleton.mp hb]; exact h
theorem Zlt {C n d : String} {v : Value} {s : State} {H : Heap} {A : Nat → Prop} (h : va_Z C n d v (fun _ => False) s H) (hA : ∀ q : Nat, q < H.size → ¬ A q) : va_Z C n d v A s H := by
  obtain ⟨cf, kf, fi, f, a, cell, h1, h2, h3, h4, h5, h6, h7, h8⟩ := h
  exact ⟨cf, kf, fi, f, a, cell, h1, h2, h3, h4, h5, h6, h7, hA a (Array.getElem?_eq_some_iff.mp h5).1⟩
/-- what stays: all old cells -/
theorem P_up {D : va_G} {cl : List vw_C} {ws : va_W} {H H1 : Heap} (h : va_P D cl ws H) (hk : ∀ q : Nat, q < H.size → ¬ Ax [] H.size q → H1[q]? = H[q]?) : va_P D cl ws H1 := by
  refine h.kept (fun k q hq => hk q.1 (h k q hq).lt fun hz => ?_)
  rcases hz with hz | hz
  · simp at hz
  · exact absurd (h k q hq).lt (by omega)
theorem sd_plus_in {u a b q r n : Int} (hu1 : -4611686018427387904 < u) (hu2 : u < 4611686018427387904) (ha1 : -4611686018427387904 < a) (ha2 : a < 4611686018427387904)
    (hab : (-1000000000 < b ∧ b < 1000000000) ∨ (-4294967296 < a ∧ a < 4294967296 ∧ -4294967296 < b ∧ b < 4294967296)) (hq : -5 < q ∧ q < 5 ∧ ((-1000000000 < b ∧ b < 1000000000) → q = 0) ∧ b = q * 1000000000 + r ∧ -1000000000 < r ∧ r < 1000000000) (n1 : 0 ≤ n) (n2 : n < 1000000000) :
    (-9223372036854775808 ≤ u + a ∧ u + a < 9223372036854775808) ∧ (-9223372036854775808 ≤ u + a + q ∧ u + a + q < 9223372036854775808) ∧ (-9223372036854775808 ≤ u + a + q + (n + r) / 1000000000 ∧ u + a + q + (n + r) / 1000000000 < 9223372036854775808) := by
  obtain ⟨q1, q2, q3, -, q5, q6⟩ := hq
  rcases hab with h | h
  · have h0 := q3 h
    subst h0
    omega
  · omega
/-! starts of a Duration's methods -/
def Pi (D : va_G) (r sz : Nat) (u0 : Int64) (n0 : Int32) (H : Heap) (U : State) : Prop := H.size = sz ∧ Ob D r 1 [.long u0, .int n0] H ∧ va_K D vwCl [] U
theorem Pi.st {D : va_G} {r sz : Nat} {u0 : Int64} {n0 : Int32} (h : Heap) (U U' : State) (hv : U.vm.Alike U'.vm) (q : Pi D r sz u0 n0 h U) : Pi D r sz u0 n0 h U' := ⟨q.1, q.2.1, va_K.moved hv q.2.2⟩
def Pd (D : va_G) (r : Nat) (u : Int64) (n : Int32) (H : Heap) (U : State) : Prop := Du D r u n H ∧ va_K D vwCl [] U
theorem Pd.st {D : va_G} {r : Nat} {u : Int64} {n : Int32} (h : Heap) (U U' : State) (hv : U.vm.Alike U'.vm) (q : Pd D r u n h U) : Pd D r u n h U' := ⟨q.1, va_K.moved hv q.2⟩
def Pd2 (D : va_G) (r : Nat) (u : Int64) (n : Int32) (r2 : Nat) (u2 : Int64) (n2 : Int32) (H : Heap) (U : State) : Prop := Du D r u n H ∧ Du D r2 u2 n2 H ∧ va_K D vwCl [] U
theorem Pd2.st {D : va_G} {r : Nat} {u : Int64} {n : Int32} {r2 : Nat} {u2 : Int64} {n2 : Int32} (h : Heap) (U U' : State) (hv : U.vm.Alike U'.vm) (q : Pd2 D r u n r2 u2 n2 h U) : Pd2 D r u n r2 u2 n2 h U' := ⟨q.1, q.2.1, va_K.moved hv q.2.2⟩
/-- ZERO lies at z -/
def Pz (D : va_G) (z sz : Nat) (H : Heap) (U : State) : Prop := H.size = sz ∧ va_Z "Duration" "ZERO" "LDuration;" (.ref z) (fun _ => False) U H ∧ Du D z 0 0 H ∧ va_K D vwCl [] U
theorem Pz.st {D : va_G} {z sz : Nat} (h : Heap) (U U' : State) (hv : U.vm.Alike U'.vm) (q : Pz D z sz h U) : Pz D z sz h U' := ⟨q.1, va_Z.moved hv q.2.1, q.2.2.1, va_K.moved hv q.2.2.2⟩
def Pzd (D : va_G) (z sz r : Nat) (u : Int64) (n : Int32) (H : Heap) (U : State) : Prop := Pz D z sz H U ∧ Du D r u n H
theorem Pzd.st {D : va_G} {z sz r : Nat} {u : Int64} {n : Int32} (h : Heap) (U U' : State) (hv : U.vm.Alike U'.vm) (q : Pzd D z sz r u n h U) : Pzd D z sz r u n h U' := ⟨Pz.st h U U' hv q.1, q.2⟩
def Pzd2 (D : va_G) (z sz r : Nat) (u : Int64) (n : Int32) (r2 : Nat) (u2 : Int64) (n2 : Int32) (H : Heap) (U : State) : Prop := Pz D z sz H U ∧ Du D r u n H ∧ Du D r2 u2 n2 H
theorem Pzd2.st {D : va_G} {z sz r : Nat} {u : Int64} {n : Int32} {r2 : Nat} {u2 : Int64} {n2 : Int32} (h : Heap) (U U' : State) (hv : U.vm.Alike U'.vm) (q : Pzd2 D z sz r u n r2 u2 n2 h U) : Pzd2 D z sz r u n r2 u2 n2 h U' := ⟨Pz.st h U U' hv q.1, q.2⟩
set_option maxHeartbeats 4000000 in
set_option maxRecDepth 100000 in
/-- Duration(seconds, nanos) -/
theorem metX2_init (l : Launch) (D : va_G) (r sz : Nat) (u u0 : Int64) (n n0 : Int32) : Met l yX2_init (ws_ yX2_init cX2_init 4 none) ({ frames := 1, cells := 0, slots := 0, locals := 12 } : Room) (va_Pc [.ref r, .long u, .int n] (fun U => (Pi D r sz u0 n0) U.heap U)) (va_Qv (fun _ : Unit => True) (fun _ t => Ob D r 1 [.long u, .int n] t.heap) (Ax [r] sz)) 0 0 (Ax [r] sz) := by
  refine Met.ofW (cc := cX2_init) (maxL := 4) (ret := none) (by decide) rfl ?_
  intro p e s m args below meth c s₁ B hml hv
  obtain ⟨rfl, hv⟩ := hv
  have hx := B.exec
  have hb := B.bytes
  have hr := B.returns
  have hts := atoms_spec (ws := ws_ yX2_init cX2_init 4 none) B.pre
  have hts : ∀ w ∈ lw_all, w.before _ s = true := fun w h => hts w (List.mem_cons_of_mem _ h)
  have hown : s.vm.findClass RX2 = some m.cls := findClass_of_methodNamed B.named
  have hlocks := B.notSynchronized
  have hl := lv_entry ([.ref r, .long u, .int n]) (n := 4) (Nat.le_of_ble_eq_true rfl)
  rw [lg_entry_eq]
  generalize (lg_sl ([.ref r, .long u, .int n]) ++ List.replicate (4 - (lg_sl ([.ref r, .long u, .int n])).length) Slot.unset).toArray = ls at hl ⊢
  have hl : lv_has ls 4 [(0, .ref r), (1, .long u), (3, .int n)] := hl
  obtain ⟨hsz, hP, hK⟩ := hv
  subst hsz
  have hin : meth.name = "<init>" := (name_of_methodNamed B.named B.method).1
  have hS : va_S (Ax [r] s.heap.size) s.heap s.heap [] := va_S.rf
  have hD : va_D (Ax [r] s.heap.size) [(r, .inr (1, [.long u0, .int n0]))] := vD1 (Or.inl (List.mem_singleton.mpr rfl))
  refine lv_aload_n (pc := 0) hx hb dX2_init_0 rfl (lv_at hl 0 rfl) ?_
  refine W.objInit hx hb hown (hts _ q111) (hts _ q17) (hts _ q18) rfl (by rw [hml]; exact hl.1) rfl dX2_init_1 (Nat.le_of_ble_eq_true rfl) (Nat.le_of_ble_eq_true rfl) ?_
  refine W.eq (g2 := F0 m 4 ls []) rfl ?_
  refine lv_aload_n (pc := 4) hx hb dX2_init_4 rfl (lv_at hl 0 rfl) ?_
  refine lv_lload_n (pc := 5) hx hb dX2_init_5 rfl (lv_at hl 1 rfl) ?_
  refine va_putF (pc := 6) (D := D) (ci := 1) (v := .long u) (ty := .long) (C := RX2) (T := TX2) (N := 2) hx hb hts in_X2 tyX2 tyX2_ok nmX2 hown hK hP hD hS 0 rfl rfl 0 (by decide) (hts _ q112) (fun _ h9 => h9) rfl hin rfl (by decide +kernel) rfl rfl (Nat.le_of_ble_eq_true rfl) dX2_init_6 (fun H locs hP hD hS => ?_)
  replace hP : Ob D r 1 [.long u, .int n0] H := hP
  refine lv_aload_n (pc := 9) hx hb dX2_init_9 rfl (lv_at hl 0 rfl) ?_
  refine lv_iload_n (pc := 10) hx hb dX2_init_10 rfl (lv_at hl 2 rfl) ?_
  refine va_putF (pc := 11) (D := D) (ci := 1) (v := .int n) (ty := .int) (C := RX2) (T := TX2) (N := 2) hx hb hts in_X2 tyX2 tyX2_ok nmX2 hown hK hP hD hS 0 rfl rfl 1 (by decide) (hts _ q113) (fun _ h9 => h9) rfl hin rfl (by decide +kernel) rfl rfl (Nat.le_of_ble_eq_true rfl) dX2_init_11 (fun H locs hP hD hS => ?_)
  replace hP : Ob D r 1 [.long u, .int n] H := hP
  exact W.vret hx hb hr (fun t ht hW => ⟨⟨(), rfl, trivial, by show Ob D r 1 [.long u, .int n] t.heap; rw [ht]; exact hP⟩, hS.F ht⟩) hS.2.2 dX2_init_14
set_option maxHeartbeats 4000000 in
set_option maxRecDepth 100000 in
/-- create(seconds, nanos): ZERO, or a new one -/
theorem metX2_create (l : Launch) (D : va_G) (z sz : Nat) (a : Int64) (n : Int32) : Met l yX2_create (ws_ yX2_create cX2_create 3 (some (.object "Duration"))) ({ frames := 2, cells := 1, slots := 2, locals := 35 } : Room) (va_Pc [.long a, .int n] (fun U => (Pz D z sz) U.heap U)) (va_Qr (fun _ : Unit => True) (fun _ ra t => Du D ra a n t.heap ∧ (a = 0 → n = 0 → ra = z)) (Ax [] sz)) 1 2 (Ax [] sz) := by
  refine Met.ofW (cc := cX2_create) (maxL := 3) (ret := (some (.object "Duration"))) (by decide) rfl ?_
  intro p e s m args below meth c s₁ B hml hv
  obtain ⟨rfl, hv⟩ := hv
  have hx := B.exec
  have hb := B.bytes
  have hr := B.returns
  have hts := atoms_spec (ws := ws_ yX2_create cX2_create 3 (some (.object "Duration"))) B.pre
  have hts : ∀ w ∈ lw_all, w.before _ s = true := fun w h => hts w (List.mem_cons_of_mem _ h)
  have hown : s.vm.findClass RX2 = some m.cls := findClass_of_methodNamed B.named
  have hlocks := B.notSynchronized
  have hl := lv_entry ([.long a, .int n]) (n := 3) (Nat.le_of_ble_eq_true rfl)
  rw [lg_entry_eq]
  generalize (lg_sl ([.long a, .int n]) ++ List.replicate (3 - (lg_sl ([.long a, .int n])).length) Slot.unset).toArray = ls at hl ⊢
  have hl : lv_has ls 3 [(0, .long a), (2, .int n)] := hl
  obtain ⟨hsz, hZ, hz, hK⟩ := hv
  subst hsz
  have hA : ∀ q : Nat, s.heap.size ≤ q → Ax [] s.heap.size q := fun q h => Or.inr h
  have hS : va_S (Ax [] s.heap.size) s.heap s.heap [] := va_S.rf
  refine lv_lload_n (pc := 0) hx hb dX2_create_0 rfl (lv_at hl 0 rfl) ?_
  refine lv_iload_n (pc := 1) hx hb dX2_create_1 rfl (lv_at hl 1 rfl) ?_
  refine lv_i2l (pc := 2) hx hb dX2_create_2 rfl ?_
  refine lv_topl (fun v2 e2 => ?_)
  refine lv_lor (pc := 3) hx hb dX2_create_3 ?_
  refine lv_topl (fun v3 e3 => ?_)
  refine lv_lconst (pc := 4) (v := 0) hx hb dX2_create_4 (by decide) ?_
  refine sd_lne (pc := 5) (tgt := 13) hx hb dX2_create_5 dX2_create_6 (by decide) (fun c5 => ?_) (fun c5 => ?_)
  · refine va_new (pc := 13) (D := D) (ci := 1) (fs := [.long 0, .int 0]) (ws := []) (C := RX2) (T := TX2) (N := 2) hx hb hts in_X2 tyX2 tyX2_ok hown (hts _ q106) (hts _ q107) (hts _ q5) hK vP0 vD0 hS hA rfl (fun j hj => by rcases (show j = 0 ∨ j = 1 by omega) with rfl | rfl <;> rfl) (Nat.le_of_ble_eq_true rfl) (Nat.le_of_ble_eq_true rfl) dX2_create_13 (fun q H1 hP hD1 hS => ?_)
    replace hP : Ob D q 1 [.long 0, .int 0] H1 := hP
    have hAq : Ax [] s.heap.size q := hD1.2 0 _ rfl
    have hF := Axf hS hA (Ax1 hAq)
    refine lv_dup (pc := 16) hx hb dX2_create_16 rfl ?_
    refine lv_lload_n (pc := 17) hx hb dX2_create_17 rfl (lv_at hl 0 rfl) ?_
    refine lv_iload_n (pc := 18) hx hb dX2_create_18 rfl (lv_at hl 1 rfl) ?_
    refine va_callv (pc := 19) (va_runI (As := [.long a, .int n]) (rest := [.ref q]) ⟨hx, hb, hml, hown, hts⟩ (metX2_init l D q H1.size a 0 n 0) (cwI 2 hts (lw_meth q110) rfl rfl rfl (hts _ q5) (hts _ q108) (hts _ q109) rfl (by decide +kernel) ⟨Nat.le_of_ble_eq_true rfl, Nat.le_of_ble_eq_true rfl⟩) (sd_preS Pi.st (⟨rfl, hP, hK⟩)) rfl rfl hl.1 rfl (lv_room (Nat.le_of_ble_eq_true rfl)) dX2_create_19 ⟨Nat.le_of_ble_eq_true rfl, Nat.le_of_ble_eq_true rfl⟩) hS (fun q _ h => hF q h) hF (fun u t H2 locs2 ht hvm hp hB hz1 hk1 hS => ?_)
    replace hB : Ob D q 1 [.long a, .int n] t.heap := hB
    rw [ht] at hB
    replace hB := Du.of hB
    refine W.widen (k := 1) (n := 2) (Nat.le_of_ble_eq_true rfl) (Nat.le_of_ble_eq_true rfl) ?_
    exact W.aret (v := .ref q) hx hb hr (Or.inl ⟨_, rfl⟩) (Or.inr ⟨_, rfl⟩) (fun t ht hW => ⟨⟨(), q, rfl, trivial, by refine ⟨?_, fun h1 h2 => absurd (by rw [e3, e2, h1, h2]; rfl) c5⟩; rw [ht]; exact hB⟩, hS.F ht⟩) hS.2.2 dX2_create_22
  · have hq := (sd_or a v2).mp (by rw [← e3]; exact c5)
    have hn : n = 0 := Int32.toInt_inj.mp ((sd_i0 n).mp (by rw [← e2]; exact hq.2))
    have hB : Du D z a n s.heap := by rw [hq.1, hn]; exact hz
    refine va_gets (pc := 9) (C := "Duration") (n := "ZERO") (d := "LDuration;") (v := .ref z) (A := Ax [] s.heap.size) hx hb (Zlt hZ (fun q h1 h2 => by rcases h2 with h2 | h2; (simp at h2); omega)) hS hown (hts _ q104) (fun _ h9 => h9) dX2_create_9 ?_
    refine W.widen (k := 1) (n := 2) (Nat.zero_le _) (Nat.zero_le _) ?_
    exact W.aret (v := .ref z) hx hb hr (Or.inl ⟨_, rfl⟩) (Or.inr ⟨_, rfl⟩) (fun t ht hW => ⟨⟨(), z, rfl, trivial, by refine ⟨?_, fun _ _ => rfl⟩; rw [ht]; exact hB⟩, hS.F ht⟩) hS.2.2 dX2_create_12
set_option maxHeartbeats 4000000 in
set_option maxRecDepth 100000 in
/-- ofSeconds(a, b) where nothing overflows -/
theorem metX2_ofSeconds (l : Launch) (D : va_G) (z sz : Nat) (a b : Int64) (h1 : -9223372036854775808 ≤ a.toInt + b.toInt / 1000000000) (h2 : a.toInt + b.toInt / 1000000000 < 9223372036854775808) : Met l yX2_ofSeconds (ws_ yX2_ofSeconds cX2_ofSeconds 7 (some (.object "Duration"))) ({ frames := 3, cells := 1, slots := 2, locals := 57 } : Room) (va_Pc [.long a, .long b] (fun U => (Pz D z sz) U.heap U)) (va_Qr (S := Int64 × Int32) (fun w => Sp w.1 w.2 (a.toInt * 1000000000 + b.toInt)) (fun w ra t => Du D ra w.1 w.2 t.heap ∧ (a.toInt * 1000000000 + b.toInt = 0 → ra = z)) (Ax [] sz)) 1 2 (Ax [] sz) := by
  refine Met.ofW (cc := cX2_ofSeconds) (maxL := 7) (ret := (some (.object "Duration"))) (by decide) rfl ?_
  intro p e s m args below meth c s₁ B hml hv
  obtain ⟨rfl, hv⟩ := hv
  have hx := B.exec
  have hb := B.bytes
  have hr := B.returns
  have hts := atoms_spec (ws := ws_ yX2_ofSeconds cX2_ofSeconds 7 (some (.object "Duration"))) B.pre
  have hts : ∀ w ∈ lw_all, w.before _ s = true := fun w h => hts w (List.mem_cons_of_mem _ h)
  have hown : s.vm.findClass RX2 = some m.cls := findClass_of_methodNamed B.named
  have hlocks := B.notSynchronized
  have hl := lv_entry ([.long a, .long b]) (n := 7) (Nat.le_of_ble_eq_true rfl)
  rw [lg_entry_eq]
  generalize (lg_sl ([.long a, .long b]) ++ List.replicate (7 - (lg_sl ([.long a, .long b])).length) Slot.unset).toArray = ls at hl ⊢
  have hl : lv_has ls 7 [(0, .long a), (2, .long b)] := hl
  obtain ⟨hsz, hZ, hz, hK⟩ := hv
  subst hsz
  have hA : ∀ q : Nat, s.heap.size ≤ q → Ax [] s.heap.size q := fun q h => Or.inr h
  have hS : va_S (Ax [] s.heap.size) s.heap s.heap [] := va_S.rf
  refine lv_lload_n (pc := 0) hx hb dX2_ofSeconds_0 rfl (lv_at hl 0 rfl) ?_
  refine lv_lload_n (pc := 1) hx hb dX2_ofSeconds_1 rfl (lv_at hl 1 rfl) ?_
  refine lv_ldc2 (pc := 2) (v := 1000000000) hx hb hown (hts _ q24) dX2_ofSeconds_2 ?_
  refine vp_callSl (pc := 5) (W.runS (As := [.long b, .long 1000000000]) (rest := [.long a]) ⟨hx, hb, hml, hown, hts⟩ (metX3_floorDiv l b) (va_cwS 2 hts (lw_S q25 q26 q6 q27) rfl rfl rfl (by decide +kernel) ⟨Nat.le_of_ble_eq_true rfl, Nat.le_of_ble_eq_true rfl⟩) (sd_preS P0.st trivial) rfl rfl hl.1 rfl (lv_room (Nat.le_of_ble_eq_true rfl)) dX2_ofSeconds_5 ⟨Nat.le_of_ble_eq_true rfl, Nat.le_of_ble_eq_true rfl⟩) (fun f5 g5 => ?_)
  replace g5 : f5.toInt = b.toInt / 1000000000 := g5
  refine vp_callSl (pc := 8) (W.runS (As := [.long a, .long f5]) (rest := []) ⟨hx, hb, hml, hown, hts⟩ (metX3_safeAdd l a f5 (by rw [g5]; exact h1) (by rw [g5]; exact h2)) (va_cwS 2 hts (lw_S q28 q29 q6 q30) rfl rfl rfl (by decide +kernel) ⟨Nat.le_of_ble_eq_true rfl, Nat.le_of_ble_eq_true rfl⟩) (sd_preS P0.st trivial) rfl rfl hl.1 rfl (lv_room (Nat.le_of_ble_eq_true rfl)) dX2_ofSeconds_8 ⟨Nat.le_of_ble_eq_true rfl, Nat.le_of_ble_eq_true rfl⟩) (fun f8 g8 => ?_)
  replace g8 : f8.toInt = a.toInt + f5.toInt := g8
  refine lv_lstore (pc := 11) (lv' := [(4, .long f8), (0, .long a), (2, .long b)]) hx hb dX2_ofSeconds_11 hl (by decide) rfl (fun ls hl => ?_)
  refine lv_lload_n (pc := 13) hx hb dX2_ofSeconds_13 rfl (lv_at hl 2 rfl) ?_
  refine lv_ldc (pc := 14) (v := 1000000000) hx hb hown (hts _ q97) dX2_ofSeconds_14 ?_
  refine vp_callSi (pc := 16) (W.runS (As := [.long b, .int 1000000000]) (rest := []) ⟨hx, hb, hml, hown, hts⟩ (metX3_floorMod l b) (va_cwS 2 hts (lw_S q98 q99 q6 q100) rfl rfl rfl (by decide +kernel) ⟨Nat.le_of_ble_eq_true rfl, Nat.le_of_ble_eq_true rfl⟩) (sd_preS P0.st trivial) rfl rfl hl.1 rfl (lv_room (Nat.le_of_ble_eq_true rfl)) dX2_ofSeconds_16 ⟨Nat.le_of_ble_eq_true rfl, Nat.le_of_ble_eq_true rfl⟩) (fun f16 g16 => ?_)
  replace g16 : f16.toInt = b.toInt % 1000000000 := g16
  refine lv_istore (pc := 19) (lv' := [(6, .int f16), (4, .long f8), (0, .long a), (2, .long b)]) hx hb dX2_ofSeconds_19 hl (by decide) rfl (fun ls hl => ?_)
  refine lv_lload (pc := 21) hx hb dX2_ofSeconds_21 (lv_at hl 1 rfl) ?_
  refine lv_iload (pc := 23) hx hb dX2_ofSeconds_23 (lv_at hl 0 rfl) ?_
  have hF := Axf hS hA Ax0
  have hSp : Sp f8 f16 (a.toInt * 1000000000 + b.toInt) := ⟨by omega, by omega, by omega⟩
  refine va_callr (pc := 25) (va_runS (As := [.long f8, .int f16]) (rest := []) ⟨hx, hb, hml, hown, hts⟩ (metX2_create l D z s.heap.size f8 f16) (va_cwS 2 hts (lw_S q101 q102 q5 q103) rfl rfl rfl (by decide +kernel) ⟨Nat.le_of_ble_eq_true rfl, Nat.le_of_ble_eq_true rfl⟩) (sd_preS Pz.st (⟨rfl, hZ, hz, hK⟩)) rfl rfl hl.1 rfl (lv_room (Nat.le_of_ble_eq_true rfl)) dX2_ofSeconds_25 ⟨Nat.le_of_ble_eq_true rfl, Nat.le_of_ble_eq_true rfl⟩) hS (fun q _ h => hF q h) hF (fun u ra t H1 locs1 ht hvm hp hB hz1 hk1 hS => ?_)
  replace hB : Du D ra f8 f16 t.heap ∧ (f8 = 0 → f16 = 0 → ra = z) := hB
  rw [ht] at hB
  have hZr : a.toInt * 1000000000 + b.toInt = 0 → ra = z := fun hT => hB.2 ((sd_l0 f8).mpr (by omega)) (Int32.toInt_inj.mp (show f16.toInt = 0 by omega))
  refine W.widen (k := 1) (n := 2) (Nat.le_of_ble_eq_true rfl) (Nat.le_of_ble_eq_true rfl) ?_
  exact W.aret (v := .ref ra) hx hb hr (Or.inl ⟨_, rfl⟩) (Or.inr ⟨_, rfl⟩) (fun t ht hW => ⟨⟨(f8, f16), ra, rfl, hSp, by refine ⟨?_, hZr⟩; rw [ht]; exact hB.1⟩, hS.F ht⟩) hS.2.2 dX2_ofSeconds_28
set_option maxHeartbeats 4000000 in
set_option maxRecDepth 100000 in
/-- getSeconds -/
theorem metX2_getSeconds (l : Launch) (D : va_G) (r : Nat) (u : Int64) (n : Int32) : Met l yX2_getSeconds (ws_ yX2_getSeconds cX2_getSeconds 1 (some .long)) ({ frames := 0, cells := 0, slots := 0, locals := 0 } : Room) (va_Pc [.ref r] (fun U => (Pd D r u n) U.heap U)) (vp_Sl (fun v => v = u)) 0 0 (fun _ => False) := by
  refine Met.ofW (cc := cX2_getSeconds) (maxL := 1) (ret := (some .long)) (by decide) rfl ?_
  intro p e s m args below meth c s₁ B hml hv
  obtain ⟨rfl, hv⟩ := hv
  have hx := B.exec
  have hb := B.bytes
  have hr := B.returns
  have hts := atoms_spec (ws := ws_ yX2_getSeconds cX2_getSeconds 1 (some .long)) B.pre
  have hts : ∀ w ∈ lw_all, w.before _ s = true := fun w h => hts w (List.mem_cons_of_mem _ h)
  have hown : s.vm.findClass RX2 = some m.cls := findClass_of_methodNamed B.named
  have hlocks := B.notSynchronized
  have hl := lv_entry ([.ref r]) (n := 1) (Nat.le_of_ble_eq_true rfl)
  rw [lg_entry_eq]
  generalize (lg_sl ([.ref r]) ++ List.replicate (1 - (lg_sl ([.ref r])).length) Slot.unset).toArray = ls at hl ⊢
  have hl : lv_has ls 1 [(0, .ref r)] := hl
  obtain ⟨hP, hK⟩ := hv
  refine lv_aload_n (pc := 0) hx hb dX2_getSeconds_0 rfl (lv_at hl 0 rfl) ?_
  refine sd_getD0 (pc := 1) hx hb hts hown hK hP dX2_getSeconds_1 ?_
  exact W.lret (v := u) hx hb hr (fun t ht hW => ⟨u, rfl, rfl, ht⟩) t_nil dX2_getSeconds_4
set_option maxHeartbeats 4000000 in
set_option maxRecDepth 100000 in
/-- getNano -/
theorem metX2_getNano (l : Launch) (D : va_G) (r : Nat) (u : Int64) (n : Int32) : Met l yX2_getNano (ws_ yX2_getNano cX2_getNano 1 (some .int)) ({ frames := 0, cells := 0, slots := 0, locals := 0 } : Room) (va_Pc [.ref r] (fun U => (Pd D r u n) U.heap U)) (vp_Si (fun v => v = n)) 0 0 (fun _ => False) := by
  refine Met.ofW (cc := cX2_getNano) (maxL := 1) (ret := (some .int)) (by decide) rfl ?_
  intro p e s m args below meth c s₁ B hml hv
  obtain ⟨rfl, hv⟩ := hv
  have hx := B.exec
  have hb := B.bytes
  have hr := B.returns
  have hts := atoms_spec (ws := ws_ yX2_getNano cX2_getNano 1 (some .int)) B.pre
  have hts : ∀ w ∈ lw_all, w.before _ s = true := fun w h => hts w (List.mem_cons_of_mem _ h)
  have hown : s.vm.findClass RX2 = some m.cls := findClass_of_methodNamed B.named
  have hlocks := B.notSynchronized
  have hl := lv_entry ([.ref r]) (n := 1) (Nat.le_of_ble_eq_true rfl)
  rw [lg_entry_eq]
  generalize (lg_sl ([.ref r]) ++ List.replicate (1 - (lg_sl ([.ref r])).length) Slot.unset).toArray = ls at hl ⊢
  have hl : lv_has ls 1 [(0, .ref r)] := hl
  obtain ⟨hP, hK⟩ := hv
  refine lv_aload_n (pc := 0) hx hb dX2_getNano_0 rfl (lv_at hl 0 rfl) ?_
  refine sd_getD1 (pc := 1) hx hb hts hown hK hP dX2_getNano_1 ?_
  exact W.iret (v := n) hx hb hr (fun t ht hW => ⟨n, rfl, rfl, ht⟩) t_nil dX2_getNano_4
set_option maxHeartbeats 4000000 in
set_option maxRecDepth 100000 in
/-- isZero -/
theorem metX2_isZero (l : Launch) (D : va_G) (r : Nat) (u : Int64) (n : Int32) : Met l yX2_isZero (ws_ yX2_isZero cX2_isZero 1 (some .boolean)) ({ frames := 0, cells := 0, slots := 0, locals := 0 } : Room) (va_Pc [.ref r] (fun U => (Pd D r u n) U.heap U)) (vp_Si (fun v => v = if u.toInt = 0 ∧ n.toInt = 0 then 1 else 0)) 0 0 (fun _ => False) := by
  refine Met.ofW (cc := cX2_isZero) (maxL := 1) (ret := (some .boolean)) (by decide) rfl ?_
  intro p e s m args below meth c s₁ B hml hv
  obtain ⟨rfl, hv⟩ := hv
  have hx := B.exec
  have hb := B.bytes
  have hr := B.returns
  have hts := atoms_spec (ws := ws_ yX2_isZero cX2_isZero 1 (some .boolean)) B.pre
  have hts : ∀ w ∈ lw_all, w.before _ s = true := fun w h => hts w (List.mem_cons_of_mem _ h)
  have hown : s.vm.findClass RX2 = some m.cls := findClass_of_methodNamed B.named
  have hlocks := B.notSynchronized
  have hl := lv_entry ([.ref r]) (n := 1) (Nat.le_of_ble_eq_true rfl)
  rw [lg_entry_eq]
  generalize (lg_sl ([.ref r]) ++ List.replicate (1 - (lg_sl ([.ref r])).length) Slot.unset).toArray = ls at hl ⊢
  have hl : lv_has ls 1 [(0, .ref r)] := hl
  obtain ⟨hP, hK⟩ := hv
  refine lv_aload_n (pc := 0) hx hb dX2_isZero_0 rfl (lv_at hl 0 rfl) ?_
  refine sd_getD0 (pc := 1) hx hb hts hown hK hP dX2_isZero_1 ?_
  refine lv_aload_n (pc := 4) hx hb dX2_isZero_4 rfl (lv_at hl 0 rfl) ?_
  refine sd_getD1 (pc := 5) hx hb hts hown hK hP dX2_isZero_5 ?_
  refine lv_i2l (pc := 8) hx hb dX2_isZero_8 rfl ?_
  refine lv_topl (fun v8 e8 => ?_)
  refine lv_lor (pc := 9) hx hb dX2_isZero_9 ?_
  refine lv_topl (fun v9 e9 => ?_)
  refine lv_lconst (pc := 10) (v := 0) hx hb dX2_isZero_10 (by decide) ?_
  refine sd_lne (pc := 11) (tgt := 19) hx hb dX2_isZero_11 dX2_isZero_12 (by decide) (fun c11 => ?_) (fun c11 => ?_)
  · refine lv_iconst (pc := 19) (v := 0) hx hb dX2_isZero_19 (by decide) ?_
    exact W.zret (v := 0) hx hb hr rfl (fun t ht hW => ⟨0, rfl, by (try dsimp only); rw [if_neg (fun q => c11 (by rw [e9, sd_or, e8]; exact ⟨(sd_l0 u).mpr q.1, (sd_i0 n).mpr q.2⟩))], ht⟩) t_nil dX2_isZero_20
  · refine lv_iconst (pc := 15) (v := 1) hx hb dX2_isZero_15 (by decide) ?_
    refine lv_goto (pc := 16) (tgt := 20) hx hb dX2_isZero_16 (by decide) ?_
    have hq := (sd_or u v8).mp (by rw [← e9]; exact c11)
    exact W.zret (v := 1) hx hb hr rfl (fun t ht hW => ⟨1, rfl, by (try dsimp only); rw [if_pos ⟨(sd_l0 u).mp hq.1, (sd_i0 n).mp (by rw [← e8]; exact hq.2)⟩], ht⟩) t_nil dX2_isZero_20
set_option maxHeartbeats 4000000 in
set_option maxRecDepth 100000 in
/-- isNegative -/
theorem metX2_isNegative (l : Launch) (D : va_G) (r : Nat) (u : Int64) (n : Int32) : Met l yX2_isNegative (ws_ yX2_isNegative cX2_isNegative 1 (some .boolean)) ({ frames := 0, cells := 0, slots := 0, locals := 0 } : Room) (va_Pc [.ref r] (fun U => (Pd D r u n) U.heap U)) (vp_Si (fun v => v = if u.toInt < 0 then 1 else 0)) 0 0 (fun _ => False) := by
  refine Met.ofW (cc := cX2_isNegative) (maxL := 1) (ret := (some .boolean)) (by decide) rfl ?_
  intro p e s m args below meth c s₁ B hml hv
  obtain ⟨rfl, hv⟩ := hv
  have hx := B.exec
  have hb := B.bytes
  have hr := B.returns
  have hts := atoms_spec (ws := ws_ yX2_isNegative cX2_isNegative 1 (some .boolean)) B.pre
  have hts : ∀ w ∈ lw_all, w.before _ s = true := fun w h => hts w (List.mem_cons_of_mem _ h)
  have hown : s.vm.findClass RX2 = some m.cls := findClass_of_methodNamed B.named
  have hlocks := B.notSynchronized
  have hl := lv_entry ([.ref r]) (n := 1) (Nat.le_of_ble_eq_true rfl)
  rw [lg_entry_eq]
  generalize (lg_sl ([.ref r]) ++ List.replicate (1 - (lg_sl ([.ref r])).length) Slot.unset).toArray = ls at hl ⊢
  have hl : lv_has ls 1 [(0, .ref r)] := hl
  obtain ⟨hP, hK⟩ := hv
  refine lv_aload_n (pc := 0) hx hb dX2_isNegative_0 rfl (lv_at hl 0 rfl) ?_
  refine sd_getD0 (pc := 1) hx hb hts hown hK hP dX2_isNegative_1 ?_
  refine lv_lconst (pc := 4) (v := 0) hx hb dX2_isNegative_4 (by decide) ?_
  refine sd_lge (pc := 5) (tgt := 13) hx hb dX2_isNegative_5 dX2_isNegative_6 (by decide) (fun c5 => ?_) (fun c5 => ?_)
  · rw [sd_z0] at c5
    refine lv_iconst (pc := 13) (v := 0) hx hb dX2_isNegative_13 (by decide) ?_
    exact W.zret (v := 0) hx hb hr rfl (fun t ht hW => ⟨0, rfl, by (try dsimp only); rw [if_neg (by omega)], ht⟩) t_nil dX2_isNegative_14
  · rw [sd_z0] at c5
    refine lv_iconst (pc := 9) (v := 1) hx hb dX2_isNegative_9 (by decide) ?_
    refine lv_goto (pc := 10) (tgt := 14) hx hb dX2_isNegative_10 (by decide) ?_
    exact W.zret (v := 1) hx hb hr rfl (fun t ht hW => ⟨1, rfl, by (try dsimp only); rw [if_pos c5], ht⟩) t_nil dX2_isNegative_14
set_option maxHeartbeats 4000000 in
set_option maxRecDepth 100000 in
/-- toDays -/
theorem metX2_toDays (l : Launch) (D : va_G) (r : Nat) (u : Int64) (n : Int32) : Met l yX2_toDays (ws_ yX2_toDays cX2_toDays 1 (some .long)) ({ frames := 0, cells := 0, slots := 0, locals := 0 } : Room) (va_Pc [.ref r] (fun U => (Pd D r u n) U.heap U)) (vp_Sl (fun v => v = u / 86400)) 0 0 (fun _ => False) := by
  refine Met.ofW (cc := cX2_toDays) (maxL := 1) (ret := (some .long)) (by decide) rfl ?_
  intro p e s m args below meth c s₁ B hml hv
  obtain ⟨rfl, hv⟩ := hv
  have hx := B.exec
  have hb := B.bytes
  have hr := B.returns
  have hts := atoms_spec (ws := ws_ yX2_toDays cX2_toDays 1 (some .long)) B.pre
  have hts : ∀ w ∈ lw_all, w.before _ s = true := fun w h => hts w (List.mem_cons_of_mem _ h)
  have hown : s.vm.findClass RX2 = some m.cls := findClass_of_methodNamed B.named
  have hlocks := B.notSynchronized
  have hl := lv_entry ([.ref r]) (n := 1) (Nat.le_of_ble_eq_true rfl)
  rw [lg_entry_eq]
  generalize (lg_sl ([.ref r]) ++ List.replicate (1 - (lg_sl ([.ref r])).length) Slot.unset).toArray = ls at hl ⊢
  have hl : lv_has ls 1 [(0, .ref r)] := hl
  obtain ⟨hP, hK⟩ := hv
  refine lv_aload_n (pc := 0) hx hb dX2_toDays_0 rfl (lv_at hl 0 rfl) ?_
  refine sd_getD0 (pc := 1) hx hb hts hown hK hP dX2_toDays_1 ?_
  refine lv_ldc2 (pc := 4) (v := 86400) hx hb hown (hts _ q178) dX2_toDays_4 ?_
  refine lv_ldiv (pc := 7) hx hb dX2_toDays_7 (by decide) ?_
  refine lv_topl (fun v7 e7 => ?_)
  exact W.lret (v := v7) hx hb hr (fun t ht hW => ⟨v7, rfl, e7, ht⟩) t_nil dX2_toDays_8
set_option maxHeartbeats 4000000 in
set_option maxRecDepth 100000 in
/-- toMinutes -/
theorem metX2_toMinutes (l : Launch) (D : va_G) (r : Nat) (u : Int64) (n : Int32) : Met l yX2_toMinutes (ws_ yX2_toMinutes cX2_toMinutes 1 (some .long)) ({ frames := 0, cells := 0, slots := 0, locals := 0 } : Room) (va_Pc [.ref r] (fun U => (Pd D r u n) U.heap U)) (vp_Sl (fun v => v = u / 60)) 0 0 (fun _ => False) := by
  refine Met.ofW (cc := cX2_toMinutes) (maxL := 1) (ret := (some .long)) (by decide) rfl ?_
  intro p e s m args below meth c s₁ B hml hv
  obtain ⟨rfl, hv⟩ := hv
  have hx := B.exec
  have hb := B.bytes
  have hr := B.returns
  have hts := atoms_spec (ws := ws_ yX2_toMinutes cX2_toMinutes 1 (some .long)) B.pre
  have hts : ∀ w ∈ lw_all, w.before _ s = true := fun w h => hts w (List.mem_cons_of_mem _ h)
  have hown : s.vm.findClass RX2 = some m.cls := findClass_of_methodNamed B.named
  have hlocks := B.notSynchronized
  have hl := lv_entry ([.ref r]) (n := 1) (Nat.le_of_ble_eq_true rfl)
  rw [lg_entry_eq]
  generalize (lg_sl ([.ref r]) ++ List.replicate (1 - (lg_sl ([.ref r])).length) Slot.unset).toArray = ls at hl ⊢
  have hl : lv_has ls 1 [(0, .ref r)] := hl
  obtain ⟨hP, hK⟩ := hv
  refine lv_aload_n (pc := 0) hx hb dX2_toMinutes_0 rfl (lv_at hl 0 rfl) ?_
  refine sd_getD0 (pc := 1) hx hb hts hown hK hP dX2_toMinutes_1 ?_
  refine lv_ldc2 (pc := 4) (v := 60) hx hb hown (hts _ q188) dX2_toMinutes_4 ?_
  refine lv_ldiv (pc := 7) hx hb dX2_toMinutes_7 (by decide) ?_
  refine lv_topl (fun v7 e7 => ?_)
  exact W.lret (v := v7) hx hb hr (fun t ht hW => ⟨v7, rfl, e7, ht⟩) t_nil dX2_toMinutes_8
set_option maxHeartbeats 4000000 in
set_option maxRecDepth 100000 in
/-- compareTo -/
theorem metX2_compareTo (l : Launch) (D : va_G) (r : Nat) (u : Int64) (n : Int32) (T : Int) (r2 : Nat) (u2 : Int64) (n2 : Int32) (T2 : Int) (h1 : Sp u n T) (h2 : Sp u2 n2 T2) : Met l yX2_compareTo (ws_ yX2_compareTo cX2_compareTo 3 (some .int)) ({ frames := 1, cells := 0, slots := 0, locals := 23 } : Room) (va_Pc [.ref r, .ref r2] (fun U => (Pd2 D r u n r2 u2 n2) U.heap U)) (vp_Si (fun v => (v.toInt < 0 ↔ T < T2) ∧ (0 < v.toInt ↔ T2 < T))) 0 0 (fun _ => False) := by
  refine Met.ofW (cc := cX2_compareTo) (maxL := 3) (ret := (some .int)) (by decide) rfl ?_
  intro p e s m args below meth c s₁ B hml hv
  obtain ⟨rfl, hv⟩ := hv
  have hx := B.exec
  have hb := B.bytes
  have hr := B.returns
  have hts := atoms_spec (ws := ws_ yX2_compareTo cX2_compareTo 3 (some .int)) B.pre
  have hts : ∀ w ∈ lw_all, w.before _ s = true := fun w h => hts w (List.mem_cons_of_mem _ h)
  have hown : s.vm.findClass RX2 = some m.cls := findClass_of_methodNamed B.named
  have hlocks := B.notSynchronized
  have hl := lv_entry ([.ref r, .ref r2]) (n := 3) (Nat.le_of_ble_eq_true rfl)
  rw [lg_entry_eq]
  generalize (lg_sl ([.ref r, .ref r2]) ++ List.replicate (3 - (lg_sl ([.ref r, .ref r2])).length) Slot.unset).toArray = ls at hl ⊢
  have hl : lv_has ls 3 [(0, .ref r), (1, .ref r2)] := hl
  obtain ⟨hP, hP2, hK⟩ := hv
  obtain ⟨a1, a2, a3⟩ := h1
  obtain ⟨b1, b2, b3⟩ := h2
  refine lv_aload_n (pc := 0) hx hb dX2_compareTo_0 rfl (lv_at hl 0 rfl) ?_
  refine sd_getD0 (pc := 1) hx hb hts hown hK hP dX2_compareTo_1 ?_
  refine lv_aload_n (pc := 4) hx hb dX2_compareTo_4 rfl (lv_at hl 1 rfl) ?_
  refine sd_getD0 (pc := 5) hx hb hts hown hK hP2 dX2_compareTo_5 ?_
  refine vp_callSi (pc := 8) (W.runS (As := [.long u, .long u2]) (rest := []) ⟨hx, hb, hml, hown, hts⟩ (metX3_compareLongs l u u2) (va_cwS 2 hts (lw_S q198 q199 q6 q200) rfl rfl rfl (by decide +kernel) ⟨Nat.le_of_ble_eq_true rfl, Nat.le_of_ble_eq_true rfl⟩) (sd_preS P0.st trivial) rfl rfl hl.1 rfl (lv_room (Nat.le_of_ble_eq_true rfl)) dX2_compareTo_8 ⟨Nat.le_of_ble_eq_true rfl, Nat.le_of_ble_eq_true rfl⟩) (fun f8 g8 => ?_)
  replace g8 : f8 = if u.toInt < u2.toInt then -1 else if u2.toInt < u.toInt then 1 else 0 := g8
  refine lv_istore_n (pc := 11) (lv' := [(2, .int f8), (0, .ref r), (1, .ref r2)]) hx hb dX2_compareTo_11 rfl hl (by decide) rfl (fun ls hl => ?_)
  refine lv_iload_n (pc := 12) hx hb dX2_compareTo_12 rfl (lv_at hl 0 rfl) ?_
  refine lv_if_eq (pc := 13) (tgt := 18) hx hb dX2_compareTo_13 (by decide) (fun c13 => ?_) (fun c13 => ?_)
  · have hu : u.toInt = u2.toInt := by
      rcases Int.lt_trichotomy u.toInt u2.toInt with q | q | q
      · rw [g8, if_pos q] at c13; exact absurd c13 (by decide)
      · exact q
      · rw [g8, if_neg (by omega), if_pos q] at c13; exact absurd c13 (by decide)
    refine lv_aload_n (pc := 18) hx hb dX2_compareTo_18 rfl (lv_at hl 1 rfl) ?_
    refine sd_getD1 (pc := 19) hx hb hts hown hK hP dX2_compareTo_19 ?_
    refine lv_aload_n (pc := 22) hx hb dX2_compareTo_22 rfl (lv_at hl 2 rfl) ?_
    refine sd_getD1 (pc := 23) hx hb hts hown hK hP2 dX2_compareTo_23 ?_
    refine lv_isub (pc := 26) hx hb dX2_compareTo_26 ?_
    refine lv_topi (fun v26 e26 => ?_)
    have h26 : v26.toInt = n.toInt - n2.toInt := by rw [e26, Int32.toInt_sub, sd_bm32 (by omega) (by omega)]
    exact W.iret (v := v26) hx hb hr (fun t ht hW => ⟨v26, rfl, by (try dsimp only); omega, ht⟩) t_nil dX2_compareTo_27
  · refine lv_iload_n (pc := 16) hx hb dX2_compareTo_16 rfl (lv_at hl 0 rfl) ?_
    have hf : (f8.toInt < 0 ↔ T < T2) ∧ (0 < f8.toInt ↔ T2 < T) := by
      rcases Int.lt_trichotomy u.toInt u2.toInt with q | q | q
      · rw [g8, if_pos q, show ((-1 : Int32)).toInt = -1 from by decide]; omega
      · rw [g8, if_neg (by omega), if_neg (by omega)] at c13; exact absurd rfl c13
      · rw [g8, if_neg (by omega), if_pos q, show ((1 : Int32)).toInt = 1 from by decide]; omega
    exact W.iret (v := f8) hx hb hr (fun t ht hW => ⟨f8, rfl, hf, ht⟩) t_nil dX2_compareTo_17
set_option maxHeartbeats 4000000 in
set_option maxRecDepth 100000 in
/-- plus(seconds, nanos) where nothing overflows -/
theorem metX2_plus_2 (l : Launch) (D : va_G) (z sz r : Nat) (u : Int64) (n : Int32) (T : Int) (a b : Int64) (hT : Sp u n T) (hu1 : -4611686018427387904 < u.toInt) (hu2 : u.toInt < 4611686018427387904) (ha1 : -4611686018427387904 < a.toInt) (ha2 : a.toInt < 4611686018427387904) (hab : (-1000000000 < b.toInt ∧ b.toInt < 1000000000) ∨ (-4294967296 < a.toInt ∧ a.toInt < 4294967296 ∧ -4294967296 < b.toInt ∧ b.toInt < 4294967296)) : Met l yX2_plus_2 (ws_ yX2_plus_2 cX2_plus_2 9 (some (.object "Duration"))) ({ frames := 4, cells := 1, slots := 2, locals := 83 } : Room) (va_Pc [.ref r, .long a, .long b] (fun U => (Pzd D z sz r u n) U.heap U)) (va_Qr (S := Int64 × Int32) (fun w => Sp w.1 w.2 (T + a.toInt * 1000000000 + b.toInt)) (fun w ra t => Du D ra w.1 w.2 t.heap) (Ax [] sz)) 1 2 (Ax [] sz) := by
  refine Met.ofW (cc := cX2_plus_2) (maxL := 9) (ret := (some (.object "Duration"))) (by decide) rfl ?_
  intro p e s m args below meth c s₁ B hml hv
  obtain ⟨rfl, hv⟩ := hv
  have hx := B.exec
  have hb := B.bytes
  have hr := B.returns
  have hts := atoms_spec (ws := ws_ yX2_plus_2 cX2_plus_2 9 (some (.object "Duration"))) B.pre
  have hts : ∀ w ∈ lw_all, w.before _ s = true := fun w h => hts w (List.mem_cons_of_mem _ h)
  have hown : s.vm.findClass RX2 = some m.cls := findClass_of_methodNamed B.named
  have hlocks := B.notSynchronized
  have hl := lv_entry ([.ref r, .long a, .long b]) (n := 9) (Nat.le_of_ble_eq_true rfl)
  rw [lg_entry_eq]
  generalize (lg_sl ([.ref r, .long a, .long b]) ++ List.replicate (9 - (lg_sl ([.ref r, .long a, .long b])).length) Slot.unset).toArray = ls at hl ⊢
  have hl : lv_has ls 9 [(0, .ref r), (1, .long a), (3, .long b)] := hl
  obtain ⟨⟨hsz, hZ, hz, hK⟩, hP⟩ := hv
  subst hsz
  have hA : ∀ q : Nat, s.heap.size ≤ q → Ax [] s.heap.size q := fun q h => Or.inr h
  have hS : va_S (Ax [] s.heap.size) s.heap s.heap [] := va_S.rf
  obtain ⟨t1, t2, t3⟩ := hT
  refine lv_lload_n (pc := 0) hx hb dX2_plus_2_0 rfl (lv_at hl 1 rfl) ?_
  refine lv_lload_n (pc := 1) hx hb dX2_plus_2_1 rfl (lv_at hl 2 rfl) ?_
  refine lv_lor (pc := 2) hx hb dX2_plus_2_2 ?_
  refine lv_topl (fun v2 e2 => ?_)
  refine lv_lconst (pc := 3) (v := 0) hx hb dX2_plus_2_3 (by decide) ?_
  refine sd_lne (pc := 4) (tgt := 10) hx hb dX2_plus_2_4 dX2_plus_2_5 (by decide) (fun c4 => ?_) (fun c4 => ?_)
  · refine lv_aload_n (pc := 10) hx hb dX2_plus_2_10 rfl (lv_at hl 0 rfl) ?_
    refine sd_getD0 (pc := 11) hx hb hts hown hK hP dX2_plus_2_11 ?_
    refine lv_lload_n (pc := 14) hx hb dX2_plus_2_14 rfl (lv_at hl 1 rfl) ?_
    have qr := sd_qr9 b
    have qd : -5 < (b / 1000000000).toInt ∧ (b / 1000000000).toInt < 5 ∧ ((-1000000000 < b.toInt ∧ b.toInt < 1000000000) → (b / 1000000000).toInt = 0) ∧ b.toInt = (b / 1000000000).toInt * 1000000000 + (b - b / 1000000000 * 1000000000).toInt ∧ -1000000000 < (b - b / 1000000000 * 1000000000).toInt ∧ (b - b / 1000000000 * 1000000000).toInt < 1000000000 := by rw [qr.1, qr.2]; split <;> omega
    have hin := sd_plus_in hu1 hu2 ha1 ha2 hab qd t1 t2
    refine vp_callSl (pc := 15) (W.runS (As := [.long u, .long a]) (rest := []) ⟨hx, hb, hml, hown, hts⟩ (metX3_safeAdd l u a hin.1.1 hin.1.2) (va_cwS 2 hts (lw_S q28 q29 q6 q30) rfl rfl rfl (by decide +kernel) ⟨Nat.le_of_ble_eq_true rfl, Nat.le_of_ble_eq_true rfl⟩) (sd_preS P0.st trivial) rfl rfl hl.1 rfl (lv_room (Nat.le_of_ble_eq_true rfl)) dX2_plus_2_15 ⟨Nat.le_of_ble_eq_true rfl, Nat.le_of_ble_eq_true rfl⟩) (fun f15 g15 => ?_)
    replace g15 : f15.toInt = u.toInt + a.toInt := g15
    refine lv_lstore (pc := 18) (lv' := [(5, .long f15), (0, .ref r), (1, .long a), (3, .long b)]) hx hb dX2_plus_2_18 hl (by decide) rfl (fun ls hl => ?_)
    refine lv_lload (pc := 20) hx hb dX2_plus_2_20 (lv_at hl 0 rfl) ?_
    refine lv_lload_n (pc := 22) hx hb dX2_plus_2_22 rfl (lv_at hl 3 rfl) ?_
    refine lv_ldc2 (pc := 23) (v := 1000000000) hx hb hown (hts _ q24) dX2_plus_2_23 ?_
    refine lv_ldiv (pc := 26) hx hb dX2_plus_2_26 (by decide) ?_
    refine lv_topl (fun v26 e26 => ?_)
    refine vp_callSl (pc := 27) (W.runS (As := [.long f15, .long v26]) (rest := []) ⟨hx, hb, hml, hown, hts⟩ (metX3_safeAdd l f15 v26 (by rw [g15, e26]; exact hin.2.1.1) (by rw [g15, e26]; exact hin.2.1.2)) (va_cwS 2 hts (lw_S q28 q29 q6 q30) rfl rfl rfl (by decide +kernel) ⟨Nat.le_of_ble_eq_true rfl, Nat.le_of_ble_eq_true rfl⟩) (sd_preS P0.st trivial) rfl rfl hl.1 rfl (lv_room (Nat.le_of_ble_eq_true rfl)) dX2_plus_2_27 ⟨Nat.le_of_ble_eq_true rfl, Nat.le_of_ble_eq_true rfl⟩) (fun f27 g27 => ?_)
    replace g27 : f27.toInt = f15.toInt + v26.toInt := g27
    refine lv_lstore (pc := 30) (lv' := [(5, .long f27), (0, .ref r), (1, .long a), (3, .long b)]) hx hb dX2_plus_2_30 hl (by decide) rfl (fun ls hl => ?_)
    refine lv_lload_n (pc := 32) hx hb dX2_plus_2_32 rfl (lv_at hl 3 rfl) ?_
    refine lv_ldc2 (pc := 33) (v := 1000000000) hx hb hown (hts _ q24) dX2_plus_2_33 ?_
    refine lv_lrem (pc := 36) hx hb dX2_plus_2_36 (by decide) ?_
    refine lv_topl (fun v36 e36 => ?_)
    refine lv_lstore_n (pc := 37) (lv' := [(3, .long v36), (5, .long f27), (0, .ref r), (1, .long a)]) hx hb dX2_plus_2_37 rfl hl (by decide) rfl (fun ls hl => ?_)
    refine lv_aload_n (pc := 38) hx hb dX2_plus_2_38 rfl (lv_at hl 2 rfl) ?_
    refine sd_getD1 (pc := 39) hx hb hts hown hK hP dX2_plus_2_39 ?_
    refine lv_i2l (pc := 42) hx hb dX2_plus_2_42 rfl ?_
    refine lv_topl (fun v42 e42 => ?_)
    refine lv_lload_n (pc := 43) hx hb dX2_plus_2_43 rfl (lv_at hl 0 rfl) ?_
    refine lv_ladd (pc := 44) hx hb dX2_plus_2_44 ?_
    refine lv_topl (fun v44 e44 => ?_)
    refine lv_lstore (pc := 45) (lv' := [(7, .long v44), (3, .long v36), (5, .long f27), (0, .ref r), (1, .long a)]) hx hb dX2_plus_2_45 hl (by decide) rfl (fun ls hl => ?_)
    refine lv_lload (pc := 47) hx hb dX2_plus_2_47 (lv_at hl 2 rfl) ?_
    refine lv_lload (pc := 49) hx hb dX2_plus_2_49 (lv_at hl 0 rfl) ?_
    have h42 : v42.toInt = n.toInt := by rw [e42, Int32.toInt_toInt64]
    have h36 : -1000000000 < v36.toInt ∧ v36.toInt < 1000000000 := by rw [e36]; exact qd.2.2.2.2
    have h44 : v44.toInt = v42.toInt + v36.toInt := by rw [e44]; exact sd_add (by omega) (by omega)
    have hF := Axf hS hA Ax0
    refine va_callr (pc := 51) (va_runS (As := [.long f27, .long v44]) (rest := []) ⟨hx, hb, hml, hown, hts⟩ (metX2_ofSeconds l D z s.heap.size f27 v44 (by rw [g27, g15, h44, h42, e26, e36]; exact hin.2.2.1) (by rw [g27, g15, h44, h42, e26, e36]; exact hin.2.2.2)) (va_cwS 2 hts (lw_S q243 q22 q5 q23) rfl rfl rfl (by decide +kernel) ⟨Nat.le_of_ble_eq_true rfl, Nat.le_of_ble_eq_true rfl⟩) (sd_preS Pz.st (⟨rfl, hZ, hz, hK⟩)) rfl rfl hl.1 rfl (lv_room (Nat.le_of_ble_eq_true rfl)) dX2_plus_2_51 ⟨Nat.le_of_ble_eq_true rfl, Nat.le_of_ble_eq_true rfl⟩) hS (fun q _ h => hF q h) hF (fun w ra t H1 locs1 ht hvm hp hB hz1 hk1 hS => ?_)
    replace hp : Sp w.1 w.2 (f27.toInt * 1000000000 + v44.toInt) := hp
    replace hB : Du D ra w.1 w.2 t.heap := hB.1
    rw [ht] at hB
    have hbq := qd.2.2.2.1
    rw [← e26] at hbq
    rw [e26, ← e36] at hbq
    rw [e26] at g27
    clear qd hin qr hab
    rw [show f27.toInt * 1000000000 + v44.toInt = T + a.toInt * 1000000000 + b.toInt by omega] at hp
    refine W.widen (k := 1) (n := 2) (Nat.le_of_ble_eq_true rfl) (Nat.le_of_ble_eq_true rfl) ?_
    exact W.aret (v := .ref ra) hx hb hr (Or.inl ⟨_, rfl⟩) (Or.inr ⟨_, rfl⟩) (fun t ht hW => ⟨⟨w, ra, rfl, hp, by (try dsimp only); rw [ht]; exact hB⟩, hS.F ht⟩) hS.2.2 dX2_plus_2_54
  · have hq := (sd_or a b).mp (by rw [← e2]; exact c4)
    have hq1 := (sd_l0 a).mp hq.1
    have hq2 := (sd_l0 b).mp hq.2
    refine lv_aload_n (pc := 8) hx hb dX2_plus_2_8 rfl (lv_at hl 0 rfl) ?_
    refine W.widen (k := 1) (n := 2) (Nat.zero_le _) (Nat.zero_le _) ?_
    exact W.aret (v := .ref r) hx hb hr (Or.inl ⟨_, rfl⟩) (Or.inr ⟨_, rfl⟩) (fun t ht hW => ⟨⟨(u, n), r, rfl, ⟨t1, t2, by dsimp only; omega⟩, by (try dsimp only); rw [ht]; exact hP⟩, hS.F ht⟩) hS.2.2 dX2_plus_2_9
set_option maxHeartbeats 4000000 in
set_option maxRecDepth 100000 in
/-- plus(Duration) -/
theorem metX2_plus (l : Launch) (D : va_G) (z sz r : Nat) (u : Int64) (n : Int32) (T : Int) (r2 : Nat) (u2 : Int64) (n2 : Int32) (T2 : Int) (hT : Sp u n T) (hu1 : -4611686018427387904 < u.toInt) (hu2 : u.toInt < 4611686018427387904) (hT2 : Sp u2 n2 T2) (hv1 : -4611686018427387904 < u2.toInt) (hv2 : u2.toInt < 4611686018427387904) : Met l yX2_plus (ws_ yX2_plus cX2_plus 2 (some (.object "Duration"))) ({ frames := 5, cells := 1, slots := 2, locals := 111 } : Room) (va_Pc [.ref r, .ref r2] (fun U => (Pzd2 D z sz r u n r2 u2 n2) U.heap U)) (va_Qr (S := Int64 × Int32) (fun w => Sp w.1 w.2 (T + T2)) (fun w ra t => Du D ra w.1 w.2 t.heap) (Ax [] sz)) 1 2 (Ax [] sz) := by
  refine Met.ofW (cc := cX2_plus) (maxL := 2) (ret := (some (.object "Duration"))) (by decide) rfl ?_
  intro p e s m args below meth c s₁ B hml hv
  obtain ⟨rfl, hv⟩ := hv
  have hx := B.exec
  have hb := B.bytes
  have hr := B.returns
  have hts := atoms_spec (ws := ws_ yX2_plus cX2_plus 2 (some (.object "Duration"))) B.pre
  have hts : ∀ w ∈ lw_all, w.before _ s = true := fun w h => hts w (List.mem_cons_of_mem _ h)
  have hown : s.vm.findClass RX2 = some m.cls := findClass_of_methodNamed B.named
  have hlocks := B.notSynchronized
  have hl := lv_entry ([.ref r, .ref r2]) (n := 2) (Nat.le_of_ble_eq_true rfl)
  rw [lg_entry_eq]
  generalize (lg_sl ([.ref r, .ref r2]) ++ List.replicate (2 - (lg_sl ([.ref r, .ref r2])).length) Slot.unset).toArray = ls at hl ⊢
  have hl : lv_has ls 2 [(0, .ref r), (1, .ref r2)] := hl
  obtain ⟨⟨hsz, hZ, hz, hK⟩, hP, hP2⟩ := hv
  subst hsz
  have hA : ∀ q : Nat, s.heap.size ≤ q → Ax [] s.heap.size q := fun q h => Or.inr h
  have hS : va_S (Ax [] s.heap.size) s.heap s.heap [] := va_S.rf
  obtain ⟨b1, b2, b3⟩ := id hT2
  refine lv_aload_n (pc := 0) hx hb dX2_plus_0 rfl (lv_at hl 0 rfl) ?_
  refine lv_aload_n (pc := 1) hx hb dX2_plus_1 rfl (lv_at hl 1 rfl) ?_
  refine vp_callSl (pc := 2) (W.runV (As := []) (rest := [.ref r]) ⟨hx, hb, hml, hown, hts⟩ (metX2_getSeconds l D r2 u2 n2) (cwV 0 hts (lw_V q237 q143 q144 q5 q145) rfl rfl rfl (by decide +kernel) ⟨Nat.le_of_ble_eq_true rfl, Nat.le_of_ble_eq_true rfl⟩) (sd_preV Pd.st (Du.recv hK hP2) (⟨hP2, hK⟩)) rfl rfl hl.1 rfl (lv_room (Nat.le_of_ble_eq_true rfl)) dX2_plus_2 ⟨Nat.le_of_ble_eq_true rfl, Nat.le_of_ble_eq_true rfl⟩) (fun f2 g2 => ?_)
  replace g2 : f2 = u2 := g2
  subst g2
  refine lv_aload_n (pc := 5) hx hb dX2_plus_5 rfl (lv_at hl 1 rfl) ?_
  refine vp_callSi (pc := 6) (W.runV (As := []) (rest := [.long f2, .ref r]) ⟨hx, hb, hml, hown, hts⟩ (metX2_getNano l D r2 f2 n2) (cwV 0 hts (lw_V q238 q151 q152 q5 q153) rfl rfl rfl (by decide +kernel) ⟨Nat.le_of_ble_eq_true rfl, Nat.le_of_ble_eq_true rfl⟩) (sd_preV Pd.st (Du.recv hK hP2) (⟨hP2, hK⟩)) rfl rfl hl.1 rfl (lv_room (Nat.le_of_ble_eq_true rfl)) dX2_plus_6 ⟨Nat.le_of_ble_eq_true rfl, Nat.le_of_ble_eq_true rfl⟩) (fun f6 g6 => ?_)
  replace g6 : f6 = n2 := g6
  refine lv_i2l (pc := 9) hx hb dX2_plus_9 rfl ?_
  refine lv_topl (fun v9 e9 => ?_)
  have h9 : v9.toInt = n2.toInt := by rw [e9, g6, Int32.toInt_toInt64]
  have hF := Axf hS hA Ax0
  refine va_callr (pc := 10) (va_runV (As := [.long f2, .long v9]) (rest := []) ⟨hx, hb, hml, hown, hts⟩ (metX2_plus_2 l D z s.heap.size r u n T f2 v9 hT hu1 hu2 hv1 hv2 (Or.inl (by omega))) (cwV 2 hts (lw_V q239 q241 qs2 q5 q242) rfl rfl rfl (by decide +kernel) ⟨Nat.le_of_ble_eq_true rfl, Nat.le_of_ble_eq_true rfl⟩) (sd_preV Pzd.st (Du.recv hK hP) (⟨⟨rfl, hZ, hz, hK⟩, hP⟩)) rfl rfl hl.1 rfl (lv_room (Nat.le_of_ble_eq_true rfl)) dX2_plus_10 ⟨Nat.le_of_ble_eq_true rfl, Nat.le_of_ble_eq_true rfl⟩) hS (fun q _ h => hF q h) hF (fun w ra t H1 locs1 ht hvm hp hB hz1 hk1 hS => ?_)
  replace hp : Sp w.1 w.2 (T + f2.toInt * 1000000000 + v9.toInt) := hp
  replace hB : Du D ra w.1 w.2 t.heap := hB
  rw [ht] at hB
  rw [show T + f2.toInt * 1000000000 + v9.toInt = T + T2 by omega] at hp
  refine W.widen (k := 1) (n := 2) (Nat.le_of_ble_eq_true rfl) (Nat.le_of_ble_eq_true rfl) ?_
  exact W.aret (v := .ref ra) hx hb hr (Or.inl ⟨_, rfl⟩) (Or.inr ⟨_, rfl⟩) (fun t ht hW => ⟨⟨w, ra, rfl, hp, by (try dsimp only); rw [ht]; exact hB⟩, hS.F ht⟩) hS.2.2 dX2_plus_13
set_option maxHeartbeats 4000000 in
set_option maxRecDepth 100000 in
/-- minus(Duration) -/
theorem metX2_minus (l : Launch) (D : va_G) (z sz r : Nat) (u : Int64) (n : Int32) (T : Int) (r2 : Nat) (u2 : Int64) (n2 : Int32) (T2 : Int) (hT : Sp u n T) (hu1 : -4611686018427387904 < u.toInt) (hu2 : u.toInt < 4611686018427387904) (hT2 : Sp u2 n2 T2) (hv1 : -4611686018427387904 < u2.toInt) (hv2 : u2.toInt < 4611686018427387904) : Met l yX2_minus (ws_ yX2_minus cX2_minus 5 (some (.object "Duration"))) ({ frames := 5, cells := 1, slots := 2, locals := 111 } : Room) (va_Pc [.ref r, .ref r2] (fun U => (Pzd2 D z sz r u n r2 u2 n2) U.heap U)) (va_Qr (S := Int64 × Int32) (fun w => Sp w.1 w.2 (T - T2)) (fun w ra t => Du D ra w.1 w.2 t.heap) (Ax [] sz)) 1 2 (Ax [] sz) := by
  refine Met.ofW (cc := cX2_minus) (maxL := 5) (ret := (some (.object "Duration"))) (by decide) rfl ?_
  intro p e s m args below meth c s₁ B hml hv
  obtain ⟨rfl, hv⟩ := hv
  have hx := B.exec
  have hb := B.bytes
  have hr := B.returns
  have hts := atoms_spec (ws := ws_ yX2_minus cX2_minus 5 (some (.object "Duration"))) B.pre
  have hts : ∀ w ∈ lw_all, w.before _ s = true := fun w h => hts w (List.mem_cons_of_mem _ h)
  have hown : s.vm.findClass RX2 = some m.cls := findClass_of_methodNamed B.named
  have hlocks := B.notSynchronized
  have hl := lv_entry ([.ref r, .ref r2]) (n := 5) (Nat.le_of_ble_eq_true rfl)
  rw [lg_entry_eq]
  generalize (lg_sl ([.ref r, .ref r2]) ++ List.replicate (5 - (lg_sl ([.ref r, .ref r2])).length) Slot.unset).toArray = ls at hl ⊢
  have hl : lv_has ls 5 [(0, .ref r), (1, .ref r2)] := hl
  obtain ⟨⟨hsz, hZ, hz, hK⟩, hP, hP2⟩ := hv
  subst hsz
  have hA : ∀ q : Nat, s.heap.size ≤ q → Ax [] s.heap.size q := fun q h => Or.inr h
  have hS : va_S (Ax [] s.heap.size) s.heap s.heap [] := va_S.rf
  obtain ⟨b1, b2, b3⟩ := id hT2
  refine lv_aload_n (pc := 0) hx hb dX2_minus_0 rfl (lv_at hl 1 rfl) ?_
  refine vp_callSl (pc := 1) (W.runV (As := []) (rest := []) ⟨hx, hb, hml, hown, hts⟩ (metX2_getSeconds l D r2 u2 n2) (cwV 0 hts (lw_V q237 q143 q144 q5 q145) rfl rfl rfl (by decide +kernel) ⟨Nat.le_of_ble_eq_true rfl, Nat.le_of_ble_eq_true rfl⟩) (sd_preV Pd.st (Du.recv hK hP2) (⟨hP2, hK⟩)) rfl rfl hl.1 rfl (lv_room (Nat.le_of_ble_eq_true rfl)) dX2_minus_1 ⟨Nat.le_of_ble_eq_true rfl, Nat.le_of_ble_eq_true rfl⟩) (fun f1 g1 => ?_)
  replace g1 : f1 = u2 := g1
  subst g1
  refine lv_lstore_n (pc := 4) (lv' := [(2, .long f1), (0, .ref r), (1, .ref r2)]) hx hb dX2_minus_4 rfl hl (by decide) rfl (fun ls hl => ?_)
  refine lv_aload_n (pc := 5) hx hb dX2_minus_5 rfl (lv_at hl 2 rfl) ?_
  refine vp_callSi (pc := 6) (W.runV (As := []) (rest := []) ⟨hx, hb, hml, hown, hts⟩ (metX2_getNano l D r2 f1 n2) (cwV 0 hts (lw_V q238 q151 q152 q5 q153) rfl rfl rfl (by decide +kernel) ⟨Nat.le_of_ble_eq_true rfl, Nat.le_of_ble_eq_true rfl⟩) (sd_preV Pd.st (Du.recv hK hP2) (⟨hP2, hK⟩)) rfl rfl hl.1 rfl (lv_room (Nat.le_of_ble_eq_true rfl)) dX2_minus_6 ⟨Nat.le_of_ble_eq_true rfl, Nat.le_of_ble_eq_true rfl⟩) (fun f6 g6 => ?_)
  replace g6 : f6 = n2 := g6
  subst g6
  refine lv_istore (pc := 9) (lv' := [(4, .int f6), (2, .long f1), (0, .ref r), (1, .ref r2)]) hx hb dX2_minus_9 hl (by decide) rfl (fun ls hl => ?_)
  refine lv_lload_n (pc := 11) hx hb dX2_minus_11 rfl (lv_at hl 1 rfl) ?_
  refine lv_ldc2 (pc := 12) (v := (-9223372036854775808)) hx hb hown (hts _ q252) dX2_minus_12 ?_
  refine sd_lne (pc := 15) (tgt := 36) hx hb dX2_minus_15 dX2_minus_16 (by decide) (fun c15 => ?_) (fun c15 => False.elim (by rw [c15] at hv1; exact absurd hv1 (by decide)))
  refine lv_aload_n (pc := 36) hx hb dX2_minus_36 rfl (lv_at hl 2 rfl) ?_
  refine lv_lload_n (pc := 37) hx hb dX2_minus_37 rfl (lv_at hl 1 rfl) ?_
  refine lv_lneg (pc := 38) hx hb dX2_minus_38 ?_
  refine lv_topl (fun v38 e38 => ?_)
  refine lv_iload (pc := 39) hx hb dX2_minus_39 (lv_at hl 0 rfl) ?_
  refine lv_ineg (pc := 41) hx hb dX2_minus_41 ?_
  refine lv_topi (fun v41 e41 => ?_)
  refine lv_i2l (pc := 42) hx hb dX2_minus_42 rfl ?_
  refine lv_topl (fun v42 e42 => ?_)
  have h38 : v38.toInt = -f1.toInt := by rw [e38]; exact sd_neg (by omega)
  have h42 : v42.toInt = -f6.toInt := by rw [e42, Int32.toInt_toInt64, e41]; exact sd_ineg (by omega)
  have hF := Axf hS hA Ax0
  refine va_callr (pc := 43) (va_runV (As := [.long v38, .long v42]) (rest := []) ⟨hx, hb, hml, hown, hts⟩ (metX2_plus_2 l D z s.heap.size r u n T v38 v42 hT hu1 hu2 (by omega) (by omega) (Or.inl (by omega))) (cwV 2 hts (lw_V q239 q241 qs2 q5 q242) rfl rfl rfl (by decide +kernel) ⟨Nat.le_of_ble_eq_true rfl, Nat.le_of_ble_eq_true rfl⟩) (sd_preV Pzd.st (Du.recv hK hP) (⟨⟨rfl, hZ, hz, hK⟩, hP⟩)) rfl rfl hl.1 rfl (lv_room (Nat.le_of_ble_eq_true rfl)) dX2_minus_43 ⟨Nat.le_of_ble_eq_true rfl, Nat.le_of_ble_eq_true rfl⟩) hS (fun q _ h => hF q h) hF (fun w ra t H1 locs1 ht hvm hp hB hz1 hk1 hS => ?_)
  replace hp : Sp w.1 w.2 (T + v38.toInt * 1000000000 + v42.toInt) := hp
  replace hB : Du D ra w.1 w.2 t.heap := hB
  rw [ht] at hB
  rw [show T + v38.toInt * 1000000000 + v42.toInt = T - T2 by omega] at hp
  refine W.widen (k := 1) (n := 2) (Nat.le_of_ble_eq_true rfl) (Nat.le_of_ble_eq_true rfl) ?_
  exact W.aret (v := .ref ra) hx hb hr (Or.inl ⟨_, rfl⟩) (Or.inr ⟨_, rfl⟩) (fun t ht hW => ⟨⟨w, ra, rfl, hp, by (try dsimp only); rw [ht]; exact hB⟩, hS.F ht⟩) hS.2.2 dX2_minus_46
set_option maxHeartbeats 4000000 in
set_option maxRecDepth 100000 in
/-- plusSeconds -/
theorem metX2_plusSeconds (l : Launch) (D : va_G) (z sz r : Nat) (u : Int64) (n : Int32) (T : Int) (a : Int64) (hT : Sp u n T) (hu1 : -4611686018427387904 < u.toInt) (hu2 : u.toInt < 4611686018427387904) (ha1 : -2147483648 ≤ a.toInt) (ha2 : a.toInt < 2147483648) : Met l yX2_plusSeconds (ws_ yX2_plusSeconds cX2_plusSeconds 3 (some (.object "Duration"))) ({ frames := 5, cells := 1, slots := 2, locals := 111 } : Room) (va_Pc [.ref r, .long a] (fun U => (Pzd D z sz r u n) U.heap U)) (va_Qr (S := Int64 × Int32) (fun w => Sp w.1 w.2 (T + a.toInt * 1000000000)) (fun w ra t => Du D ra w.1 w.2 t.heap) (Ax [] sz)) 1 2 (Ax [] sz) := by
  refine Met.ofW (cc := cX2_plusSeconds) (maxL := 3) (ret := (some (.object "Duration"))) (by decide) rfl ?_
  intro p e s m args below meth c s₁ B hml hv
  obtain ⟨rfl, hv⟩ := hv
  have hx := B.exec
  have hb := B.bytes
  have hr := B.returns
  have hts := atoms_spec (ws := ws_ yX2_plusSeconds cX2_plusSeconds 3 (some (.object "Duration"))) B.pre
  have hts : ∀ w ∈ lw_all, w.before _ s = true := fun w h => hts w (List.mem_cons_of_mem _ h)
  have hown : s.vm.findClass RX2 = some m.cls := findClass_of_methodNamed B.named
  have hlocks := B.notSynchronized
  have hl := lv_entry ([.ref r, .long a]) (n := 3) (Nat.le_of_ble_eq_true rfl)
  rw [lg_entry_eq]
  generalize (lg_sl ([.ref r, .long a]) ++ List.replicate (3 - (lg_sl ([.ref r, .long a])).length) Slot.unset).toArray = ls at hl ⊢
  have hl : lv_has ls 3 [(0, .ref r), (1, .long a)] := hl
  obtain ⟨⟨hsz, hZ, hz, hK⟩, hP⟩ := hv
  subst hsz
  have hA : ∀ q : Nat, s.heap.size ≤ q → Ax [] s.heap.size q := fun q h => Or.inr h
  have hS : va_S (Ax [] s.heap.size) s.heap s.heap [] := va_S.rf
  refine lv_aload_n (pc := 0) hx hb dX2_plusSeconds_0 rfl (lv_at hl 0 rfl) ?_
  refine lv_lload_n (pc := 1) hx hb dX2_plusSeconds_1 rfl (lv_at hl 1 rfl) ?_
  refine lv_lconst (pc := 2) (v := 0) hx hb dX2_plusSeconds_2 (by decide) ?_
  have hF := Axf hS hA Ax0
  refine va_callr (pc := 3) (va_runV (As := [.long a, .long 0]) (rest := []) ⟨hx, hb, hml, hown, hts⟩ (metX2_plus_2 l D z s.heap.size r u n T a 0 hT hu1 hu2 (by omega) (by omega) (Or.inl (by rw [sd_z0]; omega))) (cwV 2 hts (lw_V q239 q241 qs2 q5 q242) rfl rfl rfl (by decide +kernel) ⟨Nat.le_of_ble_eq_true rfl, Nat.le_of_ble_eq_true rfl⟩) (sd_preV Pzd.st (Du.recv hK hP) (⟨⟨rfl, hZ, hz, hK⟩, hP⟩)) rfl rfl hl.1 rfl (lv_room (Nat.le_of_ble_eq_true rfl)) dX2_plusSeconds_3 ⟨Nat.le_of_ble_eq_true rfl, Nat.le_of_ble_eq_true rfl⟩) hS (fun q _ h => hF q h) hF (fun w ra t H1 locs1 ht hvm hp hB hz1 hk1 hS => ?_)
  replace hp : Sp w.1 w.2 (T + a.toInt * 1000000000 + (0 : Int64).toInt) := hp
  replace hB : Du D ra w.1 w.2 t.heap := hB
  rw [ht] at hB
  rw [show T + a.toInt * 1000000000 + (0 : Int64).toInt = T + a.toInt * 1000000000 by (first | omega | (rw [sd_z0]; omega))] at hp
  refine W.widen (k := 1) (n := 2) (Nat.le_of_ble_eq_true rfl) (Nat.le_of_ble_eq_true rfl) ?_
  exact W.aret (v := .ref ra) hx hb hr (Or.inl ⟨_, rfl⟩) (Or.inr ⟨_, rfl⟩) (fun t ht hW => ⟨⟨w, ra, rfl, hp, by (try dsimp only); rw [ht]; exact hB⟩, hS.F ht⟩) hS.2.2 dX2_plusSeconds_6
set_option maxHeartbeats 4000000 in
set_option maxRecDepth 100000 in
/-- plusMillis -/
theorem metX2_plusMillis (l : Launch) (D : va_G) (z sz r : Nat) (u : Int64) (n : Int32) (T : Int) (a : Int64) (hT : Sp u n T) (hu1 : -4611686018427387904 < u.toInt) (hu2 : u.toInt < 4611686018427387904) (ha1 : -2147483648 ≤ a.toInt) (ha2 : a.toInt < 2147483648) : Met l yX2_plusMillis (ws_ yX2_plusMillis cX2_plusMillis 3 (some (.object "Duration"))) ({ frames := 5, cells := 1, slots := 2, locals := 111 } : Room) (va_Pc [.ref r, .long a] (fun U => (Pzd D z sz r u n) U.heap U)) (va_Qr (S := Int64 × Int32) (fun w => Sp w.1 w.2 (T + a.toInt * 1000000)) (fun w ra t => Du D ra w.1 w.2 t.heap) (Ax [] sz)) 1 2 (Ax [] sz) := by
  refine Met.ofW (cc := cX2_plusMillis) (maxL := 3) (ret := (some (.object "Duration"))) (by decide) rfl ?_
  intro p e s m args below meth c s₁ B hml hv
  obtain ⟨rfl, hv⟩ := hv
  have hx := B.exec
  have hb := B.bytes
  have hr := B.returns
  have hts := atoms_spec (ws := ws_ yX2_plusMillis cX2_plusMillis 3 (some (.object "Duration"))) B.pre
  have hts : ∀ w ∈ lw_all, w.before _ s = true := fun w h => hts w (List.mem_cons_of_mem _ h)
  have hown : s.vm.findClass RX2 = some m.cls := findClass_of_methodNamed B.named
  have hlocks := B.notSynchronized
  have hl := lv_entry ([.ref r, .long a]) (n := 3) (Nat.le_of_ble_eq_true rfl)
  rw [lg_entry_eq]
  generalize (lg_sl ([.ref r, .long a]) ++ List.replicate (3 - (lg_sl ([.ref r, .long a])).length) Slot.unset).toArray = ls at hl ⊢
  have hl : lv_has ls 3 [(0, .ref r), (1, .long a)] := hl
  obtain ⟨⟨hsz, hZ, hz, hK⟩, hP⟩ := hv
  subst hsz
  have hA : ∀ q : Nat, s.heap.size ≤ q → Ax [] s.heap.size q := fun q h => Or.inr h
  have hS : va_S (Ax [] s.heap.size) s.heap s.heap [] := va_S.rf
  refine lv_aload_n (pc := 0) hx hb dX2_plusMillis_0 rfl (lv_at hl 0 rfl) ?_
  refine lv_lload_n (pc := 1) hx hb dX2_plusMillis_1 rfl (lv_at hl 1 rfl) ?_
  refine lv_ldc2 (pc := 2) (v := 1000) hx hb hown (hts _ q270) dX2_plusMillis_2 ?_
  refine lv_ldiv (pc := 5) hx hb dX2_plusMillis_5 (by decide) ?_
  refine lv_topl (fun v5 e5 => ?_)
  refine lv_lload_n (pc := 6) hx hb dX2_plusMillis_6 rfl (lv_at hl 1 rfl) ?_
  refine lv_ldc2 (pc := 7) (v := 1000) hx hb hown (hts _ q270) dX2_plusMillis_7 ?_
  refine lv_lrem (pc := 10) hx hb dX2_plusMillis_10 (by decide) ?_
  refine lv_topl (fun v10 e10 => ?_)
  refine lv_ldc2 (pc := 11) (v := 1000000) hx hb hown (hts _ q271) dX2_plusMillis_11 ?_
  refine lv_lmul (pc := 14) hx hb dX2_plusMillis_14 ?_
  refine lv_topl (fun v14 e14 => ?_)
  have qr := sd_qr3 a
  have qr := sd_qr3 a
  have k5 : v5.toInt = if 0 ≤ a.toInt then a.toInt / 1000 else -((-a.toInt) / 1000) := by rw [e5]; exact qr.1
  have k10 : v10.toInt = if 0 ≤ a.toInt then a.toInt % 1000 else -((-a.toInt) % 1000) := by rw [e10]; exact qr.2
  have k5b : -2147484 < v5.toInt ∧ v5.toInt < 2147484 ∧ -1000 < v10.toInt ∧ v10.toInt < 1000 ∧ a.toInt = v5.toInt * 1000 + v10.toInt := by rw [k5, k10]; split <;> omega
  have k14 : v14.toInt = v10.toInt * 1000000 := by rw [e14]; exact sd_mul (b := 1000000) (by rw [show (1000000 : Int64).toInt = 1000000 from rfl]; omega) (by rw [show (1000000 : Int64).toInt = 1000000 from rfl]; omega)
  have hF := Axf hS hA Ax0
  refine va_callr (pc := 15) (va_runV (As := [.long v5, .long v14]) (rest := []) ⟨hx, hb, hml, hown, hts⟩ (metX2_plus_2 l D z s.heap.size r u n T v5 v14 hT hu1 hu2 (by omega) (by omega) (Or.inl (by omega))) (cwV 2 hts (lw_V q239 q241 qs2 q5 q242) rfl rfl rfl (by decide +kernel) ⟨Nat.le_of_ble_eq_true rfl, Nat.le_of_ble_eq_true rfl⟩) (sd_preV Pzd.st (Du.recv hK hP) (⟨⟨rfl, hZ, hz, hK⟩, hP⟩)) rfl rfl hl.1 rfl (lv_room (Nat.le_of_ble_eq_true rfl)) dX2_plusMillis_15 ⟨Nat.le_of_ble_eq_true rfl, Nat.le_of_ble_eq_true rfl⟩) hS (fun q _ h => hF q h) hF (fun w ra t H1 locs1 ht hvm hp hB hz1 hk1 hS => ?_)
  replace hp : Sp w.1 w.2 (T + v5.toInt * 1000000000 + v14.toInt) := hp
  replace hB : Du D ra w.1 w.2 t.heap := hB
  rw [ht] at hB
  rw [show T + v5.toInt * 1000000000 + v14.toInt = T + a.toInt * 1000000 by (first | omega | (rw [sd_z0]; omega))] at hp
  refine W.widen (k := 1) (n := 2) (Nat.le_of_ble_eq_true rfl) (Nat.le_of_ble_eq_true rfl) ?_
  exact W.aret (v := .ref ra) hx hb hr (Or.inl ⟨_, rfl⟩) (Or.inr ⟨_, rfl⟩) (fun t ht hW => ⟨⟨w, ra, rfl, hp, by (try dsimp only); rw [ht]; exact hB⟩, hS.F ht⟩) hS.2.2 dX2_plusMillis_18
set_option maxHeartbeats 4000000 in
set_option maxRecDepth 100000 in
/-- plusNanos -/
theorem metX2_plusNanos (l : Launch) (D : va_G) (z sz r : Nat) (u : Int64) (n : Int32) (T : Int) (a : Int64) (hT : Sp u n T) (hu1 : -4611686018427387904 < u.toInt) (hu2 : u.toInt < 4611686018427387904) (ha1 : -2147483648 ≤ a.toInt) (ha2 : a.toInt < 2147483648) : Met l yX2_plusNanos (ws_ yX2_plusNanos cX2_plusNanos 3 (some (.object "Duration"))) ({ frames := 5, cells := 1, slots := 2, locals := 111 } : Room) (va_Pc [.ref r, .long a] (fun U => (Pzd D z sz r u n) U.heap U)) (va_Qr (S := Int64 × Int32) (fun w => Sp w.1 w.2 (T + a.toInt)) (fun w ra t => Du D ra w.1 w.2 t.heap) (Ax [] sz)) 1 2 (Ax [] sz) := by
  refine Met.ofW (cc := cX2_plusNanos) (maxL := 3) (ret := (some (.object "Duration"))) (by decide) rfl ?_
  intro p e s m args below meth c s₁ B hml hv
  obtain ⟨rfl, hv⟩ := hv
  have hx := B.exec
  have hb := B.bytes
  have hr := B.returns
  have hts := atoms_spec (ws := ws_ yX2_plusNanos cX2_plusNanos 3 (some (.object "Duration"))) B.pre
  have hts : ∀ w ∈ lw_all, w.before _ s = true := fun w h => hts w (List.mem_cons_of_mem _ h)
  have hown : s.vm.findClass RX2 = some m.cls := findClass_of_methodNamed B.named
  have hlocks := B.notSynchronized
  have hl := lv_entry ([.ref r, .long a]) (n := 3) (Nat.le_of_ble_eq_true rfl)
  rw [lg_entry_eq]
  generalize (lg_sl ([.ref r, .long a]) ++ List.replicate (3 - (lg_sl ([.ref r, .long a])).length) Slot.unset).toArray = ls at hl ⊢
  have hl : lv_has ls 3 [(0, .ref r), (1, .long a)] := hl
  obtain ⟨⟨hsz, hZ, hz, hK⟩, hP⟩ := hv
  subst hsz
  have hA : ∀ q : Nat, s.heap.size ≤ q → Ax [] s.heap.size q := fun q h => Or.inr h
  have hS : va_S (Ax [] s.heap.size) s.heap s.heap [] := va_S.rf
  refine lv_aload_n (pc := 0) hx hb dX2_plusNanos_0 rfl (lv_at hl 0 rfl) ?_
  refine lv_lconst (pc := 1) (v := 0) hx hb dX2_plusNanos_1 (by decide) ?_
  refine lv_lload_n (pc := 2) hx hb dX2_plusNanos_2 rfl (lv_at hl 1 rfl) ?_
  have hF := Axf hS hA Ax0
  refine va_callr (pc := 3) (va_runV (As := [.long 0, .long a]) (rest := []) ⟨hx, hb, hml, hown, hts⟩ (metX2_plus_2 l D z s.heap.size r u n T 0 a hT hu1 hu2 (by rw [sd_z0]; omega) (by rw [sd_z0]; omega) (Or.inr (by rw [sd_z0]; omega))) (cwV 2 hts (lw_V q239 q241 qs2 q5 q242) rfl rfl rfl (by decide +kernel) ⟨Nat.le_of_ble_eq_true rfl, Nat.le_of_ble_eq_true rfl⟩) (sd_preV Pzd.st (Du.recv hK hP) (⟨⟨rfl, hZ, hz, hK⟩, hP⟩)) rfl rfl hl.1 rfl (lv_room (Nat.le_of_ble_eq_true rfl)) dX2_plusNanos_3 ⟨Nat.le_of_ble_eq_true rfl, Nat.le_of_ble_eq_true rfl⟩) hS (fun q _ h => hF q h) hF (fun w ra t H1 locs1 ht hvm hp hB hz1 hk1 hS => ?_)
  replace hp : Sp w.1 w.2 (T + (0 : Int64).toInt * 1000000000 + a.toInt) := hp
  replace hB : Du D ra w.1 w.2 t.heap := hB
  rw [ht] at hB
  rw [show T + (0 : Int64).toInt * 1000000000 + a.toInt = T + a.toInt by (first | omega | (rw [sd_z0]; omega))] at hp
  refine W.widen (k := 1) (n := 2) (Nat.le_of_ble_eq_true rfl) (Nat.le_of_ble_eq_true rfl) ?_
  exact W.aret (v := .ref ra) hx hb hr (Or.inl ⟨_, rfl⟩) (Or.inr ⟨_, rfl⟩) (fun t ht hW => ⟨⟨w, ra, rfl, hp, by (try dsimp only); rw [ht]; exact hB⟩, hS.F ht⟩) hS.2.2 dX2_plusNanos_6
end
section
/-! PART 06: SpanDesk (printed by gen06.py) -/
theorem vD2 {A : Nat → Prop} {a b : Nat} {x y : va_E} (ha : A a) (hb : A b) (hn : a ≠ b) : va_D A [(a, x), (b, y)] := by
  refine ⟨fun i j p q h1 h2 h3 => ?_, fun k q h1 => ?_⟩
  · have a1 : i < 2 := (List.getElem?_eq_some_iff.mp h1).1
    have a2 : j < 2 := (List.getElem?_eq_some_iff.mp h2).1
    rcases (show i = 0 ∨ i = 1 by omega) with rfl | rfl <;> rcases (show j = 0 ∨ j = 1 by omega) with rfl | rfl <;> cases h1 <;> cases h2
    · rfl
    · exact absurd h3 hn
    · exact absurd h3.symm hn
    · rfl
  · have a1 : k < 2 := (List.getElem?_eq_some_iff.mp h1).1
    rcases (show k = 0 ∨ k = 1 by omega) with rfl | rfl <;> cases h1
    · exact ha
    · exact hb
/-- a cell that was there and is nobody's stays -/
theorem S_keep {D : va_G} {cl : List vw_C} {A : Nat → Prop} {a : Nat} {e : va_E} {H0 H : Heap} {locs : List Loc} (h : va_P D cl [(a, e)] H0) (hS : va_S A H0 H locs) (hn : ¬ A a) : va_P D cl [(a, e)] H := pk1 h (hS.2.1 a (pk_lt1 h) hn)
/-- a static stays where one object and new cells are written -/
theorem ZkO {C n d : String} {v : Value} {s : State} {D : va_G} {cl : List vw_C} {r ci : Nat} {fs : List Value} {H : Heap} {locs : List Loc} (h : va_Z C n d v (fun _ => False) s s.heap) (hO : va_P D cl [(r, .inr (ci, fs))] s.heap) (hS : va_S (Ax [r] s.heap.size) s.heap H locs) : va_Z C n d v (fun _ => False) s H := by
  obtain ⟨cf, kf, fi, f, a, cell, h1, h2, h3, h4, h5, h6, h7, h8⟩ := h
  have hlt : a < s.heap.size := (Array.getElem?_eq_some_iff.mp h5).1
  refine ⟨cf, kf, fi, f, a, cell, h1, h2, h3, h4, ?_, h6, h7, h8⟩
  rw [hS.2.1 a hlt ?_]
  · exact h5
  · intro hz
    rcases hz with hz | hz
    · rw [List.mem_singleton.mp hz] at h5
      obtain ⟨q', g0, cell', g1, g2, g3, -⟩ := hO 0 _ rfl
      cases h5.symm.trans g1
      rw [g3] at h6
      cases h6
    · omega
/-- writing the one cell a, as a call that owns it -/
theorem oq_hq {H H1 : Heap} {a : Nat} (oq : ∀ q : Nat, q ≠ a → H1[q]? = H[q]?) : ∀ q : Nat, q < H.size → ¬ Ax [a] H.size q → H1[q]? = H[q]? := fun q _ h => oq q (fun e => h (Or.inl (by rw [e]; exact List.mem_singleton.mpr rfl)))
theorem hS_hq {H : Heap} {as : List Nat} {s : State} {locs : List Loc} (hS : va_S (Ax as s.heap.size) s.heap H locs) : ∀ q : Nat, q < s.heap.size → ¬ Ax as s.heap.size q → H[q]? = s.heap[q]? := fun q h1 h2 => hS.2.1 q h1 h2
theorem Arr1 {s : State} {H : Heap} {a : Nat} (h : IsArr s H a) : ∀ b ∈ [a], IsArr s H b := fun b hb => by rw [List.mem_singleton.mp hb]; exact h
theorem Arr0 {s : State} {H : Heap} : ∀ b ∈ ([] : List Nat), IsArr s H b := fun b hb => by simp at hb
theorem vin0 : vp_in (0 : Int32) 2 := vp_in_nI (n := 0) (by decide) (by decide)
theorem vin1 : vp_in (1 : Int32) 2 := vp_in_nI (n := 1) (by decide) (by decide)
theorem near_nr {T : Nat → Int} (h : near2 T) {k : Nat} (hk : k < 2) : nr (T k) := by
  rcases (show k = 0 ∨ k = 1 by omega) with rfl | rfl
  · exact h.1
  · exact h.2
/-! starts -/
def Pk (D : va_G) (hd ha : Nat) (cD : ClassId) (F : Nat → Option Nat) (T : Nat → Int) (H : Heap) (U : State) : Prop := Dk D hd ha H ∧ Ra D ha cD F H ∧ Pair D F T H ∧ va_K D vwCl [(cD, .object "Duration")] U
theorem Pk.st {D : va_G} {hd ha : Nat} {cD : ClassId} {F : Nat → Option Nat} {T : Nat → Int} (h : Heap) (U U' : State) (hv : U.vm.Alike U'.vm) (q : Pk D hd ha cD F T h U) : Pk D hd ha cD F T h U' := ⟨q.1, q.2.1, q.2.2.1, va_K.moved hv q.2.2.2⟩
def Pkz (D : va_G) (z sz hd ha : Nat) (cD : ClassId) (F : Nat → Option Nat) (T : Nat → Int) (H : Heap) (U : State) : Prop := Pz D z sz H U ∧ Pk D hd ha cD F T H U
theorem Pkz.st {D : va_G} {z sz hd ha : Nat} {cD : ClassId} {F : Nat → Option Nat} {T : Nat → Int} (h : Heap) (U U' : State) (hv : U.vm.Alike U'.vm) (q : Pkz D z sz hd ha cD F T h U) : Pkz D z sz hd ha cD F T h U' := ⟨Pz.st h U U' hv q.1, Pk.st h U U' hv q.2⟩
def Pq (D : va_G) (z sz hd : Nat) (H : Heap) (U : State) : Prop := Pz D z sz H U ∧ Ob D hd 0 [.null] H ∧ va_AO "Duration" U ∧ z ≠ hd
theorem Pq.st {D : va_G} {z sz hd : Nat} (h : Heap) (U U' : State) (hv : U.vm.Alike U'.vm) (q : Pq D z sz hd h U) : Pq D z sz hd h U' := ⟨Pz.st h U U' hv q.1, q.2.1, va_AO.moved hv q.2.2.1, q.2.2.2⟩
set_option maxHeartbeats 4000000 in
set_option maxRecDepth 100000 in
/-- wide(h, l) -/
theorem metX1_wide (l : Launch) (h k : Int32) : Met l yX1_wide (ws_ yX1_wide cX1_wide 2 (some .long)) ({ frames := 0, cells := 0, slots := 0, locals := 0 } : Room) (va_Pc [.int h, .int k] (fun U => P0 U.heap U)) (vp_Sl (fun v => v = wd h k)) 0 0 (fun _ => False) := by
  refine Met.ofW (cc := cX1_wide) (maxL := 2) (ret := (some .long)) (by decide) rfl ?_
  intro p e s m args below meth c s₁ B hml hv
  obtain ⟨rfl, hv⟩ := hv
  have hx := B.exec
  have hb := B.bytes
  have hr := B.returns
  have hts := atoms_spec (ws := ws_ yX1_wide cX1_wide 2 (some .long)) B.pre
  have hts : ∀ w ∈ lw_all, w.before _ s = true := fun w h => hts w (List.mem_cons_of_mem _ h)
  have hown : s.vm.findClass RX1 = some m.cls := findClass_of_methodNamed B.named
  have hlocks := B.notSynchronized
  have hl := lv_entry ([.int h, .int k]) (n := 2) (Nat.le_of_ble_eq_true rfl)
  rw [lg_entry_eq]
  generalize (lg_sl ([.int h, .int k]) ++ List.replicate (2 - (lg_sl ([.int h, .int k])).length) Slot.unset).toArray = ls at hl ⊢
  have hl : lv_has ls 2 [(0, .int h), (1, .int k)] := hl
  refine lv_iload_n (pc := 0) hx hb dX1_wide_0 rfl (lv_at hl 0 rfl) ?_
  refine lv_bipush (pc := 1) (v := 8) hx hb dX1_wide_1 (by decide) ?_
  refine lv_ishr (pc := 3) hx hb dX1_wide_3 ?_
  refine lv_topi (fun v3 e3 => ?_)
  refine lv_i2l (pc := 4) hx hb dX1_wide_4 rfl ?_
  refine lv_topl (fun v4 e4 => ?_)
  refine lv_bipush (pc := 5) (v := 32) hx hb dX1_wide_5 (by decide) ?_
  refine lv_lshl (pc := 7) hx hb dX1_wide_7 rfl ?_
  refine lv_topl (fun v7 e7 => ?_)
  refine lv_iload_n (pc := 8) hx hb dX1_wide_8 rfl (lv_at hl 1 rfl) ?_
  refine lv_i2l (pc := 9) hx hb dX1_wide_9 rfl ?_
  refine lv_topl (fun v9 e9 => ?_)
  refine lv_ldc2 (pc := 10) (v := 4294967295) hx hb hown (hts _ q211) dX1_wide_10 ?_
  refine lv_land (pc := 13) hx hb dX1_wide_13 ?_
  refine lv_topl (fun v13 e13 => ?_)
  refine lv_lor (pc := 14) hx hb dX1_wide_14 ?_
  refine lv_topl (fun v14 e14 => ?_)
  exact W.lret (v := v14) hx hb hr (fun t ht hW => ⟨v14, rfl, by (try dsimp only); rw [e14, e7, e4, e3, e13, e9]; rfl, ht⟩) t_nil dX1_wide_15
set_option maxHeartbeats 4000000 in
set_option maxRecDepth 100000 in
/-- set -/
theorem metX1_set (l : Launch) (D : va_G) (z sz hd ha : Nat) (cD : ClassId) (F : Nat → Option Nat) (T : Nat → Int) (w h k n : Int32) : Met l yX1_set (ws_ yX1_set cX1_set 5 none) ({ frames := 4, cells := 1, slots := 2, locals := 83 } : Room) (va_Pc [.ref hd, .int w, .int h, .int k, .int n] (fun U => (Pkz D z sz hd ha cD F T) U.heap U)) (va_Qv (S := Nat → Option Nat) (fun _ => True) (fun F1 t => Ra D ha cD F1 t.heap ∧ Pair D F1 (tset T (ix w) ((wd h k).toInt * 1000000000 + n.toInt)) t.heap) (Ax [ha] sz)) 1 2 (Ax [ha] sz) := by
  refine Met.ofW (cc := cX1_set) (maxL := 5) (ret := none) (by decide) rfl ?_
  intro p e s m args below meth c s₁ B hml hv
  obtain ⟨rfl, hv⟩ := hv
  have hx := B.exec
  have hb := B.bytes
  have hr := B.returns
  have hts := atoms_spec (ws := ws_ yX1_set cX1_set 5 none) B.pre
  have hts : ∀ w ∈ lw_all, w.before _ s = true := fun w h => hts w (List.mem_cons_of_mem _ h)
  have hown : s.vm.findClass RX1 = some m.cls := findClass_of_methodNamed B.named
  have hlocks := B.notSynchronized
  have hl := lv_entry ([.ref hd, .int w, .int h, .int k, .int n]) (n := 5) (Nat.le_of_ble_eq_true rfl)
  rw [lg_entry_eq]
  generalize (lg_sl ([.ref hd, .int w, .int h, .int k, .int n]) ++ List.replicate (5 - (lg_sl ([.ref hd, .int w, .int h, .int k, .int n])).length) Slot.unset).toArray = ls at hl ⊢
  have hl : lv_has ls 5 [(0, .ref hd), (1, .int w), (2, .int h), (3, .int k), (4, .int n)] := hl
  obtain ⟨⟨hsz, hZ, hz, hK0⟩, hDk, hRa, hPr, hK⟩ := hv
  subst hsz
  have hA : ∀ q : Nat, s.heap.size ≤ q → Ax [ha] s.heap.size q := fun q h => Or.inr h
  have hAa : Ax [ha] s.heap.size ha := Or.inl (List.mem_singleton.mpr rfl)
  have hS : va_S (Ax [ha] s.heap.size) s.heap s.heap [] := va_S.rf
  refine lv_aload_n (pc := 0) hx hb dX1_set_0 rfl (lv_at hl 0 rfl) ?_
  refine va_get (pc := 1) (D := D) (ci := 0) (v := .ref ha) (C := RX1) (T := TX1) (N := 1) hx hb hts in_X1 hown hK hDk 0 rfl rfl 0 (by decide) (hts _ q119) (fun _ h9 => h9) rfl dX1_set_1 ?_
  refine lv_iload_n (pc := 4) hx hb dX1_set_4 rfl (lv_at hl 1 rfl) ?_
  refine lv_iconst (pc := 5) (v := 1) hx hb dX1_set_5 (by decide) ?_
  refine lv_iand (pc := 6) hx hb dX1_set_6 ?_
  refine lv_topi (fun v6 e6 => ?_)
  refine lv_iload_n (pc := 7) hx hb dX1_set_7 rfl (lv_at hl 2 rfl) ?_
  refine lv_iload_n (pc := 8) hx hb dX1_set_8 rfl (lv_at hl 3 rfl) ?_
  refine vp_callSl (pc := 9) (W.runS (As := [.int h, .int k]) (rest := [.int v6, .ref ha]) ⟨hx, hb, hml, hown, hts⟩ (metX1_wide l h k) (va_cwS 2 hts (lw_S q208 q209 q4 q210) rfl rfl rfl (by decide +kernel) ⟨Nat.le_of_ble_eq_true rfl, Nat.le_of_ble_eq_true rfl⟩) (sd_preS P0.st trivial) rfl rfl hl.1 rfl (lv_room (Nat.le_of_ble_eq_true rfl)) dX1_set_9 ⟨Nat.le_of_ble_eq_true rfl, Nat.le_of_ble_eq_true rfl⟩) (fun f9 g9 => ?_)
  replace g9 : f9 = wd h k := g9
  subst g9
  refine lv_iload (pc := 12) hx hb dX1_set_12 (lv_at hl 4 rfl) ?_
  refine lv_i2l (pc := 14) hx hb dX1_set_14 rfl ?_
  refine lv_topl (fun v14 e14 => ?_)
  have h14 : v14.toInt = n.toInt := by rw [e14, Int32.toInt_toInt64]
  have hw1 := wd_in h k
  have hn1 := sd_ib n
  have hF := Axf hS hA (Ax1 hAa)
  have hF0 := Axf hS hA Ax0
  refine va_callr (pc := 15) (va_runS (As := [.long (wd h k), .long v14]) (rest := [.int v6, .ref ha]) ⟨hx, hb, hml, hown, hts⟩ (metX2_ofSeconds l D z s.heap.size (wd h k) v14 (by omega) (by omega)) (va_cwS 2 hts (lw_S q21 q22 q5 q23) rfl rfl rfl (by decide +kernel) ⟨Nat.le_of_ble_eq_true rfl, Nat.le_of_ble_eq_true rfl⟩) (sd_preS Pz.st (⟨rfl, hZ, hz, hK0⟩)) rfl rfl hl.1 rfl (lv_room (Nat.le_of_ble_eq_true rfl)) dX1_set_15 ⟨Nat.le_of_ble_eq_true rfl, Nat.le_of_ble_eq_true rfl⟩) hS (fun q _ h => hF0 q h) hF0 (fun u ra t H1 locs1 ht hvm hp hB hz1 hk1 hS => ?_)
  replace hp : Sp u.1 u.2 ((wd h k).toInt * 1000000000 + v14.toInt) := hp
  replace hB : Du D ra u.1 u.2 t.heap := hB.1
  rw [ht] at hB
  rw [h14] at hp
  have hDk1 := P_up hDk hk1
  have hRa1 := P_up hRa hk1
  have hPr1 := hPr.keep hK Arr0 hk1
  refine sd_aast (pc := 18) hx hb hK hRa1 hB hS hAa 0 rfl (by rw [e6]; exact ix_in w) dX1_set_18 (fun H2 locs2 hRa2 hz2 oq2 hS => ?_)
  have hq2 := oq_hq oq2
  have hAr := Arr1 (isArr_of hK hRa1 0 rfl)
  have hB2 := Du.Ok hK hB hAr hq2
  have hPr2 := hPr1.keep hK hAr hq2
  replace hRa2 : Ra D ha cD (va_up F (ix w) (some ra)) H2 := by rw [e6] at hRa2; exact hRa2
  have hPr3 := hPr2.put (i := ix w) hB2 hp
  refine W.widen (k := 1) (n := 2) (Nat.le_of_ble_eq_true rfl) (Nat.le_of_ble_eq_true rfl) ?_
  exact W.vret hx hb hr (fun t ht hW => ⟨⟨va_up F (ix w) (some ra), rfl, trivial, by (try dsimp only); rw [ht]; exact ⟨hRa2, hPr3⟩⟩, hS.F ht⟩) hS.2.2 dX1_set_19
set_option maxHeartbeats 4000000 in
set_option maxRecDepth 100000 in
/-- room -/
theorem metX1_room (l : Launch) (D : va_G) (hd ha : Nat) (cD : ClassId) (F : Nat → Option Nat) (T : Nat → Int)  : Met l yX1_room (ws_ yX1_room cX1_room 5 (some .boolean)) ({ frames := 1, cells := 0, slots := 0, locals := 23 } : Room) (va_Pc [.ref hd] (fun U => (Pk D hd ha cD F T) U.heap U)) (vp_Si (fun v => v = if near2 T then 1 else 0)) 0 0 (fun _ => False) := by
  refine Met.ofW (cc := cX1_room) (maxL := 5) (ret := (some .boolean)) (by decide) rfl ?_
  intro p e s m args below meth c s₁ B hml hv
  obtain ⟨rfl, hv⟩ := hv
  have hx := B.exec
  have hb := B.bytes
  have hr := B.returns
  have hts := atoms_spec (ws := ws_ yX1_room cX1_room 5 (some .boolean)) B.pre
  have hts : ∀ w ∈ lw_all, w.before _ s = true := fun w h => hts w (List.mem_cons_of_mem _ h)
  have hown : s.vm.findClass RX1 = some m.cls := findClass_of_methodNamed B.named
  have hlocks := B.notSynchronized
  have hl := lv_entry ([.ref hd]) (n := 5) (Nat.le_of_ble_eq_true rfl)
  rw [lg_entry_eq]
  generalize (lg_sl ([.ref hd]) ++ List.replicate (5 - (lg_sl ([.ref hd])).length) Slot.unset).toArray = ls at hl ⊢
  have hl : lv_has ls 5 [(0, .ref hd)] := hl
  obtain ⟨hDk, hRa, hPr, hK⟩ := hv
  have hK0 := hK.sub (tys' := []) [] rfl
  obtain ⟨r0, u0, n0, hF0, hD0, hS0⟩ := hPr 0 (by decide)
  obtain ⟨r1, u1, n1, hF1, hD1, hS1⟩ := hPr 1 (by decide)
  have hs0 := hS0.sec
  have hs1 := hS1.sec
  have k1 : (4611686018427387904 : Int64).toInt = 4611686018427387904 := rfl
  have k2 : (-4611686018427387904 : Int64).toInt = -4611686018427387904 := by decide
  refine lv_aload_n (pc := 0) hx hb dX1_room_0 rfl (lv_at hl 0 rfl) ?_
  refine va_get (pc := 1) (D := D) (ci := 0) (v := .ref ha) (C := RX1) (T := TX1) (N := 1) hx hb hts in_X1 hown hK hDk 0 rfl rfl 0 (by decide) (hts _ q119) (fun _ h9 => h9) rfl dX1_room_1 ?_
  refine lv_iconst (pc := 4) (v := 0) hx hb dX1_room_4 (by decide) ?_
  refine sd_aald (pc := 5) (r := r0) hx hb hK hRa 0 rfl rfl vin0 hF0 dX1_room_5 ?_
  refine vp_callSl (pc := 6) (W.runV (As := []) (rest := []) ⟨hx, hb, hml, hown, hts⟩ (metX2_getSeconds l D r0 u0 n0) (cwV 0 hts (lw_V q142 q143 q144 q5 q145) rfl rfl rfl (by decide +kernel) ⟨Nat.le_of_ble_eq_true rfl, Nat.le_of_ble_eq_true rfl⟩) (sd_preV Pd.st (Du.recv hK0 hD0) (⟨hD0, hK0⟩)) rfl rfl hl.1 rfl (lv_room (Nat.le_of_ble_eq_true rfl)) dX1_room_6 ⟨Nat.le_of_ble_eq_true rfl, Nat.le_of_ble_eq_true rfl⟩) (fun f6 g6 => ?_)
  replace g6 : f6 = u0 := g6
  subst g6
  refine lv_lstore_n (pc := 9) (lv' := [(1, .long f6), (0, .ref hd)]) hx hb dX1_room_9 rfl hl (by decide) rfl (fun ls hl => ?_)
  refine lv_aload_n (pc := 10) hx hb dX1_room_10 rfl (lv_at hl 1 rfl) ?_
  refine va_get (pc := 11) (D := D) (ci := 0) (v := .ref ha) (C := RX1) (T := TX1) (N := 1) hx hb hts in_X1 hown hK hDk 0 rfl rfl 0 (by decide) (hts _ q119) (fun _ h9 => h9) rfl dX1_room_11 ?_
  refine lv_iconst (pc := 14) (v := 1) hx hb dX1_room_14 (by decide) ?_
  refine sd_aald (pc := 15) (r := r1) hx hb hK hRa 0 rfl rfl vin1 hF1 dX1_room_15 ?_
  refine vp_callSl (pc := 16) (W.runV (As := []) (rest := []) ⟨hx, hb, hml, hown, hts⟩ (metX2_getSeconds l D r1 u1 n1) (cwV 0 hts (lw_V q142 q143 q144 q5 q145) rfl rfl rfl (by decide +kernel) ⟨Nat.le_of_ble_eq_true rfl, Nat.le_of_ble_eq_true rfl⟩) (sd_preV Pd.st (Du.recv hK0 hD1) (⟨hD1, hK0⟩)) rfl rfl hl.1 rfl (lv_room (Nat.le_of_ble_eq_true rfl)) dX1_room_16 ⟨Nat.le_of_ble_eq_true rfl, Nat.le_of_ble_eq_true rfl⟩) (fun f16 g16 => ?_)
  replace g16 : f16 = u1 := g16
  subst g16
  refine lv_lstore_n (pc := 19) (lv' := [(3, .long f16), (1, .long f6), (0, .ref hd)]) hx hb dX1_room_19 rfl hl (by decide) rfl (fun ls hl => ?_)
  refine lv_lload_n (pc := 20) hx hb dX1_room_20 rfl (lv_at hl 1 rfl) ?_
  refine lv_ldc2 (pc := 21) (v := 4611686018427387904) hx hb hown (hts _ q231) dX1_room_21 ?_
  refine sd_lge (pc := 24) (tgt := 56) hx hb dX1_room_24 dX1_room_25 (by decide) (fun c24 => ?_) (fun c24 => ?_)
  · refine lv_iconst (pc := 56) (v := 0) hx hb dX1_room_56 (by decide) ?_
    exact W.zret (v := 0) hx hb hr rfl (fun t ht hW => ⟨0, rfl, by (try dsimp only); rw [if_neg (fun q => by obtain ⟨⟨a1, a2⟩, a3, a4⟩ := q; omega)], ht⟩) t_nil dX1_room_57
  · refine lv_lload_n (pc := 28) hx hb dX1_room_28 rfl (lv_at hl 1 rfl) ?_
    refine lv_ldc2 (pc := 29) (v := (-4611686018427387904)) hx hb hown (hts _ q232) dX1_room_29 ?_
    refine sd_lle (pc := 32) (tgt := 56) hx hb dX1_room_32 dX1_room_33 (by decide) (fun c32 => ?_) (fun c32 => ?_)
    · refine lv_iconst (pc := 56) (v := 0) hx hb dX1_room_56 (by decide) ?_
      exact W.zret (v := 0) hx hb hr rfl (fun t ht hW => ⟨0, rfl, by (try dsimp only); rw [if_neg (fun q => by obtain ⟨⟨a1, a2⟩, a3, a4⟩ := q; omega)], ht⟩) t_nil dX1_room_57
    · refine lv_lload_n (pc := 36) hx hb dX1_room_36 rfl (lv_at hl 0 rfl) ?_
      refine lv_ldc2 (pc := 37) (v := 4611686018427387904) hx hb hown (hts _ q231) dX1_room_37 ?_
      refine sd_lge (pc := 40) (tgt := 56) hx hb dX1_room_40 dX1_room_41 (by decide) (fun c40 => ?_) (fun c40 => ?_)
      · refine lv_iconst (pc := 56) (v := 0) hx hb dX1_room_56 (by decide) ?_
        exact W.zret (v := 0) hx hb hr rfl (fun t ht hW => ⟨0, rfl, by (try dsimp only); rw [if_neg (fun q => by obtain ⟨⟨a1, a2⟩, a3, a4⟩ := q; omega)], ht⟩) t_nil dX1_room_57
      · refine lv_lload_n (pc := 44) hx hb dX1_room_44 rfl (lv_at hl 0 rfl) ?_
        refine lv_ldc2 (pc := 45) (v := (-4611686018427387904)) hx hb hown (hts _ q232) dX1_room_45 ?_
        refine sd_lle (pc := 48) (tgt := 56) hx hb dX1_room_48 dX1_room_49 (by decide) (fun c48 => ?_) (fun c48 => ?_)
        · refine lv_iconst (pc := 56) (v := 0) hx hb dX1_room_56 (by decide) ?_
          exact W.zret (v := 0) hx hb hr rfl (fun t ht hW => ⟨0, rfl, by (try dsimp only); rw [if_neg (fun q => by obtain ⟨⟨a1, a2⟩, a3, a4⟩ := q; omega)], ht⟩) t_nil dX1_room_57
        · refine lv_iconst (pc := 52) (v := 1) hx hb dX1_room_52 (by decide) ?_
          refine lv_goto (pc := 53) (tgt := 57) hx hb dX1_room_53 (by decide) ?_
          exact W.zret (v := 1) hx hb hr rfl (fun t ht hW => ⟨1, rfl, by (try dsimp only); rw [if_pos ⟨⟨by omega, by omega⟩, by omega, by omega⟩], ht⟩) t_nil dX1_room_57
set_option maxHeartbeats 4000000 in
set_option maxRecDepth 100000 in
/-- plus -/
theorem metX1_plus (l : Launch) (D : va_G) (z sz hd ha : Nat) (cD : ClassId) (F : Nat → Option Nat) (T : Nat → Int) (w n : Int32) : Met l yX1_plus (ws_ yX1_plus cX1_plus 2 (some .boolean)) ({ frames := 6, cells := 1, slots := 2, locals := 135 } : Room) (va_Pc [.ref hd, .int w] (fun U => (Pkz D z sz hd ha cD F T) U.heap U)) (va_Qi (S := Nat → Option Nat) (fun r _ => r = if near2 T then 1 else 0) (fun F1 t => Ra D ha cD F1 t.heap ∧ Pair D F1 (chg 0 (ix w) n T) t.heap) (Ax [ha] sz)) 1 2 (Ax [ha] sz) := by
  refine Met.ofW (cc := cX1_plus) (maxL := 2) (ret := (some .boolean)) (by decide) rfl ?_
  intro p e s m args below meth c s₁ B hml hv
  obtain ⟨rfl, hv⟩ := hv
  have hx := B.exec
  have hb := B.bytes
  have hr := B.returns
  have hts := atoms_spec (ws := ws_ yX1_plus cX1_plus 2 (some .boolean)) B.pre
  have hts : ∀ w ∈ lw_all, w.before _ s = true := fun w h => hts w (List.mem_cons_of_mem _ h)
  have hown : s.vm.findClass RX1 = some m.cls := findClass_of_methodNamed B.named
  have hlocks := B.notSynchronized
  have hl := lv_entry ([.ref hd, .int w]) (n := 2) (Nat.le_of_ble_eq_true rfl)
  rw [lg_entry_eq]
  generalize (lg_sl ([.ref hd, .int w]) ++ List.replicate (2 - (lg_sl ([.ref hd, .int w])).length) Slot.unset).toArray = ls at hl ⊢
  have hl : lv_has ls 2 [(0, .ref hd), (1, .int w)] := hl
  obtain ⟨⟨hsz, hZ, hz, hK0⟩, hDk, hRa, hPr, hK⟩ := hv
  subst hsz
  have hA : ∀ q : Nat, s.heap.size ≤ q → Ax [ha] s.heap.size q := fun q h => Or.inr h
  have hAa : Ax [ha] s.heap.size ha := Or.inl (List.mem_singleton.mpr rfl)
  have hS : va_S (Ax [ha] s.heap.size) s.heap s.heap [] := va_S.rf
  refine lv_aload_n (pc := 0) hx hb dX1_plus_0 rfl (lv_at hl 0 rfl) ?_
  refine vp_callSi (pc := 1) (W.runV (As := []) (rest := []) ⟨hx, hb, hml, hown, hts⟩ (metX1_room l D hd ha cD F T) (cwV 0 hts (lw_V q227 q229 qs1 q4 q230) rfl rfl rfl (by decide +kernel) ⟨Nat.le_of_ble_eq_true rfl, Nat.le_of_ble_eq_true rfl⟩) (sd_preV Pk.st (va_recv hK0 hDk (ci := 0) (q0 := 0) rfl rfl) (⟨hDk, hRa, hPr, hK⟩)) rfl rfl hl.1 rfl (lv_room (Nat.le_of_ble_eq_true rfl)) dX1_plus_1 ⟨Nat.le_of_ble_eq_true rfl, Nat.le_of_ble_eq_true rfl⟩) (fun f1 g1 => ?_)
  replace g1 : f1 = if near2 T then 1 else 0 := g1
  refine lv_if_ne (pc := 4) (tgt := 9) hx hb dX1_plus_4 (by decide) (fun c4 => ?_) (fun c4 => ?_)
  · have hn : near2 T := Classical.byContradiction fun q => by rw [if_neg q] at g1; exact c4 g1
    obtain ⟨ri, ui, ni, hFi, hDi, hSi⟩ := hPr (ix w) (ix_lt w)
    have hni := near_nr hn (ix_lt w)
    have hsi := hSi.sec
    have hF := Axf hS hA (Ax1 hAa)
    have hF0 := Axf hS hA Ax0
    obtain ⟨rj, uj, nj, hFj, hDj, hSj⟩ := hPr (1 - ix w) (by omega)
    have hnj := near_nr hn (show 1 - ix w < 2 by omega)
    have hsj := hSj.sec
    refine lv_aload_n (pc := 9) hx hb dX1_plus_9 rfl (lv_at hl 0 rfl) ?_
    refine va_get (pc := 10) (D := D) (ci := 0) (v := .ref ha) (C := RX1) (T := TX1) (N := 1) hx hb hts in_X1 hown hK hDk 0 rfl rfl 0 (by decide) (hts _ q119) (fun _ h9 => h9) rfl dX1_plus_10 ?_
    refine lv_iload_n (pc := 13) hx hb dX1_plus_13 rfl (lv_at hl 1 rfl) ?_
    refine lv_iconst (pc := 14) (v := 1) hx hb dX1_plus_14 (by decide) ?_
    refine lv_iand (pc := 15) hx hb dX1_plus_15 ?_
    refine lv_topi (fun v15 e15 => ?_)
    refine lv_aload_n (pc := 16) hx hb dX1_plus_16 rfl (lv_at hl 0 rfl) ?_
    refine va_get (pc := 17) (D := D) (ci := 0) (v := .ref ha) (C := RX1) (T := TX1) (N := 1) hx hb hts in_X1 hown hK hDk 0 rfl rfl 0 (by decide) (hts _ q119) (fun _ h9 => h9) rfl dX1_plus_17 ?_
    refine lv_iload_n (pc := 20) hx hb dX1_plus_20 rfl (lv_at hl 1 rfl) ?_
    refine lv_iconst (pc := 21) (v := 1) hx hb dX1_plus_21 (by decide) ?_
    refine lv_iand (pc := 22) hx hb dX1_plus_22 ?_
    refine lv_topi (fun v22 e22 => ?_)
    refine sd_aald (pc := 23) (r := ri) hx hb hK hRa 0 rfl rfl (by rw [e22]; exact ix_in w) (by rw [e22]; exact hFi) dX1_plus_23 ?_
    refine lv_aload_n (pc := 24) hx hb dX1_plus_24 rfl (lv_at hl 0 rfl) ?_
    refine va_get (pc := 25) (D := D) (ci := 0) (v := .ref ha) (C := RX1) (T := TX1) (N := 1) hx hb hts in_X1 hown hK hDk 0 rfl rfl 0 (by decide) (hts _ q119) (fun _ h9 => h9) rfl dX1_plus_25 ?_
    refine lv_iload_n (pc := 28) hx hb dX1_plus_28 rfl (lv_at hl 1 rfl) ?_
    refine lv_iconst (pc := 29) (v := (-1)) hx hb dX1_plus_29 (by decide) ?_
    refine lv_ixor (pc := 30) hx hb dX1_plus_30 ?_
    refine lv_topi (fun v30 e30 => ?_)
    refine lv_iconst (pc := 31) (v := 1) hx hb dX1_plus_31 (by decide) ?_
    refine lv_iand (pc := 32) hx hb dX1_plus_32 ?_
    refine lv_topi (fun v32 e32 => ?_)
    refine sd_aald (pc := 33) (r := rj) hx hb hK hRa 0 rfl rfl (by rw [e32]; exact ix_in v30) (by rw [e32, e30]; show F (ix (w ^^^ (-1))) = some rj; rw [ix_not]; exact hFj) dX1_plus_33 ?_
    refine va_callr (pc := 34) (va_runV (As := [.ref rj]) (rest := [.int v15, .ref ha]) ⟨hx, hb, hml, hown, hts⟩ (metX2_plus l D z s.heap.size ri ui ni (T (ix w)) rj uj nj (T (1 - ix w)) hSi (by omega) (by omega) hSj (by omega) (by omega)) (cwV 1 hts (lw_V q233 q234 q235 q5 q236) rfl rfl rfl (by decide +kernel) ⟨Nat.le_of_ble_eq_true rfl, Nat.le_of_ble_eq_true rfl⟩) (sd_preV Pzd2.st (Du.recv hK0 hDi) (⟨⟨rfl, hZ, hz, hK0⟩, hDi, hDj⟩)) rfl rfl hl.1 rfl (lv_room (Nat.le_of_ble_eq_true rfl)) dX1_plus_34 ⟨Nat.le_of_ble_eq_true rfl, Nat.le_of_ble_eq_true rfl⟩) hS (fun q _ h => hF0 q h) hF0 (fun u ra t H1 locs1 ht hvm hp hB hz1 hk1 hS => ?_)
    replace hp : Sp u.1 u.2 (T (ix w) + T (1 - ix w)) := hp
    replace hB : Du D ra u.1 u.2 t.heap := hB
    rw [ht] at hB
    replace hp : Sp u.1 u.2 (T (ix w) + dlt 0 T (ix w) n) := hp
    have hDk1 := P_up hDk hk1
    have hRa1 := P_up hRa hk1
    have hPr1 := hPr.keep hK Arr0 hk1
    refine sd_aast (pc := 37) hx hb hK hRa1 hB hS hAa 0 rfl (by rw [e15]; exact ix_in w) dX1_plus_37 (fun H2 locs2 hRa2 hz2 oq2 hS => ?_)
    have hq2 := oq_hq oq2
    have hAr := Arr1 (isArr_of hK hRa1 0 rfl)
    have hB2 := Du.Ok hK hB hAr hq2
    have hPr2 := hPr1.keep hK hAr hq2
    replace hRa2 : Ra D ha cD (va_up F (ix w) (some ra)) H2 := by rw [e15] at hRa2; exact hRa2
    have hPr3 := hPr2.put (i := ix w) hB2 hp
    rw [← chg_yes hn] at hPr3
    refine lv_iconst (pc := 38) (v := 1) hx hb dX1_plus_38 (by decide) ?_
    refine W.widen (k := 1) (n := 2) (Nat.le_of_ble_eq_true rfl) (Nat.le_of_ble_eq_true rfl) ?_
    exact W.zret (v := 1) hx hb hr rfl (fun t ht hW => ⟨⟨1, va_up F (ix w) (some ra), rfl, by rw [if_pos hn], by (try dsimp only); rw [ht]; exact ⟨hRa2, hPr3⟩⟩, hS.F ht⟩) hS.2.2 dX1_plus_39
  · have hnn : ¬ near2 T := fun q => by rw [if_pos q] at g1; rw [g1] at c4; exact absurd c4 (by decide)
    refine lv_iconst (pc := 7) (v := 0) hx hb dX1_plus_7 (by decide) ?_
    refine W.widen (k := 1) (n := 2) (Nat.zero_le _) (Nat.zero_le _) ?_
    exact W.zret (v := 0) hx hb hr rfl (fun t ht hW => ⟨⟨0, F, rfl, by rw [if_neg hnn], by (try dsimp only); rw [ht, chg_no hnn]; exact ⟨hRa, hPr⟩⟩, hS.F ht⟩) hS.2.2 dX1_plus_8
set_option maxHeartbeats 4000000 in
set_option maxRecDepth 100000 in
/-- minus -/
theorem metX1_minus (l : Launch) (D : va_G) (z sz hd ha : Nat) (cD : ClassId) (F : Nat → Option Nat) (T : Nat → Int) (w n : Int32) : Met l yX1_minus (ws_ yX1_minus cX1_minus 2 (some .boolean)) ({ frames := 6, cells := 1, slots := 2, locals := 135 } : Room) (va_Pc [.ref hd, .int w] (fun U => (Pkz D z sz hd ha cD F T) U.heap U)) (va_Qi (S := Nat → Option Nat) (fun r _ => r = if near2 T then 1 else 0) (fun F1 t => Ra D ha cD F1 t.heap ∧ Pair D F1 (chg 1 (ix w) n T) t.heap) (Ax [ha] sz)) 1 2 (Ax [ha] sz) := by
  refine Met.ofW (cc := cX1_minus) (maxL := 2) (ret := (some .boolean)) (by decide) rfl ?_
  intro p e s m args below meth c s₁ B hml hv
  obtain ⟨rfl, hv⟩ := hv
  have hx := B.exec
  have hb := B.bytes
  have hr := B.returns
  have hts := atoms_spec (ws := ws_ yX1_minus cX1_minus 2 (some .boolean)) B.pre
  have hts : ∀ w ∈ lw_all, w.before _ s = true := fun w h => hts w (List.mem_cons_of_mem _ h)
  have hown : s.vm.findClass RX1 = some m.cls := findClass_of_methodNamed B.named
  have hlocks := B.notSynchronized
  have hl := lv_entry ([.ref hd, .int w]) (n := 2) (Nat.le_of_ble_eq_true rfl)
  rw [lg_entry_eq]
  generalize (lg_sl ([.ref hd, .int w]) ++ List.replicate (2 - (lg_sl ([.ref hd, .int w])).length) Slot.unset).toArray = ls at hl ⊢
  have hl : lv_has ls 2 [(0, .ref hd), (1, .int w)] := hl
  obtain ⟨⟨hsz, hZ, hz, hK0⟩, hDk, hRa, hPr, hK⟩ := hv
  subst hsz
  have hA : ∀ q : Nat, s.heap.size ≤ q → Ax [ha] s.heap.size q := fun q h => Or.inr h
  have hAa : Ax [ha] s.heap.size ha := Or.inl (List.mem_singleton.mpr rfl)
  have hS : va_S (Ax [ha] s.heap.size) s.heap s.heap [] := va_S.rf
  refine lv_aload_n (pc := 0) hx hb dX1_minus_0 rfl (lv_at hl 0 rfl) ?_
  refine vp_callSi (pc := 1) (W.runV (As := []) (rest := []) ⟨hx, hb, hml, hown, hts⟩ (metX1_room l D hd ha cD F T) (cwV 0 hts (lw_V q227 q229 qs1 q4 q230) rfl rfl rfl (by decide +kernel) ⟨Nat.le_of_ble_eq_true rfl, Nat.le_of_ble_eq_true rfl⟩) (sd_preV Pk.st (va_recv hK0 hDk (ci := 0) (q0 := 0) rfl rfl) (⟨hDk, hRa, hPr, hK⟩)) rfl rfl hl.1 rfl (lv_room (Nat.le_of_ble_eq_true rfl)) dX1_minus_1 ⟨Nat.le_of_ble_eq_true rfl, Nat.le_of_ble_eq_true rfl⟩) (fun f1 g1 => ?_)
  replace g1 : f1 = if near2 T then 1 else 0 := g1
  refine lv_if_ne (pc := 4) (tgt := 9) hx hb dX1_minus_4 (by decide) (fun c4 => ?_) (fun c4 => ?_)
  · have hn : near2 T := Classical.byContradiction fun q => by rw [if_neg q] at g1; exact c4 g1
    obtain ⟨ri, ui, ni, hFi, hDi, hSi⟩ := hPr (ix w) (ix_lt w)
    have hni := near_nr hn (ix_lt w)
    have hsi := hSi.sec
    have hF := Axf hS hA (Ax1 hAa)
    have hF0 := Axf hS hA Ax0
    obtain ⟨rj, uj, nj, hFj, hDj, hSj⟩ := hPr (1 - ix w) (by omega)
    have hnj := near_nr hn (show 1 - ix w < 2 by omega)
    have hsj := hSj.sec
    refine lv_aload_n (pc := 9) hx hb dX1_minus_9 rfl (lv_at hl 0 rfl) ?_
    refine va_get (pc := 10) (D := D) (ci := 0) (v := .ref ha) (C := RX1) (T := TX1) (N := 1) hx hb hts in_X1 hown hK hDk 0 rfl rfl 0 (by decide) (hts _ q119) (fun _ h9 => h9) rfl dX1_minus_10 ?_
    refine lv_iload_n (pc := 13) hx hb dX1_minus_13 rfl (lv_at hl 1 rfl) ?_
    refine lv_iconst (pc := 14) (v := 1) hx hb dX1_minus_14 (by decide) ?_
    refine lv_iand (pc := 15) hx hb dX1_minus_15 ?_
    refine lv_topi (fun v15 e15 => ?_)
    refine lv_aload_n (pc := 16) hx hb dX1_minus_16 rfl (lv_at hl 0 rfl) ?_
    refine va_get (pc := 17) (D := D) (ci := 0) (v := .ref ha) (C := RX1) (T := TX1) (N := 1) hx hb hts in_X1 hown hK hDk 0 rfl rfl 0 (by decide) (hts _ q119) (fun _ h9 => h9) rfl dX1_minus_17 ?_
    refine lv_iload_n (pc := 20) hx hb dX1_minus_20 rfl (lv_at hl 1 rfl) ?_
    refine lv_iconst (pc := 21) (v := 1) hx hb dX1_minus_21 (by decide) ?_
    refine lv_iand (pc := 22) hx hb dX1_minus_22 ?_
    refine lv_topi (fun v22 e22 => ?_)
    refine sd_aald (pc := 23) (r := ri) hx hb hK hRa 0 rfl rfl (by rw [e22]; exact ix_in w) (by rw [e22]; exact hFi) dX1_minus_23 ?_
    refine lv_aload_n (pc := 24) hx hb dX1_minus_24 rfl (lv_at hl 0 rfl) ?_
    refine va_get (pc := 25) (D := D) (ci := 0) (v := .ref ha) (C := RX1) (T := TX1) (N := 1) hx hb hts in_X1 hown hK hDk 0 rfl rfl 0 (by decide) (hts _ q119) (fun _ h9 => h9) rfl dX1_minus_25 ?_
    refine lv_iload_n (pc := 28) hx hb dX1_minus_28 rfl (lv_at hl 1 rfl) ?_
    refine lv_iconst (pc := 29) (v := (-1)) hx hb dX1_minus_29 (by decide) ?_
    refine lv_ixor (pc := 30) hx hb dX1_minus_30 ?_
    refine lv_topi (fun v30 e30 => ?_)
    refine lv_iconst (pc := 31) (v := 1) hx hb dX1_minus_31 (by decide) ?_
    refine lv_iand (pc := 32) hx hb dX1_minus_32 ?_
    refine lv_topi (fun v32 e32 => ?_)
    refine sd_aald (pc := 33) (r := rj) hx hb hK hRa 0 rfl rfl (by rw [e32]; exact ix_in v30) (by rw [e32, e30]; show F (ix (w ^^^ (-1))) = some rj; rw [ix_not]; exact hFj) dX1_minus_33 ?_
    refine va_callr (pc := 34) (va_runV (As := [.ref rj]) (rest := [.int v15, .ref ha]) ⟨hx, hb, hml, hown, hts⟩ (metX2_minus l D z s.heap.size ri ui ni (T (ix w)) rj uj nj (T (1 - ix w)) hSi (by omega) (by omega) hSj (by omega) (by omega)) (cwV 1 hts (lw_V q248 q249 q250 q5 q251) rfl rfl rfl (by decide +kernel) ⟨Nat.le_of_ble_eq_true rfl, Nat.le_of_ble_eq_true rfl⟩) (sd_preV Pzd2.st (Du.recv hK0 hDi) (⟨⟨rfl, hZ, hz, hK0⟩, hDi, hDj⟩)) rfl rfl hl.1 rfl (lv_room (Nat.le_of_ble_eq_true rfl)) dX1_minus_34 ⟨Nat.le_of_ble_eq_true rfl, Nat.le_of_ble_eq_true rfl⟩) hS (fun q _ h => hF0 q h) hF0 (fun u ra t H1 locs1 ht hvm hp hB hz1 hk1 hS => ?_)
    replace hp : Sp u.1 u.2 (T (ix w) - T (1 - ix w)) := hp
    replace hB : Du D ra u.1 u.2 t.heap := hB
    rw [ht] at hB
    replace hp : Sp u.1 u.2 (T (ix w) + dlt 1 T (ix w) n) := hp
    have hDk1 := P_up hDk hk1
    have hRa1 := P_up hRa hk1
    have hPr1 := hPr.keep hK Arr0 hk1
    refine sd_aast (pc := 37) hx hb hK hRa1 hB hS hAa 0 rfl (by rw [e15]; exact ix_in w) dX1_minus_37 (fun H2 locs2 hRa2 hz2 oq2 hS => ?_)
    have hq2 := oq_hq oq2
    have hAr := Arr1 (isArr_of hK hRa1 0 rfl)
    have hB2 := Du.Ok hK hB hAr hq2
    have hPr2 := hPr1.keep hK hAr hq2
    replace hRa2 : Ra D ha cD (va_up F (ix w) (some ra)) H2 := by rw [e15] at hRa2; exact hRa2
    have hPr3 := hPr2.put (i := ix w) hB2 hp
    rw [← chg_yes hn] at hPr3
    refine lv_iconst (pc := 38) (v := 1) hx hb dX1_minus_38 (by decide) ?_
    refine W.widen (k := 1) (n := 2) (Nat.le_of_ble_eq_true rfl) (Nat.le_of_ble_eq_true rfl) ?_
    exact W.zret (v := 1) hx hb hr rfl (fun t ht hW => ⟨⟨1, va_up F (ix w) (some ra), rfl, by rw [if_pos hn], by (try dsimp only); rw [ht]; exact ⟨hRa2, hPr3⟩⟩, hS.F ht⟩) hS.2.2 dX1_minus_39
  · have hnn : ¬ near2 T := fun q => by rw [if_pos q] at g1; rw [g1] at c4; exact absurd c4 (by decide)
    refine lv_iconst (pc := 7) (v := 0) hx hb dX1_minus_7 (by decide) ?_
    refine W.widen (k := 1) (n := 2) (Nat.zero_le _) (Nat.zero_le _) ?_
    exact W.zret (v := 0) hx hb hr rfl (fun t ht hW => ⟨⟨0, F, rfl, by rw [if_neg hnn], by (try dsimp only); rw [ht, chg_no hnn]; exact ⟨hRa, hPr⟩⟩, hS.F ht⟩) hS.2.2 dX1_minus_8
set_option maxHeartbeats 4000000 in
set_option maxRecDepth 100000 in
/-- seconds -/
theorem metX1_seconds (l : Launch) (D : va_G) (z sz hd ha : Nat) (cD : ClassId) (F : Nat → Option Nat) (T : Nat → Int) (w n : Int32) : Met l yX1_seconds (ws_ yX1_seconds cX1_seconds 3 (some .boolean)) ({ frames := 6, cells := 1, slots := 2, locals := 135 } : Room) (va_Pc [.ref hd, .int w, .int n] (fun U => (Pkz D z sz hd ha cD F T) U.heap U)) (va_Qi (S := Nat → Option Nat) (fun r _ => r = if near2 T then 1 else 0) (fun F1 t => Ra D ha cD F1 t.heap ∧ Pair D F1 (chg 2 (ix w) n T) t.heap) (Ax [ha] sz)) 1 2 (Ax [ha] sz) := by
  refine Met.ofW (cc := cX1_seconds) (maxL := 3) (ret := (some .boolean)) (by decide) rfl ?_
  intro p e s m args below meth c s₁ B hml hv
  obtain ⟨rfl, hv⟩ := hv
  have hx := B.exec
  have hb := B.bytes
  have hr := B.returns
  have hts := atoms_spec (ws := ws_ yX1_seconds cX1_seconds 3 (some .boolean)) B.pre
  have hts : ∀ w ∈ lw_all, w.before _ s = true := fun w h => hts w (List.mem_cons_of_mem _ h)
  have hown : s.vm.findClass RX1 = some m.cls := findClass_of_methodNamed B.named
  have hlocks := B.notSynchronized
  have hl := lv_entry ([.ref hd, .int w, .int n]) (n := 3) (Nat.le_of_ble_eq_true rfl)
  rw [lg_entry_eq]
  generalize (lg_sl ([.ref hd, .int w, .int n]) ++ List.replicate (3 - (lg_sl ([.ref hd, .int w, .int n])).length) Slot.unset).toArray = ls at hl ⊢
  have hl : lv_has ls 3 [(0, .ref hd), (1, .int w), (2, .int n)] := hl
  obtain ⟨⟨hsz, hZ, hz, hK0⟩, hDk, hRa, hPr, hK⟩ := hv
  subst hsz
  have hA : ∀ q : Nat, s.heap.size ≤ q → Ax [ha] s.heap.size q := fun q h => Or.inr h
  have hAa : Ax [ha] s.heap.size ha := Or.inl (List.mem_singleton.mpr rfl)
  have hS : va_S (Ax [ha] s.heap.size) s.heap s.heap [] := va_S.rf
  refine lv_aload_n (pc := 0) hx hb dX1_seconds_0 rfl (lv_at hl 0 rfl) ?_
  refine vp_callSi (pc := 1) (W.runV (As := []) (rest := []) ⟨hx, hb, hml, hown, hts⟩ (metX1_room l D hd ha cD F T) (cwV 0 hts (lw_V q227 q229 qs1 q4 q230) rfl rfl rfl (by decide +kernel) ⟨Nat.le_of_ble_eq_true rfl, Nat.le_of_ble_eq_true rfl⟩) (sd_preV Pk.st (va_recv hK0 hDk (ci := 0) (q0 := 0) rfl rfl) (⟨hDk, hRa, hPr, hK⟩)) rfl rfl hl.1 rfl (lv_room (Nat.le_of_ble_eq_true rfl)) dX1_seconds_1 ⟨Nat.le_of_ble_eq_true rfl, Nat.le_of_ble_eq_true rfl⟩) (fun f1 g1 => ?_)
  replace g1 : f1 = if near2 T then 1 else 0 := g1
  refine lv_if_ne (pc := 4) (tgt := 9) hx hb dX1_seconds_4 (by decide) (fun c4 => ?_) (fun c4 => ?_)
  · have hn : near2 T := Classical.byContradiction fun q => by rw [if_neg q] at g1; exact c4 g1
    obtain ⟨ri, ui, ni, hFi, hDi, hSi⟩ := hPr (ix w) (ix_lt w)
    have hni := near_nr hn (ix_lt w)
    have hsi := hSi.sec
    have hF := Axf hS hA (Ax1 hAa)
    have hF0 := Axf hS hA Ax0
    refine lv_aload_n (pc := 9) hx hb dX1_seconds_9 rfl (lv_at hl 0 rfl) ?_
    refine va_get (pc := 10) (D := D) (ci := 0) (v := .ref ha) (C := RX1) (T := TX1) (N := 1) hx hb hts in_X1 hown hK hDk 0 rfl rfl 0 (by decide) (hts _ q119) (fun _ h9 => h9) rfl dX1_seconds_10 ?_
    refine lv_iload_n (pc := 13) hx hb dX1_seconds_13 rfl (lv_at hl 1 rfl) ?_
    refine lv_iconst (pc := 14) (v := 1) hx hb dX1_seconds_14 (by decide) ?_
    refine lv_iand (pc := 15) hx hb dX1_seconds_15 ?_
    refine lv_topi (fun v15 e15 => ?_)
    refine lv_aload_n (pc := 16) hx hb dX1_seconds_16 rfl (lv_at hl 0 rfl) ?_
    refine va_get (pc := 17) (D := D) (ci := 0) (v := .ref ha) (C := RX1) (T := TX1) (N := 1) hx hb hts in_X1 hown hK hDk 0 rfl rfl 0 (by decide) (hts _ q119) (fun _ h9 => h9) rfl dX1_seconds_17 ?_
    refine lv_iload_n (pc := 20) hx hb dX1_seconds_20 rfl (lv_at hl 1 rfl) ?_
    refine lv_iconst (pc := 21) (v := 1) hx hb dX1_seconds_21 (by decide) ?_
    refine lv_iand (pc := 22) hx hb dX1_seconds_22 ?_
    refine lv_topi (fun v22 e22 => ?_)
    refine sd_aald (pc := 23) (r := ri) hx hb hK hRa 0 rfl rfl (by rw [e22]; exact ix_in w) (by rw [e22]; exact hFi) dX1_seconds_23 ?_
    refine lv_iload_n (pc := 24) hx hb dX1_seconds_24 rfl (lv_at hl 2 rfl) ?_
    refine lv_i2l (pc := 25) hx hb dX1_seconds_25 rfl ?_
    refine lv_topl (fun v25 e25 => ?_)
    have h25 : v25.toInt = n.toInt := by rw [e25, Int32.toInt_toInt64]
    have hn1 := sd_ib n
    refine va_callr (pc := 26) (va_runV (As := [.long v25]) (rest := [.int v15, .ref ha]) ⟨hx, hb, hml, hown, hts⟩ (metX2_plusSeconds l D z s.heap.size ri ui ni (T (ix w)) v25 hSi (by omega) (by omega) (by omega) (by omega)) (cwV 1 hts (lw_V q258 q259 q260 q5 q261) rfl rfl rfl (by decide +kernel) ⟨Nat.le_of_ble_eq_true rfl, Nat.le_of_ble_eq_true rfl⟩) (sd_preV Pzd.st (Du.recv hK0 hDi) (⟨⟨rfl, hZ, hz, hK0⟩, hDi⟩)) rfl rfl hl.1 rfl (lv_room (Nat.le_of_ble_eq_true rfl)) dX1_seconds_26 ⟨Nat.le_of_ble_eq_true rfl, Nat.le_of_ble_eq_true rfl⟩) hS (fun q _ h => hF0 q h) hF0 (fun u ra t H1 locs1 ht hvm hp hB hz1 hk1 hS => ?_)
    replace hp : Sp u.1 u.2 (T (ix w) + v25.toInt * 1000000000) := hp
    replace hB : Du D ra u.1 u.2 t.heap := hB
    rw [ht] at hB
    rw [h25] at hp
    replace hp : Sp u.1 u.2 (T (ix w) + dlt 2 T (ix w) n) := hp
    have hDk1 := P_up hDk hk1
    have hRa1 := P_up hRa hk1
    have hPr1 := hPr.keep hK Arr0 hk1
    refine sd_aast (pc := 29) hx hb hK hRa1 hB hS hAa 0 rfl (by rw [e15]; exact ix_in w) dX1_seconds_29 (fun H2 locs2 hRa2 hz2 oq2 hS => ?_)
    have hq2 := oq_hq oq2
    have hAr := Arr1 (isArr_of hK hRa1 0 rfl)
    have hB2 := Du.Ok hK hB hAr hq2
    have hPr2 := hPr1.keep hK hAr hq2
    replace hRa2 : Ra D ha cD (va_up F (ix w) (some ra)) H2 := by rw [e15] at hRa2; exact hRa2
    have hPr3 := hPr2.put (i := ix w) hB2 hp
    rw [← chg_yes hn] at hPr3
    refine lv_iconst (pc := 30) (v := 1) hx hb dX1_seconds_30 (by decide) ?_
    refine W.widen (k := 1) (n := 2) (Nat.le_of_ble_eq_true rfl) (Nat.le_of_ble_eq_true rfl) ?_
    exact W.zret (v := 1) hx hb hr rfl (fun t ht hW => ⟨⟨1, va_up F (ix w) (some ra), rfl, by rw [if_pos hn], by (try dsimp only); rw [ht]; exact ⟨hRa2, hPr3⟩⟩, hS.F ht⟩) hS.2.2 dX1_seconds_31
  · have hnn : ¬ near2 T := fun q => by rw [if_pos q] at g1; rw [g1] at c4; exact absurd c4 (by decide)
    refine lv_iconst (pc := 7) (v := 0) hx hb dX1_seconds_7 (by decide) ?_
    refine W.widen (k := 1) (n := 2) (Nat.zero_le _) (Nat.zero_le _) ?_
    exact W.zret (v := 0) hx hb hr rfl (fun t ht hW => ⟨⟨0, F, rfl, by rw [if_neg hnn], by (try dsimp only); rw [ht, chg_no hnn]; exact ⟨hRa, hPr⟩⟩, hS.F ht⟩) hS.2.2 dX1_seconds_8
set_option maxHeartbeats 4000000 in
set_option maxRecDepth 100000 in
/-- millis -/
theorem metX1_millis (l : Launch) (D : va_G) (z sz hd ha : Nat) (cD : ClassId) (F : Nat → Option Nat) (T : Nat → Int) (w n : Int32) : Met l yX1_millis (ws_ yX1_millis cX1_millis 3 (some .boolean)) ({ frames := 6, cells := 1, slots := 2, locals := 135 } : Room) (va_Pc [.ref hd, .int w, .int n] (fun U => (Pkz D z sz hd ha cD F T) U.heap U)) (va_Qi (S := Nat → Option Nat) (fun r _ => r = if near2 T then 1 else 0) (fun F1 t => Ra D ha cD F1 t.heap ∧ Pair D F1 (chg 3 (ix w) n T) t.heap) (Ax [ha] sz)) 1 2 (Ax [ha] sz) := by
  refine Met.ofW (cc := cX1_millis) (maxL := 3) (ret := (some .boolean)) (by decide) rfl ?_
  intro p e s m args below meth c s₁ B hml hv
  obtain ⟨rfl, hv⟩ := hv
  have hx := B.exec
  have hb := B.bytes
  have hr := B.returns
  have hts := atoms_spec (ws := ws_ yX1_millis cX1_millis 3 (some .boolean)) B.pre
  have hts : ∀ w ∈ lw_all, w.before _ s = true := fun w h => hts w (List.mem_cons_of_mem _ h)
  have hown : s.vm.findClass RX1 = some m.cls := findClass_of_methodNamed B.named
  have hlocks := B.notSynchronized
  have hl := lv_entry ([.ref hd, .int w, .int n]) (n := 3) (Nat.le_of_ble_eq_true rfl)
  rw [lg_entry_eq]
  generalize (lg_sl ([.ref hd, .int w, .int n]) ++ List.replicate (3 - (lg_sl ([.ref hd, .int w, .int n])).length) Slot.unset).toArray = ls at hl ⊢
  have hl : lv_has ls 3 [(0, .ref hd), (1, .int w), (2, .int n)] := hl
  obtain ⟨⟨hsz, hZ, hz, hK0⟩, hDk, hRa, hPr, hK⟩ := hv
  subst hsz
  have hA : ∀ q : Nat, s.heap.size ≤ q → Ax [ha] s.heap.size q := fun q h => Or.inr h
  have hAa : Ax [ha] s.heap.size ha := Or.inl (List.mem_singleton.mpr rfl)
  have hS : va_S (Ax [ha] s.heap.size) s.heap s.heap [] := va_S.rf
  refine lv_aload_n (pc := 0) hx hb dX1_millis_0 rfl (lv_at hl 0 rfl) ?_
  refine vp_callSi (pc := 1) (W.runV (As := []) (rest := []) ⟨hx, hb, hml, hown, hts⟩ (metX1_room l D hd ha cD F T) (cwV 0 hts (lw_V q227 q229 qs1 q4 q230) rfl rfl rfl (by decide +kernel) ⟨Nat.le_of_ble_eq_true rfl, Nat.le_of_ble_eq_true rfl⟩) (sd_preV Pk.st (va_recv hK0 hDk (ci := 0) (q0 := 0) rfl rfl) (⟨hDk, hRa, hPr, hK⟩)) rfl rfl hl.1 rfl (lv_room (Nat.le_of_ble_eq_true rfl)) dX1_millis_1 ⟨Nat.le_of_ble_eq_true rfl, Nat.le_of_ble_eq_true rfl⟩) (fun f1 g1 => ?_)
  replace g1 : f1 = if near2 T then 1 else 0 := g1
  refine lv_if_ne (pc := 4) (tgt := 9) hx hb dX1_millis_4 (by decide) (fun c4 => ?_) (fun c4 => ?_)
  · have hn : near2 T := Classical.byContradiction fun q => by rw [if_neg q] at g1; exact c4 g1
    obtain ⟨ri, ui, ni, hFi, hDi, hSi⟩ := hPr (ix w) (ix_lt w)
    have hni := near_nr hn (ix_lt w)
    have hsi := hSi.sec
    have hF := Axf hS hA (Ax1 hAa)
    have hF0 := Axf hS hA Ax0
    refine lv_aload_n (pc := 9) hx hb dX1_millis_9 rfl (lv_at hl 0 rfl) ?_
    refine va_get (pc := 10) (D := D) (ci := 0) (v := .ref ha) (C := RX1) (T := TX1) (N := 1) hx hb hts in_X1 hown hK hDk 0 rfl rfl 0 (by decide) (hts _ q119) (fun _ h9 => h9) rfl dX1_millis_10 ?_
    refine lv_iload_n (pc := 13) hx hb dX1_millis_13 rfl (lv_at hl 1 rfl) ?_
    refine lv_iconst (pc := 14) (v := 1) hx hb dX1_millis_14 (by decide) ?_
    refine lv_iand (pc := 15) hx hb dX1_millis_15 ?_
    refine lv_topi (fun v15 e15 => ?_)
    refine lv_aload_n (pc := 16) hx hb dX1_millis_16 rfl (lv_at hl 0 rfl) ?_
    refine va_get (pc := 17) (D := D) (ci := 0) (v := .ref ha) (C := RX1) (T := TX1) (N := 1) hx hb hts in_X1 hown hK hDk 0 rfl rfl 0 (by decide) (hts _ q119) (fun _ h9 => h9) rfl dX1_millis_17 ?_
    refine lv_iload_n (pc := 20) hx hb dX1_millis_20 rfl (lv_at hl 1 rfl) ?_
    refine lv_iconst (pc := 21) (v := 1) hx hb dX1_millis_21 (by decide) ?_
    refine lv_iand (pc := 22) hx hb dX1_millis_22 ?_
    refine lv_topi (fun v22 e22 => ?_)
    refine sd_aald (pc := 23) (r := ri) hx hb hK hRa 0 rfl rfl (by rw [e22]; exact ix_in w) (by rw [e22]; exact hFi) dX1_millis_23 ?_
    refine lv_iload_n (pc := 24) hx hb dX1_millis_24 rfl (lv_at hl 2 rfl) ?_
    refine lv_i2l (pc := 25) hx hb dX1_millis_25 rfl ?_
    refine lv_topl (fun v25 e25 => ?_)
    have h25 : v25.toInt = n.toInt := by rw [e25, Int32.toInt_toInt64]
    have hn1 := sd_ib n
    refine va_callr (pc := 26) (va_runV (As := [.long v25]) (rest := [.int v15, .ref ha]) ⟨hx, hb, hml, hown, hts⟩ (metX2_plusMillis l D z s.heap.size ri ui ni (T (ix w)) v25 hSi (by omega) (by omega) (by omega) (by omega)) (cwV 1 hts (lw_V q266 q267 q268 q5 q269) rfl rfl rfl (by decide +kernel) ⟨Nat.le_of_ble_eq_true rfl, Nat.le_of_ble_eq_true rfl⟩) (sd_preV Pzd.st (Du.recv hK0 hDi) (⟨⟨rfl, hZ, hz, hK0⟩, hDi⟩)) rfl rfl hl.1 rfl (lv_room (Nat.le_of_ble_eq_true rfl)) dX1_millis_26 ⟨Nat.le_of_ble_eq_true rfl, Nat.le_of_ble_eq_true rfl⟩) hS (fun q _ h => hF0 q h) hF0 (fun u ra t H1 locs1 ht hvm hp hB hz1 hk1 hS => ?_)
    replace hp : Sp u.1 u.2 (T (ix w) + v25.toInt * 1000000) := hp
    replace hB : Du D ra u.1 u.2 t.heap := hB
    rw [ht] at hB
    rw [h25] at hp
    replace hp : Sp u.1 u.2 (T (ix w) + dlt 3 T (ix w) n) := hp
    have hDk1 := P_up hDk hk1
    have hRa1 := P_up hRa hk1
    have hPr1 := hPr.keep hK Arr0 hk1
    refine sd_aast (pc := 29) hx hb hK hRa1 hB hS hAa 0 rfl (by rw [e15]; exact ix_in w) dX1_millis_29 (fun H2 locs2 hRa2 hz2 oq2 hS => ?_)
    have hq2 := oq_hq oq2
    have hAr := Arr1 (isArr_of hK hRa1 0 rfl)
    have hB2 := Du.Ok hK hB hAr hq2
    have hPr2 := hPr1.keep hK hAr hq2
    replace hRa2 : Ra D ha cD (va_up F (ix w) (some ra)) H2 := by rw [e15] at hRa2; exact hRa2
    have hPr3 := hPr2.put (i := ix w) hB2 hp
    rw [← chg_yes hn] at hPr3
    refine lv_iconst (pc := 30) (v := 1) hx hb dX1_millis_30 (by decide) ?_
    refine W.widen (k := 1) (n := 2) (Nat.le_of_ble_eq_true rfl) (Nat.le_of_ble_eq_true rfl) ?_
    exact W.zret (v := 1) hx hb hr rfl (fun t ht hW => ⟨⟨1, va_up F (ix w) (some ra), rfl, by rw [if_pos hn], by (try dsimp only); rw [ht]; exact ⟨hRa2, hPr3⟩⟩, hS.F ht⟩) hS.2.2 dX1_millis_31
  · have hnn : ¬ near2 T := fun q => by rw [if_pos q] at g1; rw [g1] at c4; exact absurd c4 (by decide)
    refine lv_iconst (pc := 7) (v := 0) hx hb dX1_millis_7 (by decide) ?_
    refine W.widen (k := 1) (n := 2) (Nat.zero_le _) (Nat.zero_le _) ?_
    exact W.zret (v := 0) hx hb hr rfl (fun t ht hW => ⟨⟨0, F, rfl, by rw [if_neg hnn], by (try dsimp only); rw [ht, chg_no hnn]; exact ⟨hRa, hPr⟩⟩, hS.F ht⟩) hS.2.2 dX1_millis_8
set_option maxHeartbeats 4000000 in
set_option maxRecDepth 100000 in
/-- nanos -/
theorem metX1_nanos (l : Launch) (D : va_G) (z sz hd ha : Nat) (cD : ClassId) (F : Nat → Option Nat) (T : Nat → Int) (w n : Int32) : Met l yX1_nanos (ws_ yX1_nanos cX1_nanos 3 (some .boolean)) ({ frames := 6, cells := 1, slots := 2, locals := 135 } : Room) (va_Pc [.ref hd, .int w, .int n] (fun U => (Pkz D z sz hd ha cD F T) U.heap U)) (va_Qi (S := Nat → Option Nat) (fun r _ => r = if near2 T then 1 else 0) (fun F1 t => Ra D ha cD F1 t.heap ∧ Pair D F1 (chg 4 (ix w) n T) t.heap) (Ax [ha] sz)) 1 2 (Ax [ha] sz) := by
  refine Met.ofW (cc := cX1_nanos) (maxL := 3) (ret := (some .boolean)) (by decide) rfl ?_
  intro p e s m args below meth c s₁ B hml hv
  obtain ⟨rfl, hv⟩ := hv
  have hx := B.exec
  have hb := B.bytes
  have hr := B.returns
  have hts := atoms_spec (ws := ws_ yX1_nanos cX1_nanos 3 (some .boolean)) B.pre
  have hts : ∀ w ∈ lw_all, w.before _ s = true := fun w h => hts w (List.mem_cons_of_mem _ h)
  have hown : s.vm.findClass RX1 = some m.cls := findClass_of_methodNamed B.named
  have hlocks := B.notSynchronized
  have hl := lv_entry ([.ref hd, .int w, .int n]) (n := 3) (Nat.le_of_ble_eq_true rfl)
  rw [lg_entry_eq]
  generalize (lg_sl ([.ref hd, .int w, .int n]) ++ List.replicate (3 - (lg_sl ([.ref hd, .int w, .int n])).length) Slot.unset).toArray = ls at hl ⊢
  have hl : lv_has ls 3 [(0, .ref hd), (1, .int w), (2, .int n)] := hl
  obtain ⟨⟨hsz, hZ, hz, hK0⟩, hDk, hRa, hPr, hK⟩ := hv
  subst hsz
  have hA : ∀ q : Nat, s.heap.size ≤ q → Ax [ha] s.heap.size q := fun q h => Or.inr h
  have hAa : Ax [ha] s.heap.size ha := Or.inl (List.mem_singleton.mpr rfl)
  have hS : va_S (Ax [ha] s.heap.size) s.heap s.heap [] := va_S.rf
  refine lv_aload_n (pc := 0) hx hb dX1_nanos_0 rfl (lv_at hl 0 rfl) ?_
  refine vp_callSi (pc := 1) (W.runV (As := []) (rest := []) ⟨hx, hb, hml, hown, hts⟩ (metX1_room l D hd ha cD F T) (cwV 0 hts (lw_V q227 q229 qs1 q4 q230) rfl rfl rfl (by decide +kernel) ⟨Nat.le_of_ble_eq_true rfl, Nat.le_of_ble_eq_true rfl⟩) (sd_preV Pk.st (va_recv hK0 hDk (ci := 0) (q0 := 0) rfl rfl) (⟨hDk, hRa, hPr, hK⟩)) rfl rfl hl.1 rfl (lv_room (Nat.le_of_ble_eq_true rfl)) dX1_nanos_1 ⟨Nat.le_of_ble_eq_true rfl, Nat.le_of_ble_eq_true rfl⟩) (fun f1 g1 => ?_)
  replace g1 : f1 = if near2 T then 1 else 0 := g1
  refine lv_if_ne (pc := 4) (tgt := 9) hx hb dX1_nanos_4 (by decide) (fun c4 => ?_) (fun c4 => ?_)
  · have hn : near2 T := Classical.byContradiction fun q => by rw [if_neg q] at g1; exact c4 g1
    obtain ⟨ri, ui, ni, hFi, hDi, hSi⟩ := hPr (ix w) (ix_lt w)
    have hni := near_nr hn (ix_lt w)
    have hsi := hSi.sec
    have hF := Axf hS hA (Ax1 hAa)
    have hF0 := Axf hS hA Ax0
    refine lv_aload_n (pc := 9) hx hb dX1_nanos_9 rfl (lv_at hl 0 rfl) ?_
    refine va_get (pc := 10) (D := D) (ci := 0) (v := .ref ha) (C := RX1) (T := TX1) (N := 1) hx hb hts in_X1 hown hK hDk 0 rfl rfl 0 (by decide) (hts _ q119) (fun _ h9 => h9) rfl dX1_nanos_10 ?_
    refine lv_iload_n (pc := 13) hx hb dX1_nanos_13 rfl (lv_at hl 1 rfl) ?_
    refine lv_iconst (pc := 14) (v := 1) hx hb dX1_nanos_14 (by decide) ?_
    refine lv_iand (pc := 15) hx hb dX1_nanos_15 ?_
    refine lv_topi (fun v15 e15 => ?_)
    refine lv_aload_n (pc := 16) hx hb dX1_nanos_16 rfl (lv_at hl 0 rfl) ?_
    refine va_get (pc := 17) (D := D) (ci := 0) (v := .ref ha) (C := RX1) (T := TX1) (N := 1) hx hb hts in_X1 hown hK hDk 0 rfl rfl 0 (by decide) (hts _ q119) (fun _ h9 => h9) rfl dX1_nanos_17 ?_
    refine lv_iload_n (pc := 20) hx hb dX1_nanos_20 rfl (lv_at hl 1 rfl) ?_
    refine lv_iconst (pc := 21) (v := 1) hx hb dX1_nanos_21 (by decide) ?_
    refine lv_iand (pc := 22) hx hb dX1_nanos_22 ?_
    refine lv_topi (fun v22 e22 => ?_)
    refine sd_aald (pc := 23) (r := ri) hx hb hK hRa 0 rfl rfl (by rw [e22]; exact ix_in w) (by rw [e22]; exact hFi) dX1_nanos_23 ?_
    refine lv_iload_n (pc := 24) hx hb dX1_nanos_24 rfl (lv_at hl 2 rfl) ?_
    refine lv_i2l (pc := 25) hx hb dX1_nanos_25 rfl ?_
    refine lv_topl (fun v25 e25 => ?_)
    have h25 : v25.toInt = n.toInt := by rw [e25, Int32.toInt_toInt64]
    have hn1 := sd_ib n
    refine va_callr (pc := 26) (va_runV (As := [.long v25]) (rest := [.int v15, .ref ha]) ⟨hx, hb, hml, hown, hts⟩ (metX2_plusNanos l D z s.heap.size ri ui ni (T (ix w)) v25 hSi (by omega) (by omega) (by omega) (by omega)) (cwV 1 hts (lw_V q276 q277 q278 q5 q279) rfl rfl rfl (by decide +kernel) ⟨Nat.le_of_ble_eq_true rfl, Nat.le_of_ble_eq_true rfl⟩) (sd_preV Pzd.st (Du.recv hK0 hDi) (⟨⟨rfl, hZ, hz, hK0⟩, hDi⟩)) rfl rfl hl.1 rfl (lv_room (Nat.le_of_ble_eq_true rfl)) dX1_nanos_26 ⟨Nat.le_of_ble_eq_true rfl, Nat.le_of_ble_eq_true rfl⟩) hS (fun q _ h => hF0 q h) hF0 (fun u ra t H1 locs1 ht hvm hp hB hz1 hk1 hS => ?_)
    replace hp : Sp u.1 u.2 (T (ix w) + v25.toInt) := hp
    replace hB : Du D ra u.1 u.2 t.heap := hB
    rw [ht] at hB
    rw [h25] at hp
    replace hp : Sp u.1 u.2 (T (ix w) + dlt 4 T (ix w) n) := hp
    have hDk1 := P_up hDk hk1
    have hRa1 := P_up hRa hk1
    have hPr1 := hPr.keep hK Arr0 hk1
    refine sd_aast (pc := 29) hx hb hK hRa1 hB hS hAa 0 rfl (by rw [e15]; exact ix_in w) dX1_nanos_29 (fun H2 locs2 hRa2 hz2 oq2 hS => ?_)
    have hq2 := oq_hq oq2
    have hAr := Arr1 (isArr_of hK hRa1 0 rfl)
    have hB2 := Du.Ok hK hB hAr hq2
    have hPr2 := hPr1.keep hK hAr hq2
    replace hRa2 : Ra D ha cD (va_up F (ix w) (some ra)) H2 := by rw [e15] at hRa2; exact hRa2
    have hPr3 := hPr2.put (i := ix w) hB2 hp
    rw [← chg_yes hn] at hPr3
    refine lv_iconst (pc := 30) (v := 1) hx hb dX1_nanos_30 (by decide) ?_
    refine W.widen (k := 1) (n := 2) (Nat.le_of_ble_eq_true rfl) (Nat.le_of_ble_eq_true rfl) ?_
    exact W.zret (v := 1) hx hb hr rfl (fun t ht hW => ⟨⟨1, va_up F (ix w) (some ra), rfl, by rw [if_pos hn], by (try dsimp only); rw [ht]; exact ⟨hRa2, hPr3⟩⟩, hS.F ht⟩) hS.2.2 dX1_nanos_31
  · have hnn : ¬ near2 T := fun q => by rw [if_pos q] at g1; rw [g1] at c4; exact absurd c4 (by decide)
    refine lv_iconst (pc := 7) (v := 0) hx hb dX1_nanos_7 (by decide) ?_
    refine W.widen (k := 1) (n := 2) (Nat.zero_le _) (Nat.zero_le _) ?_
    exact W.zret (v := 0) hx hb hr rfl (fun t ht hW => ⟨⟨0, F, rfl, by rw [if_neg hnn], by (try dsimp only); rw [ht, chg_no hnn]; exact ⟨hRa, hPr⟩⟩, hS.F ht⟩) hS.2.2 dX1_nanos_8
set_option maxHeartbeats 4000000 in
set_option maxRecDepth 100000 in
/-- whole -/
theorem metX1_whole (l : Launch) (D : va_G) (hd ha : Nat) (cD : ClassId) (F : Nat → Option Nat) (T : Nat → Int) (w : Int32) : Met l yX1_whole (ws_ yX1_whole cX1_whole 2 (some .long)) ({ frames := 1, cells := 0, slots := 0, locals := 23 } : Room) (va_Pc [.ref hd, .int w] (fun U => (Pk D hd ha cD F T) U.heap U)) (vp_Sl (fun v => v.toInt = T (ix w) / 1000000000)) 0 0 (fun _ => False) := by
  refine Met.ofW (cc := cX1_whole) (maxL := 2) (ret := (some .long)) (by decide) rfl ?_
  intro p e s m args below meth c s₁ B hml hv
  obtain ⟨rfl, hv⟩ := hv
  have hx := B.exec
  have hb := B.bytes
  have hr := B.returns
  have hts := atoms_spec (ws := ws_ yX1_whole cX1_whole 2 (some .long)) B.pre
  have hts : ∀ w ∈ lw_all, w.before _ s = true := fun w h => hts w (List.mem_cons_of_mem _ h)
  have hown : s.vm.findClass RX1 = some m.cls := findClass_of_methodNamed B.named
  have hlocks := B.notSynchronized
  have hl := lv_entry ([.ref hd, .int w]) (n := 2) (Nat.le_of_ble_eq_true rfl)
  rw [lg_entry_eq]
  generalize (lg_sl ([.ref hd, .int w]) ++ List.replicate (2 - (lg_sl ([.ref hd, .int w])).length) Slot.unset).toArray = ls at hl ⊢
  have hl : lv_has ls 2 [(0, .ref hd), (1, .int w)] := hl
  obtain ⟨hDk, hRa, hPr, hK⟩ := hv
  have hK0 := hK.sub (tys' := []) [] rfl
  obtain ⟨ri, ui, ni, hFi, hDi, hSi⟩ := hPr (ix w) (ix_lt w)
  refine lv_aload_n (pc := 0) hx hb dX1_whole_0 rfl (lv_at hl 0 rfl) ?_
  refine va_get (pc := 1) (D := D) (ci := 0) (v := .ref ha) (C := RX1) (T := TX1) (N := 1) hx hb hts in_X1 hown hK hDk 0 rfl rfl 0 (by decide) (hts _ q119) (fun _ h9 => h9) rfl dX1_whole_1 ?_
  refine lv_iload_n (pc := 4) hx hb dX1_whole_4 rfl (lv_at hl 1 rfl) ?_
  refine lv_iconst (pc := 5) (v := 1) hx hb dX1_whole_5 (by decide) ?_
  refine lv_iand (pc := 6) hx hb dX1_whole_6 ?_
  refine lv_topi (fun v6 e6 => ?_)
  refine sd_aald (pc := 7) (r := ri) hx hb hK hRa 0 rfl rfl (by rw [e6]; exact ix_in w) (by rw [e6]; exact hFi) dX1_whole_7 ?_
  refine vp_callSl (pc := 8) (W.runV (As := []) (rest := []) ⟨hx, hb, hml, hown, hts⟩ (metX2_getSeconds l D ri ui ni) (cwV 0 hts (lw_V q142 q143 q144 q5 q145) rfl rfl rfl (by decide +kernel) ⟨Nat.le_of_ble_eq_true rfl, Nat.le_of_ble_eq_true rfl⟩) (sd_preV Pd.st (Du.recv hK0 hDi) (⟨hDi, hK0⟩)) rfl rfl hl.1 rfl (lv_room (Nat.le_of_ble_eq_true rfl)) dX1_whole_8 ⟨Nat.le_of_ble_eq_true rfl, Nat.le_of_ble_eq_true rfl⟩) (fun f8 g8 => ?_)
  replace g8 : f8 = ui := g8
  exact W.lret (v := f8) hx hb hr (fun t ht hW => ⟨f8, rfl, by (try dsimp only); rw [g8]; exact hSi.sec, ht⟩) t_nil dX1_whole_11
set_option maxHeartbeats 4000000 in
set_option maxRecDepth 100000 in
/-- nano -/
theorem metX1_nano (l : Launch) (D : va_G) (hd ha : Nat) (cD : ClassId) (F : Nat → Option Nat) (T : Nat → Int) (w : Int32) : Met l yX1_nano (ws_ yX1_nano cX1_nano 2 (some .int)) ({ frames := 1, cells := 0, slots := 0, locals := 23 } : Room) (va_Pc [.ref hd, .int w] (fun U => (Pk D hd ha cD F T) U.heap U)) (vp_Si (fun v => v.toInt = T (ix w) % 1000000000)) 0 0 (fun _ => False) := by
  refine Met.ofW (cc := cX1_nano) (maxL := 2) (ret := (some .int)) (by decide) rfl ?_
  intro p e s m args below meth c s₁ B hml hv
  obtain ⟨rfl, hv⟩ := hv
  have hx := B.exec
  have hb := B.bytes
  have hr := B.returns
  have hts := atoms_spec (ws := ws_ yX1_nano cX1_nano 2 (some .int)) B.pre
  have hts : ∀ w ∈ lw_all, w.before _ s = true := fun w h => hts w (List.mem_cons_of_mem _ h)
  have hown : s.vm.findClass RX1 = some m.cls := findClass_of_methodNamed B.named
  have hlocks := B.notSynchronized
  have hl := lv_entry ([.ref hd, .int w]) (n := 2) (Nat.le_of_ble_eq_true rfl)
  rw [lg_entry_eq]
  generalize (lg_sl ([.ref hd, .int w]) ++ List.replicate (2 - (lg_sl ([.ref hd, .int w])).length) Slot.unset).toArray = ls at hl ⊢
  have hl : lv_has ls 2 [(0, .ref hd), (1, .int w)] := hl
  obtain ⟨hDk, hRa, hPr, hK⟩ := hv
  have hK0 := hK.sub (tys' := []) [] rfl
  obtain ⟨ri, ui, ni, hFi, hDi, hSi⟩ := hPr (ix w) (ix_lt w)
  refine lv_aload_n (pc := 0) hx hb dX1_nano_0 rfl (lv_at hl 0 rfl) ?_
  refine va_get (pc := 1) (D := D) (ci := 0) (v := .ref ha) (C := RX1) (T := TX1) (N := 1) hx hb hts in_X1 hown hK hDk 0 rfl rfl 0 (by decide) (hts _ q119) (fun _ h9 => h9) rfl dX1_nano_1 ?_
  refine lv_iload_n (pc := 4) hx hb dX1_nano_4 rfl (lv_at hl 1 rfl) ?_
  refine lv_iconst (pc := 5) (v := 1) hx hb dX1_nano_5 (by decide) ?_
  refine lv_iand (pc := 6) hx hb dX1_nano_6 ?_
  refine lv_topi (fun v6 e6 => ?_)
  refine sd_aald (pc := 7) (r := ri) hx hb hK hRa 0 rfl rfl (by rw [e6]; exact ix_in w) (by rw [e6]; exact hFi) dX1_nano_7 ?_
  refine vp_callSi (pc := 8) (W.runV (As := []) (rest := []) ⟨hx, hb, hml, hown, hts⟩ (metX2_getNano l D ri ui ni) (cwV 0 hts (lw_V q150 q151 q152 q5 q153) rfl rfl rfl (by decide +kernel) ⟨Nat.le_of_ble_eq_true rfl, Nat.le_of_ble_eq_true rfl⟩) (sd_preV Pd.st (Du.recv hK0 hDi) (⟨hDi, hK0⟩)) rfl rfl hl.1 rfl (lv_room (Nat.le_of_ble_eq_true rfl)) dX1_nano_8 ⟨Nat.le_of_ble_eq_true rfl, Nat.le_of_ble_eq_true rfl⟩) (fun f8 g8 => ?_)
  replace g8 : f8 = ni := g8
  exact W.iret (v := f8) hx hb hr (fun t ht hW => ⟨f8, rfl, by (try dsimp only); rw [g8]; obtain ⟨a1, a2, a3⟩ := hSi; omega, ht⟩) t_nil dX1_nano_11
set_option maxHeartbeats 4000000 in
set_option maxRecDepth 100000 in
/-- below -/
theorem metX1_below (l : Launch) (D : va_G) (hd ha : Nat) (cD : ClassId) (F : Nat → Option Nat) (T : Nat → Int) (w : Int32) : Met l yX1_below (ws_ yX1_below cX1_below 2 (some .boolean)) ({ frames := 1, cells := 0, slots := 0, locals := 23 } : Room) (va_Pc [.ref hd, .int w] (fun U => (Pk D hd ha cD F T) U.heap U)) (vp_Si (fun v => v = if T (ix w) < 0 then 1 else 0)) 0 0 (fun _ => False) := by
  refine Met.ofW (cc := cX1_below) (maxL := 2) (ret := (some .boolean)) (by decide) rfl ?_
  intro p e s m args below meth c s₁ B hml hv
  obtain ⟨rfl, hv⟩ := hv
  have hx := B.exec
  have hb := B.bytes
  have hr := B.returns
  have hts := atoms_spec (ws := ws_ yX1_below cX1_below 2 (some .boolean)) B.pre
  have hts : ∀ w ∈ lw_all, w.before _ s = true := fun w h => hts w (List.mem_cons_of_mem _ h)
  have hown : s.vm.findClass RX1 = some m.cls := findClass_of_methodNamed B.named
  have hlocks := B.notSynchronized
  have hl := lv_entry ([.ref hd, .int w]) (n := 2) (Nat.le_of_ble_eq_true rfl)
  rw [lg_entry_eq]
  generalize (lg_sl ([.ref hd, .int w]) ++ List.replicate (2 - (lg_sl ([.ref hd, .int w])).length) Slot.unset).toArray = ls at hl ⊢
  have hl : lv_has ls 2 [(0, .ref hd), (1, .int w)] := hl
  obtain ⟨hDk, hRa, hPr, hK⟩ := hv
  have hK0 := hK.sub (tys' := []) [] rfl
  obtain ⟨ri, ui, ni, hFi, hDi, hSi⟩ := hPr (ix w) (ix_lt w)
  refine lv_aload_n (pc := 0) hx hb dX1_below_0 rfl (lv_at hl 0 rfl) ?_
  refine va_get (pc := 1) (D := D) (ci := 0) (v := .ref ha) (C := RX1) (T := TX1) (N := 1) hx hb hts in_X1 hown hK hDk 0 rfl rfl 0 (by decide) (hts _ q119) (fun _ h9 => h9) rfl dX1_below_1 ?_
  refine lv_iload_n (pc := 4) hx hb dX1_below_4 rfl (lv_at hl 1 rfl) ?_
  refine lv_iconst (pc := 5) (v := 1) hx hb dX1_below_5 (by decide) ?_
  refine lv_iand (pc := 6) hx hb dX1_below_6 ?_
  refine lv_topi (fun v6 e6 => ?_)
  refine sd_aald (pc := 7) (r := ri) hx hb hK hRa 0 rfl rfl (by rw [e6]; exact ix_in w) (by rw [e6]; exact hFi) dX1_below_7 ?_
  refine vp_callSi (pc := 8) (W.runV (As := []) (rest := []) ⟨hx, hb, hml, hown, hts⟩ (metX2_isNegative l D ri ui ni) (cwV 0 hts (lw_V q158 q159 q160 q5 q161) rfl rfl rfl (by decide +kernel) ⟨Nat.le_of_ble_eq_true rfl, Nat.le_of_ble_eq_true rfl⟩) (sd_preV Pd.st (Du.recv hK0 hDi) (⟨hDi, hK0⟩)) rfl rfl hl.1 rfl (lv_room (Nat.le_of_ble_eq_true rfl)) dX1_below_8 ⟨Nat.le_of_ble_eq_true rfl, Nat.le_of_ble_eq_true rfl⟩) (fun f8 g8 => ?_)
  replace g8 : f8 = if ui.toInt < 0 then 1 else 0 := g8
  exact W.zret (v := f8) hx hb hr (by rw [g8]; split <;> rfl) (fun t ht hW => ⟨f8, rfl, by (try dsimp only); obtain ⟨a1, a2, a3⟩ := hSi; rw [g8]; congr 1; exact propext ⟨fun q => by omega, fun q => by omega⟩, ht⟩) t_nil dX1_below_11
set_option maxHeartbeats 4000000 in
set_option maxRecDepth 100000 in
/-- nought -/
theorem metX1_nought (l : Launch) (D : va_G) (hd ha : Nat) (cD : ClassId) (F : Nat → Option Nat) (T : Nat → Int) (w : Int32) : Met l yX1_nought (ws_ yX1_nought cX1_nought 2 (some .boolean)) ({ frames := 1, cells := 0, slots := 0, locals := 23 } : Room) (va_Pc [.ref hd, .int w] (fun U => (Pk D hd ha cD F T) U.heap U)) (vp_Si (fun v => v = if T (ix w) = 0 then 1 else 0)) 0 0 (fun _ => False) := by
  refine Met.ofW (cc := cX1_nought) (maxL := 2) (ret := (some .boolean)) (by decide) rfl ?_
  intro p e s m args below meth c s₁ B hml hv
  obtain ⟨rfl, hv⟩ := hv
  have hx := B.exec
  have hb := B.bytes
  have hr := B.returns
  have hts := atoms_spec (ws := ws_ yX1_nought cX1_nought 2 (some .boolean)) B.pre
  have hts : ∀ w ∈ lw_all, w.before _ s = true := fun w h => hts w (List.mem_cons_of_mem _ h)
  have hown : s.vm.findClass RX1 = some m.cls := findClass_of_methodNamed B.named
  have hlocks := B.notSynchronized
  have hl := lv_entry ([.ref hd, .int w]) (n := 2) (Nat.le_of_ble_eq_true rfl)
  rw [lg_entry_eq]
  generalize (lg_sl ([.ref hd, .int w]) ++ List.replicate (2 - (lg_sl ([.ref hd, .int w])).length) Slot.unset).toArray = ls at hl ⊢
  have hl : lv_has ls 2 [(0, .ref hd), (1, .int w)] := hl
  obtain ⟨hDk, hRa, hPr, hK⟩ := hv
  have hK0 := hK.sub (tys' := []) [] rfl
  obtain ⟨ri, ui, ni, hFi, hDi, hSi⟩ := hPr (ix w) (ix_lt w)
  refine lv_aload_n (pc := 0) hx hb dX1_nought_0 rfl (lv_at hl 0 rfl) ?_
  refine va_get (pc := 1) (D := D) (ci := 0) (v := .ref ha) (C := RX1) (T := TX1) (N := 1) hx hb hts in_X1 hown hK hDk 0 rfl rfl 0 (by decide) (hts _ q119) (fun _ h9 => h9) rfl dX1_nought_1 ?_
  refine lv_iload_n (pc := 4) hx hb dX1_nought_4 rfl (lv_at hl 1 rfl) ?_
  refine lv_iconst (pc := 5) (v := 1) hx hb dX1_nought_5 (by decide) ?_
  refine lv_iand (pc := 6) hx hb dX1_nought_6 ?_
  refine lv_topi (fun v6 e6 => ?_)
  refine sd_aald (pc := 7) (r := ri) hx hb hK hRa 0 rfl rfl (by rw [e6]; exact ix_in w) (by rw [e6]; exact hFi) dX1_nought_7 ?_
  refine vp_callSi (pc := 8) (W.runV (As := []) (rest := []) ⟨hx, hb, hml, hown, hts⟩ (metX2_isZero l D ri ui ni) (cwV 0 hts (lw_V q166 q167 q168 q5 q169) rfl rfl rfl (by decide +kernel) ⟨Nat.le_of_ble_eq_true rfl, Nat.le_of_ble_eq_true rfl⟩) (sd_preV Pd.st (Du.recv hK0 hDi) (⟨hDi, hK0⟩)) rfl rfl hl.1 rfl (lv_room (Nat.le_of_ble_eq_true rfl)) dX1_nought_8 ⟨Nat.le_of_ble_eq_true rfl, Nat.le_of_ble_eq_true rfl⟩) (fun f8 g8 => ?_)
  replace g8 : f8 = if ui.toInt = 0 ∧ ni.toInt = 0 then 1 else 0 := g8
  exact W.zret (v := f8) hx hb hr (by rw [g8]; split <;> rfl) (fun t ht hW => ⟨f8, rfl, by (try dsimp only); obtain ⟨a1, a2, a3⟩ := hSi; rw [g8]; congr 1; exact propext ⟨fun q => by omega, fun q => by omega⟩, ht⟩) t_nil dX1_nought_11
set_option maxHeartbeats 4000000 in
set_option maxRecDepth 100000 in
/-- days -/
theorem metX1_days (l : Launch) (D : va_G) (hd ha : Nat) (cD : ClassId) (F : Nat → Option Nat) (T : Nat → Int) (w : Int32) : Met l yX1_days (ws_ yX1_days cX1_days 2 (some .long)) ({ frames := 1, cells := 0, slots := 0, locals := 23 } : Room) (va_Pc [.ref hd, .int w] (fun U => (Pk D hd ha cD F T) U.heap U)) (vp_Sl (fun v => ∃ u : Int64, u.toInt = T (ix w) / 1000000000 ∧ v = u / 86400)) 0 0 (fun _ => False) := by
  refine Met.ofW (cc := cX1_days) (maxL := 2) (ret := (some .long)) (by decide) rfl ?_
  intro p e s m args below meth c s₁ B hml hv
  obtain ⟨rfl, hv⟩ := hv
  have hx := B.exec
  have hb := B.bytes
  have hr := B.returns
  have hts := atoms_spec (ws := ws_ yX1_days cX1_days 2 (some .long)) B.pre
  have hts : ∀ w ∈ lw_all, w.before _ s = true := fun w h => hts w (List.mem_cons_of_mem _ h)
  have hown : s.vm.findClass RX1 = some m.cls := findClass_of_methodNamed B.named
  have hlocks := B.notSynchronized
  have hl := lv_entry ([.ref hd, .int w]) (n := 2) (Nat.le_of_ble_eq_true rfl)
  rw [lg_entry_eq]
  generalize (lg_sl ([.ref hd, .int w]) ++ List.replicate (2 - (lg_sl ([.ref hd, .int w])).length) Slot.unset).toArray = ls at hl ⊢
  have hl : lv_has ls 2 [(0, .ref hd), (1, .int w)] := hl
  obtain ⟨hDk, hRa, hPr, hK⟩ := hv
  have hK0 := hK.sub (tys' := []) [] rfl
  obtain ⟨ri, ui, ni, hFi, hDi, hSi⟩ := hPr (ix w) (ix_lt w)
  refine lv_aload_n (pc := 0) hx hb dX1_days_0 rfl (lv_at hl 0 rfl) ?_
  refine va_get (pc := 1) (D := D) (ci := 0) (v := .ref ha) (C := RX1) (T := TX1) (N := 1) hx hb hts in_X1 hown hK hDk 0 rfl rfl 0 (by decide) (hts _ q119) (fun _ h9 => h9) rfl dX1_days_1 ?_
  refine lv_iload_n (pc := 4) hx hb dX1_days_4 rfl (lv_at hl 1 rfl) ?_
  refine lv_iconst (pc := 5) (v := 1) hx hb dX1_days_5 (by decide) ?_
  refine lv_iand (pc := 6) hx hb dX1_days_6 ?_
  refine lv_topi (fun v6 e6 => ?_)
  refine sd_aald (pc := 7) (r := ri) hx hb hK hRa 0 rfl rfl (by rw [e6]; exact ix_in w) (by rw [e6]; exact hFi) dX1_days_7 ?_
  refine vp_callSl (pc := 8) (W.runV (As := []) (rest := []) ⟨hx, hb, hml, hown, hts⟩ (metX2_toDays l D ri ui ni) (cwV 0 hts (lw_V q174 q175 q176 q5 q177) rfl rfl rfl (by decide +kernel) ⟨Nat.le_of_ble_eq_true rfl, Nat.le_of_ble_eq_true rfl⟩) (sd_preV Pd.st (Du.recv hK0 hDi) (⟨hDi, hK0⟩)) rfl rfl hl.1 rfl (lv_room (Nat.le_of_ble_eq_true rfl)) dX1_days_8 ⟨Nat.le_of_ble_eq_true rfl, Nat.le_of_ble_eq_true rfl⟩) (fun f8 g8 => ?_)
  replace g8 : f8 = ui / 86400 := g8
  exact W.lret (v := f8) hx hb hr (fun t ht hW => ⟨f8, rfl, ⟨ui, hSi.sec, g8⟩, ht⟩) t_nil dX1_days_11
set_option maxHeartbeats 4000000 in
set_option maxRecDepth 100000 in
/-- minutes -/
theorem metX1_minutes (l : Launch) (D : va_G) (hd ha : Nat) (cD : ClassId) (F : Nat → Option Nat) (T : Nat → Int) (w : Int32) : Met l yX1_minutes (ws_ yX1_minutes cX1_minutes 2 (some .long)) ({ frames := 1, cells := 0, slots := 0, locals := 23 } : Room) (va_Pc [.ref hd, .int w] (fun U => (Pk D hd ha cD F T) U.heap U)) (vp_Sl (fun v => ∃ u : Int64, u.toInt = T (ix w) / 1000000000 ∧ v = u / 60)) 0 0 (fun _ => False) := by
  refine Met.ofW (cc := cX1_minutes) (maxL := 2) (ret := (some .long)) (by decide) rfl ?_
  intro p e s m args below meth c s₁ B hml hv
  obtain ⟨rfl, hv⟩ := hv
  have hx := B.exec
  have hb := B.bytes
  have hr := B.returns
  have hts := atoms_spec (ws := ws_ yX1_minutes cX1_minutes 2 (some .long)) B.pre
  have hts : ∀ w ∈ lw_all, w.before _ s = true := fun w h => hts w (List.mem_cons_of_mem _ h)
  have hown : s.vm.findClass RX1 = some m.cls := findClass_of_methodNamed B.named
  have hlocks := B.notSynchronized
  have hl := lv_entry ([.ref hd, .int w]) (n := 2) (Nat.le_of_ble_eq_true rfl)
  rw [lg_entry_eq]
  generalize (lg_sl ([.ref hd, .int w]) ++ List.replicate (2 - (lg_sl ([.ref hd, .int w])).length) Slot.unset).toArray = ls at hl ⊢
  have hl : lv_has ls 2 [(0, .ref hd), (1, .int w)] := hl
  obtain ⟨hDk, hRa, hPr, hK⟩ := hv
  have hK0 := hK.sub (tys' := []) [] rfl
  obtain ⟨ri, ui, ni, hFi, hDi, hSi⟩ := hPr (ix w) (ix_lt w)
  refine lv_aload_n (pc := 0) hx hb dX1_minutes_0 rfl (lv_at hl 0 rfl) ?_
  refine va_get (pc := 1) (D := D) (ci := 0) (v := .ref ha) (C := RX1) (T := TX1) (N := 1) hx hb hts in_X1 hown hK hDk 0 rfl rfl 0 (by decide) (hts _ q119) (fun _ h9 => h9) rfl dX1_minutes_1 ?_
  refine lv_iload_n (pc := 4) hx hb dX1_minutes_4 rfl (lv_at hl 1 rfl) ?_
  refine lv_iconst (pc := 5) (v := 1) hx hb dX1_minutes_5 (by decide) ?_
  refine lv_iand (pc := 6) hx hb dX1_minutes_6 ?_
  refine lv_topi (fun v6 e6 => ?_)
  refine sd_aald (pc := 7) (r := ri) hx hb hK hRa 0 rfl rfl (by rw [e6]; exact ix_in w) (by rw [e6]; exact hFi) dX1_minutes_7 ?_
  refine vp_callSl (pc := 8) (W.runV (As := []) (rest := []) ⟨hx, hb, hml, hown, hts⟩ (metX2_toMinutes l D ri ui ni) (cwV 0 hts (lw_V q184 q185 q186 q5 q187) rfl rfl rfl (by decide +kernel) ⟨Nat.le_of_ble_eq_true rfl, Nat.le_of_ble_eq_true rfl⟩) (sd_preV Pd.st (Du.recv hK0 hDi) (⟨hDi, hK0⟩)) rfl rfl hl.1 rfl (lv_room (Nat.le_of_ble_eq_true rfl)) dX1_minutes_8 ⟨Nat.le_of_ble_eq_true rfl, Nat.le_of_ble_eq_true rfl⟩) (fun f8 g8 => ?_)
  replace g8 : f8 = ui / 60 := g8
  exact W.lret (v := f8) hx hb hr (fun t ht hW => ⟨f8, rfl, ⟨ui, hSi.sec, g8⟩, ht⟩) t_nil dX1_minutes_11
set_option maxHeartbeats 4000000 in
set_option maxRecDepth 100000 in
/-- order -/
theorem metX1_order (l : Launch) (D : va_G) (hd ha : Nat) (cD : ClassId) (F : Nat → Option Nat) (T : Nat → Int)  : Met l yX1_order (ws_ yX1_order cX1_order 2 (some .int)) ({ frames := 2, cells := 0, slots := 0, locals := 45 } : Room) (va_Pc [.ref hd] (fun U => (Pk D hd ha cD F T) U.heap U)) (vp_Si (fun v => v = if T 0 < T 1 then -1 else if T 1 < T 0 then 1 else 0)) 0 0 (fun _ => False) := by
  refine Met.ofW (cc := cX1_order) (maxL := 2) (ret := (some .int)) (by decide) rfl ?_
  intro p e s m args below meth c s₁ B hml hv
  obtain ⟨rfl, hv⟩ := hv
  have hx := B.exec
  have hb := B.bytes
  have hr := B.returns
  have hts := atoms_spec (ws := ws_ yX1_order cX1_order 2 (some .int)) B.pre
  have hts : ∀ w ∈ lw_all, w.before _ s = true := fun w h => hts w (List.mem_cons_of_mem _ h)
  have hown : s.vm.findClass RX1 = some m.cls := findClass_of_methodNamed B.named
  have hlocks := B.notSynchronized
  have hl := lv_entry ([.ref hd]) (n := 2) (Nat.le_of_ble_eq_true rfl)
  rw [lg_entry_eq]
  generalize (lg_sl ([.ref hd]) ++ List.replicate (2 - (lg_sl ([.ref hd])).length) Slot.unset).toArray = ls at hl ⊢
  have hl : lv_has ls 2 [(0, .ref hd)] := hl
  obtain ⟨hDk, hRa, hPr, hK⟩ := hv
  have hK0 := hK.sub (tys' := []) [] rfl
  obtain ⟨r0, u0, n0, hF0, hD0, hS0⟩ := hPr 0 (by decide)
  obtain ⟨r1, u1, n1, hF1, hD1, hS1⟩ := hPr 1 (by decide)
  have i0 : (0 : Int32).toInt = 0 := rfl
  refine lv_aload_n (pc := 0) hx hb dX1_order_0 rfl (lv_at hl 0 rfl) ?_
  refine va_get (pc := 1) (D := D) (ci := 0) (v := .ref ha) (C := RX1) (T := TX1) (N := 1) hx hb hts in_X1 hown hK hDk 0 rfl rfl 0 (by decide) (hts _ q119) (fun _ h9 => h9) rfl dX1_order_1 ?_
  refine lv_iconst (pc := 4) (v := 0) hx hb dX1_order_4 (by decide) ?_
  refine sd_aald (pc := 5) (r := r0) hx hb hK hRa 0 rfl rfl vin0 hF0 dX1_order_5 ?_
  refine lv_aload_n (pc := 6) hx hb dX1_order_6 rfl (lv_at hl 0 rfl) ?_
  refine va_get (pc := 7) (D := D) (ci := 0) (v := .ref ha) (C := RX1) (T := TX1) (N := 1) hx hb hts in_X1 hown hK hDk 0 rfl rfl 0 (by decide) (hts _ q119) (fun _ h9 => h9) rfl dX1_order_7 ?_
  refine lv_iconst (pc := 10) (v := 1) hx hb dX1_order_10 (by decide) ?_
  refine sd_aald (pc := 11) (r := r1) hx hb hK hRa 0 rfl rfl vin1 hF1 dX1_order_11 ?_
  refine vp_callSi (pc := 12) (W.runV (As := [.ref r1]) (rest := []) ⟨hx, hb, hml, hown, hts⟩ (metX2_compareTo l D r0 u0 n0 (T 0) r1 u1 n1 (T 1) hS0 hS1) (cwV 1 hts (lw_V q194 q195 q196 q5 q197) rfl rfl rfl (by decide +kernel) ⟨Nat.le_of_ble_eq_true rfl, Nat.le_of_ble_eq_true rfl⟩) (sd_preV Pd2.st (Du.recv hK0 hD0) (⟨hD0, hD1, hK0⟩)) rfl rfl hl.1 rfl (lv_room (Nat.le_of_ble_eq_true rfl)) dX1_order_12 ⟨Nat.le_of_ble_eq_true rfl, Nat.le_of_ble_eq_true rfl⟩) (fun f12 g12 => ?_)
  replace g12 : (f12.toInt < 0 ↔ T 0 < T 1) ∧ (0 < f12.toInt ↔ T 1 < T 0) := g12
  refine lv_istore_n (pc := 15) (lv' := [(1, .int f12), (0, .ref hd)]) hx hb dX1_order_15 rfl hl (by decide) rfl (fun ls hl => ?_)
  refine lv_iload_n (pc := 16) hx hb dX1_order_16 rfl (lv_at hl 0 rfl) ?_
  refine lv_if_ge (pc := 17) (tgt := 24) hx hb dX1_order_17 (by decide) (fun c17 => ?_) (fun c17 => ?_)
  · rw [Int32.le_iff_toInt_le] at c17
    refine lv_iload_n (pc := 24) hx hb dX1_order_24 rfl (lv_at hl 0 rfl) ?_
    refine lv_if_le (pc := 25) (tgt := 32) hx hb dX1_order_25 (by decide) (fun c25 => ?_) (fun c25 => ?_)
    · rw [Int32.le_iff_toInt_le] at c25
      refine lv_iconst (pc := 32) (v := 0) hx hb dX1_order_32 (by decide) ?_
      exact W.iret (v := 0) hx hb hr (fun t ht hW => ⟨0, rfl, by (try dsimp only); rw [if_neg (by omega), if_neg (by omega)], ht⟩) t_nil dX1_order_33
    · rw [Int32.le_iff_toInt_le] at c25
      refine lv_iconst (pc := 28) (v := 1) hx hb dX1_order_28 (by decide) ?_
      refine lv_goto (pc := 29) (tgt := 33) hx hb dX1_order_29 (by decide) ?_
      exact W.iret (v := 1) hx hb hr (fun t ht hW => ⟨1, rfl, by (try dsimp only); rw [if_neg (by omega), if_pos (by omega)], ht⟩) t_nil dX1_order_33
  · rw [Int32.le_iff_toInt_le] at c17
    refine lv_iconst (pc := 20) (v := (-1)) hx hb dX1_order_20 (by decide) ?_
    refine lv_goto (pc := 21) (tgt := 33) hx hb dX1_order_21 (by decide) ?_
    exact W.iret (v := (-1)) hx hb hr (fun t ht hW => ⟨(-1), rfl, by (try dsimp only); rw [if_pos (by omega)], ht⟩) t_nil dX1_order_33
set_option maxHeartbeats 4000000 in
set_option maxRecDepth 100000 in
/-- SpanDesk() -/
theorem metX1_init (l : Launch) (D : va_G) (z sz hd : Nat) : Met l yX1_init (ws_ yX1_init cX1_init 1 none) ({ frames := 4, cells := 3, slots := 6, locals := 83 } : Room) (va_Pc [.ref hd] (fun U => (Pq D z sz hd) U.heap U)) (va_Qv (S := Nat × ClassId × (Nat → Option Nat)) (fun x => sz ≤ x.1 ∧ x.2.2 0 = some z ∧ x.2.2 1 = some z) (fun x t => Dk D hd x.1 t.heap ∧ Ra D x.1 x.2.1 x.2.2 t.heap ∧ va_K D vwCl [(x.2.1, .object "Duration")] t) (Ax [hd] sz)) 3 6 (Ax [hd] sz) := by
  refine Met.ofW (cc := cX1_init) (maxL := 1) (ret := none) (by decide) rfl ?_
  intro p e s m args below meth c s₁ B hml hv
  obtain ⟨rfl, hv⟩ := hv
  have hx := B.exec
  have hb := B.bytes
  have hr := B.returns
  have hts := atoms_spec (ws := ws_ yX1_init cX1_init 1 none) B.pre
  have hts : ∀ w ∈ lw_all, w.before _ s = true := fun w h => hts w (List.mem_cons_of_mem _ h)
  have hown : s.vm.findClass RX1 = some m.cls := findClass_of_methodNamed B.named
  have hlocks := B.notSynchronized
  have hl := lv_entry ([.ref hd]) (n := 1) (Nat.le_of_ble_eq_true rfl)
  rw [lg_entry_eq]
  generalize (lg_sl ([.ref hd]) ++ List.replicate (1 - (lg_sl ([.ref hd])).length) Slot.unset).toArray = ls at hl ⊢
  have hl : lv_has ls 1 [(0, .ref hd)] := hl
  obtain ⟨⟨hsz, hZ, hz, hK⟩, hO, hAO, hzd⟩ := hv
  subst hsz
  have hin : meth.name = "<init>" := (name_of_methodNamed B.named B.method).1
  have hA : ∀ q : Nat, s.heap.size ≤ q → Ax [hd] s.heap.size q := fun q h => Or.inr h
  have hAd : Ax [hd] s.heap.size hd := Or.inl (List.mem_singleton.mpr rfl)
  have hzA : ¬ Ax [hd] s.heap.size z := fun q => by
    rcases q with q | q
    · exact hzd (List.mem_singleton.mp q)
    · exact absurd (hz.lt) (by omega)
  have hS : va_S (Ax [hd] s.heap.size) s.heap s.heap [] := va_S.rf
  refine lv_aload_n (pc := 0) hx hb dX1_init_0 rfl (lv_at hl 0 rfl) ?_
  refine W.objInit hx hb hown (hts _ q16) (hts _ q17) (hts _ q18) rfl (by rw [hml]; exact hl.1) rfl dX1_init_1 (Nat.le_of_ble_eq_true rfl) (Nat.le_of_ble_eq_true rfl) ?_
  refine W.eq (g2 := F0 m 4 ls []) rfl ?_
  refine lv_aload_n (pc := 4) hx hb dX1_init_4 rfl (lv_at hl 0 rfl) ?_
  refine lv_iconst (pc := 5) (v := 2) hx hb dX1_init_5 (by decide) ?_
  refine va_newq (pc := 6) (D := D) (cl := vwCl) (tys := []) (ws := [(hd, .inr (0, [.null]))]) (C := "Duration") (N' := 2) hx hb hown (hts _ q19) hAO hK hO (vD1 hAd) hS hA (by decide) rfl (Nat.le_of_ble_eq_true rfl) (Nat.le_of_ble_eq_true rfl) (Nat.le_of_ble_eq_true rfl) dX1_init_6 (fun ha cD H1 hK1 hP1 hD1 hS => ?_)
  replace hK1 : va_K D vwCl [(cD, .object "Duration")] s := hK1
  have hO1 : Ob D hd 0 [.null] H1 := hP1.sub [0] rfl
  have hR1 : Ra D ha cD (fun _ => none) H1 := hP1.sub [1] rfl
  have hne : hd ≠ ha := fun q => absurd (hD1.1 0 1 _ _ rfl rfl q) (by decide)
  have hAa : Ax [hd] s.heap.size ha := hD1.2 1 _ rfl
  have hge : s.heap.size ≤ ha := by
    rcases hAa with q | q
    · exact absurd (List.mem_singleton.mp q).symm hne
    · exact q
  refine lv_dup (pc := 9) hx hb dX1_init_9 rfl ?_
  refine lv_iconst (pc := 10) (v := 0) hx hb dX1_init_10 (by decide) ?_
  refine lv_lconst (pc := 11) (v := 0) hx hb dX1_init_11 (by decide) ?_
  refine lv_lconst (pc := 12) (v := 0) hx hb dX1_init_12 (by decide) ?_
  have hF0 := Axf hS hA Ax0
  have hz1 := hz.S hS hzA
  have hZ1 := ZkO hZ hO hS
  refine va_callr (pc := 13) (va_runS (As := [.long 0, .long 0]) (rest := [.int 0, .ref ha, .ref ha, .ref hd]) ⟨hx, hb, hml, hown, hts⟩ (metX2_ofSeconds l D z H1.size 0 0 (by decide) (by decide)) (va_cwS 2 hts (lw_S q21 q22 q5 q23) rfl rfl rfl (by decide +kernel) ⟨Nat.le_of_ble_eq_true rfl, Nat.le_of_ble_eq_true rfl⟩) (sd_preS Pz.st (⟨rfl, hZ1, hz1, hK⟩)) rfl rfl hl.1 rfl (lv_room (Nat.le_of_ble_eq_true rfl)) dX1_init_13 ⟨Nat.le_of_ble_eq_true rfl, Nat.le_of_ble_eq_true rfl⟩) hS (fun q _ h => hF0 q h) hF0 (fun u0 ra0 t H2 locs2 ht hvm hp hB hzz hk1 hS => ?_)
  have hra0 : ra0 = z := hB.2 (by decide)
  have hz2 : Du D ra0 0 0 H2 := by rw [hra0]; exact hz.S hS hzA
  have hO2 := P_up hO1 hk1
  have hR2 := P_up hR1 hk1
  refine sd_aast (pc := 16) hx hb hK1 hR2 hz2 hS hAa 0 rfl vin0 dX1_init_16 (fun H3 locs3 hR3 hzz oq hS => ?_)
  have hO3 := pk1 hO2 (oq hd hne)
  refine lv_dup (pc := 17) hx hb dX1_init_17 rfl ?_
  refine lv_iconst (pc := 18) (v := 1) hx hb dX1_init_18 (by decide) ?_
  refine lv_lconst (pc := 19) (v := 0) hx hb dX1_init_19 (by decide) ?_
  refine lv_lconst (pc := 20) (v := 0) hx hb dX1_init_20 (by decide) ?_
  have hF0 := Axf hS hA Ax0
  have hz3 := hz.S hS hzA
  have hZ3 := ZkO hZ hO hS
  refine va_callr (pc := 21) (va_runS (As := [.long 0, .long 0]) (rest := [.int 1, .ref ha, .ref ha, .ref hd]) ⟨hx, hb, hml, hown, hts⟩ (metX2_ofSeconds l D z H3.size 0 0 (by decide) (by decide)) (va_cwS 2 hts (lw_S q21 q22 q5 q23) rfl rfl rfl (by decide +kernel) ⟨Nat.le_of_ble_eq_true rfl, Nat.le_of_ble_eq_true rfl⟩) (sd_preS Pz.st (⟨rfl, hZ3, hz3, hK⟩)) rfl rfl hl.1 rfl (lv_room (Nat.le_of_ble_eq_true rfl)) dX1_init_21 ⟨Nat.le_of_ble_eq_true rfl, Nat.le_of_ble_eq_true rfl⟩) hS (fun q _ h => hF0 q h) hF0 (fun u1 ra1 t H4 locs4 ht hvm hp hB hzz hk1 hS => ?_)
  have hra1 : ra1 = z := hB.2 (by decide)
  have hz4 : Du D ra1 0 0 H4 := by rw [hra1]; exact hz.S hS hzA
  have hO4 := P_up hO3 hk1
  have hR4 := P_up hR3 hk1
  refine sd_aast (pc := 24) hx hb hK1 hR4 hz4 hS hAa 0 rfl vin1 dX1_init_24 (fun H5 locs5 hR5 hzz oq hS => ?_)
  have hO5 := pk1 hO4 (oq hd hne)
  have hPP := va_P.app hO5 hR5
  refine va_putF (pc := 25) (D := D) (ci := 0) (v := .ref ha) (ty := .array (.object "Duration")) (C := RX1) (T := TX1) (N := 1) hx hb hts in_X1 tyX1 tyX1_ok nmX1 hown hK hPP (vD2 hAd hAa hne) hS 0 rfl rfl 0 (by decide) (hts _ q119) (fun _ h9 => h9) rfl hin rfl (by decide +kernel) rfl rfl (Nat.le_of_ble_eq_true rfl) dX1_init_25 (fun H6 locs6 hP6 hD6 hS => ?_)
  have hDk : Dk D hd ha H6 := hP6.sub [0] rfl
  have hRf := hP6.sub (ws' := [(ha, .inl (cD, 2, .inr (.inr (.inr (.inr (va_up (va_up (fun _ => none) (0 : Int32).toNatClampNeg (some ra0)) (1 : Int32).toNatClampNeg (some ra1)))))))]) [1] rfl
  refine W.widen (k := 3) (n := 6) (Nat.le_of_ble_eq_true rfl) (Nat.le_of_ble_eq_true rfl) ?_
  exact W.vret hx hb hr (fun t ht hW => ⟨⟨(ha, cD, va_up (va_up (fun _ => none) (0 : Int32).toNatClampNeg (some ra0)) (1 : Int32).toNatClampNeg (some ra1)), rfl, ⟨hge, congrArg some hra0, congrArg some hra1⟩, ⟨by (try dsimp only); rw [ht]; exact hDk, by (try dsimp only); rw [ht]; exact hRf, va_K.moved hW.alike hK1⟩⟩, hS.F ht⟩) hS.2.2 dX1_init_28
end
section
/-! PART 07: the law's small methods (printed by gen07.py) -/
/-- roads that meet -/
theorem sd_join {p : Program} {l : Launch} {e : Env} {R : Room} {s : State} {m : MethodId} {args : Array Value} {below : List Frame} {meth : Method} {c : Code} {H : Heap} {locs : List Loc} {cells slots : Nat} {Q : State → Prop} {g : JFrame} {pc2 : Nat} {ls2 : Array Slot} {st2 : List Value} (k2 : W p l e R s m args below meth c H locs cells slots Q (F0 m pc2 ls2 st2)) (k1 : W p l e R s m args below meth c H locs cells slots Q (F0 m pc2 ls2 st2) → W p l e R s m args below meth c H locs cells slots Q g) : W p l e R s m args below meth c H locs cells slots Q g := k1 k2
/-- the script's k-th int, 0 behind its end -/
def cl (L : Nat) (xs : Nat → Int32) (k : Nat) : Int32 := if k < L then xs k else 0
/-- one cell alone is written -/
def Un (a : Nat) (H H1 : Heap) : Prop := H.size ≤ H1.size ∧ ∀ q : Nat, q < H.size → q ≠ a → H1[q]? = H[q]?
theorem Un.trans {a : Nat} {H H1 H2 : Heap} (h : Un a H H1) (k : Un a H1 H2) : Un a H H2 := ⟨Nat.le_trans h.1 k.1, fun q h1 h2 => (k.2 q (Nat.lt_of_lt_of_le h1 h.1) h2).trans (h.2 q h1 h2)⟩
theorem Un.of {a : Nat} {H H1 : Heap} (z : H1.size = H.size) (oq : ∀ q : Nat, q ≠ a → H1[q]? = H[q]?) : Un a H H1 := ⟨by omega, fun q _ h => oq q h⟩
theorem Un.call {a : Nat} {H H1 : Heap} (z : H.size ≤ H1.size) (hk : ∀ q : Nat, q < H.size → ¬ Ax [a] H.size q → H1[q]? = H[q]?) : Un a H H1 := ⟨z, fun q h1 h2 => hk q h1 (fun h => by
  rcases h with h | h
  · exact h2 (List.mem_singleton.mp h)
  · omega)⟩
theorem Un.hq {a : Nat} {H H1 : Heap} (h : Un a H H1) : ∀ q : Nat, q < H.size → ¬ Ax [a] H.size q → H1[q]? = H[q]? := fun q h1 h2 => h.2 q h1 (fun e => h2 (Or.inl (by rw [e]; exact List.mem_singleton.mpr rfl)))
def Px (b L : Nat) (xs : Nat → Int32) (H : Heap) (U : State) : Prop := va_X b L xs U H
theorem Px.st {b L : Nat} {xs : Nat → Int32} (h : Heap) (U U' : State) (hv : U.vm.Alike U'.vm) (q : Px b L xs h U) : Px b L xs h U' := va_X.moved hv q
def Pn (D : va_G) (a : Nat) (cL : ClassId) (Z : Nat → Int64) (H : Heap) (U : State) : Prop := La D a cL Z H ∧ va_K D vwCl [(cL, .long)] U
theorem Pn.st {D : va_G} {a : Nat} {cL : ClassId} {Z : Nat → Int64} (h : Heap) (U U' : State) (hv : U.vm.Alike U'.vm) (q : Pn D a cL Z h U) : Pn D a cL Z h U' := ⟨q.1, va_K.moved hv q.2⟩
def Pm (D : va_G) (a sz : Nat) (cL : ClassId) (Z : Nat → Int64) (H : Heap) (U : State) : Prop := H.size = sz ∧ La D a cL Z H ∧ va_K D vwCl [(cL, .long)] U
theorem Pm.st {D : va_G} {a sz : Nat} {cL : ClassId} {Z : Nat → Int64} (h : Heap) (U U' : State) (hv : U.vm.Alike U'.vm) (q : Pm D a sz cL Z h U) : Pm D a sz cL Z h U' := ⟨q.1, q.2.1, va_K.moved hv q.2.2⟩
set_option maxHeartbeats 4000000 in
set_option maxRecDepth 100000 in
/-- cell(s, k) -/
theorem metX0_cell (l : Launch) (b L : Nat) (xs : Nat → Int32) (hL : L ≤ 96) (k : Nat) (hk : k < 2147483648) : Met l yX0_cell (ws_ yX0_cell cX0_cell 2 (some .int)) ({ frames := 0, cells := 0, slots := 0, locals := 0 } : Room) (va_Pc [.ref b, .int (nI k)] (fun U => (Px b L xs) U.heap U)) (vp_Si (fun v => v = cl L xs k)) 0 0 (fun _ => False) := by
  refine Met.ofW (cc := cX0_cell) (maxL := 2) (ret := (some .int)) (by decide) rfl ?_
  intro p e s m args below meth c s₁ B hml hv
  obtain ⟨rfl, hv⟩ := hv
  have hx := B.exec
  have hb := B.bytes
  have hr := B.returns
  have hts := atoms_spec (ws := ws_ yX0_cell cX0_cell 2 (some .int)) B.pre
  have hts : ∀ w ∈ lw_all, w.before _ s = true := fun w h => hts w (List.mem_cons_of_mem _ h)
  have hown : s.vm.findClass RX0 = some m.cls := findClass_of_methodNamed B.named
  have hlocks := B.notSynchronized
  have hl := lv_entry ([.ref b, .int (nI k)]) (n := 2) (Nat.le_of_ble_eq_true rfl)
  rw [lg_entry_eq]
  generalize (lg_sl ([.ref b, .int (nI k)]) ++ List.replicate (2 - (lg_sl ([.ref b, .int (nI k)])).length) Slot.unset).toArray = ls at hl ⊢
  have hl : lv_has ls 2 [(0, .ref b), (1, .int (nI k))] := hl
  have hS : va_S (fun _ => False) s.heap s.heap [] := va_S.rf
  have hbl : b < s.heap.size := by
    obtain ⟨scr, h1, -⟩ := hv
    exact (Array.getElem?_eq_some_iff.mp h1).1
  refine lv_iload_n (pc := 0) hx hb dX0_cell_0 rfl (lv_at hl 1 rfl) ?_
  refine lv_aload_n (pc := 1) hx hb dX0_cell_1 rfl (lv_at hl 0 rfl) ?_
  refine va_slen (pc := 2) hx hb hv hbl (fun h => h) hS dX0_cell_2 ?_
  refine lv_icmp_ge (pc := 3) (tgt := 12) hx hb dX0_cell_3 (by decide) (fun c3 => ?_) (fun c3 => ?_)
  · refine lv_iconst (pc := 12) (v := 0) hx hb dX0_cell_12 (by decide) ?_
    exact W.iret (v := 0) hx hb hr (fun t ht hW => ⟨0, rfl, by (try dsimp only); unfold cl; rw [if_neg (fun q => nI_ge q (by omega) c3)], ht⟩) t_nil dX0_cell_13
  · have hkl : k < L := Classical.byContradiction fun q => c3 (nI_le (by omega) (by omega))
    refine lv_aload_n (pc := 6) hx hb dX0_cell_6 rfl (lv_at hl 0 rfl) ?_
    refine lv_iload_n (pc := 7) hx hb dX0_cell_7 rfl (lv_at hl 1 rfl) ?_
    refine va_sld (pc := 8) hx hb hv hbl (fun h => h) hS (vp_in_nI hkl (by omega)) dX0_cell_8 ?_
    rw [nI_clamp (show k < 2 ^ 31 by omega)]
    refine lv_goto (pc := 9) (tgt := 13) hx hb dX0_cell_9 (by decide) ?_
    exact W.iret (v := (xs k)) hx hb hr (fun t ht hW => ⟨(xs k), rfl, by (try dsimp only); unfold cl; rw [if_pos hkl], ht⟩) t_nil dX0_cell_13
set_option maxHeartbeats 4000000 in
set_option maxRecDepth 100000 in
/-- mod(v, 8) -/
theorem metX0_mod (l : Launch) (v0 : Int32) : Met l yX0_mod (ws_ yX0_mod cX0_mod 2 (some .int)) ({ frames := 0, cells := 0, slots := 0, locals := 0 } : Room) (va_Pc [.int v0, .int 8] (fun U => P0 U.heap U)) (vp_Si (fun v => ∃ j : Nat, j < 8 ∧ v = nI j)) 0 0 (fun _ => False) := by
  refine Met.ofW (cc := cX0_mod) (maxL := 2) (ret := (some .int)) (by decide) rfl ?_
  intro p e s m args below meth c s₁ B hml hv
  obtain ⟨rfl, hv⟩ := hv
  have hx := B.exec
  have hb := B.bytes
  have hr := B.returns
  have hts := atoms_spec (ws := ws_ yX0_mod cX0_mod 2 (some .int)) B.pre
  have hts : ∀ w ∈ lw_all, w.before _ s = true := fun w h => hts w (List.mem_cons_of_mem _ h)
  have hown : s.vm.findClass RX0 = some m.cls := findClass_of_methodNamed B.named
  have hlocks := B.notSynchronized
  have hl := lv_entry ([.int v0, .int 8]) (n := 2) (Nat.le_of_ble_eq_true rfl)
  rw [lg_entry_eq]
  generalize (lg_sl ([.int v0, .int 8]) ++ List.replicate (2 - (lg_sl ([.int v0, .int 8])).length) Slot.unset).toArray = ls at hl ⊢
  have hl : lv_has ls 2 [(0, .int v0), (1, .int 8)] := hl
  refine lv_iload_n (pc := 0) hx hb dX0_mod_0 rfl (lv_at hl 0 rfl) ?_
  refine lv_ldc (pc := 1) (v := 2147483647) hx hb hown (hts _ q129) dX0_mod_1 ?_
  refine lv_iand (pc := 3) hx hb dX0_mod_3 ?_
  refine lv_topi (fun v3 e3 => ?_)
  refine lv_iload_n (pc := 4) hx hb dX0_mod_4 rfl (lv_at hl 1 rfl) ?_
  refine lv_irem (pc := 5) hx hb dX0_mod_5 (by decide) ?_
  refine lv_topi (fun v5 e5 => ?_)
  have h3 : v3 = nI (v0.toBitVec.toNat % 2 ^ 31) := by rw [e3]; exact pk_and v0 31 (by decide)
  have h5 : v5 = nI (v0.toBitVec.toNat % 2 ^ 31 % 8) := by rw [e5, h3]; exact pk_rem (d := 8) (by omega) (by decide) (by decide)
  exact W.iret (v := v5) hx hb hr (fun t ht hW => ⟨v5, rfl, ⟨v0.toBitVec.toNat % 2 ^ 31 % 8, by omega, h5⟩, ht⟩) t_nil dX0_mod_6
set_option maxHeartbeats 4000000 in
set_option maxRecDepth 100000 in
/-- floor(a, 1000000000) -/
theorem metX0_floor9 (l : Launch) (a : Int64) : Met l yX0_floor (ws_ yX0_floor cX0_floor 4 (some .long)) ({ frames := 0, cells := 0, slots := 0, locals := 0 } : Room) (va_Pc [.long a, .long 1000000000] (fun U => P0 U.heap U)) (vp_Sl (fun v => v.toInt = a.toInt / 1000000000)) 0 0 (fun _ => False) := by
  refine Met.ofW (cc := cX0_floor) (maxL := 4) (ret := (some .long)) (by decide) rfl ?_
  intro p e s m args below meth c s₁ B hml hv
  obtain ⟨rfl, hv⟩ := hv
  have hx := B.exec
  have hb := B.bytes
  have hr := B.returns
  have hts := atoms_spec (ws := ws_ yX0_floor cX0_floor 4 (some .long)) B.pre
  have hts : ∀ w ∈ lw_all, w.before _ s = true := fun w h => hts w (List.mem_cons_of_mem _ h)
  have hown : s.vm.findClass RX0 = some m.cls := findClass_of_methodNamed B.named
  have hlocks := B.notSynchronized
  have hl := lv_entry ([.long a, .long 1000000000]) (n := 4) (Nat.le_of_ble_eq_true rfl)
  rw [lg_entry_eq]
  generalize (lg_sl ([.long a, .long 1000000000]) ++ List.replicate (4 - (lg_sl ([.long a, .long 1000000000])).length) Slot.unset).toArray = ls at hl ⊢
  have hl : lv_has ls 4 [(0, .long a), (2, .long 1000000000)] := hl
  have qr := sd_qr9 a
  have qb := sd_lb a
  refine lv_lload_n (pc := 0) hx hb dX0_floor_0 rfl (lv_at hl 0 rfl) ?_
  refine lv_lload_n (pc := 1) hx hb dX0_floor_1 rfl (lv_at hl 1 rfl) ?_
  refine lv_lrem (pc := 2) hx hb dX0_floor_2 (by decide) ?_
  refine lv_topl (fun v2 e2 => ?_)
  refine lv_lconst (pc := 3) (v := 0) hx hb dX0_floor_3 (by decide) ?_
  have k2 : v2.toInt = if 0 ≤ a.toInt then a.toInt % 1000000000 else -((-a.toInt) % 1000000000) := by rw [e2]; exact qr.2
  refine sd_lge (pc := 4) (tgt := 16) hx hb dX0_floor_4 dX0_floor_5 (by decide) (fun c4 => ?_) (fun c4 => ?_)
  · rw [sd_z0] at c4
    refine lv_lload_n (pc := 16) hx hb dX0_floor_16 rfl (lv_at hl 0 rfl) ?_
    refine lv_lload_n (pc := 17) hx hb dX0_floor_17 rfl (lv_at hl 1 rfl) ?_
    refine lv_ldiv (pc := 18) hx hb dX0_floor_18 (by decide) ?_
    refine lv_topl (fun v18 e18 => ?_)
    have k18 : v18.toInt = if 0 ≤ a.toInt then a.toInt / 1000000000 else -((-a.toInt) / 1000000000) := by rw [e18]; exact qr.1
    exact W.lret (v := v18) hx hb hr (fun t ht hW => ⟨v18, rfl, by (try dsimp only); rw [k18]; rw [k2] at c4; split at c4 <;> (first | rw [if_pos (by omega)] | rw [if_neg (by omega)]) <;> omega, ht⟩) t_nil dX0_floor_19
  · rw [sd_z0] at c4
    refine lv_lload_n (pc := 8) hx hb dX0_floor_8 rfl (lv_at hl 0 rfl) ?_
    refine lv_lload_n (pc := 9) hx hb dX0_floor_9 rfl (lv_at hl 1 rfl) ?_
    refine lv_ldiv (pc := 10) hx hb dX0_floor_10 (by decide) ?_
    refine lv_topl (fun v10 e10 => ?_)
    have k10 : v10.toInt = if 0 ≤ a.toInt then a.toInt / 1000000000 else -((-a.toInt) / 1000000000) := by rw [e10]; exact qr.1
    have kd : v10.toInt = -((-a.toInt) / 1000000000) ∧ (-a.toInt) % 1000000000 ≠ 0 ∧ a.toInt < 0 := by rw [k10]; rw [k2] at c4; split at c4 <;> (first | rw [if_pos (by omega)] | rw [if_neg (by omega)]) <;> omega
    refine lv_lconst (pc := 11) (v := 1) hx hb dX0_floor_11 (by decide) ?_
    refine lv_lsub (pc := 12) hx hb dX0_floor_12 ?_
    refine lv_topl (fun v12 e12 => ?_)
    refine lv_goto (pc := 13) (tgt := 19) hx hb dX0_floor_13 (by decide) ?_
    have k12 : v12.toInt = v10.toInt - 1 := by rw [e12]; exact sd_sub (b := 1) (by rw [show (1 : Int64).toInt = 1 from rfl]; omega) (by rw [show (1 : Int64).toInt = 1 from rfl]; omega)
    exact W.lret (v := v12) hx hb hr (fun t ht hW => ⟨v12, rfl, by (try dsimp only); omega, ht⟩) t_nil dX0_floor_19
set_option maxHeartbeats 4000000 in
set_option maxRecDepth 100000 in
/-- floor(a, 1000) -/
theorem metX0_floor3 (l : Launch) (a : Int64) : Met l yX0_floor (ws_ yX0_floor cX0_floor 4 (some .long)) ({ frames := 0, cells := 0, slots := 0, locals := 0 } : Room) (va_Pc [.long a, .long 1000] (fun U => P0 U.heap U)) (vp_Sl (fun v => v.toInt = a.toInt / 1000)) 0 0 (fun _ => False) := by
  refine Met.ofW (cc := cX0_floor) (maxL := 4) (ret := (some .long)) (by decide) rfl ?_
  intro p e s m args below meth c s₁ B hml hv
  obtain ⟨rfl, hv⟩ := hv
  have hx := B.exec
  have hb := B.bytes
  have hr := B.returns
  have hts := atoms_spec (ws := ws_ yX0_floor cX0_floor 4 (some .long)) B.pre
  have hts : ∀ w ∈ lw_all, w.before _ s = true := fun w h => hts w (List.mem_cons_of_mem _ h)
  have hown : s.vm.findClass RX0 = some m.cls := findClass_of_methodNamed B.named
  have hlocks := B.notSynchronized
  have hl := lv_entry ([.long a, .long 1000]) (n := 4) (Nat.le_of_ble_eq_true rfl)
  rw [lg_entry_eq]
  generalize (lg_sl ([.long a, .long 1000]) ++ List.replicate (4 - (lg_sl ([.long a, .long 1000])).length) Slot.unset).toArray = ls at hl ⊢
  have hl : lv_has ls 4 [(0, .long a), (2, .long 1000)] := hl
  have qr := sd_qr3 a
  have qb := sd_lb a
  refine lv_lload_n (pc := 0) hx hb dX0_floor_0 rfl (lv_at hl 0 rfl) ?_
  refine lv_lload_n (pc := 1) hx hb dX0_floor_1 rfl (lv_at hl 1 rfl) ?_
  refine lv_lrem (pc := 2) hx hb dX0_floor_2 (by decide) ?_
  refine lv_topl (fun v2 e2 => ?_)
  refine lv_lconst (pc := 3) (v := 0) hx hb dX0_floor_3 (by decide) ?_
  have k2 : v2.toInt = if 0 ≤ a.toInt then a.toInt % 1000 else -((-a.toInt) % 1000) := by rw [e2]; exact qr.2
  refine sd_lge (pc := 4) (tgt := 16) hx hb dX0_floor_4 dX0_floor_5 (by decide) (fun c4 => ?_) (fun c4 => ?_)
  · rw [sd_z0] at c4
    refine lv_lload_n (pc := 16) hx hb dX0_floor_16 rfl (lv_at hl 0 rfl) ?_
    refine lv_lload_n (pc := 17) hx hb dX0_floor_17 rfl (lv_at hl 1 rfl) ?_
    refine lv_ldiv (pc := 18) hx hb dX0_floor_18 (by decide) ?_
    refine lv_topl (fun v18 e18 => ?_)
    have k18 : v18.toInt = if 0 ≤ a.toInt then a.toInt / 1000 else -((-a.toInt) / 1000) := by rw [e18]; exact qr.1
    exact W.lret (v := v18) hx hb hr (fun t ht hW => ⟨v18, rfl, by (try dsimp only); rw [k18]; rw [k2] at c4; split at c4 <;> (first | rw [if_pos (by omega)] | rw [if_neg (by omega)]) <;> omega, ht⟩) t_nil dX0_floor_19
  · rw [sd_z0] at c4
    refine lv_lload_n (pc := 8) hx hb dX0_floor_8 rfl (lv_at hl 0 rfl) ?_
    refine lv_lload_n (pc := 9) hx hb dX0_floor_9 rfl (lv_at hl 1 rfl) ?_
    refine lv_ldiv (pc := 10) hx hb dX0_floor_10 (by decide) ?_
    refine lv_topl (fun v10 e10 => ?_)
    have k10 : v10.toInt = if 0 ≤ a.toInt then a.toInt / 1000 else -((-a.toInt) / 1000) := by rw [e10]; exact qr.1
    have kd : v10.toInt = -((-a.toInt) / 1000) ∧ (-a.toInt) % 1000 ≠ 0 ∧ a.toInt < 0 := by rw [k10]; rw [k2] at c4; split at c4 <;> (first | rw [if_pos (by omega)] | rw [if_neg (by omega)]) <;> omega
    refine lv_lconst (pc := 11) (v := 1) hx hb dX0_floor_11 (by decide) ?_
    refine lv_lsub (pc := 12) hx hb dX0_floor_12 ?_
    refine lv_topl (fun v12 e12 => ?_)
    refine lv_goto (pc := 13) (tgt := 19) hx hb dX0_floor_13 (by decide) ?_
    have k12 : v12.toInt = v10.toInt - 1 := by rw [e12]; exact sd_sub (b := 1) (by rw [show (1 : Int64).toInt = 1 from rfl]; omega) (by rw [show (1 : Int64).toInt = 1 from rfl]; omega)
    exact W.lret (v := v12) hx hb hr (fun t ht hW => ⟨v12, rfl, by (try dsimp only); omega, ht⟩) t_nil dX0_floor_19
set_option maxHeartbeats 4000000 in
set_option maxRecDepth 100000 in
/-- near(z) -/
theorem metX0_near (l : Launch) (D : va_G) (a : Nat) (cL : ClassId) (Z : Nat → Int64) : Met l yX0_near (ws_ yX0_near cX0_near 1 (some .boolean)) ({ frames := 0, cells := 0, slots := 0, locals := 0 } : Room) (va_Pc [.ref a] (fun U => (Pn D a cL Z) U.heap U)) (vp_Si (fun v => v = if -4611686018427387904 < (Z 0).toInt ∧ (Z 0).toInt < 4611686018427387904 then 1 else 0)) 0 0 (fun _ => False) := by
  refine Met.ofW (cc := cX0_near) (maxL := 1) (ret := (some .boolean)) (by decide) rfl ?_
  intro p e s m args below meth c s₁ B hml hv
  obtain ⟨rfl, hv⟩ := hv
  have hx := B.exec
  have hb := B.bytes
  have hr := B.returns
  have hts := atoms_spec (ws := ws_ yX0_near cX0_near 1 (some .boolean)) B.pre
  have hts : ∀ w ∈ lw_all, w.before _ s = true := fun w h => hts w (List.mem_cons_of_mem _ h)
  have hown : s.vm.findClass RX0 = some m.cls := findClass_of_methodNamed B.named
  have hlocks := B.notSynchronized
  have hl := lv_entry ([.ref a]) (n := 1) (Nat.le_of_ble_eq_true rfl)
  rw [lg_entry_eq]
  generalize (lg_sl ([.ref a]) ++ List.replicate (1 - (lg_sl ([.ref a])).length) Slot.unset).toArray = ls at hl ⊢
  have hl : lv_has ls 1 [(0, .ref a)] := hl
  obtain ⟨hL, hK⟩ := hv
  have k1 : (4611686018427387904 : Int64).toInt = 4611686018427387904 := rfl
  have k2 : (-4611686018427387904 : Int64).toInt = -4611686018427387904 := by decide
  refine lv_aload_n (pc := 0) hx hb dX0_near_0 rfl (lv_at hl 0 rfl) ?_
  refine lv_iconst (pc := 1) (v := 0) hx hb dX0_near_1 (by decide) ?_
  refine sd_lald (pc := 2) (v := (Z 0)) hx hb hK hL 0 rfl vin0 rfl dX0_near_2 ?_
  refine lv_ldc2 (pc := 3) (v := 4611686018427387904) hx hb hown (hts _ q133) dX0_near_3 ?_
  refine sd_lge (pc := 6) (tgt := 24) hx hb dX0_near_6 dX0_near_7 (by decide) (fun c6 => ?_) (fun c6 => ?_)
  · refine lv_iconst (pc := 24) (v := 0) hx hb dX0_near_24 (by decide) ?_
    exact W.zret (v := 0) hx hb hr rfl (fun t ht hW => ⟨0, rfl, by (try dsimp only); rw [if_neg (by omega)], ht⟩) t_nil dX0_near_25
  · refine lv_aload_n (pc := 10) hx hb dX0_near_10 rfl (lv_at hl 0 rfl) ?_
    refine lv_iconst (pc := 11) (v := 0) hx hb dX0_near_11 (by decide) ?_
    refine sd_lald (pc := 12) (v := (Z 0)) hx hb hK hL 0 rfl vin0 rfl dX0_near_12 ?_
    refine lv_ldc2 (pc := 13) (v := (-4611686018427387904)) hx hb hown (hts _ q134) dX0_near_13 ?_
    refine sd_lle (pc := 16) (tgt := 24) hx hb dX0_near_16 dX0_near_17 (by decide) (fun c16 => ?_) (fun c16 => ?_)
    · refine lv_iconst (pc := 24) (v := 0) hx hb dX0_near_24 (by decide) ?_
      exact W.zret (v := 0) hx hb hr rfl (fun t ht hW => ⟨0, rfl, by (try dsimp only); rw [if_neg (by omega)], ht⟩) t_nil dX0_near_25
    · refine lv_iconst (pc := 20) (v := 1) hx hb dX0_near_20 (by decide) ?_
      refine lv_goto (pc := 21) (tgt := 25) hx hb dX0_near_21 (by decide) ?_
      exact W.zret (v := 1) hx hb hr rfl (fun t ht hW => ⟨1, rfl, by (try dsimp only); rw [if_pos (by omega)], ht⟩) t_nil dX0_near_25
set_option maxHeartbeats 4000000 in
set_option maxRecDepth 100000 in
/-- more(z, seconds, nanos) -/
theorem metX0_more (l : Launch) (D : va_G) (g sz : Nat) (cL : ClassId) (Z : Nat → Int64) (T : Int) (a b : Int64) (hR : Rw Z T) (ha1 : -4611686018427387904 ≤ a.toInt) (ha2 : a.toInt ≤ 4611686018427387904) (hb1 : -4611686018427387904 ≤ b.toInt) (hb2 : b.toInt ≤ 4611686018427387904) (h1 : -9223372036854775808 ≤ (T + a.toInt * 1000000000 + b.toInt) / 1000000000) (h2 : (T + a.toInt * 1000000000 + b.toInt) / 1000000000 < 9223372036854775808) : Met l yX0_more (ws_ yX0_more cX0_more 7 none) ({ frames := 1, cells := 0, slots := 0, locals := 23 } : Room) (va_Pc [.ref g, .long a, .long b] (fun U => (Pm D g sz cL Z) U.heap U)) (va_Qv (S := Nat → Int64) (fun Z1 => Rw Z1 (T + a.toInt * 1000000000 + b.toInt)) (fun Z1 t => La D g cL Z1 t.heap) (Ax [g] sz)) 0 0 (Ax [g] sz) := by
  refine Met.ofW (cc := cX0_more) (maxL := 7) (ret := none) (by decide) rfl ?_
  intro p e s m args below meth c s₁ B hml hv
  obtain ⟨rfl, hv⟩ := hv
  have hx := B.exec
  have hb := B.bytes
  have hr := B.returns
  have hts := atoms_spec (ws := ws_ yX0_more cX0_more 7 none) B.pre
  have hts : ∀ w ∈ lw_all, w.before _ s = true := fun w h => hts w (List.mem_cons_of_mem _ h)
  have hown : s.vm.findClass RX0 = some m.cls := findClass_of_methodNamed B.named
  have hlocks := B.notSynchronized
  have hl := lv_entry ([.ref g, .long a, .long b]) (n := 7) (Nat.le_of_ble_eq_true rfl)
  rw [lg_entry_eq]
  generalize (lg_sl ([.ref g, .long a, .long b]) ++ List.replicate (7 - (lg_sl ([.ref g, .long a, .long b])).length) Slot.unset).toArray = ls at hl ⊢
  have hl : lv_has ls 7 [(0, .ref g), (1, .long a), (3, .long b)] := hl
  obtain ⟨hsz, hL, hK⟩ := hv
  subst hsz
  have hAg : Ax [g] s.heap.size g := Or.inl (List.mem_singleton.mpr rfl)
  have hS : va_S (Ax [g] s.heap.size) s.heap s.heap [] := va_S.rf
  obtain ⟨r1, r2, r3⟩ := hR
  have hc : (1000000000 : Int64).toInt = 1000000000 := rfl
  refine lv_aload_n (pc := 0) hx hb dX0_more_0 rfl (lv_at hl 0 rfl) ?_
  refine lv_iconst (pc := 1) (v := 1) hx hb dX0_more_1 (by decide) ?_
  refine sd_lald (pc := 2) (v := (Z 1)) hx hb hK hL 0 rfl vin1 rfl dX0_more_2 ?_
  refine lv_lload_n (pc := 3) hx hb dX0_more_3 rfl (lv_at hl 2 rfl) ?_
  refine lv_ladd (pc := 4) hx hb dX0_more_4 ?_
  refine lv_topl (fun v4 e4 => ?_)
  refine lv_lstore (pc := 5) (lv' := [(5, .long v4), (0, .ref g), (1, .long a), (3, .long b)]) hx hb dX0_more_5 hl (by decide) rfl (fun ls hl => ?_)
  refine lv_aload_n (pc := 7) hx hb dX0_more_7 rfl (lv_at hl 1 rfl) ?_
  refine lv_iconst (pc := 8) (v := 0) hx hb dX0_more_8 (by decide) ?_
  refine lv_dup2_11 (pc := 9) hx hb dX0_more_9 rfl rfl ?_
  refine sd_lald (pc := 10) (v := (Z 0)) hx hb hK hL 0 rfl vin0 rfl dX0_more_10 ?_
  refine lv_lload_n (pc := 11) hx hb dX0_more_11 rfl (lv_at hl 2 rfl) ?_
  refine lv_lload (pc := 12) hx hb dX0_more_12 (lv_at hl 0 rfl) ?_
  refine lv_ldc2 (pc := 14) (v := 1000000000) hx hb hown (hts _ q216) dX0_more_14 ?_
  have h4 : v4.toInt = (Z 1).toInt + b.toInt := by rw [e4]; exact sd_add (by omega) (by omega)
  refine vp_callSl (pc := 17) (W.runS (As := [.long v4, .long 1000000000]) (rest := [.long a, .long (Z 0), .int 0, .ref g]) ⟨hx, hb, hml, hown, hts⟩ (metX0_floor9 l v4) (va_cwS 2 hts (lw_S q217 q218 q3 q219) rfl rfl rfl (by decide +kernel) ⟨Nat.le_of_ble_eq_true rfl, Nat.le_of_ble_eq_true rfl⟩) (sd_preS P0.st trivial) rfl rfl hl.1 rfl (lv_room (Nat.le_of_ble_eq_true rfl)) dX0_more_17 ⟨Nat.le_of_ble_eq_true rfl, Nat.le_of_ble_eq_true rfl⟩) (fun f17 g17 => ?_)
  replace g17 : f17.toInt = v4.toInt / 1000000000 := g17
  refine lv_ladd (pc := 20) hx hb dX0_more_20 ?_
  refine lv_topl (fun v20 e20 => ?_)
  refine lv_ladd (pc := 21) hx hb dX0_more_21 ?_
  refine lv_topl (fun v21 e21 => ?_)
  have h20 : v20.toInt = a.toInt + f17.toInt := by rw [e20]; exact sd_add (by omega) (by omega)
  have h21 : v21.toInt = (Z 0).toInt + v20.toInt := by rw [e21]; exact sd_add (by omega) (by omega)
  have hv21 : v21.toInt = (T + a.toInt * 1000000000 + b.toInt) / 1000000000 := by omega
  clear h1 h2
  refine sd_last (pc := 22) hx hb hK hL hS hAg 0 rfl vin0 dX0_more_22 (fun H1 locs1 hL1 hz1 oq1 hS => ?_)
  replace hL1 : La D g cL (vp_updL Z 0 v21) H1 := hL1
  refine lv_aload_n (pc := 23) hx hb dX0_more_23 rfl (lv_at hl 1 rfl) ?_
  refine lv_iconst (pc := 24) (v := 1) hx hb dX0_more_24 (by decide) ?_
  refine lv_lload (pc := 25) hx hb dX0_more_25 (lv_at hl 0 rfl) ?_
  refine lv_lload (pc := 27) hx hb dX0_more_27 (lv_at hl 0 rfl) ?_
  refine lv_ldc2 (pc := 29) (v := 1000000000) hx hb hown (hts _ q216) dX0_more_29 ?_
  refine vp_callSl (pc := 32) (W.runS (As := [.long v4, .long 1000000000]) (rest := [.long v4, .int 1, .ref g]) ⟨hx, hb, hml, hown, hts⟩ (metX0_floor9 l v4) (va_cwS 2 hts (lw_S q217 q218 q3 q219) rfl rfl rfl (by decide +kernel) ⟨Nat.le_of_ble_eq_true rfl, Nat.le_of_ble_eq_true rfl⟩) (sd_preS P0.st trivial) rfl rfl hl.1 rfl (lv_room (Nat.le_of_ble_eq_true rfl)) dX0_more_32 ⟨Nat.le_of_ble_eq_true rfl, Nat.le_of_ble_eq_true rfl⟩) (fun f32 g32 => ?_)
  replace g32 : f32.toInt = v4.toInt / 1000000000 := g32
  refine lv_ldc2 (pc := 35) (v := 1000000000) hx hb hown (hts _ q216) dX0_more_35 ?_
  refine lv_lmul (pc := 38) hx hb dX0_more_38 ?_
  refine lv_topl (fun v38 e38 => ?_)
  refine lv_lsub (pc := 39) hx hb dX0_more_39 ?_
  refine lv_topl (fun v39 e39 => ?_)
  have h38 : v38.toInt = f32.toInt * 1000000000 := by rw [e38]; exact sd_mul (b := 1000000000) (by rw [hc]; omega) (by rw [hc]; omega)
  have h39 : v39.toInt = v4.toInt - v38.toInt := by rw [e39]; exact sd_sub (by omega) (by omega)
  refine sd_last (pc := 40) hx hb hK hL1 hS hAg 0 rfl vin1 dX0_more_40 (fun H2 locs2 hL2 hz2 oq2 hS => ?_)
  replace hL2 : La D g cL (vp_updL (vp_updL Z 0 v21) 1 v39) H2 := hL2
  have hRw : Rw (vp_updL (vp_updL Z 0 v21) 1 v39) (T + a.toInt * 1000000000 + b.toInt) := by
    show 0 ≤ v39.toInt ∧ v39.toInt < 1000000000 ∧ T + a.toInt * 1000000000 + b.toInt = v21.toInt * 1000000000 + v39.toInt
    omega
  exact W.vret hx hb hr (fun t ht hW => ⟨⟨_, rfl, hRw, by (try dsimp only); rw [ht]; exact hL2⟩, hS.F ht⟩) hS.2.2 dX0_more_41
end
section
/-! PART 08: the law's world, and shown (printed by gen08.py) -/
abbrev tys3 (cD cG cL : ClassId) : List (ClassId × FieldType) := [(cD, .object "Duration"), (cG, .array .long), (cL, .long)]
/-- the desk, its two spans, the law's two rows: they hold the same T -/
def Wl (D : va_G) (hd ha hg : Nat) (g : Nat → Nat) (cD cG cL : ClassId) (F : Nat → Option Nat) (Z : Nat → Nat → Int64) (T : Nat → Int) (H : Heap) : Prop :=
  Dk D hd ha H ∧ Ra D ha cD F H ∧ Pair D F T H ∧ Ra D hg cG (fun k => some (g k)) H ∧ (∀ k, k < 2 → La D (g k) cL (Z k) H) ∧ (∀ k, k < 2 → Rw (Z k) (T k))
def Ps (D : va_G) (hd ha hg : Nat) (g : Nat → Nat) (cD cG cL : ClassId) (F : Nat → Option Nat) (Z : Nat → Nat → Int64) (T : Nat → Int) (H : Heap) (U : State) : Prop := Wl D hd ha hg g cD cG cL F Z T H ∧ va_K D vwCl (tys3 cD cG cL) U
theorem Ps.st {D : va_G} {hd ha hg : Nat} {g : Nat → Nat} {cD cG cL : ClassId} {F : Nat → Option Nat} {Z : Nat → Nat → Int64} {T : Nat → Int} (h : Heap) (U U' : State) (hv : U.vm.Alike U'.vm) (q : Ps D hd ha hg g cD cG cL F Z T h U) : Ps D hd ha hg g cD cG cL F Z T h U' := ⟨q.1, va_K.moved hv q.2⟩
def Pl (D : va_G) (z sz hd ha hg : Nat) (g : Nat → Nat) (cD cG cL : ClassId) (F : Nat → Option Nat) (Z : Nat → Nat → Int64) (T : Nat → Int) (H : Heap) (U : State) : Prop := Pz D z sz H U ∧ Ps D hd ha hg g cD cG cL F Z T H U
theorem Pl.st {D : va_G} {z sz hd ha hg : Nat} {g : Nat → Nat} {cD cG cL : ClassId} {F : Nat → Option Nat} {Z : Nat → Nat → Int64} {T : Nat → Int} (h : Heap) (U U' : State) (hv : U.vm.Alike U'.vm) (q : Pl D z sz hd ha hg g cD cG cL F Z T h U) : Pl D z sz hd ha hg g cD cG cL F Z T h U' := ⟨Pz.st h U U' hv q.1, Ps.st h U U' hv q.2⟩
/-- the written cells lie apart -/
def Ne4 (ha hg : Nat) (g : Nat → Nat) : Prop := hg ≠ ha ∧ g 0 ≠ g 1 ∧ ∀ k, k < 2 → g k ≠ ha ∧ g k ≠ hg
theorem Ne4.row {ha hg : Nat} {g : Nat → Nat} (h : Ne4 ha hg g) {i k : Nat} (hi : i < 2) (hk : k < 2) (hn : k ≠ i) : g k ≠ g i := by
  rcases (show i = 0 ∨ i = 1 by omega) with rfl | rfl <;> rcases (show k = 0 ∨ k = 1 by omega) with rfl | rfl
  · exact absurd rfl hn
  · exact h.2.1.symm
  · exact h.2.1
  · exact absurd rfl hn
theorem n1 {a b : Nat} (h : a ≠ b) : a ∉ [b] := fun q => h (List.mem_singleton.mp q)
set_option maxHeartbeats 4000000 in
set_option maxRecDepth 100000 in
/-- shown: it all agrees -/
theorem metX0_shown (l : Launch) (D : va_G) (hd ha hg : Nat) (g : Nat → Nat) (cD cG cL : ClassId) (F : Nat → Option Nat) (Z : Nat → Nat → Int64) (T : Nat → Int) (any : Int32) : Met l yX0_shown (ws_ yX0_shown cX0_shown 6 (some .boolean)) ({ frames := 3, cells := 0, slots := 0, locals := 66 } : Room) (va_Pc [.ref hd, .ref hg, .int any] (fun U => (Ps D hd ha hg g cD cG cL F Z T) U.heap U)) (vp_Si (fun v => v = 1)) 0 0 (fun _ => False) := by
  refine Met.ofW (cc := cX0_shown) (maxL := 6) (ret := (some .boolean)) (by decide) rfl ?_
  intro p e s m args below meth c s₁ B hml hv
  obtain ⟨rfl, hv⟩ := hv
  have hx := B.exec
  have hb := B.bytes
  have hr := B.returns
  have hts := atoms_spec (ws := ws_ yX0_shown cX0_shown 6 (some .boolean)) B.pre
  have hts : ∀ w ∈ lw_all, w.before _ s = true := fun w h => hts w (List.mem_cons_of_mem _ h)
  have hown : s.vm.findClass RX0 = some m.cls := findClass_of_methodNamed B.named
  have hlocks := B.notSynchronized
  have hl := lv_entry ([.ref hd, .ref hg, .int any]) (n := 6) (Nat.le_of_ble_eq_true rfl)
  rw [lg_entry_eq]
  generalize (lg_sl ([.ref hd, .ref hg, .int any]) ++ List.replicate (6 - (lg_sl ([.ref hd, .ref hg, .int any])).length) Slot.unset).toArray = ls at hl ⊢
  have hl : lv_has ls 6 [(0, .ref hd), (1, .ref hg), (2, .int any)] := hl
  obtain ⟨⟨hDk, hRa, hPr, hRg, hL, hR⟩, hK⟩ := hv
  have hKD := hK.sub (tys' := [(cD, .object "Duration")]) [0] rfl
  have hK0 := hK.sub (tys' := []) [] rfl
  have hL0 := hL 0 (by decide)
  have hL1 := hL 1 (by decide)
  have hR0 := hR 0 (by decide)
  have hR1 := hR 1 (by decide)
  refine lv_iconst (pc := 0) (v := 0) hx hb dX0_shown_0 (by decide) ?_
  refine lv_istore_n (pc := 1) (lv' := [(3, .int 0), (0, .ref hd), (1, .ref hg), (2, .int any)]) hx hb dX0_shown_1 rfl hl (by decide) rfl (fun ls hl => ?_)
  refine lv_iload_n (pc := 2) hx hb dX0_shown_2 rfl (lv_at hl 0 rfl) ?_
  refine lv_iconst (pc := 3) (v := 2) hx hb dX0_shown_3 (by decide) ?_
  refine lv_icmp_ge (pc := 4) (tgt := 149) hx hb dX0_shown_4 (by decide) (fun c4 => False.elim (by revert c4; decide)) (fun c4 => ?_)
  refine lv_iload_n (pc := 7) hx hb dX0_shown_7 rfl (lv_at hl 3 rfl) ?_
  refine lv_iload_n (pc := 8) hx hb dX0_shown_8 rfl (lv_at hl 3 rfl) ?_
  refine lv_iconst (pc := 9) (v := 1) hx hb dX0_shown_9 (by decide) ?_
  refine lv_iand (pc := 10) hx hb dX0_shown_10 ?_
  refine lv_topi (fun v10 e10 => ?_)
  refine lv_isub (pc := 11) hx hb dX0_shown_11 ?_
  refine lv_topi (fun v11 e11 => ?_)
  refine lv_iload_n (pc := 12) hx hb dX0_shown_12 rfl (lv_at hl 0 rfl) ?_
  refine lv_iadd (pc := 13) hx hb dX0_shown_13 ?_
  refine lv_topi (fun v13 e13 => ?_)
  refine lv_istore (pc := 14) (lv' := [(4, .int v13), (3, .int 0), (0, .ref hd), (1, .ref hg), (2, .int any)]) hx hb dX0_shown_14 hl (by decide) rfl (fun ls hl => ?_)
  refine lv_aload_n (pc := 16) hx hb dX0_shown_16 rfl (lv_at hl 3 rfl) ?_
  refine lv_iload_n (pc := 17) hx hb dX0_shown_17 rfl (lv_at hl 1 rfl) ?_
  have hix : ix v13 = 0 := by rw [e13, e11, e10]; exact ix_even any (k := 0) (by decide)
  refine sd_aald (pc := 18) (r := (g 0)) hx hb hK hRg 1 rfl rfl vin0 rfl dX0_shown_18 ?_
  refine lv_astore (pc := 19) (lv' := [(5, .ref (g 0)), (4, .int v13), (3, .int 0), (0, .ref hd), (1, .ref hg), (2, .int any)]) hx hb dX0_shown_19 hl (by decide) rfl (fun ls hl => ?_)
  refine lv_aload_n (pc := 21) hx hb dX0_shown_21 rfl (lv_at hl 3 rfl) ?_
  refine lv_iload (pc := 22) hx hb dX0_shown_22 (lv_at hl 1 rfl) ?_
  refine vp_callSl (pc := 24) (W.runV (As := [.int v13]) (rest := []) ⟨hx, hb, hml, hown, hts⟩ (metX1_whole l D hd ha cD F T v13) (cwV 1 hts (lw_V q138 q139 q140 q4 q141) rfl rfl rfl (by decide +kernel) ⟨Nat.le_of_ble_eq_true rfl, Nat.le_of_ble_eq_true rfl⟩) (sd_preV Pk.st (va_recv hK0 hDk (ci := 0) (q0 := 0) rfl rfl) (⟨hDk, hRa, hPr, hKD⟩)) rfl rfl hl.1 rfl (lv_room (Nat.le_of_ble_eq_true rfl)) dX0_shown_24 ⟨Nat.le_of_ble_eq_true rfl, Nat.le_of_ble_eq_true rfl⟩) (fun f24 g24 => ?_)
  replace g24 : f24.toInt = T (ix v13) / 1000000000 := g24
  rw [hix] at g24
  refine lv_aload (pc := 27) hx hb dX0_shown_27 (lv_at hl 0 rfl) ?_
  refine lv_iconst (pc := 29) (v := 0) hx hb dX0_shown_29 (by decide) ?_
  refine sd_lald (pc := 30) (v := (Z 0 0)) hx hb hK hL0 2 rfl vin0 rfl dX0_shown_30 ?_
  refine sd_lne (pc := 31) (tgt := 141) hx hb dX0_shown_31 dX0_shown_32 (by decide) (fun c31 => False.elim (by exact c31 (Int64.toInt_inj.mp (by rw [g24]; exact hR0.sec.symm)))) (fun c31 => ?_)
  refine lv_aload_n (pc := 35) hx hb dX0_shown_35 rfl (lv_at hl 3 rfl) ?_
  refine lv_iload (pc := 36) hx hb dX0_shown_36 (lv_at hl 1 rfl) ?_
  refine vp_callSi (pc := 38) (W.runV (As := [.int v13]) (rest := []) ⟨hx, hb, hml, hown, hts⟩ (metX1_nano l D hd ha cD F T v13) (cwV 1 hts (lw_V q146 q147 q148 q4 q149) rfl rfl rfl (by decide +kernel) ⟨Nat.le_of_ble_eq_true rfl, Nat.le_of_ble_eq_true rfl⟩) (sd_preV Pk.st (va_recv hK0 hDk (ci := 0) (q0 := 0) rfl rfl) (⟨hDk, hRa, hPr, hKD⟩)) rfl rfl hl.1 rfl (lv_room (Nat.le_of_ble_eq_true rfl)) dX0_shown_38 ⟨Nat.le_of_ble_eq_true rfl, Nat.le_of_ble_eq_true rfl⟩) (fun f38 g38 => ?_)
  replace g38 : f38.toInt = T (ix v13) % 1000000000 := g38
  rw [hix] at g38
  refine lv_i2l (pc := 41) hx hb dX0_shown_41 rfl ?_
  refine lv_topl (fun v41 e41 => ?_)
  refine lv_aload (pc := 42) hx hb dX0_shown_42 (lv_at hl 0 rfl) ?_
  refine lv_iconst (pc := 44) (v := 1) hx hb dX0_shown_44 (by decide) ?_
  refine sd_lald (pc := 45) (v := (Z 0 1)) hx hb hK hL0 2 rfl vin1 rfl dX0_shown_45 ?_
  refine sd_lne (pc := 46) (tgt := 141) hx hb dX0_shown_46 dX0_shown_47 (by decide) (fun c46 => False.elim (by exact c46 (Int64.toInt_inj.mp (by rw [e41, Int32.toInt_toInt64, g38]; obtain ⟨a1, a2, a3⟩ := hR0; omega)))) (fun c46 => ?_)
  refine lv_aload_n (pc := 50) hx hb dX0_shown_50 rfl (lv_at hl 3 rfl) ?_
  refine lv_iload (pc := 51) hx hb dX0_shown_51 (lv_at hl 1 rfl) ?_
  refine vp_callSi (pc := 53) (W.runV (As := [.int v13]) (rest := []) ⟨hx, hb, hml, hown, hts⟩ (metX1_below l D hd ha cD F T v13) (cwV 1 hts (lw_V q154 q155 q156 q4 q157) rfl rfl rfl (by decide +kernel) ⟨Nat.le_of_ble_eq_true rfl, Nat.le_of_ble_eq_true rfl⟩) (sd_preV Pk.st (va_recv hK0 hDk (ci := 0) (q0 := 0) rfl rfl) (⟨hDk, hRa, hPr, hKD⟩)) rfl rfl hl.1 rfl (lv_room (Nat.le_of_ble_eq_true rfl)) dX0_shown_53 ⟨Nat.le_of_ble_eq_true rfl, Nat.le_of_ble_eq_true rfl⟩) (fun f53 g53 => ?_)
  replace g53 : f53 = if T (ix v13) < 0 then 1 else 0 := g53
  rw [hix] at g53
  refine sd_join (pc2 := 73) (st2 := []) (ls2 := ls) ?_ (fun K73 => ?_)
  · refine lv_aload_n (pc := 73) hx hb dX0_shown_73 rfl (lv_at hl 3 rfl) ?_
    refine lv_iload (pc := 74) hx hb dX0_shown_74 (lv_at hl 1 rfl) ?_
    refine vp_callSi (pc := 76) (W.runV (As := [.int v13]) (rest := []) ⟨hx, hb, hml, hown, hts⟩ (metX1_nought l D hd ha cD F T v13) (cwV 1 hts (lw_V q162 q163 q164 q4 q165) rfl rfl rfl (by decide +kernel) ⟨Nat.le_of_ble_eq_true rfl, Nat.le_of_ble_eq_true rfl⟩) (sd_preV Pk.st (va_recv hK0 hDk (ci := 0) (q0 := 0) rfl rfl) (⟨hDk, hRa, hPr, hKD⟩)) rfl rfl hl.1 rfl (lv_room (Nat.le_of_ble_eq_true rfl)) dX0_shown_76 ⟨Nat.le_of_ble_eq_true rfl, Nat.le_of_ble_eq_true rfl⟩) (fun f76 g76 => ?_)
    replace g76 : f76 = if T (ix v13) = 0 then 1 else 0 := g76
    rw [hix] at g76
    refine sd_join (pc2 := 105) (st2 := []) (ls2 := ls) ?_ (fun K105 => ?_)
    · refine lv_aload_n (pc := 105) hx hb dX0_shown_105 rfl (lv_at hl 3 rfl) ?_
      refine lv_iload (pc := 106) hx hb dX0_shown_106 (lv_at hl 1 rfl) ?_
      refine vp_callSl (pc := 108) (W.runV (As := [.int v13]) (rest := []) ⟨hx, hb, hml, hown, hts⟩ (metX1_days l D hd ha cD F T v13) (cwV 1 hts (lw_V q170 q171 q172 q4 q173) rfl rfl rfl (by decide +kernel) ⟨Nat.le_of_ble_eq_true rfl, Nat.le_of_ble_eq_true rfl⟩) (sd_preV Pk.st (va_recv hK0 hDk (ci := 0) (q0 := 0) rfl rfl) (⟨hDk, hRa, hPr, hKD⟩)) rfl rfl hl.1 rfl (lv_room (Nat.le_of_ble_eq_true rfl)) dX0_shown_108 ⟨Nat.le_of_ble_eq_true rfl, Nat.le_of_ble_eq_true rfl⟩) (fun f108 g108 => ?_)
      replace g108 : ∃ u : Int64, u.toInt = T (ix v13) / 1000000000 ∧ f108 = u / 86400 := g108
      rw [hix] at g108
      obtain ⟨ud, hud, g108⟩ := g108
      have hud2 : ud = Z 0 0 := Int64.toInt_inj.mp (by rw [hud]; exact hR0.sec.symm)
      refine lv_aload (pc := 111) hx hb dX0_shown_111 (lv_at hl 0 rfl) ?_
      refine lv_iconst (pc := 113) (v := 0) hx hb dX0_shown_113 (by decide) ?_
      refine sd_lald (pc := 114) (v := (Z 0 0)) hx hb hK hL0 2 rfl vin0 rfl dX0_shown_114 ?_
      refine lv_ldc2 (pc := 115) (v := 86400) hx hb hown (hts _ q179) dX0_shown_115 ?_
      refine lv_ldiv (pc := 118) hx hb dX0_shown_118 (by decide) ?_
      refine lv_topl (fun v118 e118 => ?_)
      refine sd_lne (pc := 119) (tgt := 141) hx hb dX0_shown_119 dX0_shown_120 (by decide) (fun c119 => False.elim (by exact c119 (by rw [g108, e118, hud2]))) (fun c119 => ?_)
      refine lv_aload_n (pc := 123) hx hb dX0_shown_123 rfl (lv_at hl 3 rfl) ?_
      refine lv_iload (pc := 124) hx hb dX0_shown_124 (lv_at hl 1 rfl) ?_
      refine vp_callSl (pc := 126) (W.runV (As := [.int v13]) (rest := []) ⟨hx, hb, hml, hown, hts⟩ (metX1_minutes l D hd ha cD F T v13) (cwV 1 hts (lw_V q180 q181 q182 q4 q183) rfl rfl rfl (by decide +kernel) ⟨Nat.le_of_ble_eq_true rfl, Nat.le_of_ble_eq_true rfl⟩) (sd_preV Pk.st (va_recv hK0 hDk (ci := 0) (q0 := 0) rfl rfl) (⟨hDk, hRa, hPr, hKD⟩)) rfl rfl hl.1 rfl (lv_room (Nat.le_of_ble_eq_true rfl)) dX0_shown_126 ⟨Nat.le_of_ble_eq_true rfl, Nat.le_of_ble_eq_true rfl⟩) (fun f126 g126 => ?_)
      replace g126 : ∃ u : Int64, u.toInt = T (ix v13) / 1000000000 ∧ f126 = u / 60 := g126
      rw [hix] at g126
      obtain ⟨um, hum, g126⟩ := g126
      have hum2 : um = Z 0 0 := Int64.toInt_inj.mp (by rw [hum]; exact hR0.sec.symm)
      refine lv_aload (pc := 129) hx hb dX0_shown_129 (lv_at hl 0 rfl) ?_
      refine lv_iconst (pc := 131) (v := 0) hx hb dX0_shown_131 (by decide) ?_
      refine sd_lald (pc := 132) (v := (Z 0 0)) hx hb hK hL0 2 rfl vin0 rfl dX0_shown_132 ?_
      refine lv_ldc2 (pc := 133) (v := 60) hx hb hown (hts _ q189) dX0_shown_133 ?_
      refine lv_ldiv (pc := 136) hx hb dX0_shown_136 (by decide) ?_
      refine lv_topl (fun v136 e136 => ?_)
      refine sd_leq (pc := 137) (tgt := 143) hx hb dX0_shown_137 dX0_shown_138 (by decide) (fun c137 => ?_) (fun c137 => False.elim (by exact c137 (by rw [g126, e136, hum2])))
      refine lv_iinc (pc := 143) (v := 1) (lv' := [(3, .int 1), (5, .ref (g 0)), (4, .int v13), (0, .ref hd), (1, .ref hg), (2, .int any)]) hx hb dX0_shown_143 hl (k := 2) rfl (by decide) (by decide) rfl (fun ls hl => ?_)
      refine lv_goto (pc := 146) (tgt := 2) hx hb dX0_shown_146 (by decide) ?_
      refine lv_iload_n (pc := 2) hx hb dX0_shown_2 rfl (lv_at hl 0 rfl) ?_
      refine lv_iconst (pc := 3) (v := 2) hx hb dX0_shown_3 (by decide) ?_
      refine lv_icmp_ge (pc := 4) (tgt := 149) hx hb dX0_shown_4 (by decide) (fun c4 => False.elim (by revert c4; decide)) (fun c4 => ?_)
      refine lv_iload_n (pc := 7) hx hb dX0_shown_7 rfl (lv_at hl 5 rfl) ?_
      refine lv_iload_n (pc := 8) hx hb dX0_shown_8 rfl (lv_at hl 5 rfl) ?_
      refine lv_iconst (pc := 9) (v := 1) hx hb dX0_shown_9 (by decide) ?_
      refine lv_iand (pc := 10) hx hb dX0_shown_10 ?_
      refine lv_topi (fun v10 e10 => ?_)
      refine lv_isub (pc := 11) hx hb dX0_shown_11 ?_
      refine lv_topi (fun v11 e11 => ?_)
      refine lv_iload_n (pc := 12) hx hb dX0_shown_12 rfl (lv_at hl 0 rfl) ?_
      refine lv_iadd (pc := 13) hx hb dX0_shown_13 ?_
      refine lv_topi (fun v13 e13 => ?_)
      refine lv_istore (pc := 14) (lv' := [(4, .int v13), (3, .int 1), (5, .ref (g 0)), (0, .ref hd), (1, .ref hg), (2, .int any)]) hx hb dX0_shown_14 hl (by decide) rfl (fun ls hl => ?_)
      refine lv_aload_n (pc := 16) hx hb dX0_shown_16 rfl (lv_at hl 4 rfl) ?_
      refine lv_iload_n (pc := 17) hx hb dX0_shown_17 rfl (lv_at hl 1 rfl) ?_
      have hix : ix v13 = 1 := by rw [e13, e11, e10]; exact ix_even any (k := 1) (by decide)
      refine sd_aald (pc := 18) (r := (g 1)) hx hb hK hRg 1 rfl rfl vin1 rfl dX0_shown_18 ?_
      refine lv_astore (pc := 19) (lv' := [(5, .ref (g 1)), (4, .int v13), (3, .int 1), (0, .ref hd), (1, .ref hg), (2, .int any)]) hx hb dX0_shown_19 hl (by decide) rfl (fun ls hl => ?_)
      refine lv_aload_n (pc := 21) hx hb dX0_shown_21 rfl (lv_at hl 3 rfl) ?_
      refine lv_iload (pc := 22) hx hb dX0_shown_22 (lv_at hl 1 rfl) ?_
      refine vp_callSl (pc := 24) (W.runV (As := [.int v13]) (rest := []) ⟨hx, hb, hml, hown, hts⟩ (metX1_whole l D hd ha cD F T v13) (cwV 1 hts (lw_V q138 q139 q140 q4 q141) rfl rfl rfl (by decide +kernel) ⟨Nat.le_of_ble_eq_true rfl, Nat.le_of_ble_eq_true rfl⟩) (sd_preV Pk.st (va_recv hK0 hDk (ci := 0) (q0 := 0) rfl rfl) (⟨hDk, hRa, hPr, hKD⟩)) rfl rfl hl.1 rfl (lv_room (Nat.le_of_ble_eq_true rfl)) dX0_shown_24 ⟨Nat.le_of_ble_eq_true rfl, Nat.le_of_ble_eq_true rfl⟩) (fun f24 g24 => ?_)
      replace g24 : f24.toInt = T (ix v13) / 1000000000 := g24
      rw [hix] at g24
      refine lv_aload (pc := 27) hx hb dX0_shown_27 (lv_at hl 0 rfl) ?_
      refine lv_iconst (pc := 29) (v := 0) hx hb dX0_shown_29 (by decide) ?_
      refine sd_lald (pc := 30) (v := (Z 1 0)) hx hb hK hL1 2 rfl vin0 rfl dX0_shown_30 ?_
      refine sd_lne (pc := 31) (tgt := 141) hx hb dX0_shown_31 dX0_shown_32 (by decide) (fun c31 => False.elim (by exact c31 (Int64.toInt_inj.mp (by rw [g24]; exact hR1.sec.symm)))) (fun c31 => ?_)
      refine lv_aload_n (pc := 35) hx hb dX0_shown_35 rfl (lv_at hl 3 rfl) ?_
      refine lv_iload (pc := 36) hx hb dX0_shown_36 (lv_at hl 1 rfl) ?_
      refine vp_callSi (pc := 38) (W.runV (As := [.int v13]) (rest := []) ⟨hx, hb, hml, hown, hts⟩ (metX1_nano l D hd ha cD F T v13) (cwV 1 hts (lw_V q146 q147 q148 q4 q149) rfl rfl rfl (by decide +kernel) ⟨Nat.le_of_ble_eq_true rfl, Nat.le_of_ble_eq_true rfl⟩) (sd_preV Pk.st (va_recv hK0 hDk (ci := 0) (q0 := 0) rfl rfl) (⟨hDk, hRa, hPr, hKD⟩)) rfl rfl hl.1 rfl (lv_room (Nat.le_of_ble_eq_true rfl)) dX0_shown_38 ⟨Nat.le_of_ble_eq_true rfl, Nat.le_of_ble_eq_true rfl⟩) (fun f38 g38 => ?_)
      replace g38 : f38.toInt = T (ix v13) % 1000000000 := g38
      rw [hix] at g38
      refine lv_i2l (pc := 41) hx hb dX0_shown_41 rfl ?_
      refine lv_topl (fun v41 e41 => ?_)
      refine lv_aload (pc := 42) hx hb dX0_shown_42 (lv_at hl 0 rfl) ?_
      refine lv_iconst (pc := 44) (v := 1) hx hb dX0_shown_44 (by decide) ?_
      refine sd_lald (pc := 45) (v := (Z 1 1)) hx hb hK hL1 2 rfl vin1 rfl dX0_shown_45 ?_
      refine sd_lne (pc := 46) (tgt := 141) hx hb dX0_shown_46 dX0_shown_47 (by decide) (fun c46 => False.elim (by exact c46 (Int64.toInt_inj.mp (by rw [e41, Int32.toInt_toInt64, g38]; obtain ⟨a1, a2, a3⟩ := hR1; omega)))) (fun c46 => ?_)
      refine lv_aload_n (pc := 50) hx hb dX0_shown_50 rfl (lv_at hl 3 rfl) ?_
      refine lv_iload (pc := 51) hx hb dX0_shown_51 (lv_at hl 1 rfl) ?_
      refine vp_callSi (pc := 53) (W.runV (As := [.int v13]) (rest := []) ⟨hx, hb, hml, hown, hts⟩ (metX1_below l D hd ha cD F T v13) (cwV 1 hts (lw_V q154 q155 q156 q4 q157) rfl rfl rfl (by decide +kernel) ⟨Nat.le_of_ble_eq_true rfl, Nat.le_of_ble_eq_true rfl⟩) (sd_preV Pk.st (va_recv hK0 hDk (ci := 0) (q0 := 0) rfl rfl) (⟨hDk, hRa, hPr, hKD⟩)) rfl rfl hl.1 rfl (lv_room (Nat.le_of_ble_eq_true rfl)) dX0_shown_53 ⟨Nat.le_of_ble_eq_true rfl, Nat.le_of_ble_eq_true rfl⟩) (fun f53 g53 => ?_)
      replace g53 : f53 = if T (ix v13) < 0 then 1 else 0 := g53
      rw [hix] at g53
      refine sd_join (pc2 := 73) (st2 := []) (ls2 := ls) ?_ (fun K73 => ?_)
      · refine lv_aload_n (pc := 73) hx hb dX0_shown_73 rfl (lv_at hl 3 rfl) ?_
        refine lv_iload (pc := 74) hx hb dX0_shown_74 (lv_at hl 1 rfl) ?_
        refine vp_callSi (pc := 76) (W.runV (As := [.int v13]) (rest := []) ⟨hx, hb, hml, hown, hts⟩ (metX1_nought l D hd ha cD F T v13) (cwV 1 hts (lw_V q162 q163 q164 q4 q165) rfl rfl rfl (by decide +kernel) ⟨Nat.le_of_ble_eq_true rfl, Nat.le_of_ble_eq_true rfl⟩) (sd_preV Pk.st (va_recv hK0 hDk (ci := 0) (q0 := 0) rfl rfl) (⟨hDk, hRa, hPr, hKD⟩)) rfl rfl hl.1 rfl (lv_room (Nat.le_of_ble_eq_true rfl)) dX0_shown_76 ⟨Nat.le_of_ble_eq_true rfl, Nat.le_of_ble_eq_true rfl⟩) (fun f76 g76 => ?_)
        replace g76 : f76 = if T (ix v13) = 0 then 1 else 0 := g76
        rw [hix] at g76
        refine sd_join (pc2 := 105) (st2 := []) (ls2 := ls) ?_ (fun K105 => ?_)
        · refine lv_aload_n (pc := 105) hx hb dX0_shown_105 rfl (lv_at hl 3 rfl) ?_
          refine lv_iload (pc := 106) hx hb dX0_shown_106 (lv_at hl 1 rfl) ?_
          refine vp_callSl (pc := 108) (W.runV (As := [.int v13]) (rest := []) ⟨hx, hb, hml, hown, hts⟩ (metX1_days l D hd ha cD F T v13) (cwV 1 hts (lw_V q170 q171 q172 q4 q173) rfl rfl rfl (by decide +kernel) ⟨Nat.le_of_ble_eq_true rfl, Nat.le_of_ble_eq_true rfl⟩) (sd_preV Pk.st (va_recv hK0 hDk (ci := 0) (q0 := 0) rfl rfl) (⟨hDk, hRa, hPr, hKD⟩)) rfl rfl hl.1 rfl (lv_room (Nat.le_of_ble_eq_true rfl)) dX0_shown_108 ⟨Nat.le_of_ble_eq_true rfl, Nat.le_of_ble_eq_true rfl⟩) (fun f108 g108 => ?_)
          replace g108 : ∃ u : Int64, u.toInt = T (ix v13) / 1000000000 ∧ f108 = u / 86400 := g108
          rw [hix] at g108
          obtain ⟨ud, hud, g108⟩ := g108
          have hud2 : ud = Z 1 0 := Int64.toInt_inj.mp (by rw [hud]; exact hR1.sec.symm)
          refine lv_aload (pc := 111) hx hb dX0_shown_111 (lv_at hl 0 rfl) ?_
          refine lv_iconst (pc := 113) (v := 0) hx hb dX0_shown_113 (by decide) ?_
          refine sd_lald (pc := 114) (v := (Z 1 0)) hx hb hK hL1 2 rfl vin0 rfl dX0_shown_114 ?_
          refine lv_ldc2 (pc := 115) (v := 86400) hx hb hown (hts _ q179) dX0_shown_115 ?_
          refine lv_ldiv (pc := 118) hx hb dX0_shown_118 (by decide) ?_
          refine lv_topl (fun v118 e118 => ?_)
          refine sd_lne (pc := 119) (tgt := 141) hx hb dX0_shown_119 dX0_shown_120 (by decide) (fun c119 => False.elim (by exact c119 (by rw [g108, e118, hud2]))) (fun c119 => ?_)
          refine lv_aload_n (pc := 123) hx hb dX0_shown_123 rfl (lv_at hl 3 rfl) ?_
          refine lv_iload (pc := 124) hx hb dX0_shown_124 (lv_at hl 1 rfl) ?_
          refine vp_callSl (pc := 126) (W.runV (As := [.int v13]) (rest := []) ⟨hx, hb, hml, hown, hts⟩ (metX1_minutes l D hd ha cD F T v13) (cwV 1 hts (lw_V q180 q181 q182 q4 q183) rfl rfl rfl (by decide +kernel) ⟨Nat.le_of_ble_eq_true rfl, Nat.le_of_ble_eq_true rfl⟩) (sd_preV Pk.st (va_recv hK0 hDk (ci := 0) (q0 := 0) rfl rfl) (⟨hDk, hRa, hPr, hKD⟩)) rfl rfl hl.1 rfl (lv_room (Nat.le_of_ble_eq_true rfl)) dX0_shown_126 ⟨Nat.le_of_ble_eq_true rfl, Nat.le_of_ble_eq_true rfl⟩) (fun f126 g126 => ?_)
          replace g126 : ∃ u : Int64, u.toInt = T (ix v13) / 1000000000 ∧ f126 = u / 60 := g126
          rw [hix] at g126
          obtain ⟨um, hum, g126⟩ := g126
          have hum2 : um = Z 1 0 := Int64.toInt_inj.mp (by rw [hum]; exact hR1.sec.symm)
          refine lv_aload (pc := 129) hx hb dX0_shown_129 (lv_at hl 0 rfl) ?_
          refine lv_iconst (pc := 131) (v := 0) hx hb dX0_shown_131 (by decide) ?_
          refine sd_lald (pc := 132) (v := (Z 1 0)) hx hb hK hL1 2 rfl vin0 rfl dX0_shown_132 ?_
          refine lv_ldc2 (pc := 133) (v := 60) hx hb hown (hts _ q189) dX0_shown_133 ?_
          refine lv_ldiv (pc := 136) hx hb dX0_shown_136 (by decide) ?_
          refine lv_topl (fun v136 e136 => ?_)
          refine sd_leq (pc := 137) (tgt := 143) hx hb dX0_shown_137 dX0_shown_138 (by decide) (fun c137 => ?_) (fun c137 => False.elim (by exact c137 (by rw [g126, e136, hum2])))
          refine lv_iinc (pc := 143) (v := 2) (lv' := [(3, .int 2), (5, .ref (g 1)), (4, .int v13), (0, .ref hd), (1, .ref hg), (2, .int any)]) hx hb dX0_shown_143 hl (k := 2) rfl (by decide) (by decide) rfl (fun ls hl => ?_)
          refine lv_goto (pc := 146) (tgt := 2) hx hb dX0_shown_146 (by decide) ?_
          refine lv_iload_n (pc := 2) hx hb dX0_shown_2 rfl (lv_at hl 0 rfl) ?_
          refine lv_iconst (pc := 3) (v := 2) hx hb dX0_shown_3 (by decide) ?_
          refine lv_icmp_ge (pc := 4) (tgt := 149) hx hb dX0_shown_4 (by decide) (fun c4 => ?_) (fun c4 => False.elim (by revert c4; decide))
          refine lv_aload_n (pc := 149) hx hb dX0_shown_149 rfl (lv_at hl 4 rfl) ?_
          refine lv_iconst (pc := 150) (v := 0) hx hb dX0_shown_150 (by decide) ?_
          refine sd_aald (pc := 151) (r := (g 0)) hx hb hK hRg 1 rfl rfl vin0 rfl dX0_shown_151 ?_
          refine lv_astore_n (pc := 152) (lv' := [(3, .ref (g 0)), (5, .ref (g 1)), (4, .int v13), (0, .ref hd), (1, .ref hg), (2, .int any)]) hx hb dX0_shown_152 rfl hl (by decide) rfl (fun ls hl => ?_)
          refine lv_aload_n (pc := 153) hx hb dX0_shown_153 rfl (lv_at hl 4 rfl) ?_
          refine lv_iconst (pc := 154) (v := 1) hx hb dX0_shown_154 (by decide) ?_
          refine sd_aald (pc := 155) (r := (g 1)) hx hb hK hRg 1 rfl rfl vin1 rfl dX0_shown_155 ?_
          refine lv_astore (pc := 156) (lv' := [(4, .ref (g 1)), (3, .ref (g 0)), (5, .ref (g 1)), (0, .ref hd), (1, .ref hg), (2, .int any)]) hx hb dX0_shown_156 hl (by decide) rfl (fun ls hl => ?_)
          refine lv_aload_n (pc := 158) hx hb dX0_shown_158 rfl (lv_at hl 3 rfl) ?_
          refine vp_callSi (pc := 159) (W.runV (As := []) (rest := []) ⟨hx, hb, hml, hown, hts⟩ (metX1_order l D hd ha cD F T) (cwV 0 hts (lw_V q190 q191 q192 q4 q193) rfl rfl rfl (by decide +kernel) ⟨Nat.le_of_ble_eq_true rfl, Nat.le_of_ble_eq_true rfl⟩) (sd_preV Pk.st (va_recv hK0 hDk (ci := 0) (q0 := 0) rfl rfl) (⟨hDk, hRa, hPr, hKD⟩)) rfl rfl hl.1 rfl (lv_room (Nat.le_of_ble_eq_true rfl)) dX0_shown_159 ⟨Nat.le_of_ble_eq_true rfl, Nat.le_of_ble_eq_true rfl⟩) (fun f159 g159 => ?_)
          replace g159 : f159 = if T 0 < T 1 then -1 else if T 1 < T 0 then 1 else 0 := g159
          obtain ⟨a1, a2, a3⟩ := hR0
          obtain ⟨b1, b2, b3⟩ := hR1
          refine sd_join (pc2 := 226) (st2 := []) (ls2 := ls) ?_ (fun K226 => ?_)
          · refine lv_iconst (pc := 226) (v := 1) hx hb dX0_shown_226 (by decide) ?_
            refine lv_goto (pc := 227) (tgt := 231) hx hb dX0_shown_227 (by decide) ?_
            exact W.zret (v := 1) hx hb hr rfl (fun t ht hW => ⟨1, rfl, rfl, ht⟩) t_nil dX0_shown_231
          · refine lv_aload_n (pc := 162) hx hb dX0_shown_162 rfl (lv_at hl 1 rfl) ?_
            refine lv_iconst (pc := 163) (v := 0) hx hb dX0_shown_163 (by decide) ?_
            refine sd_lald (pc := 164) (v := (Z 0 0)) hx hb hK hL0 2 rfl vin0 rfl dX0_shown_164 ?_
            refine lv_aload (pc := 165) hx hb dX0_shown_165 (lv_at hl 0 rfl) ?_
            refine lv_iconst (pc := 167) (v := 0) hx hb dX0_shown_167 (by decide) ?_
            refine sd_lald (pc := 168) (v := (Z 1 0)) hx hb hK hL1 2 rfl vin0 rfl dX0_shown_168 ?_
            refine sd_leq (pc := 169) (tgt := 192) hx hb dX0_shown_169 dX0_shown_170 (by decide) (fun c169 => ?_) (fun c169 => ?_)
            · rw [c169] at a3
              refine lv_aload_n (pc := 192) hx hb dX0_shown_192 rfl (lv_at hl 1 rfl) ?_
              refine lv_iconst (pc := 193) (v := 1) hx hb dX0_shown_193 (by decide) ?_
              refine sd_lald (pc := 194) (v := (Z 0 1)) hx hb hK hL0 2 rfl vin1 rfl dX0_shown_194 ?_
              refine lv_aload (pc := 195) hx hb dX0_shown_195 (lv_at hl 0 rfl) ?_
              refine lv_iconst (pc := 197) (v := 1) hx hb dX0_shown_197 (by decide) ?_
              refine sd_lald (pc := 198) (v := (Z 1 1)) hx hb hK hL1 2 rfl vin1 rfl dX0_shown_198 ?_
              refine sd_lge (pc := 199) (tgt := 207) hx hb dX0_shown_199 dX0_shown_200 (by decide) (fun c199 => ?_) (fun c199 => ?_)
              · refine lv_aload_n (pc := 207) hx hb dX0_shown_207 rfl (lv_at hl 1 rfl) ?_
                refine lv_iconst (pc := 208) (v := 1) hx hb dX0_shown_208 (by decide) ?_
                refine sd_lald (pc := 209) (v := (Z 0 1)) hx hb hK hL0 2 rfl vin1 rfl dX0_shown_209 ?_
                refine lv_aload (pc := 210) hx hb dX0_shown_210 (lv_at hl 0 rfl) ?_
                refine lv_iconst (pc := 212) (v := 1) hx hb dX0_shown_212 (by decide) ?_
                refine sd_lald (pc := 213) (v := (Z 1 1)) hx hb hK hL1 2 rfl vin1 rfl dX0_shown_213 ?_
                refine sd_lle (pc := 214) (tgt := 222) hx hb dX0_shown_214 dX0_shown_215 (by decide) (fun c214 => ?_) (fun c214 => ?_)
                · refine lv_iconst (pc := 222) (v := 0) hx hb dX0_shown_222 (by decide) ?_
                  refine lv_icmp_ne (pc := 223) (tgt := 230) hx hb dX0_shown_223 (by decide) (fun c223 => False.elim (by exact c223 (by rw [g159]; rw [if_neg (by omega), if_neg (by omega)]))) (fun c223 => ?_)
                  exact K226
                · refine lv_iconst (pc := 218) (v := 1) hx hb dX0_shown_218 (by decide) ?_
                  refine lv_goto (pc := 219) (tgt := 223) hx hb dX0_shown_219 (by decide) ?_
                  refine lv_icmp_ne (pc := 223) (tgt := 230) hx hb dX0_shown_223 (by decide) (fun c223 => False.elim (by exact c223 (by rw [g159]; rw [if_neg (by omega), if_pos (by omega)]))) (fun c223 => ?_)
                  exact K226
              · refine lv_iconst (pc := 203) (v := (-1)) hx hb dX0_shown_203 (by decide) ?_
                refine lv_goto (pc := 204) (tgt := 223) hx hb dX0_shown_204 (by decide) ?_
                refine lv_icmp_ne (pc := 223) (tgt := 230) hx hb dX0_shown_223 (by decide) (fun c223 => False.elim (by exact c223 (by rw [g159]; rw [if_pos (by omega)]))) (fun c223 => ?_)
                exact K226
            · refine lv_aload_n (pc := 173) hx hb dX0_shown_173 rfl (lv_at hl 1 rfl) ?_
              refine lv_iconst (pc := 174) (v := 0) hx hb dX0_shown_174 (by decide) ?_
              refine sd_lald (pc := 175) (v := (Z 0 0)) hx hb hK hL0 2 rfl vin0 rfl dX0_shown_175 ?_
              refine lv_aload (pc := 176) hx hb dX0_shown_176 (lv_at hl 0 rfl) ?_
              refine lv_iconst (pc := 178) (v := 0) hx hb dX0_shown_178 (by decide) ?_
              refine sd_lald (pc := 179) (v := (Z 1 0)) hx hb hK hL1 2 rfl vin0 rfl dX0_shown_179 ?_
              refine sd_lge (pc := 180) (tgt := 188) hx hb dX0_shown_180 dX0_shown_181 (by decide) (fun c180 => ?_) (fun c180 => ?_)
              · have hne : (Z 0 0).toInt ≠ (Z 1 0).toInt := fun h => c169 (Int64.toInt_inj.mp h)
                refine lv_iconst (pc := 188) (v := 1) hx hb dX0_shown_188 (by decide) ?_
                refine lv_goto (pc := 189) (tgt := 223) hx hb dX0_shown_189 (by decide) ?_
                refine lv_icmp_ne (pc := 223) (tgt := 230) hx hb dX0_shown_223 (by decide) (fun c223 => False.elim (by exact c223 (by rw [g159]; rw [if_neg (by omega), if_pos (by omega)]))) (fun c223 => ?_)
                exact K226
              · refine lv_iconst (pc := 184) (v := (-1)) hx hb dX0_shown_184 (by decide) ?_
                refine lv_goto (pc := 185) (tgt := 223) hx hb dX0_shown_185 (by decide) ?_
                refine lv_icmp_ne (pc := 223) (tgt := 230) hx hb dX0_shown_223 (by decide) (fun c223 => False.elim (by exact c223 (by rw [g159]; rw [if_pos (by omega)]))) (fun c223 => ?_)
                exact K226
        · refine lv_aload (pc := 79) hx hb dX0_shown_79 (lv_at hl 0 rfl) ?_
          refine lv_iconst (pc := 81) (v := 0) hx hb dX0_shown_81 (by decide) ?_
          refine sd_lald (pc := 82) (v := (Z 1 0)) hx hb hK hL1 2 rfl vin0 rfl dX0_shown_82 ?_
          refine lv_lconst (pc := 83) (v := 0) hx hb dX0_shown_83 (by decide) ?_
          refine sd_lne (pc := 84) (tgt := 101) hx hb dX0_shown_84 dX0_shown_85 (by decide) (fun c84 => ?_) (fun c84 => ?_)
          · refine lv_iconst (pc := 101) (v := 0) hx hb dX0_shown_101 (by decide) ?_
            refine lv_icmp_ne (pc := 102) (tgt := 141) hx hb dX0_shown_102 (by decide) (fun c102 => False.elim (by exact c102 (by rw [g76, if_neg (fun hz => by obtain ⟨a1, a2, a3⟩ := hR1; first | exact c84 ((sd_l0 _).mpr (by omega)) | exact c93 ((sd_l0 _).mpr (by omega)))]))) (fun c102 => ?_)
            exact K105
          · refine lv_aload (pc := 88) hx hb dX0_shown_88 (lv_at hl 0 rfl) ?_
            refine lv_iconst (pc := 90) (v := 1) hx hb dX0_shown_90 (by decide) ?_
            refine sd_lald (pc := 91) (v := (Z 1 1)) hx hb hK hL1 2 rfl vin1 rfl dX0_shown_91 ?_
            refine lv_lconst (pc := 92) (v := 0) hx hb dX0_shown_92 (by decide) ?_
            refine sd_lne (pc := 93) (tgt := 101) hx hb dX0_shown_93 dX0_shown_94 (by decide) (fun c93 => ?_) (fun c93 => ?_)
            · refine lv_iconst (pc := 101) (v := 0) hx hb dX0_shown_101 (by decide) ?_
              refine lv_icmp_ne (pc := 102) (tgt := 141) hx hb dX0_shown_102 (by decide) (fun c102 => False.elim (by exact c102 (by rw [g76, if_neg (fun hz => by obtain ⟨a1, a2, a3⟩ := hR1; first | exact c84 ((sd_l0 _).mpr (by omega)) | exact c93 ((sd_l0 _).mpr (by omega)))]))) (fun c102 => ?_)
              exact K105
            · refine lv_iconst (pc := 97) (v := 1) hx hb dX0_shown_97 (by decide) ?_
              refine lv_goto (pc := 98) (tgt := 102) hx hb dX0_shown_98 (by decide) ?_
              refine lv_icmp_ne (pc := 102) (tgt := 141) hx hb dX0_shown_102 (by decide) (fun c102 => False.elim (by exact c102 (by rw [g76, if_pos (by obtain ⟨a1, a2, a3⟩ := hR1; have b1 := (sd_l0 _).mp c84; have b2 := (sd_l0 _).mp c93; omega)]))) (fun c102 => ?_)
              exact K105
      · refine lv_aload (pc := 56) hx hb dX0_shown_56 (lv_at hl 0 rfl) ?_
        refine lv_iconst (pc := 58) (v := 0) hx hb dX0_shown_58 (by decide) ?_
        refine sd_lald (pc := 59) (v := (Z 1 0)) hx hb hK hL1 2 rfl vin0 rfl dX0_shown_59 ?_
        refine lv_lconst (pc := 60) (v := 0) hx hb dX0_shown_60 (by decide) ?_
        refine sd_lge (pc := 61) (tgt := 69) hx hb dX0_shown_61 dX0_shown_62 (by decide) (fun c61 => ?_) (fun c61 => ?_)
        · rw [sd_z0] at c61
          refine lv_iconst (pc := 69) (v := 0) hx hb dX0_shown_69 (by decide) ?_
          refine lv_icmp_ne (pc := 70) (tgt := 141) hx hb dX0_shown_70 (by decide) (fun c70 => False.elim (by exact c70 (by rw [g53, if_neg (by obtain ⟨a1, a2, a3⟩ := hR1; omega)]))) (fun c70 => ?_)
          exact K73
        · rw [sd_z0] at c61
          refine lv_iconst (pc := 65) (v := 1) hx hb dX0_shown_65 (by decide) ?_
          refine lv_goto (pc := 66) (tgt := 70) hx hb dX0_shown_66 (by decide) ?_
          refine lv_icmp_ne (pc := 70) (tgt := 141) hx hb dX0_shown_70 (by decide) (fun c70 => False.elim (by exact c70 (by rw [g53, if_pos (by obtain ⟨a1, a2, a3⟩ := hR1; omega)]))) (fun c70 => ?_)
          exact K73
    · refine lv_aload (pc := 79) hx hb dX0_shown_79 (lv_at hl 0 rfl) ?_
      refine lv_iconst (pc := 81) (v := 0) hx hb dX0_shown_81 (by decide) ?_
      refine sd_lald (pc := 82) (v := (Z 0 0)) hx hb hK hL0 2 rfl vin0 rfl dX0_shown_82 ?_
      refine lv_lconst (pc := 83) (v := 0) hx hb dX0_shown_83 (by decide) ?_
      refine sd_lne (pc := 84) (tgt := 101) hx hb dX0_shown_84 dX0_shown_85 (by decide) (fun c84 => ?_) (fun c84 => ?_)
      · refine lv_iconst (pc := 101) (v := 0) hx hb dX0_shown_101 (by decide) ?_
        refine lv_icmp_ne (pc := 102) (tgt := 141) hx hb dX0_shown_102 (by decide) (fun c102 => False.elim (by exact c102 (by rw [g76, if_neg (fun hz => by obtain ⟨a1, a2, a3⟩ := hR0; first | exact c84 ((sd_l0 _).mpr (by omega)) | exact c93 ((sd_l0 _).mpr (by omega)))]))) (fun c102 => ?_)
        exact K105
      · refine lv_aload (pc := 88) hx hb dX0_shown_88 (lv_at hl 0 rfl) ?_
        refine lv_iconst (pc := 90) (v := 1) hx hb dX0_shown_90 (by decide) ?_
        refine sd_lald (pc := 91) (v := (Z 0 1)) hx hb hK hL0 2 rfl vin1 rfl dX0_shown_91 ?_
        refine lv_lconst (pc := 92) (v := 0) hx hb dX0_shown_92 (by decide) ?_
        refine sd_lne (pc := 93) (tgt := 101) hx hb dX0_shown_93 dX0_shown_94 (by decide) (fun c93 => ?_) (fun c93 => ?_)
        · refine lv_iconst (pc := 101) (v := 0) hx hb dX0_shown_101 (by decide) ?_
          refine lv_icmp_ne (pc := 102) (tgt := 141) hx hb dX0_shown_102 (by decide) (fun c102 => False.elim (by exact c102 (by rw [g76, if_neg (fun hz => by obtain ⟨a1, a2, a3⟩ := hR0; first | exact c84 ((sd_l0 _).mpr (by omega)) | exact c93 ((sd_l0 _).mpr (by omega)))]))) (fun c102 => ?_)
          exact K105
        · refine lv_iconst (pc := 97) (v := 1) hx hb dX0_shown_97 (by decide) ?_
          refine lv_goto (pc := 98) (tgt := 102) hx hb dX0_shown_98 (by decide) ?_
          refine lv_icmp_ne (pc := 102) (tgt := 141) hx hb dX0_shown_102 (by decide) (fun c102 => False.elim (by exact c102 (by rw [g76, if_pos (by obtain ⟨a1, a2, a3⟩ := hR0; have b1 := (sd_l0 _).mp c84; have b2 := (sd_l0 _).mp c93; omega)]))) (fun c102 => ?_)
          exact K105
  · refine lv_aload (pc := 56) hx hb dX0_shown_56 (lv_at hl 0 rfl) ?_
    refine lv_iconst (pc := 58) (v := 0) hx hb dX0_shown_58 (by decide) ?_
    refine sd_lald (pc := 59) (v := (Z 0 0)) hx hb hK hL0 2 rfl vin0 rfl dX0_shown_59 ?_
    refine lv_lconst (pc := 60) (v := 0) hx hb dX0_shown_60 (by decide) ?_
    refine sd_lge (pc := 61) (tgt := 69) hx hb dX0_shown_61 dX0_shown_62 (by decide) (fun c61 => ?_) (fun c61 => ?_)
    · rw [sd_z0] at c61
      refine lv_iconst (pc := 69) (v := 0) hx hb dX0_shown_69 (by decide) ?_
      refine lv_icmp_ne (pc := 70) (tgt := 141) hx hb dX0_shown_70 (by decide) (fun c70 => False.elim (by exact c70 (by rw [g53, if_neg (by obtain ⟨a1, a2, a3⟩ := hR0; omega)]))) (fun c70 => ?_)
      exact K73
    · rw [sd_z0] at c61
      refine lv_iconst (pc := 65) (v := 1) hx hb dX0_shown_65 (by decide) ?_
      refine lv_goto (pc := 66) (tgt := 70) hx hb dX0_shown_66 (by decide) ?_
      refine lv_icmp_ne (pc := 70) (tgt := 141) hx hb dX0_shown_70 (by decide) (fun c70 => False.elim (by exact c70 (by rw [g53, if_pos (by obtain ⟨a1, a2, a3⟩ := hR0; omega)]))) (fun c70 => ?_)
      exact K73
end
section
/-! PART 09: laid (printed by gen09.py) -/
/-- behind a call of the desk that wrote its array: the rest of the world -/
theorem Wl_call {D : va_G} {hd ha hg : Nat} {g : Nat → Nat} {cD cG cL : ClassId} {F : Nat → Option Nat} {Z : Nat → Nat → Int64} {T : Nat → Int} {H H1 : Heap} {s : State} (hK : va_K D vwCl (tys3 cD cG cL) s) (hne : Ne4 ha hg g) (h : Wl D hd ha hg g cD cG cL F Z T H) (hk : ∀ q : Nat, q < H.size → ¬ Ax [ha] H.size q → H1[q]? = H[q]?) :
    Dk D hd ha H1 ∧ Ra D hg cG (fun k => some (g k)) H1 ∧ ∀ k, k < 2 → La D (g k) cL (Z k) H1 := by
  obtain ⟨hDk, hRa, -, hRg, hL, -⟩ := h
  exact ⟨Ok hK (ci := 0) rfl hDk (Arr1 (isArr_of hK hRa 0 rfl)) hk, Ak hRg (n1 hne.1) hk, fun k h2 => Ak (hL k h2) (n1 (hne.2.2 k h2).1) hk⟩
theorem Wl_same {D : va_G} {hd ha hg : Nat} {g : Nat → Nat} {cD cG cL : ClassId} {F F1 : Nat → Option Nat} {Z : Nat → Nat → Int64} {T : Nat → Int} {H H1 : Heap} {s : State} (hK : va_K D vwCl (tys3 cD cG cL) s) (hne : Ne4 ha hg g) (h : Wl D hd ha hg g cD cG cL F Z T H) (hk : ∀ q : Nat, q < H.size → ¬ Ax [ha] H.size q → H1[q]? = H[q]?) (hRa : Ra D ha cD F1 H1) (hPr : Pair D F1 T H1) : Wl D hd ha hg g cD cG cL F1 Z T H1 := by
  obtain ⟨h1, h2, h3⟩ := Wl_call hK hne h hk
  exact ⟨h1, hRa, hPr, h2, h3, h.2.2.2.2.2⟩
/-- behind the writing of row i -/
theorem Wl_end {D : va_G} {hd ha hg : Nat} {g : Nat → Nat} {cD cG cL : ClassId} {F : Nat → Option Nat} {Z : Nat → Nat → Int64} {T : Nat → Int} {H H1 : Heap} {s : State} {i : Nat} {Z1 : Nat → Int64} (hK : va_K D vwCl (tys3 cD cG cL) s) (hne : Ne4 ha hg g) (hi : i < 2) (hDk : Dk D hd ha H) (hRa : Ra D ha cD F H) (hPr : Pair D F T H) (hRg : Ra D hg cG (fun k => some (g k)) H) (hL : ∀ k, k < 2 → La D (g k) cL (Z k) H) (hR : ∀ k, k < 2 → k ≠ i → Rw (Z k) (T k))
    (hU : Un (g i) H H1) (hLi : La D (g i) cL Z1 H1) (hRi : Rw Z1 (T i)) : Wl D hd ha hg g cD cG cL F (fun k => if k = i then Z1 else Z k) T H1 := by
  have hq := hU.hq
  have hAr := Arr1 (isArr_of hK (hL i hi) 2 rfl)
  refine ⟨Ok hK (ci := 0) rfl hDk hAr hq, Ak hRa (n1 (hne.2.2 i hi).1.symm) hq, hPr.keep hK hAr hq, Ak hRg (n1 (hne.2.2 i hi).2.symm) hq, fun k hk => ?_, fun k hk => ?_⟩
  · by_cases e : k = i
    · subst e
      (try dsimp only)
      rw [if_pos rfl]
      exact hLi
    · (try dsimp only)
      rw [if_neg e]
      exact Ak (hL k hk) (n1 (hne.row hi hk e)) hq
  · by_cases e : k = i
    · subst e
      (try dsimp only)
      rw [if_pos rfl]
      exact hRi
    · (try dsimp only)
      rw [if_neg e]
      exact hR k hk e
theorem AxG {ha sz : Nat} {g : Nat → Nat} {k : Nat} (hk : k < 2) : Ax [ha, g 0, g 1] sz (g k) := by
  rcases (show k = 0 ∨ k = 1 by omega) with rfl | rfl
  · exact Or.inl (List.mem_cons_of_mem _ List.mem_cons_self)
  · exact Or.inl (List.mem_cons_of_mem _ (List.mem_cons_of_mem _ List.mem_cons_self))
set_option maxHeartbeats 4000000 in
set_option maxRecDepth 100000 in
/-- laid -/
theorem metX0_laid (l : Launch) (D : va_G) (z sz hd ha hg : Nat) (g : Nat → Nat) (cD cG cL : ClassId) (F : Nat → Option Nat) (Z : Nat → Nat → Int64) (T : Nat → Int) (hne : Ne4 ha hg g) (w h k n : Int32) : Met l yX0_laid (ws_ yX0_laid cX0_laid 7 none) ({ frames := 5, cells := 1, slots := 2, locals := 107 } : Room) (va_Pc [.ref hd, .ref hg, .int w, .int h, .int k, .int n] (fun U => (Pl D z sz hd ha hg g cD cG cL F Z T) U.heap U)) (va_Qv (S := (Nat → Option Nat) × (Nat → Nat → Int64)) (fun _ => True) (fun x t => Wl D hd ha hg g cD cG cL x.1 x.2 (tset T (ix w) ((wd h k).toInt * 1000000000 + n.toInt)) t.heap) (Ax [ha, g 0, g 1] sz)) 1 2 (Ax [ha, g 0, g 1] sz) := by
  refine Met.ofW (cc := cX0_laid) (maxL := 7) (ret := none) (by decide) rfl ?_
  intro p e s m args below meth c s₁ B hml hv
  obtain ⟨rfl, hv⟩ := hv
  have hx := B.exec
  have hb := B.bytes
  have hr := B.returns
  have hts := atoms_spec (ws := ws_ yX0_laid cX0_laid 7 none) B.pre
  have hts : ∀ w ∈ lw_all, w.before _ s = true := fun w h => hts w (List.mem_cons_of_mem _ h)
  have hown : s.vm.findClass RX0 = some m.cls := findClass_of_methodNamed B.named
  have hlocks := B.notSynchronized
  have hl := lv_entry ([.ref hd, .ref hg, .int w, .int h, .int k, .int n]) (n := 7) (Nat.le_of_ble_eq_true rfl)
  rw [lg_entry_eq]
  generalize (lg_sl ([.ref hd, .ref hg, .int w, .int h, .int k, .int n]) ++ List.replicate (7 - (lg_sl ([.ref hd, .ref hg, .int w, .int h, .int k, .int n])).length) Slot.unset).toArray = ls at hl ⊢
  have hl : lv_has ls 7 [(0, .ref hd), (1, .ref hg), (2, .int w), (3, .int h), (4, .int k), (5, .int n)] := hl
  obtain ⟨⟨hsz, hZ, hz, hK0⟩, hW, hK⟩ := hv
  subst hsz
  obtain ⟨hDk, hRa, hPr, hRg, hL, hR⟩ := id hW
  have hKD := hK.sub (tys' := [(cD, .object "Duration")]) [0] rfl
  have hKL := hK.sub (tys' := [(cL, .long)]) [2] rfl
  have hA : ∀ q : Nat, s.heap.size ≤ q → Ax [ha, g 0, g 1] s.heap.size q := fun q h => Or.inr h
  have hAa : Ax [ha, g 0, g 1] s.heap.size ha := Or.inl List.mem_cons_self
  have hAg : Ax [ha, g 0, g 1] s.heap.size (g (ix w)) := AxG (ix_lt w)
  have hS : va_S (Ax [ha, g 0, g 1] s.heap.size) s.heap s.heap [] := va_S.rf
  have hFa := Axf hS hA (Ax1 hAa)
  refine lv_aload_n (pc := 0) hx hb dX0_laid_0 rfl (lv_at hl 0 rfl) ?_
  refine lv_iload_n (pc := 1) hx hb dX0_laid_1 rfl (lv_at hl 2 rfl) ?_
  refine lv_iload_n (pc := 2) hx hb dX0_laid_2 rfl (lv_at hl 3 rfl) ?_
  refine lv_iload (pc := 3) hx hb dX0_laid_3 (lv_at hl 4 rfl) ?_
  refine lv_iload (pc := 5) hx hb dX0_laid_5 (lv_at hl 5 rfl) ?_
  refine va_callv (pc := 7) (va_runV (As := [.int w, .int h, .int k, .int n]) (rest := []) ⟨hx, hb, hml, hown, hts⟩ (metX1_set l D z s.heap.size hd ha cD F T w h k n) (cwV 4 hts (lw_V q204 q205 q206 q4 q207) rfl rfl rfl (by decide +kernel) ⟨Nat.le_of_ble_eq_true rfl, Nat.le_of_ble_eq_true rfl⟩) (sd_preV Pkz.st (va_recv hK0 hDk (ci := 0) (q0 := 0) rfl rfl) (⟨⟨rfl, hZ, hz, hK0⟩, hDk, hRa, hPr, hKD⟩)) rfl rfl hl.1 rfl (lv_room (Nat.le_of_ble_eq_true rfl)) dX0_laid_7 ⟨Nat.le_of_ble_eq_true rfl, Nat.le_of_ble_eq_true rfl⟩) hS (fun q _ h => hFa q h) hFa (fun F1 t H1 locs1 ht hvm hp hB hz1 hk1 hS => ?_)
  replace hB : Ra D ha cD F1 t.heap ∧ Pair D F1 (tset T (ix w) ((wd h k).toInt * 1000000000 + n.toInt)) t.heap := hB
  rw [ht] at hB
  obtain ⟨hDk1, hRg1, hL1⟩ := Wl_call hK hne hW hk1
  have hLi := hL1 (ix w) (ix_lt w)
  refine lv_aload_n (pc := 10) hx hb dX0_laid_10 rfl (lv_at hl 1 rfl) ?_
  refine lv_iload_n (pc := 11) hx hb dX0_laid_11 rfl (lv_at hl 2 rfl) ?_
  refine lv_iconst (pc := 12) (v := 1) hx hb dX0_laid_12 (by decide) ?_
  refine lv_iand (pc := 13) hx hb dX0_laid_13 ?_
  refine lv_topi (fun v13 e13 => ?_)
  refine sd_aald (pc := 14) (r := (g (ix w))) hx hb hK hRg1 1 rfl rfl (by rw [e13]; exact ix_in w) (by rw [e13]; rfl) dX0_laid_14 ?_
  refine lv_astore (pc := 15) (lv' := [(6, .ref (g (ix w))), (0, .ref hd), (1, .ref hg), (2, .int w), (3, .int h), (4, .int k), (5, .int n)]) hx hb dX0_laid_15 hl (by decide) rfl (fun ls hl => ?_)
  refine lv_aload (pc := 17) hx hb dX0_laid_17 (lv_at hl 0 rfl) ?_
  refine lv_iconst (pc := 19) (v := 0) hx hb dX0_laid_19 (by decide) ?_
  refine lv_iload_n (pc := 20) hx hb dX0_laid_20 rfl (lv_at hl 4 rfl) ?_
  refine lv_bipush (pc := 21) (v := 8) hx hb dX0_laid_21 (by decide) ?_
  refine lv_ishr (pc := 23) hx hb dX0_laid_23 ?_
  refine lv_topi (fun v23 e23 => ?_)
  refine lv_i2l (pc := 24) hx hb dX0_laid_24 rfl ?_
  refine lv_topl (fun v24 e24 => ?_)
  refine lv_bipush (pc := 25) (v := 32) hx hb dX0_laid_25 (by decide) ?_
  refine lv_lshl (pc := 27) hx hb dX0_laid_27 rfl ?_
  refine lv_topl (fun v27 e27 => ?_)
  refine lv_iload (pc := 28) hx hb dX0_laid_28 (lv_at hl 5 rfl) ?_
  refine lv_i2l (pc := 30) hx hb dX0_laid_30 rfl ?_
  refine lv_topl (fun v30 e30 => ?_)
  refine lv_ldc2 (pc := 31) (v := 4294967295) hx hb hown (hts _ q212) dX0_laid_31 ?_
  refine lv_land (pc := 34) hx hb dX0_laid_34 ?_
  refine lv_topl (fun v34 e34 => ?_)
  refine lv_lor (pc := 35) hx hb dX0_laid_35 ?_
  refine lv_topl (fun v35 e35 => ?_)
  have h35 : v35 = wd h k := by rw [e35, e27, e24, e23, e34, e30]; rfl
  refine sd_last (pc := 36) hx hb hK hLi hS hAg 2 rfl vin0 dX0_laid_36 (fun H2 locs2 hL2 hz2 oq2 hS => ?_)
  replace hL2 : La D (g (ix w)) cL (vp_updL (Z (ix w)) 0 v35) H2 := hL2
  refine lv_aload (pc := 37) hx hb dX0_laid_37 (lv_at hl 0 rfl) ?_
  refine lv_iconst (pc := 39) (v := 1) hx hb dX0_laid_39 (by decide) ?_
  refine lv_lconst (pc := 40) (v := 0) hx hb dX0_laid_40 (by decide) ?_
  refine sd_last (pc := 41) hx hb hK hL2 hS hAg 2 rfl vin1 dX0_laid_41 (fun H3 locs3 hL3 hz3 oq3 hS => ?_)
  replace hL3 : La D (g (ix w)) cL (vp_updL (vp_updL (Z (ix w)) 0 v35) 1 0) H3 := hL3
  have hU3 := (Un.of hz2 oq2).trans (Un.of hz3 oq3)
  have hR3 : Rw (vp_updL (vp_updL (Z (ix w)) 0 v35) 1 0) ((wd h k).toInt * 1000000000) := by
    show 0 ≤ (0 : Int64).toInt ∧ (0 : Int64).toInt < 1000000000 ∧ (wd h k).toInt * 1000000000 = v35.toInt * 1000000000 + (0 : Int64).toInt
    rw [sd_z0, h35]
    omega
  have hw1 := wd_in h k
  have hn1 := sd_ib n
  have hFg := Axf hS hA (Ax1 hAg)
  refine lv_aload (pc := 42) hx hb dX0_laid_42 (lv_at hl 0 rfl) ?_
  refine lv_lconst (pc := 44) (v := 0) hx hb dX0_laid_44 (by decide) ?_
  refine lv_iload (pc := 45) hx hb dX0_laid_45 (lv_at hl 6 rfl) ?_
  refine lv_i2l (pc := 47) hx hb dX0_laid_47 rfl ?_
  refine lv_topl (fun v47 e47 => ?_)
  have h47 : v47.toInt = n.toInt := by rw [e47, Int32.toInt_toInt64]
  refine va_callv (pc := 48) (va_runS (As := [.ref (g (ix w)), .long 0, .long v47]) (rest := []) ⟨hx, hb, hml, hown, hts⟩ (metX0_more l D (g (ix w)) H3.size cL (vp_updL (vp_updL (Z (ix w)) 0 v35) 1 0) ((wd h k).toInt * 1000000000) 0 v47 hR3 (by decide) (by decide) (by omega) (by omega) (by rw [sd_z0]; omega) (by rw [sd_z0]; omega)) (va_cwS 3 hts (lw_S q213 q214 q3 q215) rfl rfl rfl (by decide +kernel) ⟨Nat.le_of_ble_eq_true rfl, Nat.le_of_ble_eq_true rfl⟩) (sd_preS Pm.st (⟨rfl, hL3, hKL⟩)) rfl rfl hl.1 rfl (lv_room (Nat.le_of_ble_eq_true rfl)) dX0_laid_48 ⟨Nat.le_of_ble_eq_true rfl, Nat.le_of_ble_eq_true rfl⟩) hS (fun q _ h => hFg q h) hFg (fun Z1 t4 H4 locs4 ht4 hvm4 hp4 hB4 hz4 hk4 hS => ?_)
  replace hp4 : Rw Z1 ((wd h k).toInt * 1000000000 + (0 : Int64).toInt * 1000000000 + v47.toInt) := hp4
  replace hB4 : La D (g (ix w)) cL Z1 t4.heap := hB4
  rw [ht4] at hB4
  have hU4 := hU3.trans (Un.call hz4 hk4)
  have hRi : Rw Z1 (tset T (ix w) ((wd h k).toInt * 1000000000 + n.toInt) (ix w)) := by
    rw [tset_self]
    rw [sd_z0, h47] at hp4
    rw [show (wd h k).toInt * 1000000000 + n.toInt = (wd h k).toInt * 1000000000 + 0 * 1000000000 + n.toInt by omega]
    exact hp4
  have hWl := Wl_end hK hne (ix_lt w) hDk1 hB.1 hB.2 hRg1 hL1 (fun k2 hk2 hn2 => by rw [tset_ne _ _ hn2]; exact hR k2 hk2) hU4 hB4 hRi
  refine W.widen (k := 1) (n := 2) (Nat.le_of_ble_eq_true rfl) (Nat.le_of_ble_eq_true rfl) ?_
  exact W.vret hx hb hr (fun t ht hW => ⟨⟨(F1, fun k => if k = ix w then Z1 else Z k), rfl, trivial, by (try dsimp only); rw [ht]; exact hWl⟩, hS.F ht⟩) hS.2.2 dX0_laid_51
end
section
/-! PART 10: changed (printed by gen10.py) -/
set_option maxHeartbeats 4000000 in
set_option maxRecDepth 100000 in
/-- changed: kind 0 -/
theorem metX0_changed_0 (l : Launch) (D : va_G) (z sz hd ha hg : Nat) (g : Nat → Nat) (cD cG cL : ClassId) (F : Nat → Option Nat) (Z : Nat → Nat → Int64) (T : Nat → Int) (hne : Ne4 ha hg g) (w n : Int32) : Met l yX0_changed (ws_ yX0_changed cX0_changed 9 (some .boolean)) ({ frames := 7, cells := 1, slots := 2, locals := 157 } : Room) (va_Pc [.ref hd, .ref hg, .int 0, .int w, .int n] (fun U => (Pl D z sz hd ha hg g cD cG cL F Z T) U.heap U)) (va_Qi (S := (Nat → Option Nat) × (Nat → Nat → Int64)) (fun r _ => r = 1) (fun x t => Wl D hd ha hg g cD cG cL x.1 x.2 (chg 0 (ix w) n T) t.heap) (Ax [ha, g 0, g 1] sz)) 1 2 (Ax [ha, g 0, g 1] sz) := by
  refine Met.ofW (cc := cX0_changed) (maxL := 9) (ret := (some .boolean)) (by decide) rfl ?_
  intro p e s m args below meth c s₁ B hml hv
  obtain ⟨rfl, hv⟩ := hv
  have hx := B.exec
  have hb := B.bytes
  have hr := B.returns
  have hts := atoms_spec (ws := ws_ yX0_changed cX0_changed 9 (some .boolean)) B.pre
  have hts : ∀ w ∈ lw_all, w.before _ s = true := fun w h => hts w (List.mem_cons_of_mem _ h)
  have hown : s.vm.findClass RX0 = some m.cls := findClass_of_methodNamed B.named
  have hlocks := B.notSynchronized
  have hl := lv_entry ([.ref hd, .ref hg, .int 0, .int w, .int n]) (n := 9) (Nat.le_of_ble_eq_true rfl)
  rw [lg_entry_eq]
  generalize (lg_sl ([.ref hd, .ref hg, .int 0, .int w, .int n]) ++ List.replicate (9 - (lg_sl ([.ref hd, .ref hg, .int 0, .int w, .int n])).length) Slot.unset).toArray = ls at hl ⊢
  have hl : lv_has ls 9 [(0, .ref hd), (1, .ref hg), (2, .int 0), (3, .int w), (4, .int n)] := hl
  obtain ⟨⟨hsz, hZ, hz, hK0⟩, hW, hK⟩ := hv
  subst hsz
  obtain ⟨hDk, hRa, hPr, hRg, hL, hR⟩ := id hW
  have hKD := hK.sub (tys' := [(cD, .object "Duration")]) [0] rfl
  have hKL := hK.sub (tys' := [(cL, .long)]) [2] rfl
  have hA : ∀ q : Nat, s.heap.size ≤ q → Ax [ha, g 0, g 1] s.heap.size q := fun q h => Or.inr h
  have hAa : Ax [ha, g 0, g 1] s.heap.size ha := Or.inl List.mem_cons_self
  have hAg : Ax [ha, g 0, g 1] s.heap.size (g (ix w)) := AxG (ix_lt w)
  have hS : va_S (Ax [ha, g 0, g 1] s.heap.size) s.heap s.heap [] := va_S.rf
  have hFa := Axf hS hA (Ax1 hAa)
  have hFg := Axf hS hA (Ax1 hAg)
  have hL00 := hL 0 (by decide)
  have hL01 := hL 1 (by decide)
  have hs0 := (hR 0 (by decide)).sec
  have hs1 := (hR 1 (by decide)).sec
  rcases Classical.em (near2 T) with hn | hn
  · refine lv_aload_n (pc := 0) hx hb dX0_changed_0 rfl (lv_at hl 1 rfl) ?_
    refine lv_iconst (pc := 1) (v := 0) hx hb dX0_changed_1 (by decide) ?_
    refine sd_aald (pc := 2) (r := (g 0)) hx hb hK hRg 1 rfl rfl vin0 rfl dX0_changed_2 ?_
    refine vp_callSi (pc := 3) (W.runS (As := [.ref (g 0)]) (rest := []) ⟨hx, hb, hml, hown, hts⟩ (metX0_near l D (g 0) cL (Z 0)) (va_cwS 1 hts (lw_S q130 q131 q3 q132) rfl rfl rfl (by decide +kernel) ⟨Nat.le_of_ble_eq_true rfl, Nat.le_of_ble_eq_true rfl⟩) (sd_preS Pn.st (⟨hL00, hKL⟩)) rfl rfl hl.1 rfl (lv_room (Nat.le_of_ble_eq_true rfl)) dX0_changed_3 ⟨Nat.le_of_ble_eq_true rfl, Nat.le_of_ble_eq_true rfl⟩) (fun f3 g3 => ?_)
    replace g3 : f3 = if -4611686018427387904 < (Z 0 0).toInt ∧ (Z 0 0).toInt < 4611686018427387904 then 1 else 0 := g3
    refine lv_if_eq (pc := 6) (tgt := 22) hx hb dX0_changed_6 (by decide) (fun c6 => False.elim (by rw [g3, if_pos (by obtain ⟨⟨a1, a2⟩, -⟩ := hn; omega)] at c6; exact absurd c6 (by decide))) (fun c6 => ?_)
    refine lv_aload_n (pc := 9) hx hb dX0_changed_9 rfl (lv_at hl 1 rfl) ?_
    refine lv_iconst (pc := 10) (v := 1) hx hb dX0_changed_10 (by decide) ?_
    refine sd_aald (pc := 11) (r := (g 1)) hx hb hK hRg 1 rfl rfl vin1 rfl dX0_changed_11 ?_
    refine vp_callSi (pc := 12) (W.runS (As := [.ref (g 1)]) (rest := []) ⟨hx, hb, hml, hown, hts⟩ (metX0_near l D (g 1) cL (Z 1)) (va_cwS 1 hts (lw_S q130 q131 q3 q132) rfl rfl rfl (by decide +kernel) ⟨Nat.le_of_ble_eq_true rfl, Nat.le_of_ble_eq_true rfl⟩) (sd_preS Pn.st (⟨hL01, hKL⟩)) rfl rfl hl.1 rfl (lv_room (Nat.le_of_ble_eq_true rfl)) dX0_changed_12 ⟨Nat.le_of_ble_eq_true rfl, Nat.le_of_ble_eq_true rfl⟩) (fun f12 g12 => ?_)
    replace g12 : f12 = if -4611686018427387904 < (Z 1 0).toInt ∧ (Z 1 0).toInt < 4611686018427387904 then 1 else 0 := g12
    refine lv_if_eq (pc := 15) (tgt := 22) hx hb dX0_changed_15 (by decide) (fun c15 => False.elim (by rw [g12, if_pos (by obtain ⟨-, a1, a2⟩ := hn; omega)] at c15; exact absurd c15 (by decide))) (fun c15 => ?_)
    refine lv_iconst (pc := 18) (v := 1) hx hb dX0_changed_18 (by decide) ?_
    refine lv_goto (pc := 19) (tgt := 23) hx hb dX0_changed_19 (by decide) ?_
    refine lv_istore (pc := 23) (lv' := [(5, .int 1), (0, .ref hd), (1, .ref hg), (2, .int 0), (3, .int w), (4, .int n)]) hx hb dX0_changed_23 hl (by decide) rfl (fun ls hl => ?_)
    refine lv_aload_n (pc := 25) hx hb dX0_changed_25 rfl (lv_at hl 2 rfl) ?_
    refine lv_iload_n (pc := 26) hx hb dX0_changed_26 rfl (lv_at hl 4 rfl) ?_
    refine lv_iconst (pc := 27) (v := 1) hx hb dX0_changed_27 (by decide) ?_
    refine lv_iand (pc := 28) hx hb dX0_changed_28 ?_
    refine lv_topi (fun v28 e28 => ?_)
    refine sd_aald (pc := 29) (r := (g (ix w))) hx hb hK hRg 1 rfl rfl (by rw [e28]; exact ix_in w) (by rw [e28]; rfl) dX0_changed_29 ?_
    refine lv_astore (pc := 30) (lv' := [(6, .ref (g (ix w))), (5, .int 1), (0, .ref hd), (1, .ref hg), (2, .int 0), (3, .int w), (4, .int n)]) hx hb dX0_changed_30 hl (by decide) rfl (fun ls hl => ?_)
    refine lv_aload_n (pc := 32) hx hb dX0_changed_32 rfl (lv_at hl 3 rfl) ?_
    refine lv_iload_n (pc := 33) hx hb dX0_changed_33 rfl (lv_at hl 5 rfl) ?_
    refine lv_iconst (pc := 34) (v := (-1)) hx hb dX0_changed_34 (by decide) ?_
    refine lv_ixor (pc := 35) hx hb dX0_changed_35 ?_
    refine lv_topi (fun v35 e35 => ?_)
    refine lv_iconst (pc := 36) (v := 1) hx hb dX0_changed_36 (by decide) ?_
    refine lv_iand (pc := 37) hx hb dX0_changed_37 ?_
    refine lv_topi (fun v37 e37 => ?_)
    refine sd_aald (pc := 38) (r := (g (1 - ix w))) hx hb hK hRg 1 rfl rfl (by rw [e37]; exact ix_in v35) (by rw [e37, e35]; show some (g (ix (w ^^^ (-1)))) = some (g (1 - ix w)); rw [ix_not]) dX0_changed_38 ?_
    refine lv_astore (pc := 39) (lv' := [(7, .ref (g (1 - ix w))), (6, .ref (g (ix w))), (5, .int 1), (0, .ref hd), (1, .ref hg), (2, .int 0), (3, .int w), (4, .int n)]) hx hb dX0_changed_39 hl (by decide) rfl (fun ls hl => ?_)
    refine lv_iload_n (pc := 41) hx hb dX0_changed_41 rfl (lv_at hl 5 rfl) ?_
    refine lv_if_ne (pc := 42) (tgt := 53) hx hb dX0_changed_42 (by decide) (fun c42 => False.elim (by revert c42; decide)) (fun c42 => ?_)
    refine lv_aload_n (pc := 45) hx hb dX0_changed_45 rfl (lv_at hl 3 rfl) ?_
    refine lv_iload_n (pc := 46) hx hb dX0_changed_46 rfl (lv_at hl 6 rfl) ?_
    refine va_calli (pc := 47) (va_runV (As := [.int w]) (rest := []) ⟨hx, hb, hml, hown, hts⟩ (metX1_plus l D z s.heap.size hd ha cD F T w n) (cwV 1 hts (lw_V q223 q224 q225 q4 q226) rfl rfl rfl (by decide +kernel) ⟨Nat.le_of_ble_eq_true rfl, Nat.le_of_ble_eq_true rfl⟩) (sd_preV Pkz.st (va_recv hK0 hDk (ci := 0) (q0 := 0) rfl rfl) (⟨⟨rfl, hZ, hz, hK0⟩, hDk, hRa, hPr, hKD⟩)) rfl rfl hl.1 rfl (lv_room (Nat.le_of_ble_eq_true rfl)) dX0_changed_47 ⟨Nat.le_of_ble_eq_true rfl, Nat.le_of_ble_eq_true rfl⟩) hS (fun q _ h => hFa q h) hFa (fun r F1 t H1 locs1 ht hvm hp hB hz1 hk1 hS => ?_)
    replace hp : r = if near2 T then 1 else 0 := hp
    replace hB : Ra D ha cD F1 t.heap ∧ Pair D F1 (chg 0 (ix w) n T) t.heap := hB
    rw [ht] at hB
    obtain ⟨hDk1, hRg1, hL1⟩ := Wl_call hK hne hW hk1
    have hLi := hL1 (ix w) (ix_lt w)
    have hLj := hL1 (1 - ix w) (by omega)
    have hRj := hR (1 - ix w) (by omega)
    have hRi0 := hR (ix w) (ix_lt w)
    have hnj := near_nr hn (show 1 - ix w < 2 by omega)
    have hn1 := sd_ib n
    have hcg : chg 0 (ix w) n T (ix w) = T (ix w) + dlt 0 T (ix w) n := by rw [chg_yes hn, tset_self]
    obtain ⟨rr, ur, nnr, -, -, hSr⟩ := hB.2 (ix w) (ix_lt w)
    have hsr := hSr.sec
    rw [hcg] at hsr
    have hub := sd_lb ur
    refine lv_goto (pc := 50) (tgt := 103) hx hb dX0_changed_50 (by decide) ?_
    refine lv_istore (pc := 103) (lv' := [(8, .int r), (7, .ref (g (1 - ix w))), (6, .ref (g (ix w))), (5, .int 1), (0, .ref hd), (1, .ref hg), (2, .int 0), (3, .int w), (4, .int n)]) hx hb dX0_changed_103 hl (by decide) rfl (fun ls hl => ?_)
    refine lv_iload (pc := 105) hx hb dX0_changed_105 (lv_at hl 0 rfl) ?_
    refine lv_iload (pc := 107) hx hb dX0_changed_107 (lv_at hl 3 rfl) ?_
    refine lv_icmp_eq (pc := 109) (tgt := 114) hx hb dX0_changed_109 (by decide) (fun c109 => ?_) (fun c109 => False.elim (by exact c109 (by rw [hp, if_pos hn])))
    refine lv_iload (pc := 114) hx hb dX0_changed_114 (lv_at hl 3 rfl) ?_
    refine lv_if_ne (pc := 116) (tgt := 121) hx hb dX0_changed_116 (by decide) (fun c116 => ?_) (fun c116 => False.elim (by revert c116; decide))
    refine lv_iload_n (pc := 121) hx hb dX0_changed_121 rfl (lv_at hl 6 rfl) ?_
    refine lv_if_ne (pc := 122) (tgt := 138) hx hb dX0_changed_122 (by decide) (fun c122 => False.elim (by revert c122; decide)) (fun c122 => ?_)
    refine lv_aload (pc := 125) hx hb dX0_changed_125 (lv_at hl 2 rfl) ?_
    refine lv_aload (pc := 127) hx hb dX0_changed_127 (lv_at hl 1 rfl) ?_
    refine lv_iconst (pc := 129) (v := 0) hx hb dX0_changed_129 (by decide) ?_
    refine sd_lald (pc := 130) (v := (Z (1 - ix w) 0)) hx hb hK hLj 2 rfl vin0 rfl dX0_changed_130 ?_
    refine lv_aload (pc := 131) hx hb dX0_changed_131 (lv_at hl 1 rfl) ?_
    refine lv_iconst (pc := 133) (v := 1) hx hb dX0_changed_133 (by decide) ?_
    refine sd_lald (pc := 134) (v := (Z (1 - ix w) 1)) hx hb hK hLj 2 rfl vin1 rfl dX0_changed_134 ?_
    obtain ⟨b1, b2, b3⟩ := id hRj
    obtain ⟨n3, n4⟩ := hnj
    have hab : T (ix w) + (Z (1 - ix w) 0).toInt * 1000000000 + (Z (1 - ix w) 1).toInt = T (ix w) + dlt 0 T (ix w) n := by show T (ix w) + (Z (1 - ix w) 0).toInt * 1000000000 + (Z (1 - ix w) 1).toInt = T (ix w) + T (1 - ix w); omega
    have hFg2 := Axf hS hA (Ax1 hAg)
    refine va_callv (pc := 135) (va_runS (As := [.ref (g (ix w)), .long (Z (1 - ix w) 0), .long (Z (1 - ix w) 1)]) (rest := []) ⟨hx, hb, hml, hown, hts⟩ (metX0_more l D (g (ix w)) H1.size cL (Z (ix w)) (T (ix w)) (Z (1 - ix w) 0) (Z (1 - ix w) 1) hRi0 (by omega) (by omega) (by omega) (by omega) (by rw [hab, ← hsr]; exact hub.1) (by rw [hab, ← hsr]; exact hub.2)) (va_cwS 3 hts (lw_S q213 q214 q3 q215) rfl rfl rfl (by decide +kernel) ⟨Nat.le_of_ble_eq_true rfl, Nat.le_of_ble_eq_true rfl⟩) (sd_preS Pm.st (⟨rfl, hLi, hKL⟩)) rfl rfl hl.1 rfl (lv_room (Nat.le_of_ble_eq_true rfl)) dX0_changed_135 ⟨Nat.le_of_ble_eq_true rfl, Nat.le_of_ble_eq_true rfl⟩) hS (fun q _ h => hFg2 q h) hFg2 (fun Z1 t4 H4 locs4 ht4 hvm4 hp4 hB4 hz4 hk4 hS => ?_)
    replace hp4 : Rw Z1 (T (ix w) + (Z (1 - ix w) 0).toInt * 1000000000 + (Z (1 - ix w) 1).toInt) := hp4
    rw [hab, ← hcg] at hp4
    replace hB4 : La D (g (ix w)) cL Z1 t4.heap := hB4
    rw [ht4] at hB4
    have hWl := Wl_end hK hne (ix_lt w) hDk1 hB.1 hB.2 hRg1 hL1 (fun k2 hk2 hn2 => by rw [chg_yes hn, tset_ne _ _ hn2]; exact hR k2 hk2) (Un.call hz4 hk4) hB4 hp4
    refine lv_iload_n (pc := 138) hx hb dX0_changed_138 rfl (lv_at hl 6 rfl) ?_
    refine lv_iconst (pc := 139) (v := 1) hx hb dX0_changed_139 (by decide) ?_
    refine lv_icmp_ne (pc := 140) (tgt := 158) hx hb dX0_changed_140 (by decide) (fun c140 => ?_) (fun c140 => False.elim (by revert c140; decide))
    refine lv_iload_n (pc := 158) hx hb dX0_changed_158 rfl (lv_at hl 6 rfl) ?_
    refine lv_iconst (pc := 159) (v := 2) hx hb dX0_changed_159 (by decide) ?_
    refine lv_icmp_ne (pc := 160) (tgt := 172) hx hb dX0_changed_160 (by decide) (fun c160 => ?_) (fun c160 => False.elim (by revert c160; decide))
    refine lv_iload_n (pc := 172) hx hb dX0_changed_172 rfl (lv_at hl 6 rfl) ?_
    refine lv_iconst (pc := 173) (v := 3) hx hb dX0_changed_173 (by decide) ?_
    refine lv_icmp_ne (pc := 174) (tgt := 212) hx hb dX0_changed_174 (by decide) (fun c174 => ?_) (fun c174 => False.elim (by revert c174; decide))
    refine lv_iload_n (pc := 212) hx hb dX0_changed_212 rfl (lv_at hl 6 rfl) ?_
    refine lv_iconst (pc := 213) (v := 4) hx hb dX0_changed_213 (by decide) ?_
    refine lv_icmp_ne (pc := 214) (tgt := 226) hx hb dX0_changed_214 (by decide) (fun c214 => ?_) (fun c214 => False.elim (by revert c214; decide))
    refine lv_iconst (pc := 226) (v := 1) hx hb dX0_changed_226 (by decide) ?_
    refine W.widen (k := 1) (n := 2) (Nat.le_of_ble_eq_true rfl) (Nat.le_of_ble_eq_true rfl) ?_
    exact W.zret (v := 1) hx hb hr rfl (fun t ht hW => ⟨⟨1, (F1, fun k => if k = ix w then Z1 else Z k), rfl, rfl, by (try dsimp only); rw [ht]; exact hWl⟩, hS.F ht⟩) hS.2.2 dX0_changed_227
  · refine sd_join (pc2 := 23) (st2 := [.int 0]) (ls2 := ls) ?_ (fun K23 => ?_)
    · refine lv_istore (pc := 23) (lv' := [(5, .int 0), (0, .ref hd), (1, .ref hg), (2, .int 0), (3, .int w), (4, .int n)]) hx hb dX0_changed_23 hl (by decide) rfl (fun ls hl => ?_)
      refine lv_aload_n (pc := 25) hx hb dX0_changed_25 rfl (lv_at hl 2 rfl) ?_
      refine lv_iload_n (pc := 26) hx hb dX0_changed_26 rfl (lv_at hl 4 rfl) ?_
      refine lv_iconst (pc := 27) (v := 1) hx hb dX0_changed_27 (by decide) ?_
      refine lv_iand (pc := 28) hx hb dX0_changed_28 ?_
      refine lv_topi (fun v28 e28 => ?_)
      refine sd_aald (pc := 29) (r := (g (ix w))) hx hb hK hRg 1 rfl rfl (by rw [e28]; exact ix_in w) (by rw [e28]; rfl) dX0_changed_29 ?_
      refine lv_astore (pc := 30) (lv' := [(6, .ref (g (ix w))), (5, .int 0), (0, .ref hd), (1, .ref hg), (2, .int 0), (3, .int w), (4, .int n)]) hx hb dX0_changed_30 hl (by decide) rfl (fun ls hl => ?_)
      refine lv_aload_n (pc := 32) hx hb dX0_changed_32 rfl (lv_at hl 3 rfl) ?_
      refine lv_iload_n (pc := 33) hx hb dX0_changed_33 rfl (lv_at hl 5 rfl) ?_
      refine lv_iconst (pc := 34) (v := (-1)) hx hb dX0_changed_34 (by decide) ?_
      refine lv_ixor (pc := 35) hx hb dX0_changed_35 ?_
      refine lv_topi (fun v35 e35 => ?_)
      refine lv_iconst (pc := 36) (v := 1) hx hb dX0_changed_36 (by decide) ?_
      refine lv_iand (pc := 37) hx hb dX0_changed_37 ?_
      refine lv_topi (fun v37 e37 => ?_)
      refine sd_aald (pc := 38) (r := (g (1 - ix w))) hx hb hK hRg 1 rfl rfl (by rw [e37]; exact ix_in v35) (by rw [e37, e35]; show some (g (ix (w ^^^ (-1)))) = some (g (1 - ix w)); rw [ix_not]) dX0_changed_38 ?_
      refine lv_astore (pc := 39) (lv' := [(7, .ref (g (1 - ix w))), (6, .ref (g (ix w))), (5, .int 0), (0, .ref hd), (1, .ref hg), (2, .int 0), (3, .int w), (4, .int n)]) hx hb dX0_changed_39 hl (by decide) rfl (fun ls hl => ?_)
      refine lv_iload_n (pc := 41) hx hb dX0_changed_41 rfl (lv_at hl 5 rfl) ?_
      refine lv_if_ne (pc := 42) (tgt := 53) hx hb dX0_changed_42 (by decide) (fun c42 => False.elim (by revert c42; decide)) (fun c42 => ?_)
      refine lv_aload_n (pc := 45) hx hb dX0_changed_45 rfl (lv_at hl 3 rfl) ?_
      refine lv_iload_n (pc := 46) hx hb dX0_changed_46 rfl (lv_at hl 6 rfl) ?_
      refine va_calli (pc := 47) (va_runV (As := [.int w]) (rest := []) ⟨hx, hb, hml, hown, hts⟩ (metX1_plus l D z s.heap.size hd ha cD F T w n) (cwV 1 hts (lw_V q223 q224 q225 q4 q226) rfl rfl rfl (by decide +kernel) ⟨Nat.le_of_ble_eq_true rfl, Nat.le_of_ble_eq_true rfl⟩) (sd_preV Pkz.st (va_recv hK0 hDk (ci := 0) (q0 := 0) rfl rfl) (⟨⟨rfl, hZ, hz, hK0⟩, hDk, hRa, hPr, hKD⟩)) rfl rfl hl.1 rfl (lv_room (Nat.le_of_ble_eq_true rfl)) dX0_changed_47 ⟨Nat.le_of_ble_eq_true rfl, Nat.le_of_ble_eq_true rfl⟩) hS (fun q _ h => hFa q h) hFa (fun r F1 t H1 locs1 ht hvm hp hB hz1 hk1 hS => ?_)
      replace hp : r = if near2 T then 1 else 0 := hp
      replace hB : Ra D ha cD F1 t.heap ∧ Pair D F1 (chg 0 (ix w) n T) t.heap := hB
      rw [ht] at hB
      rw [chg_no hn] at hB
      have hWl := Wl_same hK hne hW hk1 hB.1 hB.2
      refine lv_goto (pc := 50) (tgt := 103) hx hb dX0_changed_50 (by decide) ?_
      refine lv_istore (pc := 103) (lv' := [(8, .int r), (7, .ref (g (1 - ix w))), (6, .ref (g (ix w))), (5, .int 0), (0, .ref hd), (1, .ref hg), (2, .int 0), (3, .int w), (4, .int n)]) hx hb dX0_changed_103 hl (by decide) rfl (fun ls hl => ?_)
      refine lv_iload (pc := 105) hx hb dX0_changed_105 (lv_at hl 0 rfl) ?_
      refine lv_iload (pc := 107) hx hb dX0_changed_107 (lv_at hl 3 rfl) ?_
      refine lv_icmp_eq (pc := 109) (tgt := 114) hx hb dX0_changed_109 (by decide) (fun c109 => ?_) (fun c109 => False.elim (by exact c109 (by rw [hp, if_neg hn])))
      refine lv_iload (pc := 114) hx hb dX0_changed_114 (lv_at hl 3 rfl) ?_
      refine lv_if_ne (pc := 116) (tgt := 121) hx hb dX0_changed_116 (by decide) (fun c116 => False.elim (by revert c116; decide)) (fun c116 => ?_)
      refine lv_iconst (pc := 119) (v := 1) hx hb dX0_changed_119 (by decide) ?_
      refine W.widen (k := 1) (n := 2) (Nat.le_of_ble_eq_true rfl) (Nat.le_of_ble_eq_true rfl) ?_
      exact W.zret (v := 1) hx hb hr rfl (fun t ht hW => ⟨⟨1, (F1, Z), rfl, rfl, by (try dsimp only); rw [ht, chg_no hn]; exact hWl⟩, hS.F ht⟩) hS.2.2 dX0_changed_120
    · refine lv_aload_n (pc := 0) hx hb dX0_changed_0 rfl (lv_at hl 1 rfl) ?_
      refine lv_iconst (pc := 1) (v := 0) hx hb dX0_changed_1 (by decide) ?_
      refine sd_aald (pc := 2) (r := (g 0)) hx hb hK hRg 1 rfl rfl vin0 rfl dX0_changed_2 ?_
      refine vp_callSi (pc := 3) (W.runS (As := [.ref (g 0)]) (rest := []) ⟨hx, hb, hml, hown, hts⟩ (metX0_near l D (g 0) cL (Z 0)) (va_cwS 1 hts (lw_S q130 q131 q3 q132) rfl rfl rfl (by decide +kernel) ⟨Nat.le_of_ble_eq_true rfl, Nat.le_of_ble_eq_true rfl⟩) (sd_preS Pn.st (⟨hL00, hKL⟩)) rfl rfl hl.1 rfl (lv_room (Nat.le_of_ble_eq_true rfl)) dX0_changed_3 ⟨Nat.le_of_ble_eq_true rfl, Nat.le_of_ble_eq_true rfl⟩) (fun f3 g3 => ?_)
      replace g3 : f3 = if -4611686018427387904 < (Z 0 0).toInt ∧ (Z 0 0).toInt < 4611686018427387904 then 1 else 0 := g3
      refine lv_if_eq (pc := 6) (tgt := 22) hx hb dX0_changed_6 (by decide) (fun c6 => ?_) (fun c6 => ?_)
      · refine lv_iconst (pc := 22) (v := 0) hx hb dX0_changed_22 (by decide) ?_
        exact K23
      · have q0 : -4611686018427387904 < (Z 0 0).toInt ∧ (Z 0 0).toInt < 4611686018427387904 := Classical.byContradiction fun q => c6 (by rw [g3, if_neg q])
        refine lv_aload_n (pc := 9) hx hb dX0_changed_9 rfl (lv_at hl 1 rfl) ?_
        refine lv_iconst (pc := 10) (v := 1) hx hb dX0_changed_10 (by decide) ?_
        refine sd_aald (pc := 11) (r := (g 1)) hx hb hK hRg 1 rfl rfl vin1 rfl dX0_changed_11 ?_
        refine vp_callSi (pc := 12) (W.runS (As := [.ref (g 1)]) (rest := []) ⟨hx, hb, hml, hown, hts⟩ (metX0_near l D (g 1) cL (Z 1)) (va_cwS 1 hts (lw_S q130 q131 q3 q132) rfl rfl rfl (by decide +kernel) ⟨Nat.le_of_ble_eq_true rfl, Nat.le_of_ble_eq_true rfl⟩) (sd_preS Pn.st (⟨hL01, hKL⟩)) rfl rfl hl.1 rfl (lv_room (Nat.le_of_ble_eq_true rfl)) dX0_changed_12 ⟨Nat.le_of_ble_eq_true rfl, Nat.le_of_ble_eq_true rfl⟩) (fun f12 g12 => ?_)
        replace g12 : f12 = if -4611686018427387904 < (Z 1 0).toInt ∧ (Z 1 0).toInt < 4611686018427387904 then 1 else 0 := g12
        refine lv_if_eq (pc := 15) (tgt := 22) hx hb dX0_changed_15 (by decide) (fun c15 => ?_) (fun c15 => False.elim (by exact c15 (by rw [g12, if_neg (fun q => hn ⟨⟨by omega, by omega⟩, by omega, by omega⟩)])))
        refine lv_iconst (pc := 22) (v := 0) hx hb dX0_changed_22 (by decide) ?_
        exact K23
set_option maxHeartbeats 4000000 in
set_option maxRecDepth 100000 in
/-- changed: kind 1 -/
theorem metX0_changed_1 (l : Launch) (D : va_G) (z sz hd ha hg : Nat) (g : Nat → Nat) (cD cG cL : ClassId) (F : Nat → Option Nat) (Z : Nat → Nat → Int64) (T : Nat → Int) (hne : Ne4 ha hg g) (w n : Int32) : Met l yX0_changed (ws_ yX0_changed cX0_changed 9 (some .boolean)) ({ frames := 7, cells := 1, slots := 2, locals := 157 } : Room) (va_Pc [.ref hd, .ref hg, .int 1, .int w, .int n] (fun U => (Pl D z sz hd ha hg g cD cG cL F Z T) U.heap U)) (va_Qi (S := (Nat → Option Nat) × (Nat → Nat → Int64)) (fun r _ => r = 1) (fun x t => Wl D hd ha hg g cD cG cL x.1 x.2 (chg 1 (ix w) n T) t.heap) (Ax [ha, g 0, g 1] sz)) 1 2 (Ax [ha, g 0, g 1] sz) := by
  refine Met.ofW (cc := cX0_changed) (maxL := 9) (ret := (some .boolean)) (by decide) rfl ?_
  intro p e s m args below meth c s₁ B hml hv
  obtain ⟨rfl, hv⟩ := hv
  have hx := B.exec
  have hb := B.bytes
  have hr := B.returns
  have hts := atoms_spec (ws := ws_ yX0_changed cX0_changed 9 (some .boolean)) B.pre
  have hts : ∀ w ∈ lw_all, w.before _ s = true := fun w h => hts w (List.mem_cons_of_mem _ h)
  have hown : s.vm.findClass RX0 = some m.cls := findClass_of_methodNamed B.named
  have hlocks := B.notSynchronized
  have hl := lv_entry ([.ref hd, .ref hg, .int 1, .int w, .int n]) (n := 9) (Nat.le_of_ble_eq_true rfl)
  rw [lg_entry_eq]
  generalize (lg_sl ([.ref hd, .ref hg, .int 1, .int w, .int n]) ++ List.replicate (9 - (lg_sl ([.ref hd, .ref hg, .int 1, .int w, .int n])).length) Slot.unset).toArray = ls at hl ⊢
  have hl : lv_has ls 9 [(0, .ref hd), (1, .ref hg), (2, .int 1), (3, .int w), (4, .int n)] := hl
  obtain ⟨⟨hsz, hZ, hz, hK0⟩, hW, hK⟩ := hv
  subst hsz
  obtain ⟨hDk, hRa, hPr, hRg, hL, hR⟩ := id hW
  have hKD := hK.sub (tys' := [(cD, .object "Duration")]) [0] rfl
  have hKL := hK.sub (tys' := [(cL, .long)]) [2] rfl
  have hA : ∀ q : Nat, s.heap.size ≤ q → Ax [ha, g 0, g 1] s.heap.size q := fun q h => Or.inr h
  have hAa : Ax [ha, g 0, g 1] s.heap.size ha := Or.inl List.mem_cons_self
  have hAg : Ax [ha, g 0, g 1] s.heap.size (g (ix w)) := AxG (ix_lt w)
  have hS : va_S (Ax [ha, g 0, g 1] s.heap.size) s.heap s.heap [] := va_S.rf
  have hFa := Axf hS hA (Ax1 hAa)
  have hFg := Axf hS hA (Ax1 hAg)
  have hL00 := hL 0 (by decide)
  have hL01 := hL 1 (by decide)
  have hs0 := (hR 0 (by decide)).sec
  have hs1 := (hR 1 (by decide)).sec
  rcases Classical.em (near2 T) with hn | hn
  · refine lv_aload_n (pc := 0) hx hb dX0_changed_0 rfl (lv_at hl 1 rfl) ?_
    refine lv_iconst (pc := 1) (v := 0) hx hb dX0_changed_1 (by decide) ?_
    refine sd_aald (pc := 2) (r := (g 0)) hx hb hK hRg 1 rfl rfl vin0 rfl dX0_changed_2 ?_
    refine vp_callSi (pc := 3) (W.runS (As := [.ref (g 0)]) (rest := []) ⟨hx, hb, hml, hown, hts⟩ (metX0_near l D (g 0) cL (Z 0)) (va_cwS 1 hts (lw_S q130 q131 q3 q132) rfl rfl rfl (by decide +kernel) ⟨Nat.le_of_ble_eq_true rfl, Nat.le_of_ble_eq_true rfl⟩) (sd_preS Pn.st (⟨hL00, hKL⟩)) rfl rfl hl.1 rfl (lv_room (Nat.le_of_ble_eq_true rfl)) dX0_changed_3 ⟨Nat.le_of_ble_eq_true rfl, Nat.le_of_ble_eq_true rfl⟩) (fun f3 g3 => ?_)
    replace g3 : f3 = if -4611686018427387904 < (Z 0 0).toInt ∧ (Z 0 0).toInt < 4611686018427387904 then 1 else 0 := g3
    refine lv_if_eq (pc := 6) (tgt := 22) hx hb dX0_changed_6 (by decide) (fun c6 => False.elim (by rw [g3, if_pos (by obtain ⟨⟨a1, a2⟩, -⟩ := hn; omega)] at c6; exact absurd c6 (by decide))) (fun c6 => ?_)
    refine lv_aload_n (pc := 9) hx hb dX0_changed_9 rfl (lv_at hl 1 rfl) ?_
    refine lv_iconst (pc := 10) (v := 1) hx hb dX0_changed_10 (by decide) ?_
    refine sd_aald (pc := 11) (r := (g 1)) hx hb hK hRg 1 rfl rfl vin1 rfl dX0_changed_11 ?_
    refine vp_callSi (pc := 12) (W.runS (As := [.ref (g 1)]) (rest := []) ⟨hx, hb, hml, hown, hts⟩ (metX0_near l D (g 1) cL (Z 1)) (va_cwS 1 hts (lw_S q130 q131 q3 q132) rfl rfl rfl (by decide +kernel) ⟨Nat.le_of_ble_eq_true rfl, Nat.le_of_ble_eq_true rfl⟩) (sd_preS Pn.st (⟨hL01, hKL⟩)) rfl rfl hl.1 rfl (lv_room (Nat.le_of_ble_eq_true rfl)) dX0_changed_12 ⟨Nat.le_of_ble_eq_true rfl, Nat.le_of_ble_eq_true rfl⟩) (fun f12 g12 => ?_)
    replace g12 : f12 = if -4611686018427387904 < (Z 1 0).toInt ∧ (Z 1 0).toInt < 4611686018427387904 then 1 else 0 := g12
    refine lv_if_eq (pc := 15) (tgt := 22) hx hb dX0_changed_15 (by decide) (fun c15 => False.elim (by rw [g12, if_pos (by obtain ⟨-, a1, a2⟩ := hn; omega)] at c15; exact absurd c15 (by decide))) (fun c15 => ?_)
    refine lv_iconst (pc := 18) (v := 1) hx hb dX0_changed_18 (by decide) ?_
    refine lv_goto (pc := 19) (tgt := 23) hx hb dX0_changed_19 (by decide) ?_
    refine lv_istore (pc := 23) (lv' := [(5, .int 1), (0, .ref hd), (1, .ref hg), (2, .int 1), (3, .int w), (4, .int n)]) hx hb dX0_changed_23 hl (by decide) rfl (fun ls hl => ?_)
    refine lv_aload_n (pc := 25) hx hb dX0_changed_25 rfl (lv_at hl 2 rfl) ?_
    refine lv_iload_n (pc := 26) hx hb dX0_changed_26 rfl (lv_at hl 4 rfl) ?_
    refine lv_iconst (pc := 27) (v := 1) hx hb dX0_changed_27 (by decide) ?_
    refine lv_iand (pc := 28) hx hb dX0_changed_28 ?_
    refine lv_topi (fun v28 e28 => ?_)
    refine sd_aald (pc := 29) (r := (g (ix w))) hx hb hK hRg 1 rfl rfl (by rw [e28]; exact ix_in w) (by rw [e28]; rfl) dX0_changed_29 ?_
    refine lv_astore (pc := 30) (lv' := [(6, .ref (g (ix w))), (5, .int 1), (0, .ref hd), (1, .ref hg), (2, .int 1), (3, .int w), (4, .int n)]) hx hb dX0_changed_30 hl (by decide) rfl (fun ls hl => ?_)
    refine lv_aload_n (pc := 32) hx hb dX0_changed_32 rfl (lv_at hl 3 rfl) ?_
    refine lv_iload_n (pc := 33) hx hb dX0_changed_33 rfl (lv_at hl 5 rfl) ?_
    refine lv_iconst (pc := 34) (v := (-1)) hx hb dX0_changed_34 (by decide) ?_
    refine lv_ixor (pc := 35) hx hb dX0_changed_35 ?_
    refine lv_topi (fun v35 e35 => ?_)
    refine lv_iconst (pc := 36) (v := 1) hx hb dX0_changed_36 (by decide) ?_
    refine lv_iand (pc := 37) hx hb dX0_changed_37 ?_
    refine lv_topi (fun v37 e37 => ?_)
    refine sd_aald (pc := 38) (r := (g (1 - ix w))) hx hb hK hRg 1 rfl rfl (by rw [e37]; exact ix_in v35) (by rw [e37, e35]; show some (g (ix (w ^^^ (-1)))) = some (g (1 - ix w)); rw [ix_not]) dX0_changed_38 ?_
    refine lv_astore (pc := 39) (lv' := [(7, .ref (g (1 - ix w))), (6, .ref (g (ix w))), (5, .int 1), (0, .ref hd), (1, .ref hg), (2, .int 1), (3, .int w), (4, .int n)]) hx hb dX0_changed_39 hl (by decide) rfl (fun ls hl => ?_)
    refine lv_iload_n (pc := 41) hx hb dX0_changed_41 rfl (lv_at hl 5 rfl) ?_
    refine lv_if_ne (pc := 42) (tgt := 53) hx hb dX0_changed_42 (by decide) (fun c42 => ?_) (fun c42 => False.elim (by revert c42; decide))
    refine lv_iload_n (pc := 53) hx hb dX0_changed_53 rfl (lv_at hl 5 rfl) ?_
    refine lv_iconst (pc := 54) (v := 1) hx hb dX0_changed_54 (by decide) ?_
    refine lv_icmp_ne (pc := 55) (tgt := 66) hx hb dX0_changed_55 (by decide) (fun c55 => False.elim (by revert c55; decide)) (fun c55 => ?_)
    refine lv_aload_n (pc := 58) hx hb dX0_changed_58 rfl (lv_at hl 3 rfl) ?_
    refine lv_iload_n (pc := 59) hx hb dX0_changed_59 rfl (lv_at hl 6 rfl) ?_
    refine va_calli (pc := 60) (va_runV (As := [.int w]) (rest := []) ⟨hx, hb, hml, hown, hts⟩ (metX1_minus l D z s.heap.size hd ha cD F T w n) (cwV 1 hts (lw_V q244 q245 q246 q4 q247) rfl rfl rfl (by decide +kernel) ⟨Nat.le_of_ble_eq_true rfl, Nat.le_of_ble_eq_true rfl⟩) (sd_preV Pkz.st (va_recv hK0 hDk (ci := 0) (q0 := 0) rfl rfl) (⟨⟨rfl, hZ, hz, hK0⟩, hDk, hRa, hPr, hKD⟩)) rfl rfl hl.1 rfl (lv_room (Nat.le_of_ble_eq_true rfl)) dX0_changed_60 ⟨Nat.le_of_ble_eq_true rfl, Nat.le_of_ble_eq_true rfl⟩) hS (fun q _ h => hFa q h) hFa (fun r F1 t H1 locs1 ht hvm hp hB hz1 hk1 hS => ?_)
    replace hp : r = if near2 T then 1 else 0 := hp
    replace hB : Ra D ha cD F1 t.heap ∧ Pair D F1 (chg 1 (ix w) n T) t.heap := hB
    rw [ht] at hB
    obtain ⟨hDk1, hRg1, hL1⟩ := Wl_call hK hne hW hk1
    have hLi := hL1 (ix w) (ix_lt w)
    have hLj := hL1 (1 - ix w) (by omega)
    have hRj := hR (1 - ix w) (by omega)
    have hRi0 := hR (ix w) (ix_lt w)
    have hnj := near_nr hn (show 1 - ix w < 2 by omega)
    have hn1 := sd_ib n
    have hcg : chg 1 (ix w) n T (ix w) = T (ix w) + dlt 1 T (ix w) n := by rw [chg_yes hn, tset_self]
    obtain ⟨rr, ur, nnr, -, -, hSr⟩ := hB.2 (ix w) (ix_lt w)
    have hsr := hSr.sec
    rw [hcg] at hsr
    have hub := sd_lb ur
    refine lv_goto (pc := 63) (tgt := 103) hx hb dX0_changed_63 (by decide) ?_
    refine lv_istore (pc := 103) (lv' := [(8, .int r), (7, .ref (g (1 - ix w))), (6, .ref (g (ix w))), (5, .int 1), (0, .ref hd), (1, .ref hg), (2, .int 1), (3, .int w), (4, .int n)]) hx hb dX0_changed_103 hl (by decide) rfl (fun ls hl => ?_)
    refine lv_iload (pc := 105) hx hb dX0_changed_105 (lv_at hl 0 rfl) ?_
    refine lv_iload (pc := 107) hx hb dX0_changed_107 (lv_at hl 3 rfl) ?_
    refine lv_icmp_eq (pc := 109) (tgt := 114) hx hb dX0_changed_109 (by decide) (fun c109 => ?_) (fun c109 => False.elim (by exact c109 (by rw [hp, if_pos hn])))
    refine lv_iload (pc := 114) hx hb dX0_changed_114 (lv_at hl 3 rfl) ?_
    refine lv_if_ne (pc := 116) (tgt := 121) hx hb dX0_changed_116 (by decide) (fun c116 => ?_) (fun c116 => False.elim (by revert c116; decide))
    refine lv_iload_n (pc := 121) hx hb dX0_changed_121 rfl (lv_at hl 6 rfl) ?_
    refine lv_if_ne (pc := 122) (tgt := 138) hx hb dX0_changed_122 (by decide) (fun c122 => ?_) (fun c122 => False.elim (by revert c122; decide))
    refine lv_iload_n (pc := 138) hx hb dX0_changed_138 rfl (lv_at hl 6 rfl) ?_
    refine lv_iconst (pc := 139) (v := 1) hx hb dX0_changed_139 (by decide) ?_
    refine lv_icmp_ne (pc := 140) (tgt := 158) hx hb dX0_changed_140 (by decide) (fun c140 => False.elim (by revert c140; decide)) (fun c140 => ?_)
    refine lv_aload (pc := 143) hx hb dX0_changed_143 (lv_at hl 2 rfl) ?_
    refine lv_aload (pc := 145) hx hb dX0_changed_145 (lv_at hl 1 rfl) ?_
    refine lv_iconst (pc := 147) (v := 0) hx hb dX0_changed_147 (by decide) ?_
    refine sd_lald (pc := 148) (v := (Z (1 - ix w) 0)) hx hb hK hLj 2 rfl vin0 rfl dX0_changed_148 ?_
    refine lv_lneg (pc := 149) hx hb dX0_changed_149 ?_
    refine lv_topl (fun v149 e149 => ?_)
    refine lv_aload (pc := 150) hx hb dX0_changed_150 (lv_at hl 1 rfl) ?_
    refine lv_iconst (pc := 152) (v := 1) hx hb dX0_changed_152 (by decide) ?_
    refine sd_lald (pc := 153) (v := (Z (1 - ix w) 1)) hx hb hK hLj 2 rfl vin1 rfl dX0_changed_153 ?_
    refine lv_lneg (pc := 154) hx hb dX0_changed_154 ?_
    refine lv_topl (fun v154 e154 => ?_)
    obtain ⟨b1, b2, b3⟩ := id hRj
    obtain ⟨n3, n4⟩ := hnj
    have h149 : v149.toInt = -(Z (1 - ix w) 0).toInt := by rw [e149]; exact sd_neg (by omega)
    have h154 : v154.toInt = -(Z (1 - ix w) 1).toInt := by rw [e154]; exact sd_neg (by omega)
    have hab : T (ix w) + v149.toInt * 1000000000 + v154.toInt = T (ix w) + dlt 1 T (ix w) n := by show T (ix w) + v149.toInt * 1000000000 + v154.toInt = T (ix w) + -T (1 - ix w); omega
    have hFg2 := Axf hS hA (Ax1 hAg)
    refine va_callv (pc := 155) (va_runS (As := [.ref (g (ix w)), .long v149, .long v154]) (rest := []) ⟨hx, hb, hml, hown, hts⟩ (metX0_more l D (g (ix w)) H1.size cL (Z (ix w)) (T (ix w)) v149 v154 hRi0 (by omega) (by omega) (by omega) (by omega) (by rw [hab, ← hsr]; exact hub.1) (by rw [hab, ← hsr]; exact hub.2)) (va_cwS 3 hts (lw_S q213 q214 q3 q215) rfl rfl rfl (by decide +kernel) ⟨Nat.le_of_ble_eq_true rfl, Nat.le_of_ble_eq_true rfl⟩) (sd_preS Pm.st (⟨rfl, hLi, hKL⟩)) rfl rfl hl.1 rfl (lv_room (Nat.le_of_ble_eq_true rfl)) dX0_changed_155 ⟨Nat.le_of_ble_eq_true rfl, Nat.le_of_ble_eq_true rfl⟩) hS (fun q _ h => hFg2 q h) hFg2 (fun Z1 t4 H4 locs4 ht4 hvm4 hp4 hB4 hz4 hk4 hS => ?_)
    replace hp4 : Rw Z1 (T (ix w) + v149.toInt * 1000000000 + v154.toInt) := hp4
    rw [hab, ← hcg] at hp4
    replace hB4 : La D (g (ix w)) cL Z1 t4.heap := hB4
    rw [ht4] at hB4
    have hWl := Wl_end hK hne (ix_lt w) hDk1 hB.1 hB.2 hRg1 hL1 (fun k2 hk2 hn2 => by rw [chg_yes hn, tset_ne _ _ hn2]; exact hR k2 hk2) (Un.call hz4 hk4) hB4 hp4
    refine lv_iload_n (pc := 158) hx hb dX0_changed_158 rfl (lv_at hl 6 rfl) ?_
    refine lv_iconst (pc := 159) (v := 2) hx hb dX0_changed_159 (by decide) ?_
    refine lv_icmp_ne (pc := 160) (tgt := 172) hx hb dX0_changed_160 (by decide) (fun c160 => ?_) (fun c160 => False.elim (by revert c160; decide))
    refine lv_iload_n (pc := 172) hx hb dX0_changed_172 rfl (lv_at hl 6 rfl) ?_
    refine lv_iconst (pc := 173) (v := 3) hx hb dX0_changed_173 (by decide) ?_
    refine lv_icmp_ne (pc := 174) (tgt := 212) hx hb dX0_changed_174 (by decide) (fun c174 => ?_) (fun c174 => False.elim (by revert c174; decide))
    refine lv_iload_n (pc := 212) hx hb dX0_changed_212 rfl (lv_at hl 6 rfl) ?_
    refine lv_iconst (pc := 213) (v := 4) hx hb dX0_changed_213 (by decide) ?_
    refine lv_icmp_ne (pc := 214) (tgt := 226) hx hb dX0_changed_214 (by decide) (fun c214 => ?_) (fun c214 => False.elim (by revert c214; decide))
    refine lv_iconst (pc := 226) (v := 1) hx hb dX0_changed_226 (by decide) ?_
    refine W.widen (k := 1) (n := 2) (Nat.le_of_ble_eq_true rfl) (Nat.le_of_ble_eq_true rfl) ?_
    exact W.zret (v := 1) hx hb hr rfl (fun t ht hW => ⟨⟨1, (F1, fun k => if k = ix w then Z1 else Z k), rfl, rfl, by (try dsimp only); rw [ht]; exact hWl⟩, hS.F ht⟩) hS.2.2 dX0_changed_227
  · refine sd_join (pc2 := 23) (st2 := [.int 0]) (ls2 := ls) ?_ (fun K23 => ?_)
    · refine lv_istore (pc := 23) (lv' := [(5, .int 0), (0, .ref hd), (1, .ref hg), (2, .int 1), (3, .int w), (4, .int n)]) hx hb dX0_changed_23 hl (by decide) rfl (fun ls hl => ?_)
      refine lv_aload_n (pc := 25) hx hb dX0_changed_25 rfl (lv_at hl 2 rfl) ?_
      refine lv_iload_n (pc := 26) hx hb dX0_changed_26 rfl (lv_at hl 4 rfl) ?_
      refine lv_iconst (pc := 27) (v := 1) hx hb dX0_changed_27 (by decide) ?_
      refine lv_iand (pc := 28) hx hb dX0_changed_28 ?_
      refine lv_topi (fun v28 e28 => ?_)
      refine sd_aald (pc := 29) (r := (g (ix w))) hx hb hK hRg 1 rfl rfl (by rw [e28]; exact ix_in w) (by rw [e28]; rfl) dX0_changed_29 ?_
      refine lv_astore (pc := 30) (lv' := [(6, .ref (g (ix w))), (5, .int 0), (0, .ref hd), (1, .ref hg), (2, .int 1), (3, .int w), (4, .int n)]) hx hb dX0_changed_30 hl (by decide) rfl (fun ls hl => ?_)
      refine lv_aload_n (pc := 32) hx hb dX0_changed_32 rfl (lv_at hl 3 rfl) ?_
      refine lv_iload_n (pc := 33) hx hb dX0_changed_33 rfl (lv_at hl 5 rfl) ?_
      refine lv_iconst (pc := 34) (v := (-1)) hx hb dX0_changed_34 (by decide) ?_
      refine lv_ixor (pc := 35) hx hb dX0_changed_35 ?_
      refine lv_topi (fun v35 e35 => ?_)
      refine lv_iconst (pc := 36) (v := 1) hx hb dX0_changed_36 (by decide) ?_
      refine lv_iand (pc := 37) hx hb dX0_changed_37 ?_
      refine lv_topi (fun v37 e37 => ?_)
      refine sd_aald (pc := 38) (r := (g (1 - ix w))) hx hb hK hRg 1 rfl rfl (by rw [e37]; exact ix_in v35) (by rw [e37, e35]; show some (g (ix (w ^^^ (-1)))) = some (g (1 - ix w)); rw [ix_not]) dX0_changed_38 ?_
      refine lv_astore (pc := 39) (lv' := [(7, .ref (g (1 - ix w))), (6, .ref (g (ix w))), (5, .int 0), (0, .ref hd), (1, .ref hg), (2, .int 1), (3, .int w), (4, .int n)]) hx hb dX0_changed_39 hl (by decide) rfl (fun ls hl => ?_)
      refine lv_iload_n (pc := 41) hx hb dX0_changed_41 rfl (lv_at hl 5 rfl) ?_
      refine lv_if_ne (pc := 42) (tgt := 53) hx hb dX0_changed_42 (by decide) (fun c42 => ?_) (fun c42 => False.elim (by revert c42; decide))
      refine lv_iload_n (pc := 53) hx hb dX0_changed_53 rfl (lv_at hl 5 rfl) ?_
      refine lv_iconst (pc := 54) (v := 1) hx hb dX0_changed_54 (by decide) ?_
      refine lv_icmp_ne (pc := 55) (tgt := 66) hx hb dX0_changed_55 (by decide) (fun c55 => False.elim (by revert c55; decide)) (fun c55 => ?_)
      refine lv_aload_n (pc := 58) hx hb dX0_changed_58 rfl (lv_at hl 3 rfl) ?_
      refine lv_iload_n (pc := 59) hx hb dX0_changed_59 rfl (lv_at hl 6 rfl) ?_
      refine va_calli (pc := 60) (va_runV (As := [.int w]) (rest := []) ⟨hx, hb, hml, hown, hts⟩ (metX1_minus l D z s.heap.size hd ha cD F T w n) (cwV 1 hts (lw_V q244 q245 q246 q4 q247) rfl rfl rfl (by decide +kernel) ⟨Nat.le_of_ble_eq_true rfl, Nat.le_of_ble_eq_true rfl⟩) (sd_preV Pkz.st (va_recv hK0 hDk (ci := 0) (q0 := 0) rfl rfl) (⟨⟨rfl, hZ, hz, hK0⟩, hDk, hRa, hPr, hKD⟩)) rfl rfl hl.1 rfl (lv_room (Nat.le_of_ble_eq_true rfl)) dX0_changed_60 ⟨Nat.le_of_ble_eq_true rfl, Nat.le_of_ble_eq_true rfl⟩) hS (fun q _ h => hFa q h) hFa (fun r F1 t H1 locs1 ht hvm hp hB hz1 hk1 hS => ?_)
      replace hp : r = if near2 T then 1 else 0 := hp
      replace hB : Ra D ha cD F1 t.heap ∧ Pair D F1 (chg 1 (ix w) n T) t.heap := hB
      rw [ht] at hB
      rw [chg_no hn] at hB
      have hWl := Wl_same hK hne hW hk1 hB.1 hB.2
      refine lv_goto (pc := 63) (tgt := 103) hx hb dX0_changed_63 (by decide) ?_
      refine lv_istore (pc := 103) (lv' := [(8, .int r), (7, .ref (g (1 - ix w))), (6, .ref (g (ix w))), (5, .int 0), (0, .ref hd), (1, .ref hg), (2, .int 1), (3, .int w), (4, .int n)]) hx hb dX0_changed_103 hl (by decide) rfl (fun ls hl => ?_)
      refine lv_iload (pc := 105) hx hb dX0_changed_105 (lv_at hl 0 rfl) ?_
      refine lv_iload (pc := 107) hx hb dX0_changed_107 (lv_at hl 3 rfl) ?_
      refine lv_icmp_eq (pc := 109) (tgt := 114) hx hb dX0_changed_109 (by decide) (fun c109 => ?_) (fun c109 => False.elim (by exact c109 (by rw [hp, if_neg hn])))
      refine lv_iload (pc := 114) hx hb dX0_changed_114 (lv_at hl 3 rfl) ?_
      refine lv_if_ne (pc := 116) (tgt := 121) hx hb dX0_changed_116 (by decide) (fun c116 => False.elim (by revert c116; decide)) (fun c116 => ?_)
      refine lv_iconst (pc := 119) (v := 1) hx hb dX0_changed_119 (by decide) ?_
      refine W.widen (k := 1) (n := 2) (Nat.le_of_ble_eq_true rfl) (Nat.le_of_ble_eq_true rfl) ?_
      exact W.zret (v := 1) hx hb hr rfl (fun t ht hW => ⟨⟨1, (F1, Z), rfl, rfl, by (try dsimp only); rw [ht, chg_no hn]; exact hWl⟩, hS.F ht⟩) hS.2.2 dX0_changed_120
    · refine lv_aload_n (pc := 0) hx hb dX0_changed_0 rfl (lv_at hl 1 rfl) ?_
      refine lv_iconst (pc := 1) (v := 0) hx hb dX0_changed_1 (by decide) ?_
      refine sd_aald (pc := 2) (r := (g 0)) hx hb hK hRg 1 rfl rfl vin0 rfl dX0_changed_2 ?_
      refine vp_callSi (pc := 3) (W.runS (As := [.ref (g 0)]) (rest := []) ⟨hx, hb, hml, hown, hts⟩ (metX0_near l D (g 0) cL (Z 0)) (va_cwS 1 hts (lw_S q130 q131 q3 q132) rfl rfl rfl (by decide +kernel) ⟨Nat.le_of_ble_eq_true rfl, Nat.le_of_ble_eq_true rfl⟩) (sd_preS Pn.st (⟨hL00, hKL⟩)) rfl rfl hl.1 rfl (lv_room (Nat.le_of_ble_eq_true rfl)) dX0_changed_3 ⟨Nat.le_of_ble_eq_true rfl, Nat.le_of_ble_eq_true rfl⟩) (fun f3 g3 => ?_)
      replace g3 : f3 = if -4611686018427387904 < (Z 0 0).toInt ∧ (Z 0 0).toInt < 4611686018427387904 then 1 else 0 := g3
      refine lv_if_eq (pc := 6) (tgt := 22) hx hb dX0_changed_6 (by decide) (fun c6 => ?_) (fun c6 => ?_)
      · refine lv_iconst (pc := 22) (v := 0) hx hb dX0_changed_22 (by decide) ?_
        exact K23
      · have q0 : -4611686018427387904 < (Z 0 0).toInt ∧ (Z 0 0).toInt < 4611686018427387904 := Classical.byContradiction fun q => c6 (by rw [g3, if_neg q])
        refine lv_aload_n (pc := 9) hx hb dX0_changed_9 rfl (lv_at hl 1 rfl) ?_
        refine lv_iconst (pc := 10) (v := 1) hx hb dX0_changed_10 (by decide) ?_
        refine sd_aald (pc := 11) (r := (g 1)) hx hb hK hRg 1 rfl rfl vin1 rfl dX0_changed_11 ?_
        refine vp_callSi (pc := 12) (W.runS (As := [.ref (g 1)]) (rest := []) ⟨hx, hb, hml, hown, hts⟩ (metX0_near l D (g 1) cL (Z 1)) (va_cwS 1 hts (lw_S q130 q131 q3 q132) rfl rfl rfl (by decide +kernel) ⟨Nat.le_of_ble_eq_true rfl, Nat.le_of_ble_eq_true rfl⟩) (sd_preS Pn.st (⟨hL01, hKL⟩)) rfl rfl hl.1 rfl (lv_room (Nat.le_of_ble_eq_true rfl)) dX0_changed_12 ⟨Nat.le_of_ble_eq_true rfl, Nat.le_of_ble_eq_true rfl⟩) (fun f12 g12 => ?_)
        replace g12 : f12 = if -4611686018427387904 < (Z 1 0).toInt ∧ (Z 1 0).toInt < 4611686018427387904 then 1 else 0 := g12
        refine lv_if_eq (pc := 15) (tgt := 22) hx hb dX0_changed_15 (by decide) (fun c15 => ?_) (fun c15 => False.elim (by exact c15 (by rw [g12, if_neg (fun q => hn ⟨⟨by omega, by omega⟩, by omega, by omega⟩)])))
        refine lv_iconst (pc := 22) (v := 0) hx hb dX0_changed_22 (by decide) ?_
        exact K23
set_option maxHeartbeats 4000000 in
set_option maxRecDepth 100000 in
/-- changed: kind 2 -/
theorem metX0_changed_2 (l : Launch) (D : va_G) (z sz hd ha hg : Nat) (g : Nat → Nat) (cD cG cL : ClassId) (F : Nat → Option Nat) (Z : Nat → Nat → Int64) (T : Nat → Int) (hne : Ne4 ha hg g) (w n : Int32) : Met l yX0_changed (ws_ yX0_changed cX0_changed 9 (some .boolean)) ({ frames := 7, cells := 1, slots := 2, locals := 157 } : Room) (va_Pc [.ref hd, .ref hg, .int 2, .int w, .int n] (fun U => (Pl D z sz hd ha hg g cD cG cL F Z T) U.heap U)) (va_Qi (S := (Nat → Option Nat) × (Nat → Nat → Int64)) (fun r _ => r = 1) (fun x t => Wl D hd ha hg g cD cG cL x.1 x.2 (chg 2 (ix w) n T) t.heap) (Ax [ha, g 0, g 1] sz)) 1 2 (Ax [ha, g 0, g 1] sz) := by
  refine Met.ofW (cc := cX0_changed) (maxL := 9) (ret := (some .boolean)) (by decide) rfl ?_
  intro p e s m args below meth c s₁ B hml hv
  obtain ⟨rfl, hv⟩ := hv
  have hx := B.exec
  have hb := B.bytes
  have hr := B.returns
  have hts := atoms_spec (ws := ws_ yX0_changed cX0_changed 9 (some .boolean)) B.pre
  have hts : ∀ w ∈ lw_all, w.before _ s = true := fun w h => hts w (List.mem_cons_of_mem _ h)
  have hown : s.vm.findClass RX0 = some m.cls := findClass_of_methodNamed B.named
  have hlocks := B.notSynchronized
  have hl := lv_entry ([.ref hd, .ref hg, .int 2, .int w, .int n]) (n := 9) (Nat.le_of_ble_eq_true rfl)
  rw [lg_entry_eq]
  generalize (lg_sl ([.ref hd, .ref hg, .int 2, .int w, .int n]) ++ List.replicate (9 - (lg_sl ([.ref hd, .ref hg, .int 2, .int w, .int n])).length) Slot.unset).toArray = ls at hl ⊢
  have hl : lv_has ls 9 [(0, .ref hd), (1, .ref hg), (2, .int 2), (3, .int w), (4, .int n)] := hl
  obtain ⟨⟨hsz, hZ, hz, hK0⟩, hW, hK⟩ := hv
  subst hsz
  obtain ⟨hDk, hRa, hPr, hRg, hL, hR⟩ := id hW
  have hKD := hK.sub (tys' := [(cD, .object "Duration")]) [0] rfl
  have hKL := hK.sub (tys' := [(cL, .long)]) [2] rfl
  have hA : ∀ q : Nat, s.heap.size ≤ q → Ax [ha, g 0, g 1] s.heap.size q := fun q h => Or.inr h
  have hAa : Ax [ha, g 0, g 1] s.heap.size ha := Or.inl List.mem_cons_self
  have hAg : Ax [ha, g 0, g 1] s.heap.size (g (ix w)) := AxG (ix_lt w)
  have hS : va_S (Ax [ha, g 0, g 1] s.heap.size) s.heap s.heap [] := va_S.rf
  have hFa := Axf hS hA (Ax1 hAa)
  have hFg := Axf hS hA (Ax1 hAg)
  have hL00 := hL 0 (by decide)
  have hL01 := hL 1 (by decide)
  have hs0 := (hR 0 (by decide)).sec
  have hs1 := (hR 1 (by decide)).sec
  rcases Classical.em (near2 T) with hn | hn
  · refine lv_aload_n (pc := 0) hx hb dX0_changed_0 rfl (lv_at hl 1 rfl) ?_
    refine lv_iconst (pc := 1) (v := 0) hx hb dX0_changed_1 (by decide) ?_
    refine sd_aald (pc := 2) (r := (g 0)) hx hb hK hRg 1 rfl rfl vin0 rfl dX0_changed_2 ?_
    refine vp_callSi (pc := 3) (W.runS (As := [.ref (g 0)]) (rest := []) ⟨hx, hb, hml, hown, hts⟩ (metX0_near l D (g 0) cL (Z 0)) (va_cwS 1 hts (lw_S q130 q131 q3 q132) rfl rfl rfl (by decide +kernel) ⟨Nat.le_of_ble_eq_true rfl, Nat.le_of_ble_eq_true rfl⟩) (sd_preS Pn.st (⟨hL00, hKL⟩)) rfl rfl hl.1 rfl (lv_room (Nat.le_of_ble_eq_true rfl)) dX0_changed_3 ⟨Nat.le_of_ble_eq_true rfl, Nat.le_of_ble_eq_true rfl⟩) (fun f3 g3 => ?_)
    replace g3 : f3 = if -4611686018427387904 < (Z 0 0).toInt ∧ (Z 0 0).toInt < 4611686018427387904 then 1 else 0 := g3
    refine lv_if_eq (pc := 6) (tgt := 22) hx hb dX0_changed_6 (by decide) (fun c6 => False.elim (by rw [g3, if_pos (by obtain ⟨⟨a1, a2⟩, -⟩ := hn; omega)] at c6; exact absurd c6 (by decide))) (fun c6 => ?_)
    refine lv_aload_n (pc := 9) hx hb dX0_changed_9 rfl (lv_at hl 1 rfl) ?_
    refine lv_iconst (pc := 10) (v := 1) hx hb dX0_changed_10 (by decide) ?_
    refine sd_aald (pc := 11) (r := (g 1)) hx hb hK hRg 1 rfl rfl vin1 rfl dX0_changed_11 ?_
    refine vp_callSi (pc := 12) (W.runS (As := [.ref (g 1)]) (rest := []) ⟨hx, hb, hml, hown, hts⟩ (metX0_near l D (g 1) cL (Z 1)) (va_cwS 1 hts (lw_S q130 q131 q3 q132) rfl rfl rfl (by decide +kernel) ⟨Nat.le_of_ble_eq_true rfl, Nat.le_of_ble_eq_true rfl⟩) (sd_preS Pn.st (⟨hL01, hKL⟩)) rfl rfl hl.1 rfl (lv_room (Nat.le_of_ble_eq_true rfl)) dX0_changed_12 ⟨Nat.le_of_ble_eq_true rfl, Nat.le_of_ble_eq_true rfl⟩) (fun f12 g12 => ?_)
    replace g12 : f12 = if -4611686018427387904 < (Z 1 0).toInt ∧ (Z 1 0).toInt < 4611686018427387904 then 1 else 0 := g12
    refine lv_if_eq (pc := 15) (tgt := 22) hx hb dX0_changed_15 (by decide) (fun c15 => False.elim (by rw [g12, if_pos (by obtain ⟨-, a1, a2⟩ := hn; omega)] at c15; exact absurd c15 (by decide))) (fun c15 => ?_)
    refine lv_iconst (pc := 18) (v := 1) hx hb dX0_changed_18 (by decide) ?_
    refine lv_goto (pc := 19) (tgt := 23) hx hb dX0_changed_19 (by decide) ?_
    refine lv_istore (pc := 23) (lv' := [(5, .int 1), (0, .ref hd), (1, .ref hg), (2, .int 2), (3, .int w), (4, .int n)]) hx hb dX0_changed_23 hl (by decide) rfl (fun ls hl => ?_)
    refine lv_aload_n (pc := 25) hx hb dX0_changed_25 rfl (lv_at hl 2 rfl) ?_
    refine lv_iload_n (pc := 26) hx hb dX0_changed_26 rfl (lv_at hl 4 rfl) ?_
    refine lv_iconst (pc := 27) (v := 1) hx hb dX0_changed_27 (by decide) ?_
    refine lv_iand (pc := 28) hx hb dX0_changed_28 ?_
    refine lv_topi (fun v28 e28 => ?_)
    refine sd_aald (pc := 29) (r := (g (ix w))) hx hb hK hRg 1 rfl rfl (by rw [e28]; exact ix_in w) (by rw [e28]; rfl) dX0_changed_29 ?_
    refine lv_astore (pc := 30) (lv' := [(6, .ref (g (ix w))), (5, .int 1), (0, .ref hd), (1, .ref hg), (2, .int 2), (3, .int w), (4, .int n)]) hx hb dX0_changed_30 hl (by decide) rfl (fun ls hl => ?_)
    refine lv_aload_n (pc := 32) hx hb dX0_changed_32 rfl (lv_at hl 3 rfl) ?_
    refine lv_iload_n (pc := 33) hx hb dX0_changed_33 rfl (lv_at hl 5 rfl) ?_
    refine lv_iconst (pc := 34) (v := (-1)) hx hb dX0_changed_34 (by decide) ?_
    refine lv_ixor (pc := 35) hx hb dX0_changed_35 ?_
    refine lv_topi (fun v35 e35 => ?_)
    refine lv_iconst (pc := 36) (v := 1) hx hb dX0_changed_36 (by decide) ?_
    refine lv_iand (pc := 37) hx hb dX0_changed_37 ?_
    refine lv_topi (fun v37 e37 => ?_)
    refine sd_aald (pc := 38) (r := (g (1 - ix w))) hx hb hK hRg 1 rfl rfl (by rw [e37]; exact ix_in v35) (by rw [e37, e35]; show some (g (ix (w ^^^ (-1)))) = some (g (1 - ix w)); rw [ix_not]) dX0_changed_38 ?_
    refine lv_astore (pc := 39) (lv' := [(7, .ref (g (1 - ix w))), (6, .ref (g (ix w))), (5, .int 1), (0, .ref hd), (1, .ref hg), (2, .int 2), (3, .int w), (4, .int n)]) hx hb dX0_changed_39 hl (by decide) rfl (fun ls hl => ?_)
    refine lv_iload_n (pc := 41) hx hb dX0_changed_41 rfl (lv_at hl 5 rfl) ?_
    refine lv_if_ne (pc := 42) (tgt := 53) hx hb dX0_changed_42 (by decide) (fun c42 => ?_) (fun c42 => False.elim (by revert c42; decide))
    refine lv_iload_n (pc := 53) hx hb dX0_changed_53 rfl (lv_at hl 5 rfl) ?_
    refine lv_iconst (pc := 54) (v := 1) hx hb dX0_changed_54 (by decide) ?_
    refine lv_icmp_ne (pc := 55) (tgt := 66) hx hb dX0_changed_55 (by decide) (fun c55 => ?_) (fun c55 => False.elim (by revert c55; decide))
    refine lv_iload_n (pc := 66) hx hb dX0_changed_66 rfl (lv_at hl 5 rfl) ?_
    refine lv_iconst (pc := 67) (v := 2) hx hb dX0_changed_67 (by decide) ?_
    refine lv_icmp_ne (pc := 68) (tgt := 81) hx hb dX0_changed_68 (by decide) (fun c68 => False.elim (by revert c68; decide)) (fun c68 => ?_)
    refine lv_aload_n (pc := 71) hx hb dX0_changed_71 rfl (lv_at hl 3 rfl) ?_
    refine lv_iload_n (pc := 72) hx hb dX0_changed_72 rfl (lv_at hl 6 rfl) ?_
    refine lv_iload (pc := 73) hx hb dX0_changed_73 (lv_at hl 7 rfl) ?_
    refine va_calli (pc := 75) (va_runV (As := [.int w, .int n]) (rest := []) ⟨hx, hb, hml, hown, hts⟩ (metX1_seconds l D z s.heap.size hd ha cD F T w n) (cwV 2 hts (lw_V q254 q255 q256 q4 q257) rfl rfl rfl (by decide +kernel) ⟨Nat.le_of_ble_eq_true rfl, Nat.le_of_ble_eq_true rfl⟩) (sd_preV Pkz.st (va_recv hK0 hDk (ci := 0) (q0 := 0) rfl rfl) (⟨⟨rfl, hZ, hz, hK0⟩, hDk, hRa, hPr, hKD⟩)) rfl rfl hl.1 rfl (lv_room (Nat.le_of_ble_eq_true rfl)) dX0_changed_75 ⟨Nat.le_of_ble_eq_true rfl, Nat.le_of_ble_eq_true rfl⟩) hS (fun q _ h => hFa q h) hFa (fun r F1 t H1 locs1 ht hvm hp hB hz1 hk1 hS => ?_)
    replace hp : r = if near2 T then 1 else 0 := hp
    replace hB : Ra D ha cD F1 t.heap ∧ Pair D F1 (chg 2 (ix w) n T) t.heap := hB
    rw [ht] at hB
    obtain ⟨hDk1, hRg1, hL1⟩ := Wl_call hK hne hW hk1
    have hLi := hL1 (ix w) (ix_lt w)
    have hLj := hL1 (1 - ix w) (by omega)
    have hRj := hR (1 - ix w) (by omega)
    have hRi0 := hR (ix w) (ix_lt w)
    have hnj := near_nr hn (show 1 - ix w < 2 by omega)
    have hn1 := sd_ib n
    have hcg : chg 2 (ix w) n T (ix w) = T (ix w) + dlt 2 T (ix w) n := by rw [chg_yes hn, tset_self]
    obtain ⟨rr, ur, nnr, -, -, hSr⟩ := hB.2 (ix w) (ix_lt w)
    have hsr := hSr.sec
    rw [hcg] at hsr
    have hub := sd_lb ur
    refine lv_goto (pc := 78) (tgt := 103) hx hb dX0_changed_78 (by decide) ?_
    refine lv_istore (pc := 103) (lv' := [(8, .int r), (7, .ref (g (1 - ix w))), (6, .ref (g (ix w))), (5, .int 1), (0, .ref hd), (1, .ref hg), (2, .int 2), (3, .int w), (4, .int n)]) hx hb dX0_changed_103 hl (by decide) rfl (fun ls hl => ?_)
    refine lv_iload (pc := 105) hx hb dX0_changed_105 (lv_at hl 0 rfl) ?_
    refine lv_iload (pc := 107) hx hb dX0_changed_107 (lv_at hl 3 rfl) ?_
    refine lv_icmp_eq (pc := 109) (tgt := 114) hx hb dX0_changed_109 (by decide) (fun c109 => ?_) (fun c109 => False.elim (by exact c109 (by rw [hp, if_pos hn])))
    refine lv_iload (pc := 114) hx hb dX0_changed_114 (lv_at hl 3 rfl) ?_
    refine lv_if_ne (pc := 116) (tgt := 121) hx hb dX0_changed_116 (by decide) (fun c116 => ?_) (fun c116 => False.elim (by revert c116; decide))
    refine lv_iload_n (pc := 121) hx hb dX0_changed_121 rfl (lv_at hl 6 rfl) ?_
    refine lv_if_ne (pc := 122) (tgt := 138) hx hb dX0_changed_122 (by decide) (fun c122 => ?_) (fun c122 => False.elim (by revert c122; decide))
    refine lv_iload_n (pc := 138) hx hb dX0_changed_138 rfl (lv_at hl 6 rfl) ?_
    refine lv_iconst (pc := 139) (v := 1) hx hb dX0_changed_139 (by decide) ?_
    refine lv_icmp_ne (pc := 140) (tgt := 158) hx hb dX0_changed_140 (by decide) (fun c140 => ?_) (fun c140 => False.elim (by revert c140; decide))
    refine lv_iload_n (pc := 158) hx hb dX0_changed_158 rfl (lv_at hl 6 rfl) ?_
    refine lv_iconst (pc := 159) (v := 2) hx hb dX0_changed_159 (by decide) ?_
    refine lv_icmp_ne (pc := 160) (tgt := 172) hx hb dX0_changed_160 (by decide) (fun c160 => False.elim (by revert c160; decide)) (fun c160 => ?_)
    refine lv_aload (pc := 163) hx hb dX0_changed_163 (lv_at hl 2 rfl) ?_
    refine lv_iload (pc := 165) hx hb dX0_changed_165 (lv_at hl 8 rfl) ?_
    refine lv_i2l (pc := 167) hx hb dX0_changed_167 rfl ?_
    refine lv_topl (fun v167 e167 => ?_)
    refine lv_lconst (pc := 168) (v := 0) hx hb dX0_changed_168 (by decide) ?_
    have h167 : v167.toInt = n.toInt := by rw [e167, Int32.toInt_toInt64]
    have hab : T (ix w) + v167.toInt * 1000000000 + (0 : Int64).toInt = T (ix w) + dlt 2 T (ix w) n := by show T (ix w) + v167.toInt * 1000000000 + (0 : Int64).toInt = T (ix w) + n.toInt * 1000000000; rw [sd_z0]; omega
    have hFg2 := Axf hS hA (Ax1 hAg)
    refine va_callv (pc := 169) (va_runS (As := [.ref (g (ix w)), .long v167, .long 0]) (rest := []) ⟨hx, hb, hml, hown, hts⟩ (metX0_more l D (g (ix w)) H1.size cL (Z (ix w)) (T (ix w)) v167 0 hRi0 (by omega) (by omega) (by decide) (by decide) (by rw [hab, ← hsr]; exact hub.1) (by rw [hab, ← hsr]; exact hub.2)) (va_cwS 3 hts (lw_S q213 q214 q3 q215) rfl rfl rfl (by decide +kernel) ⟨Nat.le_of_ble_eq_true rfl, Nat.le_of_ble_eq_true rfl⟩) (sd_preS Pm.st (⟨rfl, hLi, hKL⟩)) rfl rfl hl.1 rfl (lv_room (Nat.le_of_ble_eq_true rfl)) dX0_changed_169 ⟨Nat.le_of_ble_eq_true rfl, Nat.le_of_ble_eq_true rfl⟩) hS (fun q _ h => hFg2 q h) hFg2 (fun Z1 t4 H4 locs4 ht4 hvm4 hp4 hB4 hz4 hk4 hS => ?_)
    replace hp4 : Rw Z1 (T (ix w) + v167.toInt * 1000000000 + (0 : Int64).toInt) := hp4
    rw [hab, ← hcg] at hp4
    replace hB4 : La D (g (ix w)) cL Z1 t4.heap := hB4
    rw [ht4] at hB4
    have hWl := Wl_end hK hne (ix_lt w) hDk1 hB.1 hB.2 hRg1 hL1 (fun k2 hk2 hn2 => by rw [chg_yes hn, tset_ne _ _ hn2]; exact hR k2 hk2) (Un.call hz4 hk4) hB4 hp4
    refine lv_iload_n (pc := 172) hx hb dX0_changed_172 rfl (lv_at hl 6 rfl) ?_
    refine lv_iconst (pc := 173) (v := 3) hx hb dX0_changed_173 (by decide) ?_
    refine lv_icmp_ne (pc := 174) (tgt := 212) hx hb dX0_changed_174 (by decide) (fun c174 => ?_) (fun c174 => False.elim (by revert c174; decide))
    refine lv_iload_n (pc := 212) hx hb dX0_changed_212 rfl (lv_at hl 6 rfl) ?_
    refine lv_iconst (pc := 213) (v := 4) hx hb dX0_changed_213 (by decide) ?_
    refine lv_icmp_ne (pc := 214) (tgt := 226) hx hb dX0_changed_214 (by decide) (fun c214 => ?_) (fun c214 => False.elim (by revert c214; decide))
    refine lv_iconst (pc := 226) (v := 1) hx hb dX0_changed_226 (by decide) ?_
    refine W.widen (k := 1) (n := 2) (Nat.le_of_ble_eq_true rfl) (Nat.le_of_ble_eq_true rfl) ?_
    exact W.zret (v := 1) hx hb hr rfl (fun t ht hW => ⟨⟨1, (F1, fun k => if k = ix w then Z1 else Z k), rfl, rfl, by (try dsimp only); rw [ht]; exact hWl⟩, hS.F ht⟩) hS.2.2 dX0_changed_227
  · refine sd_join (pc2 := 23) (st2 := [.int 0]) (ls2 := ls) ?_ (fun K23 => ?_)
    · refine lv_istore (pc := 23) (lv' := [(5, .int 0), (0, .ref hd), (1, .ref hg), (2, .int 2), (3, .int w), (4, .int n)]) hx hb dX0_changed_23 hl (by decide) rfl (fun ls hl => ?_)
      refine lv_aload_n (pc := 25) hx hb dX0_changed_25 rfl (lv_at hl 2 rfl) ?_
      refine lv_iload_n (pc := 26) hx hb dX0_changed_26 rfl (lv_at hl 4 rfl) ?_
      refine lv_iconst (pc := 27) (v := 1) hx hb dX0_changed_27 (by decide) ?_
      refine lv_iand (pc := 28) hx hb dX0_changed_28 ?_
      refine lv_topi (fun v28 e28 => ?_)
      refine sd_aald (pc := 29) (r := (g (ix w))) hx hb hK hRg 1 rfl rfl (by rw [e28]; exact ix_in w) (by rw [e28]; rfl) dX0_changed_29 ?_
      refine lv_astore (pc := 30) (lv' := [(6, .ref (g (ix w))), (5, .int 0), (0, .ref hd), (1, .ref hg), (2, .int 2), (3, .int w), (4, .int n)]) hx hb dX0_changed_30 hl (by decide) rfl (fun ls hl => ?_)
      refine lv_aload_n (pc := 32) hx hb dX0_changed_32 rfl (lv_at hl 3 rfl) ?_
      refine lv_iload_n (pc := 33) hx hb dX0_changed_33 rfl (lv_at hl 5 rfl) ?_
      refine lv_iconst (pc := 34) (v := (-1)) hx hb dX0_changed_34 (by decide) ?_
      refine lv_ixor (pc := 35) hx hb dX0_changed_35 ?_
      refine lv_topi (fun v35 e35 => ?_)
      refine lv_iconst (pc := 36) (v := 1) hx hb dX0_changed_36 (by decide) ?_
      refine lv_iand (pc := 37) hx hb dX0_changed_37 ?_
      refine lv_topi (fun v37 e37 => ?_)
      refine sd_aald (pc := 38) (r := (g (1 - ix w))) hx hb hK hRg 1 rfl rfl (by rw [e37]; exact ix_in v35) (by rw [e37, e35]; show some (g (ix (w ^^^ (-1)))) = some (g (1 - ix w)); rw [ix_not]) dX0_changed_38 ?_
      refine lv_astore (pc := 39) (lv' := [(7, .ref (g (1 - ix w))), (6, .ref (g (ix w))), (5, .int 0), (0, .ref hd), (1, .ref hg), (2, .int 2), (3, .int w), (4, .int n)]) hx hb dX0_changed_39 hl (by decide) rfl (fun ls hl => ?_)
      refine lv_iload_n (pc := 41) hx hb dX0_changed_41 rfl (lv_at hl 5 rfl) ?_
      refine lv_if_ne (pc := 42) (tgt := 53) hx hb dX0_changed_42 (by decide) (fun c42 => ?_) (fun c42 => False.elim (by revert c42; decide))
      refine lv_iload_n (pc := 53) hx hb dX0_changed_53 rfl (lv_at hl 5 rfl) ?_
      refine lv_iconst (pc := 54) (v := 1) hx hb dX0_changed_54 (by decide) ?_
      refine lv_icmp_ne (pc := 55) (tgt := 66) hx hb dX0_changed_55 (by decide) (fun c55 => ?_) (fun c55 => False.elim (by revert c55; decide))
      refine lv_iload_n (pc := 66) hx hb dX0_changed_66 rfl (lv_at hl 5 rfl) ?_
      refine lv_iconst (pc := 67) (v := 2) hx hb dX0_changed_67 (by decide) ?_
      refine lv_icmp_ne (pc := 68) (tgt := 81) hx hb dX0_changed_68 (by decide) (fun c68 => False.elim (by revert c68; decide)) (fun c68 => ?_)
      refine lv_aload_n (pc := 71) hx hb dX0_changed_71 rfl (lv_at hl 3 rfl) ?_
      refine lv_iload_n (pc := 72) hx hb dX0_changed_72 rfl (lv_at hl 6 rfl) ?_
      refine lv_iload (pc := 73) hx hb dX0_changed_73 (lv_at hl 7 rfl) ?_
      refine va_calli (pc := 75) (va_runV (As := [.int w, .int n]) (rest := []) ⟨hx, hb, hml, hown, hts⟩ (metX1_seconds l D z s.heap.size hd ha cD F T w n) (cwV 2 hts (lw_V q254 q255 q256 q4 q257) rfl rfl rfl (by decide +kernel) ⟨Nat.le_of_ble_eq_true rfl, Nat.le_of_ble_eq_true rfl⟩) (sd_preV Pkz.st (va_recv hK0 hDk (ci := 0) (q0 := 0) rfl rfl) (⟨⟨rfl, hZ, hz, hK0⟩, hDk, hRa, hPr, hKD⟩)) rfl rfl hl.1 rfl (lv_room (Nat.le_of_ble_eq_true rfl)) dX0_changed_75 ⟨Nat.le_of_ble_eq_true rfl, Nat.le_of_ble_eq_true rfl⟩) hS (fun q _ h => hFa q h) hFa (fun r F1 t H1 locs1 ht hvm hp hB hz1 hk1 hS => ?_)
      replace hp : r = if near2 T then 1 else 0 := hp
      replace hB : Ra D ha cD F1 t.heap ∧ Pair D F1 (chg 2 (ix w) n T) t.heap := hB
      rw [ht] at hB
      rw [chg_no hn] at hB
      have hWl := Wl_same hK hne hW hk1 hB.1 hB.2
      refine lv_goto (pc := 78) (tgt := 103) hx hb dX0_changed_78 (by decide) ?_
      refine lv_istore (pc := 103) (lv' := [(8, .int r), (7, .ref (g (1 - ix w))), (6, .ref (g (ix w))), (5, .int 0), (0, .ref hd), (1, .ref hg), (2, .int 2), (3, .int w), (4, .int n)]) hx hb dX0_changed_103 hl (by decide) rfl (fun ls hl => ?_)
      refine lv_iload (pc := 105) hx hb dX0_changed_105 (lv_at hl 0 rfl) ?_
      refine lv_iload (pc := 107) hx hb dX0_changed_107 (lv_at hl 3 rfl) ?_
      refine lv_icmp_eq (pc := 109) (tgt := 114) hx hb dX0_changed_109 (by decide) (fun c109 => ?_) (fun c109 => False.elim (by exact c109 (by rw [hp, if_neg hn])))
      refine lv_iload (pc := 114) hx hb dX0_changed_114 (lv_at hl 3 rfl) ?_
      refine lv_if_ne (pc := 116) (tgt := 121) hx hb dX0_changed_116 (by decide) (fun c116 => False.elim (by revert c116; decide)) (fun c116 => ?_)
      refine lv_iconst (pc := 119) (v := 1) hx hb dX0_changed_119 (by decide) ?_
      refine W.widen (k := 1) (n := 2) (Nat.le_of_ble_eq_true rfl) (Nat.le_of_ble_eq_true rfl) ?_
      exact W.zret (v := 1) hx hb hr rfl (fun t ht hW => ⟨⟨1, (F1, Z), rfl, rfl, by (try dsimp only); rw [ht, chg_no hn]; exact hWl⟩, hS.F ht⟩) hS.2.2 dX0_changed_120
    · refine lv_aload_n (pc := 0) hx hb dX0_changed_0 rfl (lv_at hl 1 rfl) ?_
      refine lv_iconst (pc := 1) (v := 0) hx hb dX0_changed_1 (by decide) ?_
      refine sd_aald (pc := 2) (r := (g 0)) hx hb hK hRg 1 rfl rfl vin0 rfl dX0_changed_2 ?_
      refine vp_callSi (pc := 3) (W.runS (As := [.ref (g 0)]) (rest := []) ⟨hx, hb, hml, hown, hts⟩ (metX0_near l D (g 0) cL (Z 0)) (va_cwS 1 hts (lw_S q130 q131 q3 q132) rfl rfl rfl (by decide +kernel) ⟨Nat.le_of_ble_eq_true rfl, Nat.le_of_ble_eq_true rfl⟩) (sd_preS Pn.st (⟨hL00, hKL⟩)) rfl rfl hl.1 rfl (lv_room (Nat.le_of_ble_eq_true rfl)) dX0_changed_3 ⟨Nat.le_of_ble_eq_true rfl, Nat.le_of_ble_eq_true rfl⟩) (fun f3 g3 => ?_)
      replace g3 : f3 = if -4611686018427387904 < (Z 0 0).toInt ∧ (Z 0 0).toInt < 4611686018427387904 then 1 else 0 := g3
      refine lv_if_eq (pc := 6) (tgt := 22) hx hb dX0_changed_6 (by decide) (fun c6 => ?_) (fun c6 => ?_)
      · refine lv_iconst (pc := 22) (v := 0) hx hb dX0_changed_22 (by decide) ?_
        exact K23
      · have q0 : -4611686018427387904 < (Z 0 0).toInt ∧ (Z 0 0).toInt < 4611686018427387904 := Classical.byContradiction fun q => c6 (by rw [g3, if_neg q])
        refine lv_aload_n (pc := 9) hx hb dX0_changed_9 rfl (lv_at hl 1 rfl) ?_
        refine lv_iconst (pc := 10) (v := 1) hx hb dX0_changed_10 (by decide) ?_
        refine sd_aald (pc := 11) (r := (g 1)) hx hb hK hRg 1 rfl rfl vin1 rfl dX0_changed_11 ?_
        refine vp_callSi (pc := 12) (W.runS (As := [.ref (g 1)]) (rest := []) ⟨hx, hb, hml, hown, hts⟩ (metX0_near l D (g 1) cL (Z 1)) (va_cwS 1 hts (lw_S q130 q131 q3 q132) rfl rfl rfl (by decide +kernel) ⟨Nat.le_of_ble_eq_true rfl, Nat.le_of_ble_eq_true rfl⟩) (sd_preS Pn.st (⟨hL01, hKL⟩)) rfl rfl hl.1 rfl (lv_room (Nat.le_of_ble_eq_true rfl)) dX0_changed_12 ⟨Nat.le_of_ble_eq_true rfl, Nat.le_of_ble_eq_true rfl⟩) (fun f12 g12 => ?_)
        replace g12 : f12 = if -4611686018427387904 < (Z 1 0).toInt ∧ (Z 1 0).toInt < 4611686018427387904 then 1 else 0 := g12
        refine lv_if_eq (pc := 15) (tgt := 22) hx hb dX0_changed_15 (by decide) (fun c15 => ?_) (fun c15 => False.elim (by exact c15 (by rw [g12, if_neg (fun q => hn ⟨⟨by omega, by omega⟩, by omega, by omega⟩)])))
        refine lv_iconst (pc := 22) (v := 0) hx hb dX0_changed_22 (by decide) ?_
        exact K23
set_option maxHeartbeats 4000000 in
set_option maxRecDepth 100000 in
/-- changed: kind 3 -/
theorem metX0_changed_3 (l : Launch) (D : va_G) (z sz hd ha hg : Nat) (g : Nat → Nat) (cD cG cL : ClassId) (F : Nat → Option Nat) (Z : Nat → Nat → Int64) (T : Nat → Int) (hne : Ne4 ha hg g) (w n : Int32) : Met l yX0_changed (ws_ yX0_changed cX0_changed 9 (some .boolean)) ({ frames := 7, cells := 1, slots := 2, locals := 157 } : Room) (va_Pc [.ref hd, .ref hg, .int 3, .int w, .int n] (fun U => (Pl D z sz hd ha hg g cD cG cL F Z T) U.heap U)) (va_Qi (S := (Nat → Option Nat) × (Nat → Nat → Int64)) (fun r _ => r = 1) (fun x t => Wl D hd ha hg g cD cG cL x.1 x.2 (chg 3 (ix w) n T) t.heap) (Ax [ha, g 0, g 1] sz)) 1 2 (Ax [ha, g 0, g 1] sz) := by
  refine Met.ofW (cc := cX0_changed) (maxL := 9) (ret := (some .boolean)) (by decide) rfl ?_
  intro p e s m args below meth c s₁ B hml hv
  obtain ⟨rfl, hv⟩ := hv
  have hx := B.exec
  have hb := B.bytes
  have hr := B.returns
  have hts := atoms_spec (ws := ws_ yX0_changed cX0_changed 9 (some .boolean)) B.pre
  have hts : ∀ w ∈ lw_all, w.before _ s = true := fun w h => hts w (List.mem_cons_of_mem _ h)
  have hown : s.vm.findClass RX0 = some m.cls := findClass_of_methodNamed B.named
  have hlocks := B.notSynchronized
  have hl := lv_entry ([.ref hd, .ref hg, .int 3, .int w, .int n]) (n := 9) (Nat.le_of_ble_eq_true rfl)
  rw [lg_entry_eq]
  generalize (lg_sl ([.ref hd, .ref hg, .int 3, .int w, .int n]) ++ List.replicate (9 - (lg_sl ([.ref hd, .ref hg, .int 3, .int w, .int n])).length) Slot.unset).toArray = ls at hl ⊢
  have hl : lv_has ls 9 [(0, .ref hd), (1, .ref hg), (2, .int 3), (3, .int w), (4, .int n)] := hl
  obtain ⟨⟨hsz, hZ, hz, hK0⟩, hW, hK⟩ := hv
  subst hsz
  obtain ⟨hDk, hRa, hPr, hRg, hL, hR⟩ := id hW
  have hKD := hK.sub (tys' := [(cD, .object "Duration")]) [0] rfl
  have hKL := hK.sub (tys' := [(cL, .long)]) [2] rfl
  have hA : ∀ q : Nat, s.heap.size ≤ q → Ax [ha, g 0, g 1] s.heap.size q := fun q h => Or.inr h
  have hAa : Ax [ha, g 0, g 1] s.heap.size ha := Or.inl List.mem_cons_self
  have hAg : Ax [ha, g 0, g 1] s.heap.size (g (ix w)) := AxG (ix_lt w)
  have hS : va_S (Ax [ha, g 0, g 1] s.heap.size) s.heap s.heap [] := va_S.rf
  have hFa := Axf hS hA (Ax1 hAa)
  have hFg := Axf hS hA (Ax1 hAg)
  have hL00 := hL 0 (by decide)
  have hL01 := hL 1 (by decide)
  have hs0 := (hR 0 (by decide)).sec
  have hs1 := (hR 1 (by decide)).sec
  rcases Classical.em (near2 T) with hn | hn
  · refine lv_aload_n (pc := 0) hx hb dX0_changed_0 rfl (lv_at hl 1 rfl) ?_
    refine lv_iconst (pc := 1) (v := 0) hx hb dX0_changed_1 (by decide) ?_
    refine sd_aald (pc := 2) (r := (g 0)) hx hb hK hRg 1 rfl rfl vin0 rfl dX0_changed_2 ?_
    refine vp_callSi (pc := 3) (W.runS (As := [.ref (g 0)]) (rest := []) ⟨hx, hb, hml, hown, hts⟩ (metX0_near l D (g 0) cL (Z 0)) (va_cwS 1 hts (lw_S q130 q131 q3 q132) rfl rfl rfl (by decide +kernel) ⟨Nat.le_of_ble_eq_true rfl, Nat.le_of_ble_eq_true rfl⟩) (sd_preS Pn.st (⟨hL00, hKL⟩)) rfl rfl hl.1 rfl (lv_room (Nat.le_of_ble_eq_true rfl)) dX0_changed_3 ⟨Nat.le_of_ble_eq_true rfl, Nat.le_of_ble_eq_true rfl⟩) (fun f3 g3 => ?_)
    replace g3 : f3 = if -4611686018427387904 < (Z 0 0).toInt ∧ (Z 0 0).toInt < 4611686018427387904 then 1 else 0 := g3
    refine lv_if_eq (pc := 6) (tgt := 22) hx hb dX0_changed_6 (by decide) (fun c6 => False.elim (by rw [g3, if_pos (by obtain ⟨⟨a1, a2⟩, -⟩ := hn; omega)] at c6; exact absurd c6 (by decide))) (fun c6 => ?_)
    refine lv_aload_n (pc := 9) hx hb dX0_changed_9 rfl (lv_at hl 1 rfl) ?_
    refine lv_iconst (pc := 10) (v := 1) hx hb dX0_changed_10 (by decide) ?_
    refine sd_aald (pc := 11) (r := (g 1)) hx hb hK hRg 1 rfl rfl vin1 rfl dX0_changed_11 ?_
    refine vp_callSi (pc := 12) (W.runS (As := [.ref (g 1)]) (rest := []) ⟨hx, hb, hml, hown, hts⟩ (metX0_near l D (g 1) cL (Z 1)) (va_cwS 1 hts (lw_S q130 q131 q3 q132) rfl rfl rfl (by decide +kernel) ⟨Nat.le_of_ble_eq_true rfl, Nat.le_of_ble_eq_true rfl⟩) (sd_preS Pn.st (⟨hL01, hKL⟩)) rfl rfl hl.1 rfl (lv_room (Nat.le_of_ble_eq_true rfl)) dX0_changed_12 ⟨Nat.le_of_ble_eq_true rfl, Nat.le_of_ble_eq_true rfl⟩) (fun f12 g12 => ?_)
    replace g12 : f12 = if -4611686018427387904 < (Z 1 0).toInt ∧ (Z 1 0).toInt < 4611686018427387904 then 1 else 0 := g12
    refine lv_if_eq (pc := 15) (tgt := 22) hx hb dX0_changed_15 (by decide) (fun c15 => False.elim (by rw [g12, if_pos (by obtain ⟨-, a1, a2⟩ := hn; omega)] at c15; exact absurd c15 (by decide))) (fun c15 => ?_)
    refine lv_iconst (pc := 18) (v := 1) hx hb dX0_changed_18 (by decide) ?_
    refine lv_goto (pc := 19) (tgt := 23) hx hb dX0_changed_19 (by decide) ?_
    refine lv_istore (pc := 23) (lv' := [(5, .int 1), (0, .ref hd), (1, .ref hg), (2, .int 3), (3, .int w), (4, .int n)]) hx hb dX0_changed_23 hl (by decide) rfl (fun ls hl => ?_)
    refine lv_aload_n (pc := 25) hx hb dX0_changed_25 rfl (lv_at hl 2 rfl) ?_
    refine lv_iload_n (pc := 26) hx hb dX0_changed_26 rfl (lv_at hl 4 rfl) ?_
    refine lv_iconst (pc := 27) (v := 1) hx hb dX0_changed_27 (by decide) ?_
    refine lv_iand (pc := 28) hx hb dX0_changed_28 ?_
    refine lv_topi (fun v28 e28 => ?_)
    refine sd_aald (pc := 29) (r := (g (ix w))) hx hb hK hRg 1 rfl rfl (by rw [e28]; exact ix_in w) (by rw [e28]; rfl) dX0_changed_29 ?_
    refine lv_astore (pc := 30) (lv' := [(6, .ref (g (ix w))), (5, .int 1), (0, .ref hd), (1, .ref hg), (2, .int 3), (3, .int w), (4, .int n)]) hx hb dX0_changed_30 hl (by decide) rfl (fun ls hl => ?_)
    refine lv_aload_n (pc := 32) hx hb dX0_changed_32 rfl (lv_at hl 3 rfl) ?_
    refine lv_iload_n (pc := 33) hx hb dX0_changed_33 rfl (lv_at hl 5 rfl) ?_
    refine lv_iconst (pc := 34) (v := (-1)) hx hb dX0_changed_34 (by decide) ?_
    refine lv_ixor (pc := 35) hx hb dX0_changed_35 ?_
    refine lv_topi (fun v35 e35 => ?_)
    refine lv_iconst (pc := 36) (v := 1) hx hb dX0_changed_36 (by decide) ?_
    refine lv_iand (pc := 37) hx hb dX0_changed_37 ?_
    refine lv_topi (fun v37 e37 => ?_)
    refine sd_aald (pc := 38) (r := (g (1 - ix w))) hx hb hK hRg 1 rfl rfl (by rw [e37]; exact ix_in v35) (by rw [e37, e35]; show some (g (ix (w ^^^ (-1)))) = some (g (1 - ix w)); rw [ix_not]) dX0_changed_38 ?_
    refine lv_astore (pc := 39) (lv' := [(7, .ref (g (1 - ix w))), (6, .ref (g (ix w))), (5, .int 1), (0, .ref hd), (1, .ref hg), (2, .int 3), (3, .int w), (4, .int n)]) hx hb dX0_changed_39 hl (by decide) rfl (fun ls hl => ?_)
    refine lv_iload_n (pc := 41) hx hb dX0_changed_41 rfl (lv_at hl 5 rfl) ?_
    refine lv_if_ne (pc := 42) (tgt := 53) hx hb dX0_changed_42 (by decide) (fun c42 => ?_) (fun c42 => False.elim (by revert c42; decide))
    refine lv_iload_n (pc := 53) hx hb dX0_changed_53 rfl (lv_at hl 5 rfl) ?_
    refine lv_iconst (pc := 54) (v := 1) hx hb dX0_changed_54 (by decide) ?_
    refine lv_icmp_ne (pc := 55) (tgt := 66) hx hb dX0_changed_55 (by decide) (fun c55 => ?_) (fun c55 => False.elim (by revert c55; decide))
    refine lv_iload_n (pc := 66) hx hb dX0_changed_66 rfl (lv_at hl 5 rfl) ?_
    refine lv_iconst (pc := 67) (v := 2) hx hb dX0_changed_67 (by decide) ?_
    refine lv_icmp_ne (pc := 68) (tgt := 81) hx hb dX0_changed_68 (by decide) (fun c68 => ?_) (fun c68 => False.elim (by revert c68; decide))
    refine lv_iload_n (pc := 81) hx hb dX0_changed_81 rfl (lv_at hl 5 rfl) ?_
    refine lv_iconst (pc := 82) (v := 3) hx hb dX0_changed_82 (by decide) ?_
    refine lv_icmp_ne (pc := 83) (tgt := 96) hx hb dX0_changed_83 (by decide) (fun c83 => False.elim (by revert c83; decide)) (fun c83 => ?_)
    refine lv_aload_n (pc := 86) hx hb dX0_changed_86 rfl (lv_at hl 3 rfl) ?_
    refine lv_iload_n (pc := 87) hx hb dX0_changed_87 rfl (lv_at hl 6 rfl) ?_
    refine lv_iload (pc := 88) hx hb dX0_changed_88 (lv_at hl 7 rfl) ?_
    refine va_calli (pc := 90) (va_runV (As := [.int w, .int n]) (rest := []) ⟨hx, hb, hml, hown, hts⟩ (metX1_millis l D z s.heap.size hd ha cD F T w n) (cwV 2 hts (lw_V q262 q263 q264 q4 q265) rfl rfl rfl (by decide +kernel) ⟨Nat.le_of_ble_eq_true rfl, Nat.le_of_ble_eq_true rfl⟩) (sd_preV Pkz.st (va_recv hK0 hDk (ci := 0) (q0 := 0) rfl rfl) (⟨⟨rfl, hZ, hz, hK0⟩, hDk, hRa, hPr, hKD⟩)) rfl rfl hl.1 rfl (lv_room (Nat.le_of_ble_eq_true rfl)) dX0_changed_90 ⟨Nat.le_of_ble_eq_true rfl, Nat.le_of_ble_eq_true rfl⟩) hS (fun q _ h => hFa q h) hFa (fun r F1 t H1 locs1 ht hvm hp hB hz1 hk1 hS => ?_)
    replace hp : r = if near2 T then 1 else 0 := hp
    replace hB : Ra D ha cD F1 t.heap ∧ Pair D F1 (chg 3 (ix w) n T) t.heap := hB
    rw [ht] at hB
    obtain ⟨hDk1, hRg1, hL1⟩ := Wl_call hK hne hW hk1
    have hLi := hL1 (ix w) (ix_lt w)
    have hLj := hL1 (1 - ix w) (by omega)
    have hRj := hR (1 - ix w) (by omega)
    have hRi0 := hR (ix w) (ix_lt w)
    have hnj := near_nr hn (show 1 - ix w < 2 by omega)
    have hn1 := sd_ib n
    have hcg : chg 3 (ix w) n T (ix w) = T (ix w) + dlt 3 T (ix w) n := by rw [chg_yes hn, tset_self]
    obtain ⟨rr, ur, nnr, -, -, hSr⟩ := hB.2 (ix w) (ix_lt w)
    have hsr := hSr.sec
    rw [hcg] at hsr
    have hub := sd_lb ur
    refine lv_goto (pc := 93) (tgt := 103) hx hb dX0_changed_93 (by decide) ?_
    refine lv_istore (pc := 103) (lv' := [(8, .int r), (7, .ref (g (1 - ix w))), (6, .ref (g (ix w))), (5, .int 1), (0, .ref hd), (1, .ref hg), (2, .int 3), (3, .int w), (4, .int n)]) hx hb dX0_changed_103 hl (by decide) rfl (fun ls hl => ?_)
    refine lv_iload (pc := 105) hx hb dX0_changed_105 (lv_at hl 0 rfl) ?_
    refine lv_iload (pc := 107) hx hb dX0_changed_107 (lv_at hl 3 rfl) ?_
    refine lv_icmp_eq (pc := 109) (tgt := 114) hx hb dX0_changed_109 (by decide) (fun c109 => ?_) (fun c109 => False.elim (by exact c109 (by rw [hp, if_pos hn])))
    refine lv_iload (pc := 114) hx hb dX0_changed_114 (lv_at hl 3 rfl) ?_
    refine lv_if_ne (pc := 116) (tgt := 121) hx hb dX0_changed_116 (by decide) (fun c116 => ?_) (fun c116 => False.elim (by revert c116; decide))
    refine lv_iload_n (pc := 121) hx hb dX0_changed_121 rfl (lv_at hl 6 rfl) ?_
    refine lv_if_ne (pc := 122) (tgt := 138) hx hb dX0_changed_122 (by decide) (fun c122 => ?_) (fun c122 => False.elim (by revert c122; decide))
    refine lv_iload_n (pc := 138) hx hb dX0_changed_138 rfl (lv_at hl 6 rfl) ?_
    refine lv_iconst (pc := 139) (v := 1) hx hb dX0_changed_139 (by decide) ?_
    refine lv_icmp_ne (pc := 140) (tgt := 158) hx hb dX0_changed_140 (by decide) (fun c140 => ?_) (fun c140 => False.elim (by revert c140; decide))
    refine lv_iload_n (pc := 158) hx hb dX0_changed_158 rfl (lv_at hl 6 rfl) ?_
    refine lv_iconst (pc := 159) (v := 2) hx hb dX0_changed_159 (by decide) ?_
    refine lv_icmp_ne (pc := 160) (tgt := 172) hx hb dX0_changed_160 (by decide) (fun c160 => ?_) (fun c160 => False.elim (by revert c160; decide))
    refine lv_iload_n (pc := 172) hx hb dX0_changed_172 rfl (lv_at hl 6 rfl) ?_
    refine lv_iconst (pc := 173) (v := 3) hx hb dX0_changed_173 (by decide) ?_
    refine lv_icmp_ne (pc := 174) (tgt := 212) hx hb dX0_changed_174 (by decide) (fun c174 => False.elim (by revert c174; decide)) (fun c174 => ?_)
    refine lv_aload (pc := 177) hx hb dX0_changed_177 (lv_at hl 2 rfl) ?_
    refine lv_iload (pc := 179) hx hb dX0_changed_179 (lv_at hl 8 rfl) ?_
    refine lv_i2l (pc := 181) hx hb dX0_changed_181 rfl ?_
    refine lv_topl (fun v181 e181 => ?_)
    refine lv_ldc2 (pc := 182) (v := 1000) hx hb hown (hts _ q280) dX0_changed_182 ?_
    have h181 : v181.toInt = n.toInt := by rw [e181, Int32.toInt_toInt64]
    refine vp_callSl (pc := 185) (W.runS (As := [.long v181, .long 1000]) (rest := [.ref (g (ix w))]) ⟨hx, hb, hml, hown, hts⟩ (metX0_floor3 l v181) (va_cwS 2 hts (lw_S q217 q218 q3 q219) rfl rfl rfl (by decide +kernel) ⟨Nat.le_of_ble_eq_true rfl, Nat.le_of_ble_eq_true rfl⟩) (sd_preS P0.st trivial) rfl rfl hl.1 rfl (lv_room (Nat.le_of_ble_eq_true rfl)) dX0_changed_185 ⟨Nat.le_of_ble_eq_true rfl, Nat.le_of_ble_eq_true rfl⟩) (fun f185 g185 => ?_)
    replace g185 : f185.toInt = v181.toInt / 1000 := g185
    refine lv_iload (pc := 188) hx hb dX0_changed_188 (lv_at hl 8 rfl) ?_
    refine lv_i2l (pc := 190) hx hb dX0_changed_190 rfl ?_
    refine lv_topl (fun v190 e190 => ?_)
    refine lv_iload (pc := 191) hx hb dX0_changed_191 (lv_at hl 8 rfl) ?_
    refine lv_i2l (pc := 193) hx hb dX0_changed_193 rfl ?_
    refine lv_topl (fun v193 e193 => ?_)
    refine lv_ldc2 (pc := 194) (v := 1000) hx hb hown (hts _ q280) dX0_changed_194 ?_
    have h193 : v193.toInt = n.toInt := by rw [e193, Int32.toInt_toInt64]
    have h190 : v190.toInt = n.toInt := by rw [e190, Int32.toInt_toInt64]
    refine vp_callSl (pc := 197) (W.runS (As := [.long v193, .long 1000]) (rest := [.long v190, .long f185, .ref (g (ix w))]) ⟨hx, hb, hml, hown, hts⟩ (metX0_floor3 l v193) (va_cwS 2 hts (lw_S q217 q218 q3 q219) rfl rfl rfl (by decide +kernel) ⟨Nat.le_of_ble_eq_true rfl, Nat.le_of_ble_eq_true rfl⟩) (sd_preS P0.st trivial) rfl rfl hl.1 rfl (lv_room (Nat.le_of_ble_eq_true rfl)) dX0_changed_197 ⟨Nat.le_of_ble_eq_true rfl, Nat.le_of_ble_eq_true rfl⟩) (fun f197 g197 => ?_)
    replace g197 : f197.toInt = v193.toInt / 1000 := g197
    refine lv_ldc2 (pc := 200) (v := 1000) hx hb hown (hts _ q280) dX0_changed_200 ?_
    refine lv_lmul (pc := 203) hx hb dX0_changed_203 ?_
    refine lv_topl (fun v203 e203 => ?_)
    refine lv_lsub (pc := 204) hx hb dX0_changed_204 ?_
    refine lv_topl (fun v204 e204 => ?_)
    refine lv_ldc2 (pc := 205) (v := 1000000) hx hb hown (hts _ q281) dX0_changed_205 ?_
    refine lv_lmul (pc := 208) hx hb dX0_changed_208 ?_
    refine lv_topl (fun v208 e208 => ?_)
    have k1000 : (1000 : Int64).toInt = 1000 := rfl
    have k1m : (1000000 : Int64).toInt = 1000000 := rfl
    have h203 : v203.toInt = f197.toInt * 1000 := by rw [e203]; exact sd_mul (b := 1000) (by rw [k1000]; omega) (by rw [k1000]; omega)
    have h204 : v204.toInt = v190.toInt - v203.toInt := by rw [e204]; exact sd_sub (by omega) (by omega)
    have h208 : v208.toInt = v204.toInt * 1000000 := by rw [e208]; exact sd_mul (b := 1000000) (by rw [k1m]; omega) (by rw [k1m]; omega)
    have hab : T (ix w) + f185.toInt * 1000000000 + v208.toInt = T (ix w) + dlt 3 T (ix w) n := by show T (ix w) + f185.toInt * 1000000000 + v208.toInt = T (ix w) + n.toInt * 1000000; omega
    have hFg2 := Axf hS hA (Ax1 hAg)
    refine va_callv (pc := 209) (va_runS (As := [.ref (g (ix w)), .long f185, .long v208]) (rest := []) ⟨hx, hb, hml, hown, hts⟩ (metX0_more l D (g (ix w)) H1.size cL (Z (ix w)) (T (ix w)) f185 v208 hRi0 (by omega) (by omega) (by omega) (by omega) (by rw [hab, ← hsr]; exact hub.1) (by rw [hab, ← hsr]; exact hub.2)) (va_cwS 3 hts (lw_S q213 q214 q3 q215) rfl rfl rfl (by decide +kernel) ⟨Nat.le_of_ble_eq_true rfl, Nat.le_of_ble_eq_true rfl⟩) (sd_preS Pm.st (⟨rfl, hLi, hKL⟩)) rfl rfl hl.1 rfl (lv_room (Nat.le_of_ble_eq_true rfl)) dX0_changed_209 ⟨Nat.le_of_ble_eq_true rfl, Nat.le_of_ble_eq_true rfl⟩) hS (fun q _ h => hFg2 q h) hFg2 (fun Z1 t4 H4 locs4 ht4 hvm4 hp4 hB4 hz4 hk4 hS => ?_)
    replace hp4 : Rw Z1 (T (ix w) + f185.toInt * 1000000000 + v208.toInt) := hp4
    rw [hab, ← hcg] at hp4
    replace hB4 : La D (g (ix w)) cL Z1 t4.heap := hB4
    rw [ht4] at hB4
    have hWl := Wl_end hK hne (ix_lt w) hDk1 hB.1 hB.2 hRg1 hL1 (fun k2 hk2 hn2 => by rw [chg_yes hn, tset_ne _ _ hn2]; exact hR k2 hk2) (Un.call hz4 hk4) hB4 hp4
    refine lv_iload_n (pc := 212) hx hb dX0_changed_212 rfl (lv_at hl 6 rfl) ?_
    refine lv_iconst (pc := 213) (v := 4) hx hb dX0_changed_213 (by decide) ?_
    refine lv_icmp_ne (pc := 214) (tgt := 226) hx hb dX0_changed_214 (by decide) (fun c214 => ?_) (fun c214 => False.elim (by revert c214; decide))
    refine lv_iconst (pc := 226) (v := 1) hx hb dX0_changed_226 (by decide) ?_
    refine W.widen (k := 1) (n := 2) (Nat.le_of_ble_eq_true rfl) (Nat.le_of_ble_eq_true rfl) ?_
    exact W.zret (v := 1) hx hb hr rfl (fun t ht hW => ⟨⟨1, (F1, fun k => if k = ix w then Z1 else Z k), rfl, rfl, by (try dsimp only); rw [ht]; exact hWl⟩, hS.F ht⟩) hS.2.2 dX0_changed_227
  · refine sd_join (pc2 := 23) (st2 := [.int 0]) (ls2 := ls) ?_ (fun K23 => ?_)
    · refine lv_istore (pc := 23) (lv' := [(5, .int 0), (0, .ref hd), (1, .ref hg), (2, .int 3), (3, .int w), (4, .int n)]) hx hb dX0_changed_23 hl (by decide) rfl (fun ls hl => ?_)
      refine lv_aload_n (pc := 25) hx hb dX0_changed_25 rfl (lv_at hl 2 rfl) ?_
      refine lv_iload_n (pc := 26) hx hb dX0_changed_26 rfl (lv_at hl 4 rfl) ?_
      refine lv_iconst (pc := 27) (v := 1) hx hb dX0_changed_27 (by decide) ?_
      refine lv_iand (pc := 28) hx hb dX0_changed_28 ?_
      refine lv_topi (fun v28 e28 => ?_)
      refine sd_aald (pc := 29) (r := (g (ix w))) hx hb hK hRg 1 rfl rfl (by rw [e28]; exact ix_in w) (by rw [e28]; rfl) dX0_changed_29 ?_
      refine lv_astore (pc := 30) (lv' := [(6, .ref (g (ix w))), (5, .int 0), (0, .ref hd), (1, .ref hg), (2, .int 3), (3, .int w), (4, .int n)]) hx hb dX0_changed_30 hl (by decide) rfl (fun ls hl => ?_)
      refine lv_aload_n (pc := 32) hx hb dX0_changed_32 rfl (lv_at hl 3 rfl) ?_
      refine lv_iload_n (pc := 33) hx hb dX0_changed_33 rfl (lv_at hl 5 rfl) ?_
      refine lv_iconst (pc := 34) (v := (-1)) hx hb dX0_changed_34 (by decide) ?_
      refine lv_ixor (pc := 35) hx hb dX0_changed_35 ?_
      refine lv_topi (fun v35 e35 => ?_)
      refine lv_iconst (pc := 36) (v := 1) hx hb dX0_changed_36 (by decide) ?_
      refine lv_iand (pc := 37) hx hb dX0_changed_37 ?_
      refine lv_topi (fun v37 e37 => ?_)
      refine sd_aald (pc := 38) (r := (g (1 - ix w))) hx hb hK hRg 1 rfl rfl (by rw [e37]; exact ix_in v35) (by rw [e37, e35]; show some (g (ix (w ^^^ (-1)))) = some (g (1 - ix w)); rw [ix_not]) dX0_changed_38 ?_
      refine lv_astore (pc := 39) (lv' := [(7, .ref (g (1 - ix w))), (6, .ref (g (ix w))), (5, .int 0), (0, .ref hd), (1, .ref hg), (2, .int 3), (3, .int w), (4, .int n)]) hx hb dX0_changed_39 hl (by decide) rfl (fun ls hl => ?_)
      refine lv_iload_n (pc := 41) hx hb dX0_changed_41 rfl (lv_at hl 5 rfl) ?_
      refine lv_if_ne (pc := 42) (tgt := 53) hx hb dX0_changed_42 (by decide) (fun c42 => ?_) (fun c42 => False.elim (by revert c42; decide))
      refine lv_iload_n (pc := 53) hx hb dX0_changed_53 rfl (lv_at hl 5 rfl) ?_
      refine lv_iconst (pc := 54) (v := 1) hx hb dX0_changed_54 (by decide) ?_
      refine lv_icmp_ne (pc := 55) (tgt := 66) hx hb dX0_changed_55 (by decide) (fun c55 => ?_) (fun c55 => False.elim (by revert c55; decide))
      refine lv_iload_n (pc := 66) hx hb dX0_changed_66 rfl (lv_at hl 5 rfl) ?_
      refine lv_iconst (pc := 67) (v := 2) hx hb dX0_changed_67 (by decide) ?_
      refine lv_icmp_ne (pc := 68) (tgt := 81) hx hb dX0_changed_68 (by decide) (fun c68 => ?_) (fun c68 => False.elim (by revert c68; decide))
      refine lv_iload_n (pc := 81) hx hb dX0_changed_81 rfl (lv_at hl 5 rfl) ?_
      refine lv_iconst (pc := 82) (v := 3) hx hb dX0_changed_82 (by decide) ?_
      refine lv_icmp_ne (pc := 83) (tgt := 96) hx hb dX0_changed_83 (by decide) (fun c83 => False.elim (by revert c83; decide)) (fun c83 => ?_)
      refine lv_aload_n (pc := 86) hx hb dX0_changed_86 rfl (lv_at hl 3 rfl) ?_
      refine lv_iload_n (pc := 87) hx hb dX0_changed_87 rfl (lv_at hl 6 rfl) ?_
      refine lv_iload (pc := 88) hx hb dX0_changed_88 (lv_at hl 7 rfl) ?_
      refine va_calli (pc := 90) (va_runV (As := [.int w, .int n]) (rest := []) ⟨hx, hb, hml, hown, hts⟩ (metX1_millis l D z s.heap.size hd ha cD F T w n) (cwV 2 hts (lw_V q262 q263 q264 q4 q265) rfl rfl rfl (by decide +kernel) ⟨Nat.le_of_ble_eq_true rfl, Nat.le_of_ble_eq_true rfl⟩) (sd_preV Pkz.st (va_recv hK0 hDk (ci := 0) (q0 := 0) rfl rfl) (⟨⟨rfl, hZ, hz, hK0⟩, hDk, hRa, hPr, hKD⟩)) rfl rfl hl.1 rfl (lv_room (Nat.le_of_ble_eq_true rfl)) dX0_changed_90 ⟨Nat.le_of_ble_eq_true rfl, Nat.le_of_ble_eq_true rfl⟩) hS (fun q _ h => hFa q h) hFa (fun r F1 t H1 locs1 ht hvm hp hB hz1 hk1 hS => ?_)
      replace hp : r = if near2 T then 1 else 0 := hp
      replace hB : Ra D ha cD F1 t.heap ∧ Pair D F1 (chg 3 (ix w) n T) t.heap := hB
      rw [ht] at hB
      rw [chg_no hn] at hB
      have hWl := Wl_same hK hne hW hk1 hB.1 hB.2
      refine lv_goto (pc := 93) (tgt := 103) hx hb dX0_changed_93 (by decide) ?_
      refine lv_istore (pc := 103) (lv' := [(8, .int r), (7, .ref (g (1 - ix w))), (6, .ref (g (ix w))), (5, .int 0), (0, .ref hd), (1, .ref hg), (2, .int 3), (3, .int w), (4, .int n)]) hx hb dX0_changed_103 hl (by decide) rfl (fun ls hl => ?_)
      refine lv_iload (pc := 105) hx hb dX0_changed_105 (lv_at hl 0 rfl) ?_
      refine lv_iload (pc := 107) hx hb dX0_changed_107 (lv_at hl 3 rfl) ?_
      refine lv_icmp_eq (pc := 109) (tgt := 114) hx hb dX0_changed_109 (by decide) (fun c109 => ?_) (fun c109 => False.elim (by exact c109 (by rw [hp, if_neg hn])))
      refine lv_iload (pc := 114) hx hb dX0_changed_114 (lv_at hl 3 rfl) ?_
      refine lv_if_ne (pc := 116) (tgt := 121) hx hb dX0_changed_116 (by decide) (fun c116 => False.elim (by revert c116; decide)) (fun c116 => ?_)
      refine lv_iconst (pc := 119) (v := 1) hx hb dX0_changed_119 (by decide) ?_
      refine W.widen (k := 1) (n := 2) (Nat.le_of_ble_eq_true rfl) (Nat.le_of_ble_eq_true rfl) ?_
      exact W.zret (v := 1) hx hb hr rfl (fun t ht hW => ⟨⟨1, (F1, Z), rfl, rfl, by (try dsimp only); rw [ht, chg_no hn]; exact hWl⟩, hS.F ht⟩) hS.2.2 dX0_changed_120
    · refine lv_aload_n (pc := 0) hx hb dX0_changed_0 rfl (lv_at hl 1 rfl) ?_
      refine lv_iconst (pc := 1) (v := 0) hx hb dX0_changed_1 (by decide) ?_
      refine sd_aald (pc := 2) (r := (g 0)) hx hb hK hRg 1 rfl rfl vin0 rfl dX0_changed_2 ?_
      refine vp_callSi (pc := 3) (W.runS (As := [.ref (g 0)]) (rest := []) ⟨hx, hb, hml, hown, hts⟩ (metX0_near l D (g 0) cL (Z 0)) (va_cwS 1 hts (lw_S q130 q131 q3 q132) rfl rfl rfl (by decide +kernel) ⟨Nat.le_of_ble_eq_true rfl, Nat.le_of_ble_eq_true rfl⟩) (sd_preS Pn.st (⟨hL00, hKL⟩)) rfl rfl hl.1 rfl (lv_room (Nat.le_of_ble_eq_true rfl)) dX0_changed_3 ⟨Nat.le_of_ble_eq_true rfl, Nat.le_of_ble_eq_true rfl⟩) (fun f3 g3 => ?_)
      replace g3 : f3 = if -4611686018427387904 < (Z 0 0).toInt ∧ (Z 0 0).toInt < 4611686018427387904 then 1 else 0 := g3
      refine lv_if_eq (pc := 6) (tgt := 22) hx hb dX0_changed_6 (by decide) (fun c6 => ?_) (fun c6 => ?_)
      · refine lv_iconst (pc := 22) (v := 0) hx hb dX0_changed_22 (by decide) ?_
        exact K23
      · have q0 : -4611686018427387904 < (Z 0 0).toInt ∧ (Z 0 0).toInt < 4611686018427387904 := Classical.byContradiction fun q => c6 (by rw [g3, if_neg q])
        refine lv_aload_n (pc := 9) hx hb dX0_changed_9 rfl (lv_at hl 1 rfl) ?_
        refine lv_iconst (pc := 10) (v := 1) hx hb dX0_changed_10 (by decide) ?_
        refine sd_aald (pc := 11) (r := (g 1)) hx hb hK hRg 1 rfl rfl vin1 rfl dX0_changed_11 ?_
        refine vp_callSi (pc := 12) (W.runS (As := [.ref (g 1)]) (rest := []) ⟨hx, hb, hml, hown, hts⟩ (metX0_near l D (g 1) cL (Z 1)) (va_cwS 1 hts (lw_S q130 q131 q3 q132) rfl rfl rfl (by decide +kernel) ⟨Nat.le_of_ble_eq_true rfl, Nat.le_of_ble_eq_true rfl⟩) (sd_preS Pn.st (⟨hL01, hKL⟩)) rfl rfl hl.1 rfl (lv_room (Nat.le_of_ble_eq_true rfl)) dX0_changed_12 ⟨Nat.le_of_ble_eq_true rfl, Nat.le_of_ble_eq_true rfl⟩) (fun f12 g12 => ?_)
        replace g12 : f12 = if -4611686018427387904 < (Z 1 0).toInt ∧ (Z 1 0).toInt < 4611686018427387904 then 1 else 0 := g12
        refine lv_if_eq (pc := 15) (tgt := 22) hx hb dX0_changed_15 (by decide) (fun c15 => ?_) (fun c15 => False.elim (by exact c15 (by rw [g12, if_neg (fun q => hn ⟨⟨by omega, by omega⟩, by omega, by omega⟩)])))
        refine lv_iconst (pc := 22) (v := 0) hx hb dX0_changed_22 (by decide) ?_
        exact K23
set_option maxHeartbeats 4000000 in
set_option maxRecDepth 100000 in
/-- changed: kind 4 -/
theorem metX0_changed_4 (l : Launch) (D : va_G) (z sz hd ha hg : Nat) (g : Nat → Nat) (cD cG cL : ClassId) (F : Nat → Option Nat) (Z : Nat → Nat → Int64) (T : Nat → Int) (hne : Ne4 ha hg g) (w n : Int32) : Met l yX0_changed (ws_ yX0_changed cX0_changed 9 (some .boolean)) ({ frames := 7, cells := 1, slots := 2, locals := 157 } : Room) (va_Pc [.ref hd, .ref hg, .int 4, .int w, .int n] (fun U => (Pl D z sz hd ha hg g cD cG cL F Z T) U.heap U)) (va_Qi (S := (Nat → Option Nat) × (Nat → Nat → Int64)) (fun r _ => r = 1) (fun x t => Wl D hd ha hg g cD cG cL x.1 x.2 (chg 4 (ix w) n T) t.heap) (Ax [ha, g 0, g 1] sz)) 1 2 (Ax [ha, g 0, g 1] sz) := by
  refine Met.ofW (cc := cX0_changed) (maxL := 9) (ret := (some .boolean)) (by decide) rfl ?_
  intro p e s m args below meth c s₁ B hml hv
  obtain ⟨rfl, hv⟩ := hv
  have hx := B.exec
  have hb := B.bytes
  have hr := B.returns
  have hts := atoms_spec (ws := ws_ yX0_changed cX0_changed 9 (some .boolean)) B.pre
  have hts : ∀ w ∈ lw_all, w.before _ s = true := fun w h => hts w (List.mem_cons_of_mem _ h)
  have hown : s.vm.findClass RX0 = some m.cls := findClass_of_methodNamed B.named
  have hlocks := B.notSynchronized
  have hl := lv_entry ([.ref hd, .ref hg, .int 4, .int w, .int n]) (n := 9) (Nat.le_of_ble_eq_true rfl)
  rw [lg_entry_eq]
  generalize (lg_sl ([.ref hd, .ref hg, .int 4, .int w, .int n]) ++ List.replicate (9 - (lg_sl ([.ref hd, .ref hg, .int 4, .int w, .int n])).length) Slot.unset).toArray = ls at hl ⊢
  have hl : lv_has ls 9 [(0, .ref hd), (1, .ref hg), (2, .int 4), (3, .int w), (4, .int n)] := hl
  obtain ⟨⟨hsz, hZ, hz, hK0⟩, hW, hK⟩ := hv
  subst hsz
  obtain ⟨hDk, hRa, hPr, hRg, hL, hR⟩ := id hW
  have hKD := hK.sub (tys' := [(cD, .object "Duration")]) [0] rfl
  have hKL := hK.sub (tys' := [(cL, .long)]) [2] rfl
  have hA : ∀ q : Nat, s.heap.size ≤ q → Ax [ha, g 0, g 1] s.heap.size q := fun q h => Or.inr h
  have hAa : Ax [ha, g 0, g 1] s.heap.size ha := Or.inl List.mem_cons_self
  have hAg : Ax [ha, g 0, g 1] s.heap.size (g (ix w)) := AxG (ix_lt w)
  have hS : va_S (Ax [ha, g 0, g 1] s.heap.size) s.heap s.heap [] := va_S.rf
  have hFa := Axf hS hA (Ax1 hAa)
  have hFg := Axf hS hA (Ax1 hAg)
  have hL00 := hL 0 (by decide)
  have hL01 := hL 1 (by decide)
  have hs0 := (hR 0 (by decide)).sec
  have hs1 := (hR 1 (by decide)).sec
  rcases Classical.em (near2 T) with hn | hn
  · refine lv_aload_n (pc := 0) hx hb dX0_changed_0 rfl (lv_at hl 1 rfl) ?_
    refine lv_iconst (pc := 1) (v := 0) hx hb dX0_changed_1 (by decide) ?_
    refine sd_aald (pc := 2) (r := (g 0)) hx hb hK hRg 1 rfl rfl vin0 rfl dX0_changed_2 ?_
    refine vp_callSi (pc := 3) (W.runS (As := [.ref (g 0)]) (rest := []) ⟨hx, hb, hml, hown, hts⟩ (metX0_near l D (g 0) cL (Z 0)) (va_cwS 1 hts (lw_S q130 q131 q3 q132) rfl rfl rfl (by decide +kernel) ⟨Nat.le_of_ble_eq_true rfl, Nat.le_of_ble_eq_true rfl⟩) (sd_preS Pn.st (⟨hL00, hKL⟩)) rfl rfl hl.1 rfl (lv_room (Nat.le_of_ble_eq_true rfl)) dX0_changed_3 ⟨Nat.le_of_ble_eq_true rfl, Nat.le_of_ble_eq_true rfl⟩) (fun f3 g3 => ?_)
    replace g3 : f3 = if -4611686018427387904 < (Z 0 0).toInt ∧ (Z 0 0).toInt < 4611686018427387904 then 1 else 0 := g3
    refine lv_if_eq (pc := 6) (tgt := 22) hx hb dX0_changed_6 (by decide) (fun c6 => False.elim (by rw [g3, if_pos (by obtain ⟨⟨a1, a2⟩, -⟩ := hn; omega)] at c6; exact absurd c6 (by decide))) (fun c6 => ?_)
    refine lv_aload_n (pc := 9) hx hb dX0_changed_9 rfl (lv_at hl 1 rfl) ?_
    refine lv_iconst (pc := 10) (v := 1) hx hb dX0_changed_10 (by decide) ?_
    refine sd_aald (pc := 11) (r := (g 1)) hx hb hK hRg 1 rfl rfl vin1 rfl dX0_changed_11 ?_
    refine vp_callSi (pc := 12) (W.runS (As := [.ref (g 1)]) (rest := []) ⟨hx, hb, hml, hown, hts⟩ (metX0_near l D (g 1) cL (Z 1)) (va_cwS 1 hts (lw_S q130 q131 q3 q132) rfl rfl rfl (by decide +kernel) ⟨Nat.le_of_ble_eq_true rfl, Nat.le_of_ble_eq_true rfl⟩) (sd_preS Pn.st (⟨hL01, hKL⟩)) rfl rfl hl.1 rfl (lv_room (Nat.le_of_ble_eq_true rfl)) dX0_changed_12 ⟨Nat.le_of_ble_eq_true rfl, Nat.le_of_ble_eq_true rfl⟩) (fun f12 g12 => ?_)
    replace g12 : f12 = if -4611686018427387904 < (Z 1 0).toInt ∧ (Z 1 0).toInt < 4611686018427387904 then 1 else 0 := g12
    refine lv_if_eq (pc := 15) (tgt := 22) hx hb dX0_changed_15 (by decide) (fun c15 => False.elim (by rw [g12, if_pos (by obtain ⟨-, a1, a2⟩ := hn; omega)] at c15; exact absurd c15 (by decide))) (fun c15 => ?_)
    refine lv_iconst (pc := 18) (v := 1) hx hb dX0_changed_18 (by decide) ?_
    refine lv_goto (pc := 19) (tgt := 23) hx hb dX0_changed_19 (by decide) ?_
    refine lv_istore (pc := 23) (lv' := [(5, .int 1), (0, .ref hd), (1, .ref hg), (2, .int 4), (3, .int w), (4, .int n)]) hx hb dX0_changed_23 hl (by decide) rfl (fun ls hl => ?_)
    refine lv_aload_n (pc := 25) hx hb dX0_changed_25 rfl (lv_at hl 2 rfl) ?_
    refine lv_iload_n (pc := 26) hx hb dX0_changed_26 rfl (lv_at hl 4 rfl) ?_
    refine lv_iconst (pc := 27) (v := 1) hx hb dX0_changed_27 (by decide) ?_
    refine lv_iand (pc := 28) hx hb dX0_changed_28 ?_
    refine lv_topi (fun v28 e28 => ?_)
    refine sd_aald (pc := 29) (r := (g (ix w))) hx hb hK hRg 1 rfl rfl (by rw [e28]; exact ix_in w) (by rw [e28]; rfl) dX0_changed_29 ?_
    refine lv_astore (pc := 30) (lv' := [(6, .ref (g (ix w))), (5, .int 1), (0, .ref hd), (1, .ref hg), (2, .int 4), (3, .int w), (4, .int n)]) hx hb dX0_changed_30 hl (by decide) rfl (fun ls hl => ?_)
    refine lv_aload_n (pc := 32) hx hb dX0_changed_32 rfl (lv_at hl 3 rfl) ?_
    refine lv_iload_n (pc := 33) hx hb dX0_changed_33 rfl (lv_at hl 5 rfl) ?_
    refine lv_iconst (pc := 34) (v := (-1)) hx hb dX0_changed_34 (by decide) ?_
    refine lv_ixor (pc := 35) hx hb dX0_changed_35 ?_
    refine lv_topi (fun v35 e35 => ?_)
    refine lv_iconst (pc := 36) (v := 1) hx hb dX0_changed_36 (by decide) ?_
    refine lv_iand (pc := 37) hx hb dX0_changed_37 ?_
    refine lv_topi (fun v37 e37 => ?_)
    refine sd_aald (pc := 38) (r := (g (1 - ix w))) hx hb hK hRg 1 rfl rfl (by rw [e37]; exact ix_in v35) (by rw [e37, e35]; show some (g (ix (w ^^^ (-1)))) = some (g (1 - ix w)); rw [ix_not]) dX0_changed_38 ?_
    refine lv_astore (pc := 39) (lv' := [(7, .ref (g (1 - ix w))), (6, .ref (g (ix w))), (5, .int 1), (0, .ref hd), (1, .ref hg), (2, .int 4), (3, .int w), (4, .int n)]) hx hb dX0_changed_39 hl (by decide) rfl (fun ls hl => ?_)
    refine lv_iload_n (pc := 41) hx hb dX0_changed_41 rfl (lv_at hl 5 rfl) ?_
    refine lv_if_ne (pc := 42) (tgt := 53) hx hb dX0_changed_42 (by decide) (fun c42 => ?_) (fun c42 => False.elim (by revert c42; decide))
    refine lv_iload_n (pc := 53) hx hb dX0_changed_53 rfl (lv_at hl 5 rfl) ?_
    refine lv_iconst (pc := 54) (v := 1) hx hb dX0_changed_54 (by decide) ?_
    refine lv_icmp_ne (pc := 55) (tgt := 66) hx hb dX0_changed_55 (by decide) (fun c55 => ?_) (fun c55 => False.elim (by revert c55; decide))
    refine lv_iload_n (pc := 66) hx hb dX0_changed_66 rfl (lv_at hl 5 rfl) ?_
    refine lv_iconst (pc := 67) (v := 2) hx hb dX0_changed_67 (by decide) ?_
    refine lv_icmp_ne (pc := 68) (tgt := 81) hx hb dX0_changed_68 (by decide) (fun c68 => ?_) (fun c68 => False.elim (by revert c68; decide))
    refine lv_iload_n (pc := 81) hx hb dX0_changed_81 rfl (lv_at hl 5 rfl) ?_
    refine lv_iconst (pc := 82) (v := 3) hx hb dX0_changed_82 (by decide) ?_
    refine lv_icmp_ne (pc := 83) (tgt := 96) hx hb dX0_changed_83 (by decide) (fun c83 => ?_) (fun c83 => False.elim (by revert c83; decide))
    refine lv_aload_n (pc := 96) hx hb dX0_changed_96 rfl (lv_at hl 3 rfl) ?_
    refine lv_iload_n (pc := 97) hx hb dX0_changed_97 rfl (lv_at hl 6 rfl) ?_
    refine lv_iload (pc := 98) hx hb dX0_changed_98 (lv_at hl 7 rfl) ?_
    refine va_calli (pc := 100) (va_runV (As := [.int w, .int n]) (rest := []) ⟨hx, hb, hml, hown, hts⟩ (metX1_nanos l D z s.heap.size hd ha cD F T w n) (cwV 2 hts (lw_V q272 q273 q274 q4 q275) rfl rfl rfl (by decide +kernel) ⟨Nat.le_of_ble_eq_true rfl, Nat.le_of_ble_eq_true rfl⟩) (sd_preV Pkz.st (va_recv hK0 hDk (ci := 0) (q0 := 0) rfl rfl) (⟨⟨rfl, hZ, hz, hK0⟩, hDk, hRa, hPr, hKD⟩)) rfl rfl hl.1 rfl (lv_room (Nat.le_of_ble_eq_true rfl)) dX0_changed_100 ⟨Nat.le_of_ble_eq_true rfl, Nat.le_of_ble_eq_true rfl⟩) hS (fun q _ h => hFa q h) hFa (fun r F1 t H1 locs1 ht hvm hp hB hz1 hk1 hS => ?_)
    replace hp : r = if near2 T then 1 else 0 := hp
    replace hB : Ra D ha cD F1 t.heap ∧ Pair D F1 (chg 4 (ix w) n T) t.heap := hB
    rw [ht] at hB
    obtain ⟨hDk1, hRg1, hL1⟩ := Wl_call hK hne hW hk1
    have hLi := hL1 (ix w) (ix_lt w)
    have hLj := hL1 (1 - ix w) (by omega)
    have hRj := hR (1 - ix w) (by omega)
    have hRi0 := hR (ix w) (ix_lt w)
    have hnj := near_nr hn (show 1 - ix w < 2 by omega)
    have hn1 := sd_ib n
    have hcg : chg 4 (ix w) n T (ix w) = T (ix w) + dlt 4 T (ix w) n := by rw [chg_yes hn, tset_self]
    obtain ⟨rr, ur, nnr, -, -, hSr⟩ := hB.2 (ix w) (ix_lt w)
    have hsr := hSr.sec
    rw [hcg] at hsr
    have hub := sd_lb ur
    refine lv_istore (pc := 103) (lv' := [(8, .int r), (7, .ref (g (1 - ix w))), (6, .ref (g (ix w))), (5, .int 1), (0, .ref hd), (1, .ref hg), (2, .int 4), (3, .int w), (4, .int n)]) hx hb dX0_changed_103 hl (by decide) rfl (fun ls hl => ?_)
    refine lv_iload (pc := 105) hx hb dX0_changed_105 (lv_at hl 0 rfl) ?_
    refine lv_iload (pc := 107) hx hb dX0_changed_107 (lv_at hl 3 rfl) ?_
    refine lv_icmp_eq (pc := 109) (tgt := 114) hx hb dX0_changed_109 (by decide) (fun c109 => ?_) (fun c109 => False.elim (by exact c109 (by rw [hp, if_pos hn])))
    refine lv_iload (pc := 114) hx hb dX0_changed_114 (lv_at hl 3 rfl) ?_
    refine lv_if_ne (pc := 116) (tgt := 121) hx hb dX0_changed_116 (by decide) (fun c116 => ?_) (fun c116 => False.elim (by revert c116; decide))
    refine lv_iload_n (pc := 121) hx hb dX0_changed_121 rfl (lv_at hl 6 rfl) ?_
    refine lv_if_ne (pc := 122) (tgt := 138) hx hb dX0_changed_122 (by decide) (fun c122 => ?_) (fun c122 => False.elim (by revert c122; decide))
    refine lv_iload_n (pc := 138) hx hb dX0_changed_138 rfl (lv_at hl 6 rfl) ?_
    refine lv_iconst (pc := 139) (v := 1) hx hb dX0_changed_139 (by decide) ?_
    refine lv_icmp_ne (pc := 140) (tgt := 158) hx hb dX0_changed_140 (by decide) (fun c140 => ?_) (fun c140 => False.elim (by revert c140; decide))
    refine lv_iload_n (pc := 158) hx hb dX0_changed_158 rfl (lv_at hl 6 rfl) ?_
    refine lv_iconst (pc := 159) (v := 2) hx hb dX0_changed_159 (by decide) ?_
    refine lv_icmp_ne (pc := 160) (tgt := 172) hx hb dX0_changed_160 (by decide) (fun c160 => ?_) (fun c160 => False.elim (by revert c160; decide))
    refine lv_iload_n (pc := 172) hx hb dX0_changed_172 rfl (lv_at hl 6 rfl) ?_
    refine lv_iconst (pc := 173) (v := 3) hx hb dX0_changed_173 (by decide) ?_
    refine lv_icmp_ne (pc := 174) (tgt := 212) hx hb dX0_changed_174 (by decide) (fun c174 => ?_) (fun c174 => False.elim (by revert c174; decide))
    refine lv_iload_n (pc := 212) hx hb dX0_changed_212 rfl (lv_at hl 6 rfl) ?_
    refine lv_iconst (pc := 213) (v := 4) hx hb dX0_changed_213 (by decide) ?_
    refine lv_icmp_ne (pc := 214) (tgt := 226) hx hb dX0_changed_214 (by decide) (fun c214 => False.elim (by revert c214; decide)) (fun c214 => ?_)
    refine lv_aload (pc := 217) hx hb dX0_changed_217 (lv_at hl 2 rfl) ?_
    refine lv_lconst (pc := 219) (v := 0) hx hb dX0_changed_219 (by decide) ?_
    refine lv_iload (pc := 220) hx hb dX0_changed_220 (lv_at hl 8 rfl) ?_
    refine lv_i2l (pc := 222) hx hb dX0_changed_222 rfl ?_
    refine lv_topl (fun v222 e222 => ?_)
    have h222 : v222.toInt = n.toInt := by rw [e222, Int32.toInt_toInt64]
    have hab : T (ix w) + (0 : Int64).toInt * 1000000000 + v222.toInt = T (ix w) + dlt 4 T (ix w) n := by show T (ix w) + (0 : Int64).toInt * 1000000000 + v222.toInt = T (ix w) + n.toInt; rw [sd_z0]; omega
    have hFg2 := Axf hS hA (Ax1 hAg)
    refine va_callv (pc := 223) (va_runS (As := [.ref (g (ix w)), .long 0, .long v222]) (rest := []) ⟨hx, hb, hml, hown, hts⟩ (metX0_more l D (g (ix w)) H1.size cL (Z (ix w)) (T (ix w)) 0 v222 hRi0 (by decide) (by decide) (by omega) (by omega) (by rw [hab, ← hsr]; exact hub.1) (by rw [hab, ← hsr]; exact hub.2)) (va_cwS 3 hts (lw_S q213 q214 q3 q215) rfl rfl rfl (by decide +kernel) ⟨Nat.le_of_ble_eq_true rfl, Nat.le_of_ble_eq_true rfl⟩) (sd_preS Pm.st (⟨rfl, hLi, hKL⟩)) rfl rfl hl.1 rfl (lv_room (Nat.le_of_ble_eq_true rfl)) dX0_changed_223 ⟨Nat.le_of_ble_eq_true rfl, Nat.le_of_ble_eq_true rfl⟩) hS (fun q _ h => hFg2 q h) hFg2 (fun Z1 t4 H4 locs4 ht4 hvm4 hp4 hB4 hz4 hk4 hS => ?_)
    replace hp4 : Rw Z1 (T (ix w) + (0 : Int64).toInt * 1000000000 + v222.toInt) := hp4
    rw [hab, ← hcg] at hp4
    replace hB4 : La D (g (ix w)) cL Z1 t4.heap := hB4
    rw [ht4] at hB4
    have hWl := Wl_end hK hne (ix_lt w) hDk1 hB.1 hB.2 hRg1 hL1 (fun k2 hk2 hn2 => by rw [chg_yes hn, tset_ne _ _ hn2]; exact hR k2 hk2) (Un.call hz4 hk4) hB4 hp4
    refine lv_iconst (pc := 226) (v := 1) hx hb dX0_changed_226 (by decide) ?_
    refine W.widen (k := 1) (n := 2) (Nat.le_of_ble_eq_true rfl) (Nat.le_of_ble_eq_true rfl) ?_
    exact W.zret (v := 1) hx hb hr rfl (fun t ht hW => ⟨⟨1, (F1, fun k => if k = ix w then Z1 else Z k), rfl, rfl, by (try dsimp only); rw [ht]; exact hWl⟩, hS.F ht⟩) hS.2.2 dX0_changed_227
  · refine sd_join (pc2 := 23) (st2 := [.int 0]) (ls2 := ls) ?_ (fun K23 => ?_)
    · refine lv_istore (pc := 23) (lv' := [(5, .int 0), (0, .ref hd), (1, .ref hg), (2, .int 4), (3, .int w), (4, .int n)]) hx hb dX0_changed_23 hl (by decide) rfl (fun ls hl => ?_)
      refine lv_aload_n (pc := 25) hx hb dX0_changed_25 rfl (lv_at hl 2 rfl) ?_
      refine lv_iload_n (pc := 26) hx hb dX0_changed_26 rfl (lv_at hl 4 rfl) ?_
      refine lv_iconst (pc := 27) (v := 1) hx hb dX0_changed_27 (by decide) ?_
      refine lv_iand (pc := 28) hx hb dX0_changed_28 ?_
      refine lv_topi (fun v28 e28 => ?_)
      refine sd_aald (pc := 29) (r := (g (ix w))) hx hb hK hRg 1 rfl rfl (by rw [e28]; exact ix_in w) (by rw [e28]; rfl) dX0_changed_29 ?_
      refine lv_astore (pc := 30) (lv' := [(6, .ref (g (ix w))), (5, .int 0), (0, .ref hd), (1, .ref hg), (2, .int 4), (3, .int w), (4, .int n)]) hx hb dX0_changed_30 hl (by decide) rfl (fun ls hl => ?_)
      refine lv_aload_n (pc := 32) hx hb dX0_changed_32 rfl (lv_at hl 3 rfl) ?_
      refine lv_iload_n (pc := 33) hx hb dX0_changed_33 rfl (lv_at hl 5 rfl) ?_
      refine lv_iconst (pc := 34) (v := (-1)) hx hb dX0_changed_34 (by decide) ?_
      refine lv_ixor (pc := 35) hx hb dX0_changed_35 ?_
      refine lv_topi (fun v35 e35 => ?_)
      refine lv_iconst (pc := 36) (v := 1) hx hb dX0_changed_36 (by decide) ?_
      refine lv_iand (pc := 37) hx hb dX0_changed_37 ?_
      refine lv_topi (fun v37 e37 => ?_)
      refine sd_aald (pc := 38) (r := (g (1 - ix w))) hx hb hK hRg 1 rfl rfl (by rw [e37]; exact ix_in v35) (by rw [e37, e35]; show some (g (ix (w ^^^ (-1)))) = some (g (1 - ix w)); rw [ix_not]) dX0_changed_38 ?_
      refine lv_astore (pc := 39) (lv' := [(7, .ref (g (1 - ix w))), (6, .ref (g (ix w))), (5, .int 0), (0, .ref hd), (1, .ref hg), (2, .int 4), (3, .int w), (4, .int n)]) hx hb dX0_changed_39 hl (by decide) rfl (fun ls hl => ?_)
      refine lv_iload_n (pc := 41) hx hb dX0_changed_41 rfl (lv_at hl 5 rfl) ?_
      refine lv_if_ne (pc := 42) (tgt := 53) hx hb dX0_changed_42 (by decide) (fun c42 => ?_) (fun c42 => False.elim (by revert c42; decide))
      refine lv_iload_n (pc := 53) hx hb dX0_changed_53 rfl (lv_at hl 5 rfl) ?_
      refine lv_iconst (pc := 54) (v := 1) hx hb dX0_changed_54 (by decide) ?_
      refine lv_icmp_ne (pc := 55) (tgt := 66) hx hb dX0_changed_55 (by decide) (fun c55 => ?_) (fun c55 => False.elim (by revert c55; decide))
      refine lv_iload_n (pc := 66) hx hb dX0_changed_66 rfl (lv_at hl 5 rfl) ?_
      refine lv_iconst (pc := 67) (v := 2) hx hb dX0_changed_67 (by decide) ?_
      refine lv_icmp_ne (pc := 68) (tgt := 81) hx hb dX0_changed_68 (by decide) (fun c68 => ?_) (fun c68 => False.elim (by revert c68; decide))
      refine lv_iload_n (pc := 81) hx hb dX0_changed_81 rfl (lv_at hl 5 rfl) ?_
      refine lv_iconst (pc := 82) (v := 3) hx hb dX0_changed_82 (by decide) ?_
      refine lv_icmp_ne (pc := 83) (tgt := 96) hx hb dX0_changed_83 (by decide) (fun c83 => ?_) (fun c83 => False.elim (by revert c83; decide))
      refine lv_aload_n (pc := 96) hx hb dX0_changed_96 rfl (lv_at hl 3 rfl) ?_
      refine lv_iload_n (pc := 97) hx hb dX0_changed_97 rfl (lv_at hl 6 rfl) ?_
      refine lv_iload (pc := 98) hx hb dX0_changed_98 (lv_at hl 7 rfl) ?_
      refine va_calli (pc := 100) (va_runV (As := [.int w, .int n]) (rest := []) ⟨hx, hb, hml, hown, hts⟩ (metX1_nanos l D z s.heap.size hd ha cD F T w n) (cwV 2 hts (lw_V q272 q273 q274 q4 q275) rfl rfl rfl (by decide +kernel) ⟨Nat.le_of_ble_eq_true rfl, Nat.le_of_ble_eq_true rfl⟩) (sd_preV Pkz.st (va_recv hK0 hDk (ci := 0) (q0 := 0) rfl rfl) (⟨⟨rfl, hZ, hz, hK0⟩, hDk, hRa, hPr, hKD⟩)) rfl rfl hl.1 rfl (lv_room (Nat.le_of_ble_eq_true rfl)) dX0_changed_100 ⟨Nat.le_of_ble_eq_true rfl, Nat.le_of_ble_eq_true rfl⟩) hS (fun q _ h => hFa q h) hFa (fun r F1 t H1 locs1 ht hvm hp hB hz1 hk1 hS => ?_)
      replace hp : r = if near2 T then 1 else 0 := hp
      replace hB : Ra D ha cD F1 t.heap ∧ Pair D F1 (chg 4 (ix w) n T) t.heap := hB
      rw [ht] at hB
      rw [chg_no hn] at hB
      have hWl := Wl_same hK hne hW hk1 hB.1 hB.2
      refine lv_istore (pc := 103) (lv' := [(8, .int r), (7, .ref (g (1 - ix w))), (6, .ref (g (ix w))), (5, .int 0), (0, .ref hd), (1, .ref hg), (2, .int 4), (3, .int w), (4, .int n)]) hx hb dX0_changed_103 hl (by decide) rfl (fun ls hl => ?_)
      refine lv_iload (pc := 105) hx hb dX0_changed_105 (lv_at hl 0 rfl) ?_
      refine lv_iload (pc := 107) hx hb dX0_changed_107 (lv_at hl 3 rfl) ?_
      refine lv_icmp_eq (pc := 109) (tgt := 114) hx hb dX0_changed_109 (by decide) (fun c109 => ?_) (fun c109 => False.elim (by exact c109 (by rw [hp, if_neg hn])))
      refine lv_iload (pc := 114) hx hb dX0_changed_114 (lv_at hl 3 rfl) ?_
      refine lv_if_ne (pc := 116) (tgt := 121) hx hb dX0_changed_116 (by decide) (fun c116 => False.elim (by revert c116; decide)) (fun c116 => ?_)
      refine lv_iconst (pc := 119) (v := 1) hx hb dX0_changed_119 (by decide) ?_
      refine W.widen (k := 1) (n := 2) (Nat.le_of_ble_eq_true rfl) (Nat.le_of_ble_eq_true rfl) ?_
      exact W.zret (v := 1) hx hb hr rfl (fun t ht hW => ⟨⟨1, (F1, Z), rfl, rfl, by (try dsimp only); rw [ht, chg_no hn]; exact hWl⟩, hS.F ht⟩) hS.2.2 dX0_changed_120
    · refine lv_aload_n (pc := 0) hx hb dX0_changed_0 rfl (lv_at hl 1 rfl) ?_
      refine lv_iconst (pc := 1) (v := 0) hx hb dX0_changed_1 (by decide) ?_
      refine sd_aald (pc := 2) (r := (g 0)) hx hb hK hRg 1 rfl rfl vin0 rfl dX0_changed_2 ?_
      refine vp_callSi (pc := 3) (W.runS (As := [.ref (g 0)]) (rest := []) ⟨hx, hb, hml, hown, hts⟩ (metX0_near l D (g 0) cL (Z 0)) (va_cwS 1 hts (lw_S q130 q131 q3 q132) rfl rfl rfl (by decide +kernel) ⟨Nat.le_of_ble_eq_true rfl, Nat.le_of_ble_eq_true rfl⟩) (sd_preS Pn.st (⟨hL00, hKL⟩)) rfl rfl hl.1 rfl (lv_room (Nat.le_of_ble_eq_true rfl)) dX0_changed_3 ⟨Nat.le_of_ble_eq_true rfl, Nat.le_of_ble_eq_true rfl⟩) (fun f3 g3 => ?_)
      replace g3 : f3 = if -4611686018427387904 < (Z 0 0).toInt ∧ (Z 0 0).toInt < 4611686018427387904 then 1 else 0 := g3
      refine lv_if_eq (pc := 6) (tgt := 22) hx hb dX0_changed_6 (by decide) (fun c6 => ?_) (fun c6 => ?_)
      · refine lv_iconst (pc := 22) (v := 0) hx hb dX0_changed_22 (by decide) ?_
        exact K23
      · have q0 : -4611686018427387904 < (Z 0 0).toInt ∧ (Z 0 0).toInt < 4611686018427387904 := Classical.byContradiction fun q => c6 (by rw [g3, if_neg q])
        refine lv_aload_n (pc := 9) hx hb dX0_changed_9 rfl (lv_at hl 1 rfl) ?_
        refine lv_iconst (pc := 10) (v := 1) hx hb dX0_changed_10 (by decide) ?_
        refine sd_aald (pc := 11) (r := (g 1)) hx hb hK hRg 1 rfl rfl vin1 rfl dX0_changed_11 ?_
        refine vp_callSi (pc := 12) (W.runS (As := [.ref (g 1)]) (rest := []) ⟨hx, hb, hml, hown, hts⟩ (metX0_near l D (g 1) cL (Z 1)) (va_cwS 1 hts (lw_S q130 q131 q3 q132) rfl rfl rfl (by decide +kernel) ⟨Nat.le_of_ble_eq_true rfl, Nat.le_of_ble_eq_true rfl⟩) (sd_preS Pn.st (⟨hL01, hKL⟩)) rfl rfl hl.1 rfl (lv_room (Nat.le_of_ble_eq_true rfl)) dX0_changed_12 ⟨Nat.le_of_ble_eq_true rfl, Nat.le_of_ble_eq_true rfl⟩) (fun f12 g12 => ?_)
        replace g12 : f12 = if -4611686018427387904 < (Z 1 0).toInt ∧ (Z 1 0).toInt < 4611686018427387904 then 1 else 0 := g12
        refine lv_if_eq (pc := 15) (tgt := 22) hx hb dX0_changed_15 (by decide) (fun c15 => ?_) (fun c15 => False.elim (by exact c15 (by rw [g12, if_neg (fun q => hn ⟨⟨by omega, by omega⟩, by omega, by omega⟩)])))
        refine lv_iconst (pc := 22) (v := 0) hx hb dX0_changed_22 (by decide) ?_
        exact K23
end
section
/-! PART 11: new long[2][2] -/
theorem arrV_congr {c : ClassId} {N : Nat} {f f' : Nat → Value} (h : ∀ j, j < N → f j = f' j) : arrV c N f = arrV c N f' := by
  unfold arrV
  congr 2
  funext j
  exact h j.val j.isLt
theorem sd_str : (FieldType.array .long).toString = "[J" ∧ "[" ++ (FieldType.array .long).toString = "[[J" ∧ "[" ++ FieldType.long.toString = "[J" := by decide
section SDM
variable {p : Program} {l : Launch} {e : Env} {R : Room} {s : State} {m : MethodId} {args : Array Value} {below : List Frame} {meth : Method} {c : Code} {H : Heap} {locs : List Loc} {cells slots : Nat} {Q : State → Prop}
variable {cc : ByteArray} {pc : Nat} {ls : Array Slot} {rest : List Value} {D : va_G} {cl : List vw_C} {A : Nat → Prop} {tys : List (ClassId × FieldType)} {H0 : Heap}
theorem sd_multi (hx : p.tables.exec = Jvm.exec) (hb : c.code = cc) {own : String} {index : Nat} (hown : s.vm.findClass own = some m.cls) (hclink : (Cond.classLink own index "[[J").before args s = true) (hover : (Cond.arrayOver (.array .long)).before args s = true) (harr : (Cond.arrayClass .long).before args s = true)
    (hK : va_K D cl tys s) (hS : va_S A H0 H locs) (hcells : cells + 3 ≤ R.cells) (hslots : slots + 6 ≤ R.slots) (hdg : decode cc pc = .ok (.multianewarray index 2, 4))
    (kk : ∀ (q : Nat) (cG cL : ClassId) (H1 : Heap), va_K D cl (tys ++ [(cG, .array .long), (cL, .long)]) s → q = H.size → H.size ≤ H1.size → (∀ x : Nat, x < H.size → H1[x]? = H[x]?) → va_P D cl [(q, .inl (cG, 2, .inr (.inr (.inr (.inr (fun k => some (q + 1 + k)))))))] H1 → (∀ k : Nat, k < 2 → va_P D cl [(q + 1 + k, .inl (cL, 2, .inr (.inl (fun _ => 0))))] H1) → va_S A H0 H1 locs →
      W p l e R s m args below meth c H1 locs (cells + 3) (slots + 6) Q (F0 m (pc + 4) ls (.ref q :: rest))) : W p l e R s m args below meth c H locs cells slots Q (F0 m pc ls (.int 2 :: .int 2 :: rest)) := by
  intro T hT X
  subst hT
  have e2 : (2 : Int32).toNatClampNeg = 2 := by decide
  have hstep := X.multianewarray2F hx (index := index) (ty := .long) (n := 2) (k := 2) (rest := rest) (g := F0 m pc ls (.int 2 :: .int 2 :: rest)) hown (by rw [sd_str.2.1]; exact hclink) hover harr rfl (by rw [hb]; exact hdg) rfl (by decide) (by decide) (by decide) (by decide) (by decide) (by decide) (by decide) (by rw [e2]; exact hcells) (by rw [e2]; exact hslots)
  rw [e2] at hstep
  obtain ⟨vm₁, cA, comp, hW, hfA, hfC, hO, hI, X1, step⟩ := hstep
  obtain ⟨f1, f2, -, -⟩ := Jvm.Free.Multi.fill_facts (T.setVm vm₁) cA comp 2 2 (defaultValue .long) 2
  have fo := fun (a : Nat) (ha : a < T.heap.size) => Jvm.Free.Multi.fill_old (T.setVm vm₁) cA comp 2 2 (defaultValue .long) (a := a) ha 2
  have fi := fun (j : Nat) (hj : j < 2) => Jvm.Free.Multi.fill_inner (T.setVm vm₁) cA comp 2 2 (defaultValue .long) 2 j hj
  have hsz : (T.setVm vm₁).heap = T.heap := rfl
  rw [hsz] at f1 f2 fi
  generalize Jvm.Free.Multi.fill (T.setVm vm₁) cA comp 2 2 (defaultValue .long) 2 = T1 at X1 step f1 f2 fo fi
  have hK1 : va_K D cl (tys ++ [(cA, .array .long), (comp, .long)]) s := by
    refine hK.app ⟨hK.1, fun k q hk => ?_⟩
    have a1 : k < 2 := (List.getElem?_eq_some_iff.mp hk).1
    rcases (show k = 0 ∨ k = 1 by omega) with rfl | rfl <;> cases hk
    · obtain ⟨⟨-, kA, h2, cp, h3⟩, -⟩ := hO 0 0 0
      exact ⟨fun n z => ⟨(fun x h => by cases h), kA, h2, cp, h3⟩, hfA⟩
    · obtain ⟨⟨-, kA, h2, cp, h3⟩, -⟩ := hI 0 .null
      refine ⟨fun n z => ⟨(fun x h => by cases h), kA, h2, cp, h3⟩, ?_⟩
      show s.vm.findClass ("[" ++ FieldType.long.toString) = some comp
      rw [sd_str.2.2, ← sd_str.1]
      exact hfC
  obtain ⟨t, a1, b1⟩ := kk T.heap.size cA comp T1.heap hK1 rfl (by omega) fo (vP1 (by
    show T1.heap[T.heap.size]? = some (vp_cell _ _)
    rw [f2, vp_cell_q]
    rfl)) (fun k hk => vP1 (by
    show T1.heap[T.heap.size + 1 + k]? = some (vp_cell _ _)
    rw [fi k hk, vp_cell_l]
    rfl)) ⟨Nat.le_trans hS.1 (by omega), fun x h1 h2 => (fo x (Nat.lt_of_lt_of_le h1 hS.1)).trans (hS.2.1 x h1 h2), hS.2.2⟩ T1 rfl (stand_widen X1 (by omega) (by omega))
  exact ⟨t, step t a1, b1⟩
end SDM
end
section
/-! THE CLAIM OUT OF ONE WALK OF THE LAW'S BODY. Your part is whole_start (and what it stands on); all else here is the same for every law, but numbers. -/
def R_law : String := "SpanDeskLaw"
def lw_P (b : Addr) (xs : List Int32) (args : Array Value) (s : State) : Prop := args = #[.ref b] ∧ s.IntsAt b xs ∧ xs.length ≤ 96 ∧ (Jvm.Cond.and given_1 narrow_1).before args s = true
def lw_Q (_ : Array Value) (s : State) (o : Outcome) (t : State) : Prop := o = .returned (some (.int 1)) ∧ Framed s o t [] 1200192 5500522
def lw_Z (below : List Frame) (a : Array Value) (s : State) : State → Prop := fun t => ∃ o, t.status = .running ∧ Ended t below o ∧ lw_Q a s o t
/-- the law's own end, with 1 on the stack, nothing written that was there before, its room as the claim has it -/
theorem lw_ret {p : Program} {l : Launch} {e : Env} {s : State} {m : MethodId} {below : List Frame} {meth : Method} {c : Code} {b : Nat} (hx : p.tables.exec = Jvm.exec) (hb : c.code = code) (hr : meth.sig.returnType = ret) (hlocks : meth.locks = false) {pc : Nat} {H : Heap} {ls : Array Slot} (hdg : decode code pc = .ok (.ireturn, 1)) : W p l e room_1 s m #[Value.ref b] below meth c H [] 1200192 5500522 (lw_Z below #[Value.ref b] s) (F0 m pc ls [.int 1]) := by
  intro T hT X
  obtain ⟨fs, hret, hrun, hended, hW, hframe⟩ := X.leave (v := some (.int 1)) (hlocks := hlocks) (fun h => by rw [hr] at h; cases h)
  have hmeth' : T.vm.method? m = some meth := X.method'
  refine ⟨T.setFrames fs, ?_, .returned (some (.int 1)), hrun, hended, rfl, ⟨_, rfl⟩, hW, hframe⟩
  jvm_step X.here [X.here.top, hx, hb, hdg, hmeth', hr, ret, narrow_b1]
  (try refine ⟨rfl, ?_⟩); (try refine ⟨rfl, ?_⟩)
  first | (intro acts; rw [hret _ acts rfl rfl rfl]) | rw [hret _ _ rfl rfl rfl]
  exact Steps.refl _
/-- what holds at the law's entry: the machine, the code, the tables' words (any of lw_tbl by 'hts w (by decide +kernel)'), the script of L ints xs at the cell b, what the Statement gives of the start (any of its parts by flat_of_before) -/
def lw_At (p : Program) (s : State) (m : MethodId) (meth : Method) (c : Code) (b L : Nat) (xs : Nat → Int32) : Prop :=
  p.tables.exec = Jvm.exec ∧ c.code = code ∧ meth.sig.returnType = ret ∧ c.maxLocals = 6 ∧ s.vm.findClass R_law = some m.cls ∧ (∀ w ∈ lw_tbl, w.before #[Value.ref b] s = true) ∧ va_X b L xs s s.heap ∧ b < s.heap.size ∧ meth.locks = false ∧ (Jvm.Cond.and given_1 narrow_1).before #[Value.ref b] s = true
end
section
/-! PART 12: what the law calls, seen from the law (printed by gen12.py) -/
theorem metX0_changed (l : Launch) (D : va_G) (z sz hd ha hg : Nat) (g : Nat → Nat) (cD cG cL : ClassId) (F : Nat → Option Nat) (Z : Nat → Nat → Int64) (T : Nat → Int) (hne : Ne4 ha hg g) (w n : Int32) (j : Nat) (hj : j < 5) : Met l yX0_changed (ws_ yX0_changed cX0_changed 9 (some .boolean)) ({ frames := 7, cells := 1, slots := 2, locals := 157 } : Room) (va_Pc [.ref hd, .ref hg, .int (nI j), .int w, .int n] (fun U => (Pl D z sz hd ha hg g cD cG cL F Z T) U.heap U)) (va_Qi (S := (Nat → Option Nat) × (Nat → Nat → Int64)) (fun r _ => r = 1) (fun x t => Wl D hd ha hg g cD cG cL x.1 x.2 (chg j (ix w) n T) t.heap) (Ax [ha, g 0, g 1] sz)) 1 2 (Ax [ha, g 0, g 1] sz) := by
  rcases (show j = 0 ∨ j = 1 ∨ j = 2 ∨ j = 3 ∨ j = 4 by omega) with rfl | rfl | rfl | rfl | rfl
  · exact metX0_changed_0 l D z sz hd ha hg g cD cG cL F Z T hne w n
  · exact metX0_changed_1 l D z sz hd ha hg g cD cG cL F Z T hne w n
  · exact metX0_changed_2 l D z sz hd ha hg g cD cG cL F Z T hne w n
  · exact metX0_changed_3 l D z sz hd ha hg g cD cG cL F Z T hne w n
  · exact metX0_changed_4 l D z sz hd ha hg g cD cG cL F Z T hne w n
theorem ZS {C n d : String} {v : Value} {s : State} {H : Heap} {locs : List Loc} (h : va_Z C n d v (fun _ => False) s s.heap) (hS : va_S (fun q => s.heap.size ≤ q) s.heap H locs) : va_Z C n d v (fun _ => False) s H :=
  va_Z.kept h (fun a h1 _ => hS.2.1 a h1 (by omega))
/-- what holds all through the law, behind its first rows -/
def Cx (p : Program) (s : State) (m : MethodId) (meth : Method) (c : Code) (b L : Nat) (xs : Nat → Int32) (D : va_G) (z hd ha hg : Nat) (g : Nat → Nat) (cD cG cL : ClassId) : Prop :=
  p.tables.exec = Jvm.exec ∧ c.code = code ∧ c.maxLocals = 6 ∧ s.vm.findClass R_law = some m.cls ∧ (∀ w ∈ lw_all, w.before #[Value.ref b] s = true) ∧ va_X b L xs s s.heap ∧ L ≤ 96 ∧ va_K D vwCl (tys3 cD cG cL) s ∧ va_Z "Duration" "ZERO" "LDuration;" (.ref z) (fun _ => False) s s.heap ∧ Du D z 0 0 s.heap ∧ Ne4 ha hg g ∧ s.heap.size ≤ ha ∧ (∀ k, k < 2 → s.heap.size ≤ g k) ∧ meth.sig.returnType = ret ∧ meth.locks = false
/-- the law's world -/
def Wx (D : va_G) (hd ha hg : Nat) (g : Nat → Nat) (cD cG cL : ClassId) (T : Nat → Int) (H : Heap) : Prop := ∃ (F : Nat → Option Nat) (Z : Nat → Nat → Int64), Wl D hd ha hg g cD cG cL F Z T H
abbrev AS (s : State) : Nat → Prop := fun q => s.heap.size ≤ q
section SDL
variable {p : Program} {l : Launch} {e : Env} {s : State} {m : MethodId} {below : List Frame} {meth : Method} {c : Code} {H : Heap} {locs : List Loc} {cells slots : Nat} {Q : State → Prop}
variable {pc : Nat} {ls : Array Slot} {rest : List Value} {b L : Nat} {xs : Nat → Int32} {D : va_G} {z hd ha hg : Nat} {g : Nat → Nat} {cD cG cL : ClassId} {T : Nat → Int}
theorem law_cell (C : Cx p s m meth c b L xs D z hd ha hg g cD cG cL) (hS : va_S (AS s) s.heap H locs) (hsz : ls.size = 6) (hc : cells ≤ 1000) (hs : slots ≤ 2000) {k : Nat} (hk : k < 2147483648) (hW : 2 * (F0 m pc ls rest).monitorRoom + (rest.map fun v => v.category).sum ≤ 8) (hdg : decode code pc = .ok (.invokestatic 88, 3))
    (kk : W p l e room_1 s m #[Value.ref b] below meth c H locs cells slots Q (F0 m (pc + 3) ls (.int (cl L xs k) :: rest))) : W p l e room_1 s m #[Value.ref b] below meth c H locs cells slots Q (F0 m pc ls (.int (nI k) :: .ref b :: rest)) := by
  obtain ⟨hx, hb, hml, hown, hts, hX, hL, hK, hZ, hz, hne, hga, hgg, -, -⟩ := C
  have hbl : b < s.heap.size := by
    obtain ⟨scr, h1, -⟩ := hX
    exact (Array.getElem?_eq_some_iff.mp h1).1
  have hXH : va_X b L xs s H := hX.kept (hS.2.1 b hbl (by show ¬ s.heap.size ≤ b; omega))
  refine vp_callSi (pc := pc) (W.runS (As := [.ref b, .int (nI k)]) (rest := rest) ⟨hx, hb, hml, hown, hts⟩ (metX0_cell l b L xs hL k hk) (va_cwS 2 hts (lw_S q123 q124 q3 q125) rfl rfl rfl (by decide +kernel) ⟨Nat.le_of_ble_eq_true rfl, Nat.le_of_ble_eq_true rfl⟩) (sd_preS Px.st hXH) rfl rfl hsz rfl hW hdg ⟨by show cells + 0 ≤ 1200192; omega, by show slots + 0 ≤ 5500522; omega⟩) (fun r hr => ?_)
  replace hr : r = cl L xs k := hr
  subst hr
  exact kk
theorem law_shown (C : Cx p s m meth c b L xs D z hd ha hg g cD cG cL) (hWx : Wx D hd ha hg g cD cG cL T H) (hsz : ls.size = 6) (hc : cells ≤ 1000) (hs : slots ≤ 2000) {any : Int32} (hdg : decode code pc = .ok (.invokestatic 92, 3))
    (kk : W p l e room_1 s m #[Value.ref b] below meth c H locs cells slots Q (F0 m (pc + 3) ls [.int 1])) : W p l e room_1 s m #[Value.ref b] below meth c H locs cells slots Q (F0 m pc ls [.int any, .ref hg, .ref hd]) := by
  obtain ⟨hx, hb, hml, hown, hts, hX, hL, hK, hZ, hz, hne, hga, hgg, -, -⟩ := C
  obtain ⟨F, Z, hWl⟩ := hWx
  refine vp_callSi (pc := pc) (W.runS (As := [.ref hd, .ref hg, .int any]) (rest := []) ⟨hx, hb, hml, hown, hts⟩ (metX0_shown l D hd ha hg g cD cG cL F Z T any) (va_cwS 3 hts (lw_S q135 q136 q3 q137) rfl rfl rfl (by decide +kernel) ⟨Nat.le_of_ble_eq_true rfl, Nat.le_of_ble_eq_true rfl⟩) (sd_preS Ps.st ⟨hWl, hK⟩) rfl rfl hsz rfl (lv_room (Nat.le_of_ble_eq_true rfl)) hdg ⟨by show cells + 0 ≤ 1200192; omega, by show slots + 0 ≤ 5500522; omega⟩) (fun r hr => ?_)
  replace hr : r = 1 := hr
  subst hr
  exact kk
theorem law_near (C : Cx p s m meth c b L xs D z hd ha hg g cD cG cL) (hWx : Wx D hd ha hg g cD cG cL T H) (hsz : ls.size = 6) (hc : cells ≤ 1000) (hs : slots ≤ 2000) {k : Nat} (hk : k < 2) (hdg : decode code pc = .ok (.invokestatic 61, 3))
    (kk : ∀ r : Int32, (r = if nr (T k) then 1 else 0) → W p l e room_1 s m #[Value.ref b] below meth c H locs cells slots Q (F0 m (pc + 3) ls [.int r])) : W p l e room_1 s m #[Value.ref b] below meth c H locs cells slots Q (F0 m pc ls [.ref (g k)]) := by
  obtain ⟨hx, hb, hml, hown, hts, hX, hL, hK, hZ, hz, hne, hga, hgg, -, -⟩ := C
  obtain ⟨F, Z, hDk, hRa, hPr, hRg, hLa, hR⟩ := hWx
  refine vp_callSi (pc := pc) (W.runS (As := [.ref (g k)]) (rest := []) ⟨hx, hb, hml, hown, hts⟩ (metX0_near l D (g k) cL (Z k)) (va_cwS 1 hts (lw_S q130 q131 q3 q132) rfl rfl rfl (by decide +kernel) ⟨Nat.le_of_ble_eq_true rfl, Nat.le_of_ble_eq_true rfl⟩) (sd_preS Pn.st ⟨hLa k hk, hK.sub (tys' := [(cL, .long)]) [2] rfl⟩) rfl rfl hsz rfl (lv_room (Nat.le_of_ble_eq_true rfl)) hdg ⟨by show cells + 0 ≤ 1200192; omega, by show slots + 0 ≤ 5500522; omega⟩) (fun r hr => ?_)
  replace hr : r = if -4611686018427387904 < (Z k 0).toInt ∧ (Z k 0).toInt < 4611686018427387904 then 1 else 0 := hr
  rw [(hR k hk).sec] at hr
  exact kk r hr
/-- the places of the two rows in due -/
theorem law_due (C : Cx p s m meth c b L xs D z hd ha hg g cD cG cL) (hWx : Wx D hd ha hg g cD cG cL T H) {i : Int32} {k : Nat} (hi : vp_in i 2) (hik : i.toNatClampNeg = k) (hdg : decode code pc = .ok (.aaload, 1))
    (kk : W p l e room_1 s m #[Value.ref b] below meth c H locs cells slots Q (F0 m (pc + 1) ls (.ref (g k) :: rest))) : W p l e room_1 s m #[Value.ref b] below meth c H locs cells slots Q (F0 m pc ls (.int i :: .ref hg :: rest)) := by
  obtain ⟨hx, hb, hml, hown, hts, hX, hL, hK, hZ, hz, hne, hga, hgg, -, -⟩ := C
  obtain ⟨F, Z, hDk, hRa, hPr, hRg, hLa, hR⟩ := hWx
  exact sd_aald (pc := pc) (r := g k) hx hb hK hRg 1 rfl rfl hi (by rw [hik]) hdg kk
theorem law_pl (C : Cx p s m meth c b L xs D z hd ha hg g cD cG cL) (hS : va_S (AS s) s.heap H locs) {F : Nat → Option Nat} {Z : Nat → Nat → Int64} (hWl : Wl D hd ha hg g cD cG cL F Z T H) : Pl D z H.size hd ha hg g cD cG cL F Z T H s := by
  obtain ⟨hx, hb, hml, hown, hts, hX, hL, hK, hZ, hz, hne, hga, hgg, -, -⟩ := C
  exact ⟨⟨rfl, ZS hZ hS, hz.S hS (by have := hz.lt; show ¬ s.heap.size ≤ z; omega), hK.sub (tys' := []) [] rfl⟩, hWl, hK⟩
theorem law_free (C : Cx p s m meth c b L xs D z hd ha hg g cD cG cL) (hS : va_S (AS s) s.heap H locs) : ∀ q : Nat, Ax [ha, g 0, g 1] H.size q → AS s q := by
  obtain ⟨hx, hb, hml, hown, hts, hX, hL, hK, hZ, hz, hne, hga, hgg, -, -⟩ := C
  refine Axf hS (fun q h => h) (fun a ha2 => ?_)
  rcases List.mem_cons.mp ha2 with q | q
  · rw [q]; exact hga
  · rcases List.mem_cons.mp q with q | q
    · rw [q]; exact hgg 0 (by decide)
    · rw [List.mem_singleton.mp q]; exact hgg 1 (by decide)
theorem law_laid (C : Cx p s m meth c b L xs D z hd ha hg g cD cG cL) (hWx : Wx D hd ha hg g cD cG cL T H) (hS : va_S (AS s) s.heap H locs) (hsz : ls.size = 6) (hc : cells ≤ 1000) (hs : slots ≤ 2000) {w h k n : Int32} (hdg : decode code pc = .ok (.invokestatic 100, 3))
    (kk : ∀ (H1 : Heap) (locs1 : List Loc), Wx D hd ha hg g cD cG cL (tset T (ix w) ((wd h k).toInt * 1000000000 + n.toInt)) H1 → va_S (AS s) s.heap H1 locs1 → W p l e room_1 s m #[Value.ref b] below meth c H1 locs1 (cells + 1) (slots + 2) Q (F0 m (pc + 3) ls [])) : W p l e room_1 s m #[Value.ref b] below meth c H locs cells slots Q (F0 m pc ls [.int n, .int k, .int h, .int w, .ref hg, .ref hd]) := by
  have hfr := law_free C hS
  obtain ⟨F, Z, hWl⟩ := hWx
  have hpl := law_pl C hS hWl
  obtain ⟨hx, hb, hml, hown, hts, hX, hL, hK, hZ, hz, hne, hga, hgg, -, -⟩ := C
  refine va_callv (pc := pc) (va_runS (As := [.ref hd, .ref hg, .int w, .int h, .int k, .int n]) (rest := []) ⟨hx, hb, hml, hown, hts⟩ (metX0_laid l D z H.size hd ha hg g cD cG cL F Z T hne w h k n) (va_cwS 6 hts (lw_S q201 q202 q3 q203) rfl rfl rfl (by decide +kernel) ⟨Nat.le_of_ble_eq_true rfl, Nat.le_of_ble_eq_true rfl⟩) (sd_preS Pl.st hpl) rfl rfl hsz rfl (lv_room (Nat.le_of_ble_eq_true rfl)) hdg ⟨by show cells + 1 ≤ 1200192; omega, by show slots + 2 ≤ 5500522; omega⟩) hS (fun q _ h => hfr q h) hfr (fun x t H1 locs1 ht hvm hp hB hz1 hk1 hS1 => ?_)
  replace hB : Wl D hd ha hg g cD cG cL x.1 x.2 (tset T (ix w) ((wd h k).toInt * 1000000000 + n.toInt)) t.heap := hB
  rw [ht] at hB
  exact kk H1 locs1 ⟨_, _, hB⟩ hS1
theorem law_changed (C : Cx p s m meth c b L xs D z hd ha hg g cD cG cL) (hWx : Wx D hd ha hg g cD cG cL T H) (hS : va_S (AS s) s.heap H locs) (hsz : ls.size = 6) (hc : cells ≤ 1000) (hs : slots ≤ 2000) {w n : Int32} {j : Nat} (hj : j < 5) (hdg : decode code pc = .ok (.invokestatic 104, 3))
    (kk : ∀ (H1 : Heap) (locs1 : List Loc), Wx D hd ha hg g cD cG cL (chg j (ix w) n T) H1 → va_S (AS s) s.heap H1 locs1 → W p l e room_1 s m #[Value.ref b] below meth c H1 locs1 (cells + 1) (slots + 2) Q (F0 m (pc + 3) ls [.int 1])) : W p l e room_1 s m #[Value.ref b] below meth c H locs cells slots Q (F0 m pc ls [.int n, .int w, .int (nI j), .ref hg, .ref hd]) := by
  have hfr := law_free C hS
  obtain ⟨F, Z, hWl⟩ := hWx
  have hpl := law_pl C hS hWl
  obtain ⟨hx, hb, hml, hown, hts, hX, hL, hK, hZ, hz, hne, hga, hgg, -, -⟩ := C
  refine va_calli (pc := pc) (va_runS (As := [.ref hd, .ref hg, .int (nI j), .int w, .int n]) (rest := []) ⟨hx, hb, hml, hown, hts⟩ (metX0_changed l D z H.size hd ha hg g cD cG cL F Z T hne w n j hj) (va_cwS 5 hts (lw_S q220 q221 q3 q222) rfl rfl rfl (by decide +kernel) ⟨Nat.le_of_ble_eq_true rfl, Nat.le_of_ble_eq_true rfl⟩) (sd_preS Pl.st hpl) rfl rfl hsz rfl (lv_room (Nat.le_of_ble_eq_true rfl)) hdg ⟨by show cells + 1 ≤ 1200192; omega, by show slots + 2 ≤ 5500522; omega⟩) hS (fun q _ h => hfr q h) hfr (fun r x t H1 locs1 ht hvm hp hB hz1 hk1 hS1 => ?_)
  replace hp : r = 1 := hp
  subst hp
  replace hB : Wl D hd ha hg g cD cG cL x.1 x.2 (chg j (ix w) n T) t.heap := hB
  rw [ht] at hB
  exact kk H1 locs1 ⟨_, _, hB⟩ hS1
end SDL
/-! the last phase: how far it must grow -/
def lb : Nat → Int × Int
  | 0 => ((36028797018963968 - 8589934592) * 1000000000, (36028797018963968 - 8589934592) * 1000000000)
  | k + 1 => ((lb k).2, (lb k).1 + (lb k).2 - 2147483648000000000)
/-- side 1 up, side -1 down: either it has left the near ones, or it is as far as it must be -/
def gi (σ : Int) (k : Nat) (T : Nat → Int) : Prop := ¬ near2 T ∨ ((lb k).1 ≤ σ * T (k % 2) ∧ (lb k).2 ≤ σ * T (1 - k % 2))
theorem dlt_in (k : Nat) (T : Nat → Int) (i : Nat) (n : Int32) : -2147483648000000000 ≤ dlt (2 + k % 3) T i n ∧ dlt (2 + k % 3) T i n ≤ 2147483648000000000 := by
  have h := sd_ib n
  rcases (show k % 3 = 0 ∨ k % 3 = 1 ∨ k % 3 = 2 by omega) with q | q | q <;> rw [q]
  · show -2147483648000000000 ≤ n.toInt * 1000000000 ∧ n.toInt * 1000000000 ≤ 2147483648000000000
    omega
  · show -2147483648000000000 ≤ n.toInt * 1000000 ∧ n.toInt * 1000000 ≤ 2147483648000000000
    omega
  · show -2147483648000000000 ≤ n.toInt ∧ n.toInt ≤ 2147483648000000000
    omega
theorem gi_step {σ : Int} (hσ : σ = 1 ∨ σ = -1) {k : Nat} {T : Nat → Int} (n0 n : Int32) (h : gi σ k T) : gi σ (k + 1) (chg (2 + k % 3) (k % 2) n (chg 0 (k % 2) n0 T)) := by
  rcases Classical.em (near2 T) with hn | hn
  · rcases h with h | ⟨h1, h2⟩
    · exact absurd hn h
    · rw [chg_yes (n := n0) hn]
      have hd0 : dlt 0 T (k % 2) n0 = T (1 - k % 2) := rfl
      rw [hd0]
      rcases Classical.em (near2 (tset T (k % 2) (T (k % 2) + T (1 - k % 2)))) with hm | hm
      · rw [chg_yes hm]
        have hd := dlt_in k (tset T (k % 2) (T (k % 2) + T (1 - k % 2))) (k % 2) n
        generalize dlt (2 + k % 3) (tset T (k % 2) (T (k % 2) + T (1 - k % 2))) (k % 2) n = d at hd ⊢
        right
        have e1 : (k + 1) % 2 = 1 - k % 2 := by omega
        have e2 : 1 - (k + 1) % 2 = k % 2 := by omega
        have ne : 1 - k % 2 ≠ k % 2 := by omega
        rw [e2, e1, tset_ne _ _ ne, tset_self, tset_ne _ _ ne, tset_self]
        show (lb k).2 ≤ _ ∧ (lb k).1 + (lb k).2 - 2147483648000000000 ≤ _
        refine ⟨h2, ?_⟩
        rcases hσ with rfl | rfl <;> omega
      · rw [chg_no hm]
        exact Or.inl hm
  · rw [chg_no (n := n0) hn, chg_no hn]
    exact Or.inl hn
theorem gi_end {σ : Int} (hσ : σ = 1 ∨ σ = -1) {T : Nat → Int} (h : gi σ 16 T) : ¬ near2 T := by
  intro hn
  rcases h with h | ⟨h1, -⟩
  · exact h hn
  · have h2 : 4611686018427387904000000000 ≤ (lb 16).1 := by decide
    obtain ⟨⟨a1, a2⟩, -⟩ := hn
    have h3 : σ * T (16 % 2) = σ * T 0 := rfl
    rw [h3] at h1
    rcases hσ with rfl | rfl <;> omega
theorem gi_0 {σ : Int} {T : Nat → Int} {h k1 n1 k2 n2 : Int32} (hh : (σ = 1 ∧ h = 2147483647) ∨ (σ = -1 ∧ h = (-2147483648))) : gi σ 0 (tset (tset T 0 ((wd h k1).toInt * 1000000000 + n1.toInt)) 1 ((wd h k2).toInt * 1000000000 + n2.toInt)) := by
  obtain ⟨y1, a1, a2, a3⟩ := wd_val h k1
  obtain ⟨y2, b1, b2, b3⟩ := wd_val h k2
  have i1 := sd_ib n1
  have i2 := sd_ib n2
  right
  show ((36028797018963968 - 8589934592) * 1000000000 : Int) ≤ σ * ((wd h k1).toInt * 1000000000 + n1.toInt) ∧ ((36028797018963968 - 8589934592) * 1000000000 : Int) ≤ σ * ((wd h k2).toInt * 1000000000 + n2.toInt)
  rcases hh with ⟨rfl, rfl⟩ | ⟨rfl, rfl⟩
  · rw [show (2147483647 : Int32).toInt = 2147483647 from rfl] at a3 b3
    omega
  · rw [show (-2147483648 : Int32).toInt = -2147483648 from by decide] at a3 b3
    omega
end
section
/-! PART 13: the law's loops (printed by gen13.py) -/
abbrev LW (p : Program) (l : Launch) (e : Env) (s : State) (m : MethodId) (below : List Frame) (meth : Method) (c : Code) (b : Nat) (H : Heap) (locs : List Loc) (cells slots : Nat) (gf : JFrame) : Prop := W p l e room_1 s m #[Value.ref b] below meth c H locs cells slots (lw_Z below #[Value.ref b] s) gf
theorem ix0 : ix 0 = 0 := by decide
theorem ix1 : ix 1 = 1 := by decide
set_option maxHeartbeats 4000000 in
set_option maxRecDepth 100000 in
theorem law_416 {p : Program} {l : Launch} {e : Env} {s : State} {m : MethodId} {below : List Frame} {meth : Method} {c : Code} {b L : Nat} {xs : Nat → Int32} {D : va_G} {z hd ha hg : Nat} {g : Nat → Nat} {cD cG cL : ClassId} (C : Cx p s m meth c b L xs D z hd ha hg g cD cG cL) {H : Heap} {locs : List Loc} {cells slots : Nat} {ls : Array Slot} (hS : va_S (AS s) s.heap H locs) (hc : cells ≤ 1000) (hs : slots ≤ 2000) : LW p l e s m below meth c b H locs cells slots (F0 m 416 ls []) := by
  have C0 := C
  obtain ⟨hx, hb, hml, hown, hts, -, -, -, -, -, -, -, -, hr, hlocks⟩ := C0
  refine lv_iconst (pc := 416) (v := 1) hx hb dL_law_416 (by decide) ?_
  refine va_forget hS.2.2 ?_
  refine W.widen (k := 1200192) (n := 5500522) (by omega) (by omega) ?_
  exact lw_ret hx hb hr hlocks dL_law_417
set_option maxHeartbeats 4000000 in
set_option maxRecDepth 100000 in
theorem law_l3 {p : Program} {l : Launch} {e : Env} {s : State} {m : MethodId} {below : List Frame} {meth : Method} {c : Code} {b L : Nat} {xs : Nat → Int32} {D : va_G} {z hd ha hg : Nat} {g : Nat → Nat} {cD cG cL : ClassId} (C : Cx p s m meth c b L xs D z hd ha hg g cD cG cL) {σ : Int} (hσ : σ = 1 ∨ σ = -1) {sd : Int32} {c0 s0 : Nat} (hc0 : c0 ≤ 900) (hs0 : s0 ≤ 1800) (K : ∀ (T : Nat → Int) (H : Heap) (locs : List Loc) (cells slots : Nat) (ls : Array Slot), Wx D hd ha hg g cD cG cL T H → va_S (AS s) s.heap H locs → ¬ near2 T → cells ≤ c0 + 32 → slots ≤ s0 + 64 → lv_has ls 6 [(0, .ref b), (1, .ref hd), (2, .ref hg), (3, .int sd)] → LW p l e s m below meth c b H locs cells slots (F0 m 390 ls [])) : ∀ (n k : Nat), k + n = 16 → ∀ (T : Nat → Int) (H : Heap) (locs : List Loc) (cells slots : Nat) (ls : Array Slot), Wx D hd ha hg g cD cG cL T H → va_S (AS s) s.heap H locs → gi σ k T → cells ≤ c0 + 2 * k → slots ≤ s0 + 4 * k → lv_has ls 6 [(4, .int (nI k)), (0, .ref b), (1, .ref hd), (2, .ref hg), (3, .int sd)] → LW p l e s m below meth c b H locs cells slots (F0 m 331 ls []) := by
  have C0 := C
  obtain ⟨hx, hb, hml, hown, hts, -, -, -, -, -, -, -, -, hr, hlocks⟩ := C0
  intro n
  induction n with
  | zero =>
    intro k hk T H locs cells slots ls hW hS hg2 hc hs hl
    have hk16 : k = 16 := by omega
    subst hk16
    refine lv_iload (pc := 331) hx hb dL_law_331 (lv_at hl 0 rfl) ?_
    refine lv_bipush (pc := 333) (v := 16) hx hb dL_law_333 (by decide) ?_
    refine lv_icmp_ge (pc := 335) (tgt := 390) hx hb dL_law_335 (by decide) (fun c335 => ?_) (fun c335 => False.elim (by exact c335 (nI_le (a := 16) (by decide) (by decide))))
    exact K T H locs cells slots ls hW hS (gi_end hσ hg2) (by omega) (by omega) (lv_sub hl [1, 2, 3, 4] rfl)
  | succ n ih =>
    intro k hk T H locs cells slots ls hW hS hg2 hc hs hl
    refine lv_iload (pc := 331) hx hb dL_law_331 (lv_at hl 0 rfl) ?_
    refine lv_bipush (pc := 333) (v := 16) hx hb dL_law_333 (by decide) ?_
    refine lv_icmp_ge (pc := 335) (tgt := 390) hx hb dL_law_335 (by decide) (fun c335 => False.elim (by exact nI_ge (a := k) (b := 16) (by omega) (by decide) c335)) (fun c335 => ?_)
    refine lv_aload_n (pc := 338) hx hb dL_law_338 rfl (lv_at hl 2 rfl) ?_
    refine lv_aload_n (pc := 339) hx hb dL_law_339 rfl (lv_at hl 3 rfl) ?_
    refine lv_iconst (pc := 340) (v := 0) hx hb dL_law_340 (by decide) ?_
    refine lv_iload (pc := 341) hx hb dL_law_341 (lv_at hl 0 rfl) ?_
    refine lv_iconst (pc := 343) (v := 0) hx hb dL_law_343 (by decide) ?_
    refine law_changed (pc := 344) (j := 0) C hW hS hl.1 (by omega) (by omega) (by omega) dL_law_344 (fun H locs hW hS => ?_)
    refine lv_if_eq (pc := 347) (tgt := 382) hx hb dL_law_347 (by decide) (fun c347 => False.elim (by revert c347; decide)) (fun c347 => ?_)
    refine lv_aload_n (pc := 350) hx hb dL_law_350 rfl (lv_at hl 2 rfl) ?_
    refine lv_aload_n (pc := 351) hx hb dL_law_351 rfl (lv_at hl 3 rfl) ?_
    refine lv_iconst (pc := 352) (v := 2) hx hb dL_law_352 (by decide) ?_
    refine lv_iload (pc := 353) hx hb dL_law_353 (lv_at hl 0 rfl) ?_
    refine lv_iconst (pc := 355) (v := 3) hx hb dL_law_355 (by decide) ?_
    refine lv_irem (pc := 356) hx hb dL_law_356 (by decide) ?_
    refine lv_topi (fun v356 e356 => ?_)
    have h356 : v356 = nI (k % 3) := by rw [e356]; exact pk_rem (d := 3) (by omega) (by decide) (by decide)
    subst h356
    refine lv_iadd (pc := 357) hx hb dL_law_357 ?_
    refine lv_topi (fun v357 e357 => ?_)
    have h357 : v357 = nI (2 + k % 3) := by rw [e357]; exact nI_add 2 (k % 3)
    subst h357
    refine lv_iload (pc := 358) hx hb dL_law_358 (lv_at hl 0 rfl) ?_
    refine lv_aload_n (pc := 360) hx hb dL_law_360 rfl (lv_at hl 1 rfl) ?_
    refine lv_iload (pc := 361) hx hb dL_law_361 (lv_at hl 0 rfl) ?_
    refine law_cell (pc := 363) (k := k) C hS hl.1 (by omega) (by omega) (by omega) (lv_room (Nat.le_of_ble_eq_true rfl)) dL_law_363 ?_
    refine law_changed (pc := 366) (j := 2 + k % 3) C hW hS hl.1 (by omega) (by omega) (by omega) dL_law_366 (fun H locs hW hS => ?_)
    refine lv_if_eq (pc := 369) (tgt := 382) hx hb dL_law_369 (by decide) (fun c369 => False.elim (by revert c369; decide)) (fun c369 => ?_)
    refine lv_aload_n (pc := 372) hx hb dL_law_372 rfl (lv_at hl 2 rfl) ?_
    refine lv_aload_n (pc := 373) hx hb dL_law_373 rfl (lv_at hl 3 rfl) ?_
    refine lv_iload (pc := 374) hx hb dL_law_374 (lv_at hl 0 rfl) ?_
    refine law_shown (pc := 376) C hW hl.1 (by omega) (by omega) dL_law_376 ?_
    refine lv_if_ne (pc := 379) (tgt := 384) hx hb dL_law_379 (by decide) (fun c379 => ?_) (fun c379 => False.elim (by revert c379; decide))
    rw [ix_nI (show k < 2147483648 by omega)] at hW
    have hg3 := gi_step hσ 0 (cl L xs k) hg2
    refine lv_iinc (pc := 384) (v := (nI (k + 1))) (lv' := [(4, .int (nI (k + 1))), (0, .ref b), (1, .ref hd), (2, .ref hg), (3, .int sd)]) hx hb dL_law_384 hl (k := 0) rfl (nI_1 k) (by decide) rfl (fun ls hl => ?_)
    refine lv_goto (pc := 387) (tgt := 331) hx hb dL_law_387 (by decide) ?_
    exact ih (k + 1) (by omega) _ _ _ _ _ ls hW hS hg3 (by omega) (by omega) (lv_sub hl [0, 1, 2, 3, 4] rfl)
set_option maxHeartbeats 4000000 in
set_option maxRecDepth 100000 in
theorem law_390 {p : Program} {l : Launch} {e : Env} {s : State} {m : MethodId} {below : List Frame} {meth : Method} {c : Code} {b L : Nat} {xs : Nat → Int32} {D : va_G} {z hd ha hg : Nat} {g : Nat → Nat} {cD cG cL : ClassId} (C : Cx p s m meth c b L xs D z hd ha hg g cD cG cL) {sd : Int32} {T : Nat → Int} {H : Heap} {locs : List Loc} {cells slots : Nat} {ls : Array Slot} (hW : Wx D hd ha hg g cD cG cL T H) (hS : va_S (AS s) s.heap H locs) (hc : cells ≤ 990) (hs : slots ≤ 1990) (hl : lv_has ls 6 [(0, .ref b), (1, .ref hd), (2, .ref hg), (3, .int sd)]) (hn : ¬ near2 T) (K : LW p l e s m below meth c b H locs cells slots (F0 m 410 ls [])) : LW p l e s m below meth c b H locs cells slots (F0 m 390 ls []) := by
  have C0 := C
  obtain ⟨hx, hb, hml, hown, hts, -, -, -, -, -, -, -, -, hr, hlocks⟩ := C0
  refine lv_aload_n (pc := 390) hx hb dL_law_390 rfl (lv_at hl 2 rfl) ?_
  refine lv_iconst (pc := 391) (v := 0) hx hb dL_law_391 (by decide) ?_
  refine law_due (pc := 392) (k := 0) C hW vin0 rfl dL_law_392 ?_
  refine law_near (pc := 393) (k := 0) C hW hl.1 (by omega) (by omega) (by decide) dL_law_393 (fun f0 g0 => ?_)
  refine lv_if_eq (pc := 396) (tgt := 410) hx hb dL_law_396 (by decide) (fun c396 => ?_) (fun c396 => ?_)
  · exact K
  · have q0 : nr (T 0) := Classical.byContradiction fun q => c396 (by rw [g0, if_neg q])
    refine lv_aload_n (pc := 399) hx hb dL_law_399 rfl (lv_at hl 2 rfl) ?_
    refine lv_iconst (pc := 400) (v := 1) hx hb dL_law_400 (by decide) ?_
    refine law_due (pc := 401) (k := 1) C hW vin1 rfl dL_law_401 ?_
    refine law_near (pc := 402) (k := 1) C hW hl.1 (by omega) (by omega) (by decide) dL_law_402 (fun f1 g1 => ?_)
    refine lv_if_eq (pc := 405) (tgt := 410) hx hb dL_law_405 (by decide) (fun c405 => ?_) (fun c405 => False.elim (by exact c405 (by rw [g1, if_neg (fun q => hn ⟨q0, q⟩)])))
    exact K
set_option maxHeartbeats 4000000 in
set_option maxRecDepth 100000 in
theorem law_side2 {p : Program} {l : Launch} {e : Env} {s : State} {m : MethodId} {below : List Frame} {meth : Method} {c : Code} {b L : Nat} {xs : Nat → Int32} {D : va_G} {z hd ha hg : Nat} {g : Nat → Nat} {cD cG cL : ClassId} (C : Cx p s m meth c b L xs D z hd ha hg g cD cG cL) {T : Nat → Int} {H : Heap} {locs : List Loc} {cells slots : Nat} {ls : Array Slot} (hW : Wx D hd ha hg g cD cG cL T H) (hS : va_S (AS s) s.heap H locs) (hc : cells ≤ 990) (hs : slots ≤ 1990) (hl : lv_has ls 6 [(3, .int 2), (0, .ref b), (1, .ref hd), (2, .ref hg)]) : LW p l e s m below meth c b H locs cells slots (F0 m 265 ls []) := by
  have C0 := C
  obtain ⟨hx, hb, hml, hown, hts, -, -, -, -, -, -, -, -, hr, hlocks⟩ := C0
  refine lv_iload_n (pc := 265) hx hb dL_law_265 rfl (lv_at hl 0 rfl) ?_
  refine lv_iconst (pc := 266) (v := 2) hx hb dL_law_266 (by decide) ?_
  refine lv_icmp_ge (pc := 267) (tgt := 416) hx hb dL_law_267 (by decide) (fun c267 => ?_) (fun c267 => False.elim (by revert c267; decide))
  exact law_416 C hS (by omega) (by omega)
set_option maxHeartbeats 4000000 in
set_option maxRecDepth 100000 in
theorem law_side1 {p : Program} {l : Launch} {e : Env} {s : State} {m : MethodId} {below : List Frame} {meth : Method} {c : Code} {b L : Nat} {xs : Nat → Int32} {D : va_G} {z hd ha hg : Nat} {g : Nat → Nat} {cD cG cL : ClassId} (C : Cx p s m meth c b L xs D z hd ha hg g cD cG cL) {T : Nat → Int} {H : Heap} {locs : List Loc} {cells slots : Nat} {ls : Array Slot} (hW : Wx D hd ha hg g cD cG cL T H) (hS : va_S (AS s) s.heap H locs) (hc : cells ≤ 150) (hs : slots ≤ 300) (hl : lv_has ls 6 [(3, .int 1), (0, .ref b), (1, .ref hd), (2, .ref hg)]) : LW p l e s m below meth c b H locs cells slots (F0 m 265 ls []) := by
  have C0 := C
  obtain ⟨hx, hb, hml, hown, hts, -, -, -, -, -, -, -, -, hr, hlocks⟩ := C0
  refine lv_iload_n (pc := 265) hx hb dL_law_265 rfl (lv_at hl 0 rfl) ?_
  refine lv_iconst (pc := 266) (v := 2) hx hb dL_law_266 (by decide) ?_
  refine lv_icmp_ge (pc := 267) (tgt := 416) hx hb dL_law_267 (by decide) (fun c267 => False.elim (by revert c267; decide)) (fun c267 => ?_)
  refine lv_aload_n (pc := 270) hx hb dL_law_270 rfl (lv_at hl 2 rfl) ?_
  refine lv_aload_n (pc := 271) hx hb dL_law_271 rfl (lv_at hl 3 rfl) ?_
  refine lv_iconst (pc := 272) (v := 0) hx hb dL_law_272 (by decide) ?_
  refine lv_iload_n (pc := 273) hx hb dL_law_273 rfl (lv_at hl 0 rfl) ?_
  refine lv_if_ne (pc := 274) (tgt := 282) hx hb dL_law_274 (by decide) (fun c274 => ?_) (fun c274 => False.elim (by revert c274; decide))
  refine lv_ldc (pc := 282) (v := (-2147483648)) hx hb hown (hts _ q284) dL_law_282 ?_
  refine lv_aload_n (pc := 284) hx hb dL_law_284 rfl (lv_at hl 1 rfl) ?_
  refine lv_bipush (pc := 285) (v := 8) hx hb dL_law_285 (by decide) ?_
  refine law_cell (pc := 287) (k := 8) C hS hl.1 (by omega) (by omega) (by omega) (lv_room (Nat.le_of_ble_eq_true rfl)) dL_law_287 ?_
  refine lv_aload_n (pc := 290) hx hb dL_law_290 rfl (lv_at hl 1 rfl) ?_
  refine lv_bipush (pc := 291) (v := 9) hx hb dL_law_291 (by decide) ?_
  refine law_cell (pc := 293) (k := 9) C hS hl.1 (by omega) (by omega) (by omega) (lv_room (Nat.le_of_ble_eq_true rfl)) dL_law_293 ?_
  refine law_laid (pc := 296) C hW hS hl.1 (by omega) (by omega) dL_law_296 (fun H locs hW hS => ?_)
  refine lv_aload_n (pc := 299) hx hb dL_law_299 rfl (lv_at hl 2 rfl) ?_
  refine lv_aload_n (pc := 300) hx hb dL_law_300 rfl (lv_at hl 3 rfl) ?_
  refine lv_iconst (pc := 301) (v := 1) hx hb dL_law_301 (by decide) ?_
  refine lv_iload_n (pc := 302) hx hb dL_law_302 rfl (lv_at hl 0 rfl) ?_
  refine lv_if_ne (pc := 303) (tgt := 311) hx hb dL_law_303 (by decide) (fun c303 => ?_) (fun c303 => False.elim (by revert c303; decide))
  refine lv_ldc (pc := 311) (v := (-2147483648)) hx hb hown (hts _ q284) dL_law_311 ?_
  refine lv_aload_n (pc := 313) hx hb dL_law_313 rfl (lv_at hl 1 rfl) ?_
  refine lv_bipush (pc := 314) (v := 10) hx hb dL_law_314 (by decide) ?_
  refine law_cell (pc := 316) (k := 10) C hS hl.1 (by omega) (by omega) (by omega) (lv_room (Nat.le_of_ble_eq_true rfl)) dL_law_316 ?_
  refine lv_aload_n (pc := 319) hx hb dL_law_319 rfl (lv_at hl 1 rfl) ?_
  refine lv_bipush (pc := 320) (v := 11) hx hb dL_law_320 (by decide) ?_
  refine law_cell (pc := 322) (k := 11) C hS hl.1 (by omega) (by omega) (by omega) (lv_room (Nat.le_of_ble_eq_true rfl)) dL_law_322 ?_
  refine law_laid (pc := 325) C hW hS hl.1 (by omega) (by omega) dL_law_325 (fun H locs hW hS => ?_)
  rw [ix0, ix1] at hW
  have hg0 : gi (-1) 0 _ := gi_0 (T := T) (h := (-2147483648)) (k1 := cl L xs 8) (n1 := cl L xs 9) (k2 := cl L xs 10) (n2 := cl L xs 11) (Or.inr ⟨rfl, rfl⟩)
  refine lv_iconst (pc := 328) (v := 0) hx hb dL_law_328 (by decide) ?_
  refine lv_istore (pc := 329) (lv' := [(4, .int 0), (3, .int 1), (0, .ref b), (1, .ref hd), (2, .ref hg)]) hx hb dL_law_329 hl (by decide) rfl (fun ls hl => ?_)
  refine law_l3 C (σ := (-1)) (Or.inr rfl) (sd := 1) (c0 := 152) (s0 := 304) (by decide) (by decide) ?_ 16 0 rfl _ _ _ _ _ ls hW hS hg0 (by omega) (by omega) (lv_sub hl [0, 2, 3, 4, 1] rfl)
  intro T H locs cells slots ls hW hS hn hc hs hl
  refine law_390 C (sd := 1) hW hS (by omega) (by omega) hl hn ?_
  refine lv_iinc (pc := 410) (v := 2) (lv' := [(3, .int 2), (0, .ref b), (1, .ref hd), (2, .ref hg)]) hx hb dL_law_410 hl (k := 3) rfl (by decide) (by decide) rfl (fun ls hl => ?_)
  refine lv_goto (pc := 413) (tgt := 265) hx hb dL_law_413 (by decide) ?_
  exact law_side2 C hW hS (by omega) (by omega) (lv_sub hl [0, 1, 2, 3] rfl)
set_option maxHeartbeats 4000000 in
set_option maxRecDepth 100000 in
theorem law_side0 {p : Program} {l : Launch} {e : Env} {s : State} {m : MethodId} {below : List Frame} {meth : Method} {c : Code} {b L : Nat} {xs : Nat → Int32} {D : va_G} {z hd ha hg : Nat} {g : Nat → Nat} {cD cG cL : ClassId} (C : Cx p s m meth c b L xs D z hd ha hg g cD cG cL) {T : Nat → Int} {H : Heap} {locs : List Loc} {cells slots : Nat} {ls : Array Slot} (hW : Wx D hd ha hg g cD cG cL T H) (hS : va_S (AS s) s.heap H locs) (hc : cells ≤ 110) (hs : slots ≤ 220) (hl : lv_has ls 6 [(3, .int 0), (0, .ref b), (1, .ref hd), (2, .ref hg)]) : LW p l e s m below meth c b H locs cells slots (F0 m 265 ls []) := by
  have C0 := C
  obtain ⟨hx, hb, hml, hown, hts, -, -, -, -, -, -, -, -, hr, hlocks⟩ := C0
  refine lv_iload_n (pc := 265) hx hb dL_law_265 rfl (lv_at hl 0 rfl) ?_
  refine lv_iconst (pc := 266) (v := 2) hx hb dL_law_266 (by decide) ?_
  refine lv_icmp_ge (pc := 267) (tgt := 416) hx hb dL_law_267 (by decide) (fun c267 => False.elim (by revert c267; decide)) (fun c267 => ?_)
  refine lv_aload_n (pc := 270) hx hb dL_law_270 rfl (lv_at hl 2 rfl) ?_
  refine lv_aload_n (pc := 271) hx hb dL_law_271 rfl (lv_at hl 3 rfl) ?_
  refine lv_iconst (pc := 272) (v := 0) hx hb dL_law_272 (by decide) ?_
  refine lv_iload_n (pc := 273) hx hb dL_law_273 rfl (lv_at hl 0 rfl) ?_
  refine lv_if_ne (pc := 274) (tgt := 282) hx hb dL_law_274 (by decide) (fun c274 => False.elim (by revert c274; decide)) (fun c274 => ?_)
  refine lv_ldc (pc := 277) (v := 2147483647) hx hb hown (hts _ q129) dL_law_277 ?_
  refine lv_goto (pc := 279) (tgt := 284) hx hb dL_law_279 (by decide) ?_
  refine lv_aload_n (pc := 284) hx hb dL_law_284 rfl (lv_at hl 1 rfl) ?_
  refine lv_bipush (pc := 285) (v := 8) hx hb dL_law_285 (by decide) ?_
  refine law_cell (pc := 287) (k := 8) C hS hl.1 (by omega) (by omega) (by omega) (lv_room (Nat.le_of_ble_eq_true rfl)) dL_law_287 ?_
  refine lv_aload_n (pc := 290) hx hb dL_law_290 rfl (lv_at hl 1 rfl) ?_
  refine lv_bipush (pc := 291) (v := 9) hx hb dL_law_291 (by decide) ?_
  refine law_cell (pc := 293) (k := 9) C hS hl.1 (by omega) (by omega) (by omega) (lv_room (Nat.le_of_ble_eq_true rfl)) dL_law_293 ?_
  refine law_laid (pc := 296) C hW hS hl.1 (by omega) (by omega) dL_law_296 (fun H locs hW hS => ?_)
  refine lv_aload_n (pc := 299) hx hb dL_law_299 rfl (lv_at hl 2 rfl) ?_
  refine lv_aload_n (pc := 300) hx hb dL_law_300 rfl (lv_at hl 3 rfl) ?_
  refine lv_iconst (pc := 301) (v := 1) hx hb dL_law_301 (by decide) ?_
  refine lv_iload_n (pc := 302) hx hb dL_law_302 rfl (lv_at hl 0 rfl) ?_
  refine lv_if_ne (pc := 303) (tgt := 311) hx hb dL_law_303 (by decide) (fun c303 => False.elim (by revert c303; decide)) (fun c303 => ?_)
  refine lv_ldc (pc := 306) (v := 2147483647) hx hb hown (hts _ q129) dL_law_306 ?_
  refine lv_goto (pc := 308) (tgt := 313) hx hb dL_law_308 (by decide) ?_
  refine lv_aload_n (pc := 313) hx hb dL_law_313 rfl (lv_at hl 1 rfl) ?_
  refine lv_bipush (pc := 314) (v := 10) hx hb dL_law_314 (by decide) ?_
  refine law_cell (pc := 316) (k := 10) C hS hl.1 (by omega) (by omega) (by omega) (lv_room (Nat.le_of_ble_eq_true rfl)) dL_law_316 ?_
  refine lv_aload_n (pc := 319) hx hb dL_law_319 rfl (lv_at hl 1 rfl) ?_
  refine lv_bipush (pc := 320) (v := 11) hx hb dL_law_320 (by decide) ?_
  refine law_cell (pc := 322) (k := 11) C hS hl.1 (by omega) (by omega) (by omega) (lv_room (Nat.le_of_ble_eq_true rfl)) dL_law_322 ?_
  refine law_laid (pc := 325) C hW hS hl.1 (by omega) (by omega) dL_law_325 (fun H locs hW hS => ?_)
  rw [ix0, ix1] at hW
  have hg0 : gi 1 0 _ := gi_0 (T := T) (h := 2147483647) (k1 := cl L xs 8) (n1 := cl L xs 9) (k2 := cl L xs 10) (n2 := cl L xs 11) (Or.inl ⟨rfl, rfl⟩)
  refine lv_iconst (pc := 328) (v := 0) hx hb dL_law_328 (by decide) ?_
  refine lv_istore (pc := 329) (lv' := [(4, .int 0), (3, .int 0), (0, .ref b), (1, .ref hd), (2, .ref hg)]) hx hb dL_law_329 hl (by decide) rfl (fun ls hl => ?_)
  refine law_l3 C (σ := 1) (Or.inl rfl) (sd := 0) (c0 := 112) (s0 := 224) (by decide) (by decide) ?_ 16 0 rfl _ _ _ _ _ ls hW hS hg0 (by omega) (by omega) (lv_sub hl [0, 2, 3, 4, 1] rfl)
  intro T H locs cells slots ls hW hS hn hc hs hl
  refine law_390 C (sd := 0) hW hS (by omega) (by omega) hl hn ?_
  refine lv_iinc (pc := 410) (v := 1) (lv' := [(3, .int 1), (0, .ref b), (1, .ref hd), (2, .ref hg)]) hx hb dL_law_410 hl (k := 3) rfl (by decide) (by decide) rfl (fun ls hl => ?_)
  refine lv_goto (pc := 413) (tgt := 265) hx hb dL_law_413 (by decide) ?_
  exact law_side1 C hW hS (by omega) (by omega) (lv_sub hl [0, 1, 2, 3] rfl)
set_option maxHeartbeats 4000000 in
set_option maxRecDepth 100000 in
theorem law_l2 {p : Program} {l : Launch} {e : Env} {s : State} {m : MethodId} {below : List Frame} {meth : Method} {c : Code} {b L : Nat} {xs : Nat → Int32} {D : va_G} {z hd ha hg : Nat} {g : Nat → Nat} {cD cG cL : ClassId} (C : Cx p s m meth c b L xs D z hd ha hg g cD cG cL)  : ∀ (n k : Nat), k + n = 40 → ∀ (T : Nat → Int) (H : Heap) (locs : List Loc) (cells slots : Nat) (ls : Array Slot), Wx D hd ha hg g cD cG cL T H → va_S (AS s) s.heap H locs → True → cells ≤ 28 + 2 * k → slots ≤ 56 + 4 * k → lv_has ls 6 [(3, .int (nI k)), (0, .ref b), (1, .ref hd), (2, .ref hg)] → LW p l e s m below meth c b H locs cells slots (F0 m 196 ls []) := by
  have C0 := C
  obtain ⟨hx, hb, hml, hown, hts, -, -, -, -, -, -, -, -, hr, hlocks⟩ := C0
  intro n
  induction n with
  | zero =>
    intro k hk T H locs cells slots ls hW hS _ hc hs hl
    have hk40 : k = 40 := by omega
    subst hk40
    refine lv_iload_n (pc := 196) hx hb dL_law_196 rfl (lv_at hl 0 rfl) ?_
    refine lv_bipush (pc := 197) (v := 40) hx hb dL_law_197 (by decide) ?_
    refine lv_icmp_ge (pc := 199) (tgt := 263) hx hb dL_law_199 (by decide) (fun c199 => ?_) (fun c199 => False.elim (by exact c199 (nI_le (a := 40) (by decide) (by decide))))
    refine lv_iconst (pc := 263) (v := 0) hx hb dL_law_263 (by decide) ?_
    refine lv_istore_n (pc := 264) (lv' := [(3, .int 0), (0, .ref b), (1, .ref hd), (2, .ref hg)]) hx hb dL_law_264 rfl hl (by decide) rfl (fun ls hl => ?_)
    exact law_side0 C hW hS (by omega) (by omega) (lv_sub hl [0, 1, 2, 3] rfl)
  | succ n ih =>
    intro k hk T H locs cells slots ls hW hS _ hc hs hl
    refine lv_iload_n (pc := 196) hx hb dL_law_196 rfl (lv_at hl 0 rfl) ?_
    refine lv_bipush (pc := 197) (v := 40) hx hb dL_law_197 (by decide) ?_
    refine lv_icmp_ge (pc := 199) (tgt := 263) hx hb dL_law_199 (by decide) (fun c199 => False.elim (by exact nI_ge (a := k) (b := 40) (by omega) (by decide) c199)) (fun c199 => ?_)
    refine lv_aload_n (pc := 202) hx hb dL_law_202 rfl (lv_at hl 2 rfl) ?_
    refine lv_aload_n (pc := 203) hx hb dL_law_203 rfl (lv_at hl 3 rfl) ?_
    refine lv_aload_n (pc := 204) hx hb dL_law_204 rfl (lv_at hl 1 rfl) ?_
    refine lv_bipush (pc := 205) (v := 7) hx hb dL_law_205 (by decide) ?_
    refine law_cell (pc := 207) (k := 7) C hS hl.1 (by omega) (by omega) (by omega) (lv_room (Nat.le_of_ble_eq_true rfl)) dL_law_207 ?_
    refine lv_iload_n (pc := 210) hx hb dL_law_210 rfl (lv_at hl 0 rfl) ?_
    refine lv_bipush (pc := 211) (v := 32) hx hb dL_law_211 (by decide) ?_
    refine lv_irem (pc := 213) hx hb dL_law_213 (by decide) ?_
    refine lv_topi (fun v213 e213 => ?_)
    have h213 : v213 = nI (k % 32) := by rw [e213]; exact pk_rem (d := 32) (by omega) (by decide) (by decide)
    subst h213
    refine lv_ishr (pc := 214) hx hb dL_law_214 ?_
    refine lv_topi (fun v214 e214 => ?_)
    refine lv_iconst (pc := 215) (v := 1) hx hb dL_law_215 (by decide) ?_
    refine lv_iand (pc := 216) hx hb dL_law_216 ?_
    refine lv_topi (fun v216 e216 => ?_)
    have h216 : v216 = nI (ix v214) := by rw [e216]; exact ix_eq v214
    subst h216
    have hi2 := ix_lt v214
    refine lv_iload_n (pc := 217) hx hb dL_law_217 rfl (lv_at hl 0 rfl) ?_
    refine lv_iload_n (pc := 218) hx hb dL_law_218 rfl (lv_at hl 0 rfl) ?_
    refine law_changed (pc := 219) (j := ix v214) C hW hS hl.1 (by omega) (by omega) (by omega) dL_law_219 (fun H locs hW hS => ?_)
    refine lv_if_eq (pc := 222) (tgt := 255) hx hb dL_law_222 (by decide) (fun c222 => False.elim (by revert c222; decide)) (fun c222 => ?_)
    refine lv_aload_n (pc := 225) hx hb dL_law_225 rfl (lv_at hl 2 rfl) ?_
    refine lv_aload_n (pc := 226) hx hb dL_law_226 rfl (lv_at hl 3 rfl) ?_
    refine lv_iconst (pc := 227) (v := 2) hx hb dL_law_227 (by decide) ?_
    refine lv_iload_n (pc := 228) hx hb dL_law_228 rfl (lv_at hl 0 rfl) ?_
    refine lv_iconst (pc := 229) (v := 3) hx hb dL_law_229 (by decide) ?_
    refine lv_irem (pc := 230) hx hb dL_law_230 (by decide) ?_
    refine lv_topi (fun v230 e230 => ?_)
    have h230 : v230 = nI (k % 3) := by rw [e230]; exact pk_rem (d := 3) (by omega) (by decide) (by decide)
    subst h230
    refine lv_iadd (pc := 231) hx hb dL_law_231 ?_
    refine lv_topi (fun v231 e231 => ?_)
    have h231 : v231 = nI (2 + k % 3) := by rw [e231]; exact nI_add 2 (k % 3)
    subst h231
    refine lv_iload_n (pc := 232) hx hb dL_law_232 rfl (lv_at hl 0 rfl) ?_
    refine lv_iconst (pc := 233) (v := 2) hx hb dL_law_233 (by decide) ?_
    refine lv_idiv (pc := 234) hx hb dL_law_234 (by decide) ?_
    refine lv_topi (fun v234 e234 => ?_)
    refine lv_aload_n (pc := 235) hx hb dL_law_235 rfl (lv_at hl 1 rfl) ?_
    refine lv_iload_n (pc := 236) hx hb dL_law_236 rfl (lv_at hl 0 rfl) ?_
    refine law_cell (pc := 237) (k := k) C hS hl.1 (by omega) (by omega) (by omega) (lv_room (Nat.le_of_ble_eq_true rfl)) dL_law_237 ?_
    refine law_changed (pc := 240) (j := 2 + k % 3) C hW hS hl.1 (by omega) (by omega) (by omega) dL_law_240 (fun H locs hW hS => ?_)
    refine lv_if_eq (pc := 243) (tgt := 255) hx hb dL_law_243 (by decide) (fun c243 => False.elim (by revert c243; decide)) (fun c243 => ?_)
    refine lv_aload_n (pc := 246) hx hb dL_law_246 rfl (lv_at hl 2 rfl) ?_
    refine lv_aload_n (pc := 247) hx hb dL_law_247 rfl (lv_at hl 3 rfl) ?_
    refine lv_iload_n (pc := 248) hx hb dL_law_248 rfl (lv_at hl 0 rfl) ?_
    refine law_shown (pc := 249) C hW hl.1 (by omega) (by omega) dL_law_249 ?_
    refine lv_if_ne (pc := 252) (tgt := 257) hx hb dL_law_252 (by decide) (fun c252 => ?_) (fun c252 => False.elim (by revert c252; decide))
    refine lv_iinc (pc := 257) (v := (nI (k + 1))) (lv' := [(3, .int (nI (k + 1))), (0, .ref b), (1, .ref hd), (2, .ref hg)]) hx hb dL_law_257 hl (k := 0) rfl (nI_1 k) (by decide) rfl (fun ls hl => ?_)
    refine lv_goto (pc := 260) (tgt := 196) hx hb dL_law_260 (by decide) ?_
    exact ih (k + 1) (by omega) _ _ _ _ _ ls hW hS trivial (by omega) (by omega) (lv_sub hl [0, 1, 2, 3] rfl)
set_option maxHeartbeats 4000000 in
set_option maxRecDepth 100000 in
theorem law_142 {p : Program} {l : Launch} {e : Env} {s : State} {m : MethodId} {below : List Frame} {meth : Method} {c : Code} {b L : Nat} {xs : Nat → Int32} {D : va_G} {z hd ha hg : Nat} {g : Nat → Nat} {cD cG cL : ClassId} (C : Cx p s m meth c b L xs D z hd ha hg g cD cG cL) {T : Nat → Int} {H : Heap} {locs : List Loc} {cells slots : Nat} {ls : Array Slot} (hW : Wx D hd ha hg g cD cG cL T H) (hS : va_S (AS s) s.heap H locs) (hc : cells ≤ 26) (hs : slots ≤ 52) (hl : lv_has ls 6 [(0, .ref b), (1, .ref hd), (2, .ref hg)]) : LW p l e s m below meth c b H locs cells slots (F0 m 142 ls []) := by
  have C0 := C
  obtain ⟨hx, hb, hml, hown, hts, -, -, -, -, -, -, -, -, hr, hlocks⟩ := C0
  refine lv_aload_n (pc := 142) hx hb dL_law_142 rfl (lv_at hl 1 rfl) ?_
  refine lv_aload_n (pc := 143) hx hb dL_law_143 rfl (lv_at hl 2 rfl) ?_
  refine lv_iconst (pc := 144) (v := 0) hx hb dL_law_144 (by decide) ?_
  refine lv_aload_n (pc := 145) hx hb dL_law_145 rfl (lv_at hl 0 rfl) ?_
  refine lv_iconst (pc := 146) (v := 1) hx hb dL_law_146 (by decide) ?_
  refine law_cell (pc := 147) (k := 1) C hS hl.1 (by omega) (by omega) (by omega) (lv_room (Nat.le_of_ble_eq_true rfl)) dL_law_147 ?_
  refine lv_aload_n (pc := 150) hx hb dL_law_150 rfl (lv_at hl 0 rfl) ?_
  refine lv_iconst (pc := 151) (v := 2) hx hb dL_law_151 (by decide) ?_
  refine law_cell (pc := 152) (k := 2) C hS hl.1 (by omega) (by omega) (by omega) (lv_room (Nat.le_of_ble_eq_true rfl)) dL_law_152 ?_
  refine lv_aload_n (pc := 155) hx hb dL_law_155 rfl (lv_at hl 0 rfl) ?_
  refine lv_iconst (pc := 156) (v := 3) hx hb dL_law_156 (by decide) ?_
  refine law_cell (pc := 157) (k := 3) C hS hl.1 (by omega) (by omega) (by omega) (lv_room (Nat.le_of_ble_eq_true rfl)) dL_law_157 ?_
  refine law_laid (pc := 160) C hW hS hl.1 (by omega) (by omega) dL_law_160 (fun H locs hW hS => ?_)
  refine lv_aload_n (pc := 163) hx hb dL_law_163 rfl (lv_at hl 1 rfl) ?_
  refine lv_aload_n (pc := 164) hx hb dL_law_164 rfl (lv_at hl 2 rfl) ?_
  refine lv_iconst (pc := 165) (v := 1) hx hb dL_law_165 (by decide) ?_
  refine lv_aload_n (pc := 166) hx hb dL_law_166 rfl (lv_at hl 0 rfl) ?_
  refine lv_iconst (pc := 167) (v := 4) hx hb dL_law_167 (by decide) ?_
  refine law_cell (pc := 168) (k := 4) C hS hl.1 (by omega) (by omega) (by omega) (lv_room (Nat.le_of_ble_eq_true rfl)) dL_law_168 ?_
  refine lv_aload_n (pc := 171) hx hb dL_law_171 rfl (lv_at hl 0 rfl) ?_
  refine lv_iconst (pc := 172) (v := 0) hx hb dL_law_172 (by decide) ?_
  refine law_cell (pc := 173) (k := 0) C hS hl.1 (by omega) (by omega) (by omega) (lv_room (Nat.le_of_ble_eq_true rfl)) dL_law_173 ?_
  refine lv_bipush (pc := 176) (v := 31) hx hb dL_law_176 (by decide) ?_
  refine lv_iand (pc := 178) hx hb dL_law_178 ?_
  refine lv_topi (fun v178 e178 => ?_)
  refine lv_ishr (pc := 179) hx hb dL_law_179 ?_
  refine lv_topi (fun v179 e179 => ?_)
  refine lv_aload_n (pc := 180) hx hb dL_law_180 rfl (lv_at hl 0 rfl) ?_
  refine lv_iconst (pc := 181) (v := 5) hx hb dL_law_181 (by decide) ?_
  refine law_cell (pc := 182) (k := 5) C hS hl.1 (by omega) (by omega) (by omega) (lv_room (Nat.le_of_ble_eq_true rfl)) dL_law_182 ?_
  refine lv_aload_n (pc := 185) hx hb dL_law_185 rfl (lv_at hl 0 rfl) ?_
  refine lv_bipush (pc := 186) (v := 6) hx hb dL_law_186 (by decide) ?_
  refine law_cell (pc := 188) (k := 6) C hS hl.1 (by omega) (by omega) (by omega) (lv_room (Nat.le_of_ble_eq_true rfl)) dL_law_188 ?_
  refine law_laid (pc := 191) C hW hS hl.1 (by omega) (by omega) dL_law_191 (fun H locs hW hS => ?_)
  refine lv_iconst (pc := 194) (v := 0) hx hb dL_law_194 (by decide) ?_
  refine lv_istore_n (pc := 195) (lv' := [(3, .int 0), (0, .ref b), (1, .ref hd), (2, .ref hg)]) hx hb dL_law_195 rfl hl (by decide) rfl (fun ls hl => ?_)
  exact law_l2 C 40 0 rfl _ _ _ _ _ ls hW hS trivial (by omega) (by omega) (lv_sub hl [0, 1, 2, 3] rfl)
set_option maxHeartbeats 4000000 in
set_option maxRecDepth 100000 in
theorem law_l1 {p : Program} {l : Launch} {e : Env} {s : State} {m : MethodId} {below : List Frame} {meth : Method} {c : Code} {b L : Nat} {xs : Nat → Int32} {D : va_G} {z hd ha hg : Nat} {g : Nat → Nat} {cD cG cL : ClassId} (C : Cx p s m meth c b L xs D z hd ha hg g cD cG cL)  : ∀ (n k : Nat), k + n = 16 → ∀ (T : Nat → Int) (H : Heap) (locs : List Loc) (cells slots : Nat) (ls : Array Slot), Wx D hd ha hg g cD cG cL T H → va_S (AS s) s.heap H locs → True → cells ≤ 10 + k → slots ≤ 20 + 2 * k → lv_has ls 6 [(3, .int (nI (6 * k))), (0, .ref b), (1, .ref hd), (2, .ref hg)] → LW p l e s m below meth c b H locs cells slots (F0 m 32 ls []) := by
  have C0 := C
  obtain ⟨hx, hb, hml, hown, hts, -, -, -, -, -, -, -, -, hr, hlocks⟩ := C0
  intro n
  induction n with
  | zero =>
    intro k hk T H locs cells slots ls hW hS _ hc hs hl
    have hk16 : k = 16 := by omega
    subst hk16
    refine lv_iload_n (pc := 32) hx hb dL_law_32 rfl (lv_at hl 0 rfl) ?_
    refine lv_bipush (pc := 33) (v := 96) hx hb dL_law_33 (by decide) ?_
    refine lv_icmp_ge (pc := 35) (tgt := 142) hx hb dL_law_35 (by decide) (fun c35 => ?_) (fun c35 => False.elim (by exact c35 (nI_le (a := 96) (by decide) (by decide))))
    exact law_142 C hW hS (by omega) (by omega) (lv_sub hl [1, 2, 3] rfl)
  | succ n ih =>
    intro k hk T H locs cells slots ls hW hS _ hc hs hl
    refine lv_iload_n (pc := 32) hx hb dL_law_32 rfl (lv_at hl 0 rfl) ?_
    refine lv_bipush (pc := 33) (v := 96) hx hb dL_law_33 (by decide) ?_
    refine lv_icmp_ge (pc := 35) (tgt := 142) hx hb dL_law_35 (by decide) (fun c35 => False.elim (by exact nI_ge (a := 6 * k) (b := 96) (by omega) (by decide) c35)) (fun c35 => ?_)
    refine lv_aload_n (pc := 38) hx hb dL_law_38 rfl (lv_at hl 1 rfl) ?_
    refine lv_iload_n (pc := 39) hx hb dL_law_39 rfl (lv_at hl 0 rfl) ?_
    refine law_cell (pc := 40) (k := 6 * k) C hS hl.1 (by omega) (by omega) (by omega) (lv_room (Nat.le_of_ble_eq_true rfl)) dL_law_40 ?_
    refine lv_bipush (pc := 43) (v := 8) hx hb dL_law_43 (by decide) ?_
    have hmod := metX0_mod l (cl L xs (6 * k))
    refine vp_callSi (pc := 45) (W.runS (As := [.int (cl L xs (6 * k)), .int 8]) (rest := []) ⟨hx, hb, hml, hown, hts⟩ hmod (va_cwS 2 hts (lw_S q126 q127 q3 q128) rfl rfl rfl (by decide +kernel) ⟨Nat.le_of_ble_eq_true rfl, Nat.le_of_ble_eq_true rfl⟩) (sd_preS P0.st trivial) rfl rfl hl.1 rfl (lv_room (Nat.le_of_ble_eq_true rfl)) dL_law_45 ⟨by show cells + 0 ≤ 1200192; omega, by show slots + 0 ≤ 5500522; omega⟩) (fun f45 g45 => ?_)
    obtain ⟨jj, hjj, g45⟩ := g45
    subst g45
    refine lv_istore (pc := 48) (lv' := [(4, .int (nI jj)), (3, .int (nI (6 * k))), (0, .ref b), (1, .ref hd), (2, .ref hg)]) hx hb dL_law_48 hl (by decide) rfl (fun ls hl => ?_)
    refine lv_aload_n (pc := 50) hx hb dL_law_50 rfl (lv_at hl 2 rfl) ?_
    refine lv_iload_n (pc := 51) hx hb dL_law_51 rfl (lv_at hl 1 rfl) ?_
    refine lv_iconst (pc := 52) (v := 1) hx hb dL_law_52 (by decide) ?_
    refine lv_iadd (pc := 53) hx hb dL_law_53 ?_
    refine lv_topi (fun v53 e53 => ?_)
    have h53 : v53 = nI (6 * k + 1) := by rw [e53]; exact nI_add (6 * k) 1
    subst h53
    refine law_cell (pc := 54) (k := 6 * k + 1) C hS hl.1 (by omega) (by omega) (by omega) (lv_room (Nat.le_of_ble_eq_true rfl)) dL_law_54 ?_
    refine lv_istore (pc := 57) (lv' := [(5, .int (cl L xs (6 * k + 1))), (4, .int (nI jj)), (3, .int (nI (6 * k))), (0, .ref b), (1, .ref hd), (2, .ref hg)]) hx hb dL_law_57 hl (by decide) rfl (fun ls hl => ?_)
    have K119 : ∀ (T : Nat → Int) (H : Heap) (locs : List Loc) (cells slots : Nat), Wx D hd ha hg g cD cG cL T H → va_S (AS s) s.heap H locs → cells ≤ 10 + (k + 1) → slots ≤ 20 + 2 * (k + 1) → LW p l e s m below meth c b H locs cells slots (F0 m 119 ls []) := by
      intro T H locs cells slots hW hS hc hs
      refine lv_aload_n (pc := 119) hx hb dL_law_119 rfl (lv_at hl 4 rfl) ?_
      refine lv_aload_n (pc := 120) hx hb dL_law_120 rfl (lv_at hl 5 rfl) ?_
      refine lv_aload_n (pc := 121) hx hb dL_law_121 rfl (lv_at hl 3 rfl) ?_
      refine lv_iload_n (pc := 122) hx hb dL_law_122 rfl (lv_at hl 2 rfl) ?_
      refine lv_iconst (pc := 123) (v := 2) hx hb dL_law_123 (by decide) ?_
      refine lv_iadd (pc := 124) hx hb dL_law_124 ?_
      refine lv_topi (fun v124 e124 => ?_)
      have h124 : v124 = nI (6 * k + 2) := by rw [e124]; exact nI_add (6 * k) 2
      subst h124
      refine law_cell (pc := 125) (k := 6 * k + 2) C hS hl.1 (by omega) (by omega) (by omega) (lv_room (Nat.le_of_ble_eq_true rfl)) dL_law_125 ?_
      refine law_shown (pc := 128) C hW hl.1 (by omega) (by omega) dL_law_128 ?_
      refine lv_if_ne (pc := 131) (tgt := 136) hx hb dL_law_131 (by decide) (fun c131 => ?_) (fun c131 => False.elim (by revert c131; decide))
      refine lv_iinc (pc := 136) (v := (nI (6 * (k + 1)))) (lv' := [(3, .int (nI (6 * (k + 1)))), (5, .int (cl L xs (6 * k + 1))), (4, .int (nI jj)), (0, .ref b), (1, .ref hd), (2, .ref hg)]) hx hb dL_law_136 hl (k := 2) rfl (by rw [show 6 * (k + 1) = 6 * k + 6 by omega]; exact nI_add (6 * k) 6) (by decide) rfl (fun ls hl => ?_)
      refine lv_goto (pc := 139) (tgt := 32) hx hb dL_law_139 (by decide) ?_
      exact ih (k + 1) (by omega) _ _ _ _ _ ls hW hS trivial (by omega) (by omega) (lv_sub hl [0, 3, 4, 5] rfl)
    refine lv_iload (pc := 59) hx hb dL_law_59 (lv_at hl 1 rfl) ?_
    refine lv_iconst (pc := 61) (v := 3) hx hb dL_law_61 (by decide) ?_
    refine lv_icmp_ge (pc := 62) (tgt := 96) hx hb dL_law_62 (by decide) (fun c62 => ?_) (fun c62 => ?_)
    · have h3 : 3 ≤ jj := Classical.byContradiction fun q => nI_ge (a := jj) (b := 3) (by omega) (by decide) c62
      refine lv_aload_n (pc := 96) hx hb dL_law_96 rfl (lv_at hl 4 rfl) ?_
      refine lv_aload_n (pc := 97) hx hb dL_law_97 rfl (lv_at hl 5 rfl) ?_
      refine lv_iload (pc := 98) hx hb dL_law_98 (lv_at hl 1 rfl) ?_
      refine lv_iconst (pc := 100) (v := 3) hx hb dL_law_100 (by decide) ?_
      refine lv_isub (pc := 101) hx hb dL_law_101 ?_
      refine lv_topi (fun v101 e101 => ?_)
      have h101 : v101 = nI (jj - 3) := by rw [e101]; exact pk_sub h3
      subst h101
      refine lv_iload (pc := 102) hx hb dL_law_102 (lv_at hl 0 rfl) ?_
      refine lv_aload_n (pc := 104) hx hb dL_law_104 rfl (lv_at hl 3 rfl) ?_
      refine lv_iload_n (pc := 105) hx hb dL_law_105 rfl (lv_at hl 2 rfl) ?_
      refine lv_iconst (pc := 106) (v := 5) hx hb dL_law_106 (by decide) ?_
      refine lv_iadd (pc := 107) hx hb dL_law_107 ?_
      refine lv_topi (fun v107 e107 => ?_)
      have h107 : v107 = nI (6 * k + 5) := by rw [e107]; exact nI_add (6 * k) 5
      subst h107
      refine law_cell (pc := 108) (k := 6 * k + 5) C hS hl.1 (by omega) (by omega) (by omega) (lv_room (Nat.le_of_ble_eq_true rfl)) dL_law_108 ?_
      refine law_changed (pc := 111) (j := jj - 3) C hW hS hl.1 (by omega) (by omega) (by omega) dL_law_111 (fun H locs hW hS => ?_)
      refine lv_if_ne (pc := 114) (tgt := 119) hx hb dL_law_114 (by decide) (fun c114 => ?_) (fun c114 => False.elim (by revert c114; decide))
      exact K119 _ _ _ _ _ hW hS (by omega) (by omega)
    · refine lv_aload_n (pc := 65) hx hb dL_law_65 rfl (lv_at hl 4 rfl) ?_
      refine lv_aload_n (pc := 66) hx hb dL_law_66 rfl (lv_at hl 5 rfl) ?_
      refine lv_iload (pc := 67) hx hb dL_law_67 (lv_at hl 0 rfl) ?_
      refine lv_aload_n (pc := 69) hx hb dL_law_69 rfl (lv_at hl 3 rfl) ?_
      refine lv_iload_n (pc := 70) hx hb dL_law_70 rfl (lv_at hl 2 rfl) ?_
      refine lv_iconst (pc := 71) (v := 2) hx hb dL_law_71 (by decide) ?_
      refine lv_iadd (pc := 72) hx hb dL_law_72 ?_
      refine lv_topi (fun v72 e72 => ?_)
      have h72 : v72 = nI (6 * k + 2) := by rw [e72]; exact nI_add (6 * k) 2
      subst h72
      refine law_cell (pc := 73) (k := 6 * k + 2) C hS hl.1 (by omega) (by omega) (by omega) (lv_room (Nat.le_of_ble_eq_true rfl)) dL_law_73 ?_
      refine lv_aload_n (pc := 76) hx hb dL_law_76 rfl (lv_at hl 3 rfl) ?_
      refine lv_iload_n (pc := 77) hx hb dL_law_77 rfl (lv_at hl 2 rfl) ?_
      refine lv_iconst (pc := 78) (v := 3) hx hb dL_law_78 (by decide) ?_
      refine lv_iadd (pc := 79) hx hb dL_law_79 ?_
      refine lv_topi (fun v79 e79 => ?_)
      have h79 : v79 = nI (6 * k + 3) := by rw [e79]; exact nI_add (6 * k) 3
      subst h79
      refine law_cell (pc := 80) (k := 6 * k + 3) C hS hl.1 (by omega) (by omega) (by omega) (lv_room (Nat.le_of_ble_eq_true rfl)) dL_law_80 ?_
      refine lv_aload_n (pc := 83) hx hb dL_law_83 rfl (lv_at hl 3 rfl) ?_
      refine lv_iload_n (pc := 84) hx hb dL_law_84 rfl (lv_at hl 2 rfl) ?_
      refine lv_iconst (pc := 85) (v := 4) hx hb dL_law_85 (by decide) ?_
      refine lv_iadd (pc := 86) hx hb dL_law_86 ?_
      refine lv_topi (fun v86 e86 => ?_)
      have h86 : v86 = nI (6 * k + 4) := by rw [e86]; exact nI_add (6 * k) 4
      subst h86
      refine law_cell (pc := 87) (k := 6 * k + 4) C hS hl.1 (by omega) (by omega) (by omega) (lv_room (Nat.le_of_ble_eq_true rfl)) dL_law_87 ?_
      refine law_laid (pc := 90) C hW hS hl.1 (by omega) (by omega) dL_law_90 (fun H locs hW hS => ?_)
      refine lv_goto (pc := 93) (tgt := 119) hx hb dL_law_93 (by decide) ?_
      exact K119 _ _ _ _ _ hW hS (by omega) (by omega)
end
section
/-! PART 14: the law from its entry (printed by gen14.py; the statement of whole_start is the skeleton's) -/
/-- ZERO, as the Statement gives it -/
theorem law_zero {s : State} {b : Nat} {D : va_G} (hts0 : ∀ w ∈ lw_tbl, w.before #[Value.ref b] s = true) (hgv : (Jvm.Cond.and given_1 narrow_1).before #[Value.ref b] s = true) (hK : va_K D vwCl [] s) : ∃ z : Nat, va_Z "Duration" "ZERO" "LDuration;" (.ref z) (fun _ => False) s s.heap ∧ Du D z 0 0 s.heap := by
  have hs := flat_of_before _ hgv
  have hex : (Cond.exactly (.static "Duration" "ZERO" "LDuration;") "Duration").before #[Value.ref b] s = true := hs _ (by decide +kernel)
  have hf0 : (Cond.eq (.field (.static "Duration" "ZERO" "LDuration;") "Duration" "seconds" "J") (.long 0)).before #[Value.ref b] s = true := hs _ (by decide +kernel)
  have hf1 : (Cond.eq (.field (.static "Duration" "ZERO" "LDuration;") "Duration" "nanos" "I") (.int 0)).before #[Value.ref b] s = true := hs _ (by decide +kernel)
  obtain ⟨z, c1, cell, k, q1_, q2_, q3_, q4_, q5_, q6_, -⟩ := Cond.exactly_spec (args := #[Value.ref b]) (first := s) (o := none) (s := s) (idx := []) hex
  have hF : ∀ a : Nat, a < s.heap.size → ¬ (fun _ : Nat => False) a := fun _ _ h => h
  obtain ⟨cf0, k0, i0, f0, cell0, a1, a2, a3, a4, a5, -⟩ := vk_OFof (A := fun _ => False) q1_ (va_eqv hf0 (v := .long 0) rfl) hF
  obtain ⟨cf1, k1, i1, f1, cell1, b1, b2, b3, b4, b5, -⟩ := vk_OFof (A := fun _ => False) q1_ (va_eqv hf1 (v := .int 0) rfl) hF
  obtain ⟨hS, hfc, -⟩ := hK.1 1 _ rfl
  obtain ⟨x0, x1, x2, x3, hi0, hs0⟩ := hS 0 (show 0 < 2 by decide)
  obtain ⟨y0, y1, y2, y3, hi1, hs1⟩ := hS 1 (show 1 < 2 by decide)
  cases a1.symm.trans hi0
  cases b1.symm.trans hi1
  cases q3_.symm.trans a3
  cases q3_.symm.trans b3
  exact ⟨z, va_Zref (hts0 _ q105) (hts0 _ (lw_all_tbl q5)) q1_ hF, cell, q3_, by rw [q6_]; exact Option.some.inj (q2_.symm.trans hfc), q5_, a4, by rw [← hs0]; exact a5, by rw [← hs1]; exact b5⟩
set_option maxHeartbeats 4000000 in
set_option maxRecDepth 100000 in
theorem whole_start {p : Program} {e : Env} {s : State} {m : MethodId} {below : List Frame} {meth : Method} {c : Code} (l : Launch) (hflags : l.flags = flags0) {b L : Nat} {xs : Nat → Int32} (hL : L ≤ 96) (C0 : lw_At p s m meth c b L xs) : W p l e room_1 s m #[Value.ref b] below meth c s.heap [] 0 0 (lw_Z below #[Value.ref b] s) (entryFrame m ([Value.ref b] : List Value).toArray 6) := by
  obtain ⟨hx, hb, hr, hml, hown, hts0, hX, hbl, hlocks, hgv⟩ := C0
  have hts : ∀ w ∈ lw_all, w.before #[Value.ref b] s = true := fun w h => hts0 w (lw_all_tbl h)
  obtain ⟨c0_, iS0, hKn0⟩ := u_known (C := RX1) (T := TX1) (N := 1) (n := 1) hts0 (fun w h => lw_all_tbl (in_X1 w h)) (hts0 _ (lw_all_tbl q12))
  obtain ⟨c1_, iS1, hKn1⟩ := u_known (C := RX2) (T := TX2) (N := 2) (n := 2) hts0 (fun w h => lw_all_tbl (in_X2 w h)) (hts0 _ (lw_all_tbl q107))
  obtain ⟨D, hK⟩ : ∃ D : va_G, va_K D vwCl [] s := by
    refine ⟨(fun k => if k = 0 then c0_ else c1_, fun k => if k = 0 then iS0 else iS1), fun k q hq => ?_, fun k q hk => by simp at hk⟩
    match k, hq with
    | 0, hq => cases hq; exact hKn0
    | 1, hq => cases hq; exact hKn1
    | k + 2, hq => simp [vwCl] at hq
  obtain ⟨z, hZ, hz⟩ := law_zero hts0 hgv hK
  have hAO : va_AO "Duration" s := va_AO.of (hts0 _ q20)
  have hA : ∀ q : Nat, s.heap.size ≤ q → AS s q := fun q h => h
  have hzA : ¬ AS s z := by have := hz.lt; show ¬ s.heap.size ≤ z; omega
  have hS : va_S (AS s) s.heap s.heap [] := va_S.rf
  have hl := lv_entry ([.ref b]) (n := 6) (Nat.le_of_ble_eq_true rfl)
  rw [lg_entry_eq]
  generalize (lg_sl ([.ref b]) ++ List.replicate (6 - (lg_sl ([.ref b])).length) Slot.unset).toArray = ls at hl ⊢
  have hl : lv_has ls 6 [(0, .ref b)] := hl
  refine va_new (pc := 0) (D := D) (ci := 0) (fs := [.null]) (ws := []) (C := RX1) (T := TX1) (N := 1) hx hb hts in_X1 tyX1 tyX1_ok hown (hts _ q11) (hts _ q12) (hts _ q4) hK vP0 vD0 hS hA rfl (fun j hj => by rcases (show j = 0 by omega) with rfl; rfl) (Nat.le_of_ble_eq_true rfl) (Nat.le_of_ble_eq_true rfl) dL_law_0 (fun hd H1 hP1 hD1 hS => ?_)
  replace hP1 : Ob D hd 0 [.null] H1 := hP1
  have hdA : AS s hd := hD1.2 0 _ rfl
  have hzd : z ≠ hd := fun q => hzA (by rw [q]; exact hdA)
  have hsz1 : s.heap.size ≤ H1.size := hS.1
  have hF := Axf hS hA (Ax1 hdA)
  refine lv_dup (pc := 3) hx hb dL_law_3 rfl ?_
  refine va_callv (pc := 4) (va_runI (As := []) (rest := [.ref hd]) ⟨hx, hb, hml, hown, hts⟩ (metX1_init l D z H1.size hd) (cwI 0 hts (lw_meth q15) rfl rfl rfl (hts _ q4) (hts _ q13) (hts _ q14) rfl (by decide +kernel) ⟨Nat.le_of_ble_eq_true rfl, Nat.le_of_ble_eq_true rfl⟩) (sd_preS Pq.st (⟨⟨rfl, ZS hZ hS, hz.S hS hzA, hK⟩, hP1, hAO, hzd⟩)) rfl rfl hl.1 rfl (lv_room (Nat.le_of_ble_eq_true rfl)) dL_law_4 ⟨Nat.le_of_ble_eq_true rfl, Nat.le_of_ble_eq_true rfl⟩) hS (fun q _ h => hF q h) hF (fun x t H2 locs2 ht hvm hp hB hz1 hk1 hS => ?_)
  obtain ⟨ha, cD, F⟩ := x
  replace hp : H1.size ≤ ha ∧ F 0 = some z ∧ F 1 = some z := hp
  replace hB : Dk D hd ha t.heap ∧ Ra D ha cD F t.heap ∧ va_K D vwCl [(cD, .object "Duration")] t := hB
  rw [ht] at hB
  obtain ⟨hDk, hRa, hKt⟩ := hB
  have hKD : va_K D vwCl [(cD, .object "Duration")] s := va_K.moved hvm.symm hKt
  refine lv_astore_n (pc := 7) (lv' := [(1, .ref hd), (0, .ref b)]) hx hb dL_law_7 rfl hl (by decide) rfl (fun ls hl => ?_)
  refine lv_iconst (pc := 8) (v := 2) hx hb dL_law_8 (by decide) ?_
  refine lv_iconst (pc := 9) (v := 2) hx hb dL_law_9 (by decide) ?_
  refine sd_multi (pc := 10) hx hb hown (hts _ q282) (hts0 _ q283) (hts _ q285) hKD hS (Nat.le_of_ble_eq_true rfl) (Nat.le_of_ble_eq_true rfl) dL_law_10 (fun hg cG cL H3 hK3 hg3 hz3 ho3 hRg hLa hS => ?_)
  have hlh : ha < H2.size := pk_lt1 hRa
  have hne : Ne4 ha hg (fun k => hg + 1 + k) := ⟨by omega, by show hg + 1 + 0 ≠ hg + 1 + 1; omega, fun k _ => ⟨by show hg + 1 + k ≠ ha; omega, by show hg + 1 + k ≠ hg; omega⟩⟩
  have hz3 := hz.S hS hzA
  have hF2 : ∀ k, k < 2 → F k = some z := fun k hk => by
    rcases (show k = 0 ∨ k = 1 by omega) with rfl | rfl
    · exact hp.2.1
    · exact hp.2.2
  have hW : Wx D hd ha hg (fun k => hg + 1 + k) cD cG cL (fun _ => 0) H3 := ⟨F, fun _ _ => 0, pk1 hDk (ho3 hd (pk_lt1 hDk)), pk1 hRa (ho3 ha hlh), fun k hk => ⟨z, 0, 0, hF2 k hk, hz3, by decide, by decide, by show (0 : Int) = (0 : Int64).toInt * 1000000000 + (0 : Int32).toInt; decide⟩, hRg, hLa, fun k hk => ⟨by show 0 ≤ (0 : Int64).toInt; decide, by show (0 : Int64).toInt < 1000000000; decide, by show (0 : Int) = (0 : Int64).toInt * 1000000000 + (0 : Int64).toInt; decide⟩⟩
  have C : Cx p s m meth c b L xs D z hd ha hg (fun k => hg + 1 + k) cD cG cL := ⟨hx, hb, hml, hown, hts, hX, hL, hK3, hZ, hz, hne, by omega, fun k _ => by show s.heap.size ≤ hg + 1 + k; omega, hr, hlocks⟩
  refine lv_astore_n (pc := 14) (lv' := [(2, .ref hg), (1, .ref hd), (0, .ref b)]) hx hb dL_law_14 rfl hl (by decide) rfl (fun ls hl => ?_)
  refine lv_aload_n (pc := 15) hx hb dL_law_15 rfl (lv_at hl 1 rfl) ?_
  refine lv_aload_n (pc := 16) hx hb dL_law_16 rfl (lv_at hl 0 rfl) ?_
  refine lv_aload_n (pc := 17) hx hb dL_law_17 rfl (lv_at hl 2 rfl) ?_
  refine lv_iconst (pc := 18) (v := 0) hx hb dL_law_18 (by decide) ?_
  refine law_cell (pc := 19) (k := 0) C hS hl.1 (by decide) (by decide) (by decide) (lv_room (Nat.le_of_ble_eq_true rfl)) dL_law_19 ?_
  refine law_shown (pc := 22) C hW hl.1 (by decide) (by decide) dL_law_22 ?_
  refine lv_if_ne (pc := 25) (tgt := 30) hx hb dL_law_25 (by decide) (fun c25 => ?_) (fun c25 => False.elim (by revert c25; decide))
  refine lv_iconst (pc := 30) (v := 0) hx hb dL_law_30 (by decide) ?_
  refine lv_istore_n (pc := 31) (lv' := [(3, .int 0), (2, .ref hg), (1, .ref hd), (0, .ref b)]) hx hb dL_law_31 rfl hl (by decide) rfl (fun ls hl => ?_)
  exact law_l1 C 16 0 rfl _ _ _ _ _ ls hW hS trivial (by decide) (by decide) (lv_sub hl [0, 3, 2, 1] rfl)
end
section
/-! the end of the skeleton, as it is printed -/
set_option maxHeartbeats 4000000 in
theorem lw_walk (l : Launch) (hflags : l.flags = flags0) (b : Addr) (xs : List Int32) : MetFree l x (headSpec (Jvm.Cond.code x code maxLocals ret :: tables_1) room_1) (lw_P b xs) (fun _ _ _ _ _ => True) lw_Q := by
  refine MetFree.of_bodyS (code := code) (maxLocals := maxLocals) (ret := ret) (by decide) ?_ ?_
  · intro args s m h hn
    obtain ⟨meth, c, h1, h2, h3, h4, h5, h6, -, -⟩ := Cond.code_spec hn (atoms_spec (ws := Jvm.Cond.code x code maxLocals ret :: tables_1) h _ List.mem_cons_self)
    exact ⟨meth, c, h1, h2, h3, h4, h5, h6⟩
  · intro p e s m args below meth c s₁ B hml0 hP _
    obtain ⟨rfl, hx, hbd, hgv⟩ := hP
    obtain ⟨scr, harrAt, hlist, hof, hsmall⟩ := hx
    obtain ⟨hcb, hkn, -, -⟩ := State.arrayAt?_spec harrAt
    have hown : s.vm.findClass R_law = some m.cls := findClass_of_methodNamed B.named
    have hts0 : ∀ c ∈ (Jvm.Cond.code x code maxLocals ret :: tables_1), c.before #[Value.ref b] s = true := atoms_spec (ws := Jvm.Cond.code x code maxLocals ret :: tables_1) B.pre
    have hts : ∀ w ∈ lw_tbl, w.before #[Value.ref b] s = true := k2_hts_sels lw_privs (fun w hw => hts0 w (List.mem_cons_of_mem _ hw)) lw_privs_ok
    have hml : c.maxLocals = 6 := B.maxLocals_eq (hts0 _ List.mem_cons_self)
    have X₀ : Stand p l e room_1 s m #[Value.ref b] below meth c s₁ [] 0 0 := Stand.of_body B
    have hh0 : s₁.heap = s.heap := by rw [B.state]; rfl
    have hsz : scr.slots.size = xs.length := by rw [← Array.length_toList, hlist, List.length_map]
    have hval : ∀ j : Nat, j < xs.length → scr.slots[j]? = some (.int (xs.getD j 0)) := fun j hj => by
      rw [← Array.getElem?_toList, hlist]
      simp [hj]
    have hbl : b < s.heap.size := (Array.getElem?_eq_some_iff.mp hcb).1
    have hX : va_X b xs.length (fun j => xs.getD j 0) s s.heap := ⟨scr, hcb, hof, hkn, hsz, hval⟩
    have K : W p l e room_1 s m #[Value.ref b] below meth c s₁.heap [] 0 0 (lw_Z below #[Value.ref b] s) (entryFrame m ([Value.ref b] : List Value).toArray 6) := by
      rw [hh0]
      exact whole_start l hflags hbd ⟨B.exec, B.bytes, B.returns, hml, hown, hts, hX, hbl, B.notSynchronized, hgv⟩
    obtain ⟨t, a1, o, b1, b2, b3⟩ := K s₁ rfl X₀
    exact ⟨t, o, a1, b1, b2, b3⟩
theorem lw_pre_spec {args : Array Value} {s : State} (h : (Jvm.Cond.and given_1 narrow_1).before args s = true) (hr : rest_1_c.before args s = true) : ∃ (b : Addr) (xs : List Int32), lw_P b xs args s := by
  have hs := flat_of_before _ h
  have hq := flat_of_before _ hr
  have hc : (Cond.count 1).before args s = true := hs _ (by decide +kernel)
  have harr : (Cond.arrayOf (.arg 0) .int).before args s = true := hs _ (by decide +kernel)
  have hle : (Cond.le (.length (.arg 0)) (.int 96)).before args s = true := hs _ (by decide +kernel)
  have hlen : (Cond.isInt (.length (.arg 0))).before args s = true := hq _ (by decide +kernel)
  have hall : (Cond.all (.arg 0) (.isInt (.elem (.arg 0) (.index 0)))).before args s = true := hq _ (by decide +kernel)
  obtain ⟨b, xs, hb, hx⟩ := State.ints_of_pre rfl harr hlen hall
  have hsm : xs.length < 2 ^ 31 := hx.choose_spec.2.2.2
  have hev : (Term.length (.arg 0)).eval args s none [] s = some (.int xs.length.toInt32) := hx.length_eval hb
  have hv := Cond.le_ints hev (show (Term.int 96).eval args s none [] s = some (.int 96) from rfl)
  have hd : xs.length.toInt32 ≤ 96 := by
    simpa [Cond.before, Cond.holds, hv] using hle
  have hN : xs.length ≤ 96 := (Int32.ofNat_le_ofNat hsm (by decide)).mp (show Int32.ofNat xs.length ≤ Int32.ofNat 96 from hd)
  exact ⟨b, xs, Cond.one_arg hc (show args[0]? = some (.ref b) from hb), hx, hN, h⟩
theorem lw_comes (l : Launch) (hflags : l.flags = flags0) : Comes l x (Jvm.Cond.code x code maxLocals ret :: tables_1) room_1 (fun tb e args s => Calls_1 tb e args s ∧ rest_1 tb e args s ∧ Pre_1 tb e args s)
    (fun _ _ args s o t => lw_Q args s o t) := by
  intro p e ha hc hk s m args below hf hfit hheap happ hpre
  obtain ⟨b, xs, hP⟩ := lw_pre_spec hpre.2.2 hpre.2.1
  obtain ⟨k, o, h1, h2, h3, hQ⟩ := lw_walk l hflags b xs p e ha hc hk s m args below hf ((Spec.applies_iff_loose hf).mp happ).1 hP trivial
  exact ⟨k, o, h1, h2, h3, hQ⟩
theorem lw_frame {s t : State} {o : Outcome} {args : Array Value} (h : Framed s o t [] 1200192 5500522) :
    Framed s o t (fieldLocs frame_1_writes args s ++ arrayLocs frame_1_arrays args s ++ staticLocs frame_1_statics s) 1200192 5500522 := h
theorem lw_limb (L : Cond) (hL : ∀ (args : Array Value) (s t : State), L.after args s (.returned (some (.int 1))) t = true) :
    ArmFor flags0 classFile x code maxLocals ret World_1 tables_1 room_1 Calls_1 rest_1 Pre_1
      (fun tb e a s o t => postC L tb e a s o t ∧ Framed s o t (fieldLocs frame_1_writes a s ++ arrayLocs frame_1_arrays a s ++ staticLocs frame_1_statics s) 1200192 5500522) := by
  intro l hflags _ _ p e ha hc hk s m args below hf hfit hheap happ hpre
  obtain ⟨k, o, h1, h2, h3, rfl, hF⟩ := lw_comes l hflags p e ha hc hk s m args below hf hfit hheap happ hpre
  exact ⟨k, _, h1, h2, h3, hL args s _, lw_frame hF⟩
theorem i_vc : Claimed_1_1 ∧ Claimed_1_2 := ⟨lw_limb limb_1_1 (fun args s t => by simp [limb_1_1, Cond.after, Cond.holds, Cond.value]), lw_limb limb_1_2 (fun args s t => Cond.after_iff.mpr (by
  first | (rw [show limb_1_2 = Cond.eq .result (.int 1) from rfl, Cond.eq_ints (x := 1) (y := 1) rfl rfl]; simp; done) | (simp [limb_1_2, Cond.value, Term.eval]; done)))⟩
end
