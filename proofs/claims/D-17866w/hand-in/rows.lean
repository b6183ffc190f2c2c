section
-- ===== PART A: goes FIRST, ahead of the names: the tables' words, and 'selects' of the private methods out of them =====
/-- a private method of a class that the tables say can be made, by its rows of tables_1 -/
def lw_okq (q : MethodName × Nat) : Prop := (q.1.cls ≠ "java/lang/invoke/MethodHandle" ∧ q.1.cls ≠ "java/lang/invoke/VarHandle") ∧ Cond.instantiable q.1.cls q.2 ∈ tables_1 ∧ Cond.privateMethod q.1 ∈ tables_1 ∧ Cond.instanceMethod q.1 ∈ tables_1
set_option maxRecDepth 100000
theorem lw_t1 {w : Cond} (h : w ∈ tables_1_1) : w ∈ tables_1 := List.mem_append_left _ h
theorem lw_t2 {w : Cond} (h : w ∈ tables_1_2) : w ∈ tables_1 := List.mem_append_right _ h
theorem lw_p0 : lw_okq (⟨"LongRowDesk", "from", "(I)I"⟩, 1) := ⟨⟨by decide +kernel, by decide +kernel⟩, lw_t1 (List.mem_of_getElem? (i := 11) rfl), lw_t1 (List.mem_of_getElem? (i := 37) rfl), lw_t1 (List.mem_of_getElem? (i := 38) rfl)⟩
theorem lw_p1 : lw_okq (⟨"LongRowDesk", "to", "(II)I"⟩, 1) := ⟨⟨by decide +kernel, by decide +kernel⟩, lw_t1 (List.mem_of_getElem? (i := 11) rfl), lw_t1 (List.mem_of_getElem? (i := 41) rfl), lw_t1 (List.mem_of_getElem? (i := 42) rfl)⟩
theorem lw_p2 : lw_okq (⟨"java/lang/Throwable", "fillInStackTrace", "(I)Ljava/lang/Throwable;"⟩, 6) := ⟨⟨by decide +kernel, by decide +kernel⟩, lw_t1 (List.mem_of_getElem? (i := 91) rfl), lw_t1 (List.mem_of_getElem? (i := 89) rfl), lw_t1 (List.mem_of_getElem? (i := 90) rfl)⟩
def lw_privs_1 : List (MethodName × Nat) := [(⟨"LongRowDesk", "from", "(I)I"⟩, 1), (⟨"LongRowDesk", "to", "(II)I"⟩, 1), (⟨"java/lang/Throwable", "fillInStackTrace", "(I)Ljava/lang/Throwable;"⟩, 6)]
theorem lw_r1 : ∀ q ∈ lw_privs_1, lw_okq q := List.forall_mem_cons.mpr ⟨lw_p0, List.forall_mem_cons.mpr ⟨lw_p1, List.forall_mem_cons.mpr ⟨lw_p2, fun _ h => absurd h List.not_mem_nil⟩⟩⟩
def lw_privs : List (MethodName × Nat) := lw_privs_1
def lw_tbl : List Cond := k2_sels lw_privs ++ tables_1
theorem lw_privs_ok : ∀ q ∈ lw_privs, lw_okq q := lw_r1
-- ===== ONE list of words for every method: the tables' words that hold all through a run =====
def lw_all : List Cond := lw_tbl.filter goodWord
/-- a word of the tables by its place: claim/WORDS.tsv -/
theorem lw_w {w : Cond} (i : Nat) (h : lw_tbl[i]? = some w) (g : goodWord w = true) : w ∈ lw_all := List.mem_filter.mpr ⟨List.mem_of_getElem? h, g⟩
theorem lw_all_tbl {w : Cond} (h : w ∈ lw_all) : w ∈ lw_tbl := (List.mem_filter.mp h).1
theorem lw_self : GoodIn lw_all lw_all := fun w h => ⟨h, good_of_word (List.mem_filter.mp h).2⟩
/-- a class's field words, by their places -/
theorem lw_in (ws : List Cond) (ps : List Nat) (hp : ws = ps.filterMap (fun i => lw_tbl[i]?)) (hg : ws.all goodWord = true) : ∀ w ∈ ws, w ∈ lw_all := by
  intro w h
  have h1 := List.all_eq_true.mp hg w h
  rw [hp] at h
  obtain ⟨i, -, hi⟩ := List.mem_filterMap.mp h
  exact lw_w i hi h1
/-- the words of a contract for the method y with code b, L locals, answer r -/
abbrev ws_ (y : MethodName) (b : ByteArray) (L : Nat) (r : Option FieldType) : List Cond := Cond.code y b L r :: lw_all
theorem lw_meth {y : MethodName} {b : ByteArray} {L : Nat} {r : Option FieldType} (h : Cond.code y b L r ∈ lw_all) : GoodIn lw_all (ws_ y b L r) := by
  intro w hw
  rcases List.mem_cons.mp hw with e | e
  · rw [e]
    exact lw_self _ h
  · exact lw_self _ e
theorem lw_app {a c : List Cond} (ha : ∀ w ∈ a, w ∈ lw_all) (hc : GoodIn lw_all c) : GoodIn lw_all (a ++ c) := by
  intro w hw
  rcases List.mem_append.mp hw with e | e
  · exact lw_self w (ha w e)
  · exact hc w e
/-- what a call through an object asks: cwV n hts (lw_V ..) -/
theorem lw_V {own : String} {idx : Nat} {C : String} {y : MethodName} {b : ByteArray} {L : Nat} {r : Option FieldType} (h1 : Cond.methodLink own idx y ∈ lw_all) (h2 : Cond.instanceMethod y ∈ lw_all) (h3 : Cond.selects C y y ∈ lw_all) (h4 : Cond.initialized C ∈ lw_all) (h5 : Cond.code y b L r ∈ lw_all) : GoodIn lw_all (wsV own idx C y (ws_ y b L r)) := by
  refine lw_app ?_ (lw_meth h5)
  intro w hw
  simp only [List.mem_cons, List.not_mem_nil, or_false] at hw
  rcases hw with e | e | e | e
  · rw [e]; exact h1
  · rw [e]; exact h2
  · rw [e]; exact h3
  · rw [e]; exact h4
/-- what a static call asks: va_cwS n hts (lw_S ..) -/
theorem lw_S {own : String} {idx : Nat} {y : MethodName} {b : ByteArray} {L : Nat} {r : Option FieldType} (h1 : Cond.methodLink own idx y ∈ lw_all) (h2 : Cond.static y ∈ lw_all) (h3 : Cond.initialized y.cls ∈ lw_all) (h4 : Cond.code y b L r ∈ lw_all) : GoodIn lw_all (va_wsS own idx y (ws_ y b L r)) := by
  refine lw_app ?_ (lw_meth h4)
  intro w hw
  simp only [List.mem_cons, List.not_mem_nil, or_false] at hw
  rcases hw with e | e | e
  · rw [e]; exact h1
  · rw [e]; exact h2
  · rw [e]; exact h3
/-- the words of a contract for a method WITH HANDLERS (hh: its table) -/
abbrev wsW_ (y : MethodName) (b : ByteArray) (L : Nat) (r : Option FieldType) (hh : List (Nat × Nat × Nat × Nat)) : List Cond := Cond.codeWith y b L r hh :: lw_all
theorem lw_methW {y : MethodName} {b : ByteArray} {L : Nat} {r : Option FieldType} {hh : List (Nat × Nat × Nat × Nat)} (h : Cond.codeWith y b L r hh ∈ lw_all) : GoodIn lw_all (wsW_ y b L r hh) := by
  intro w hw
  rcases List.mem_cons.mp hw with e | e
  · rw [e]
    exact lw_self _ h
  · exact lw_self _ e
/-- any list of words by their places (lw_in), good -/
theorem lw_good {ws : List Cond} (h : ∀ w ∈ ws, w ∈ lw_all) : GoodIn lw_all ws := fun w hw => lw_self w (h w hw)
/-- what a call of a method with handlers asks: vx_cwVW n hts (lw_VW ..), vx_cwSW n hts (lw_SW ..) -/
theorem lw_VW {own : String} {idx : Nat} {C : String} {y : MethodName} {b : ByteArray} {L : Nat} {r : Option FieldType} {hh : List (Nat × Nat × Nat × Nat)} (h1 : Cond.methodLink own idx y ∈ lw_all) (h2 : Cond.instanceMethod y ∈ lw_all) (h3 : Cond.selects C y y ∈ lw_all) (h4 : Cond.initialized C ∈ lw_all) (h5 : Cond.codeWith y b L r hh ∈ lw_all) : GoodIn lw_all (wsV own idx C y (wsW_ y b L r hh)) := by
  refine lw_app ?_ (lw_methW h5)
  intro w hw
  simp only [List.mem_cons, List.not_mem_nil, or_false] at hw
  rcases hw with e | e | e | e
  · rw [e]; exact h1
  · rw [e]; exact h2
  · rw [e]; exact h3
  · rw [e]; exact h4
theorem lw_SW {own : String} {idx : Nat} {y : MethodName} {b : ByteArray} {L : Nat} {r : Option FieldType} {hh : List (Nat × Nat × Nat × Nat)} (h1 : Cond.methodLink own idx y ∈ lw_all) (h2 : Cond.static y ∈ lw_all) (h3 : Cond.initialized y.cls ∈ lw_all) (h4 : Cond.codeWith y b L r hh ∈ lw_all) : GoodIn lw_all (va_wsS own idx y (wsW_ y b L r hh)) := by
  refine lw_app ?_ (lw_methW h4)
  intro w hw
  simp only [List.mem_cons, List.not_mem_nil, or_false] at hw
  rcases hw with e | e | e
  · rw [e]; exact h1
  · rw [e]; exact h2
  · rw [e]; exact h3
/-- a word by its place in its run of the tables -/
theorem lw_at {r : List Cond} (hr : ∀ w ∈ r, w ∈ lw_tbl) {w : Cond} (i : Nat) (h : r[i]? = some w) : w ∈ lw_tbl := hr w (List.mem_of_getElem? h)
theorem lw_g {w : Cond} (h : w ∈ lw_tbl) (g : goodWord w = true) : w ∈ lw_all := List.mem_filter.mpr ⟨h, g⟩
theorem lw_ms : ∀ w ∈ k2_sels lw_privs, w ∈ lw_tbl := fun w h => show w ∈ k2_sels lw_privs ++ tables_1 from List.mem_append_left _ h
theorem lw_m1 : ∀ w ∈ tables_1_1, w ∈ lw_tbl := fun w h => show w ∈ k2_sels lw_privs ++ tables_1 from List.mem_append_right (k2_sels lw_privs) (show w ∈ tables_1 from List.mem_append_left _ h)
theorem lw_m2 : ∀ w ∈ tables_1_2, w ∈ lw_tbl := fun w h => show w ∈ k2_sels lw_privs ++ tables_1 from List.mem_append_right (k2_sels lw_privs) (show w ∈ tables_1 from List.mem_append_right _ h)
theorem qs0 : (Cond.selects "LongRowDesk" ⟨"LongRowDesk", "from", "(I)I"⟩ ⟨"LongRowDesk", "from", "(I)I"⟩) ∈ lw_all := lw_g (lw_at lw_ms 0 rfl) rfl
theorem qs1 : (Cond.selects "LongRowDesk" ⟨"LongRowDesk", "to", "(II)I"⟩ ⟨"LongRowDesk", "to", "(II)I"⟩) ∈ lw_all := lw_g (lw_at lw_ms 1 rfl) rfl
theorem qs2 : (Cond.selects "java/lang/Throwable" ⟨"java/lang/Throwable", "fillInStackTrace", "(I)Ljava/lang/Throwable;"⟩ ⟨"java/lang/Throwable", "fillInStackTrace", "(I)Ljava/lang/Throwable;"⟩) ∈ lw_all := lw_g (lw_at lw_ms 2 rfl) rfl
-- ===== end of PART A; then your names; then what follows =====
/-! DECODE ROWS BY BYTES: one lemma an opcode; a method's code is cut into short pieces once, and a row reads its own piece alone. -/
set_option maxRecDepth 100000
/-- the code has just these bytes from pc on -/
def DkAt (code : ByteArray) (pc : Nat) (bs : List UInt8) : Prop := ∀ (j : Nat) (b : UInt8), bs[j]? = some b → code.data.toList[pc + j]? = some b
/-- the piece W has the bytes bs from its place j on -/
def dkIn (W : List UInt8) (j : Nat) (bs : List UInt8) : Bool := decide ((W.drop j).take bs.length = bs)
theorem dk_seg {l W T : List UInt8} {o o2 : Nat} (h : l.drop o = W ++ T) (n : Nat) (hn : W.length = n) (ho : o + n = o2) : l.drop o2 = T := by
  subst ho
  rw [← List.drop_drop, h, List.drop_left' hn]
theorem dk_at {code : ByteArray} {W T bs : List UInt8} {o pc : Nat} (h : code.data.toList.drop o = W ++ T) (j : Nat) (hp : o + j = pc) (hw : dkIn W j bs = true) : DkAt code pc bs := by
  subst hp
  intro i b e
  have h1 := of_decide_eq_true hw
  have h2 : i < bs.length := (List.getElem?_eq_some_iff.mp e).1
  have h3 : W[j + i]? = some b := by
    rw [← h1, List.getElem?_take, if_pos h2, List.getElem?_drop] at e
    exact e
  have h4 : j + i < W.length := (List.getElem?_eq_some_iff.mp h3).1
  have h5 : (code.data.toList.drop o)[j + i]? = some b := by
    rw [h, List.getElem?_append_left h4]
    exact h3
  rw [List.getElem?_drop, ← Nat.add_assoc] at h5
  exact h5
theorem dk_u1 {A : ByteArray} {p : Nat} {b : UInt8} (h : A.data.toList[p]? = some b) : (Reader.u1 : Reader DecodeError Nat) A p = .ok (b.toNat, p + 1) := by
  obtain ⟨h1, h2⟩ := List.getElem?_eq_some_iff.mp h
  have h3 : p < A.size := by simpa using h1
  have h4 : A[p]'h3 = b := h2
  have e : (Reader.u1 : Reader DecodeError Nat) A p = (if h : p < A.size then .ok (A[p].toNat, p + 1) else .error (HasTruncated.truncated p)) := by
    show (do if h : p < A.size then do set (p + 1); Pure.pure A[p].toNat else MonadExcept.throw (HasTruncated.truncated p) : Reader DecodeError Nat) A p = _
    by_cases hi : p < A.size
    · rw [dif_pos hi, dif_pos hi]; rfl
    · rw [dif_neg hi, dif_neg hi]; rfl
  rw [e, dif_pos h3, h4]
theorem dk_bind {α β : Type} {r : Reader DecodeError α} {f : α → Reader DecodeError β} {A : ByteArray} {p s : Nat} {a : α} (h : r A p = .ok (a, s)) : (r >>= f) A p = f a A s := by
  show (do let (a, s) ← r A p; f a A s : Except DecodeError (β × Nat)) = _
  rw [h]
  rfl
theorem dk_map {α β : Type} {r : Reader DecodeError α} {g : α → β} {A : ByteArray} {p s : Nat} {a : α} (h : r A p = .ok (a, s)) : (g <$> r) A p = .ok (g a, s) := by
  show (do let (a, s) ← r A p; .ok (g a, s) : Except DecodeError (β × Nat)) = _
  rw [h]
  rfl
theorem dk_u2 {A : ByteArray} {p : Nat} {a b : UInt8} (h : A.data.toList[p]? = some a) (h2 : A.data.toList[p + 1]? = some b) : (Reader.u2 : Reader DecodeError Nat) A p = .ok (a.toNat * 256 + b.toNat, p + 2) := by
  show (Reader.u1 >>= fun hi => Reader.u1 >>= fun lo => Pure.pure (hi * 256 + lo) : Reader DecodeError Nat) A p = _
  rw [dk_bind (dk_u1 h), dk_bind (dk_u1 h2)]
  rfl
theorem dk_of {code : ByteArray} {pc n : Nat} {i : Instr} (h : Decoder.instr pc code pc = .ok (i, pc + n)) : decode code pc = .ok (i, n) := by
  have e : decode code pc = (match Decoder.instr pc code pc with | .error x => .error x | .ok (j, s) => .ok (j, s - pc)) := by
    show (do let (j, s) ← Decoder.instr pc code pc; Pure.pure (j, s - pc) : Except DecodeError (Instr × Nat)) = _
    cases Decoder.instr pc code pc <;> rfl
  rw [e, h]
  show Except.ok (i, pc + n - pc) = _
  rw [Nat.add_sub_cancel_left]
theorem dk_2 {code : ByteArray} {pc : Nat} (h : DkAt code pc [2]) : decode code pc = .ok (.iconst (-1), 1) := dk_of ((dk_bind (dk_u1 (h 0 _ rfl))).trans rfl)
theorem dk_3 {code : ByteArray} {pc : Nat} (h : DkAt code pc [3]) : decode code pc = .ok (.iconst 0, 1) := dk_of ((dk_bind (dk_u1 (h 0 _ rfl))).trans rfl)
theorem dk_4 {code : ByteArray} {pc : Nat} (h : DkAt code pc [4]) : decode code pc = .ok (.iconst 1, 1) := dk_of ((dk_bind (dk_u1 (h 0 _ rfl))).trans rfl)
theorem dk_5 {code : ByteArray} {pc : Nat} (h : DkAt code pc [5]) : decode code pc = .ok (.iconst 2, 1) := dk_of ((dk_bind (dk_u1 (h 0 _ rfl))).trans rfl)
theorem dk_6 {code : ByteArray} {pc : Nat} (h : DkAt code pc [6]) : decode code pc = .ok (.iconst 3, 1) := dk_of ((dk_bind (dk_u1 (h 0 _ rfl))).trans rfl)
theorem dk_7 {code : ByteArray} {pc : Nat} (h : DkAt code pc [7]) : decode code pc = .ok (.iconst 4, 1) := dk_of ((dk_bind (dk_u1 (h 0 _ rfl))).trans rfl)
theorem dk_16 {code : ByteArray} {pc : Nat} (a : UInt8) (h : DkAt code pc [16, a]) : decode code pc = .ok (.bipush (Reader.signed 8 a.toNat), 2) := dk_of ((dk_bind (dk_u1 (h 0 _ rfl))).trans ((dk_bind (dk_map (dk_u1 (h 1 _ rfl)))).trans rfl))
theorem dk_17 {code : ByteArray} {pc : Nat} (a b : UInt8) (h : DkAt code pc [17, a, b]) : decode code pc = .ok (.sipush (Reader.signed 16 (a.toNat * 256 + b.toNat)), 3) := dk_of ((dk_bind (dk_u1 (h 0 _ rfl))).trans ((dk_bind (dk_map (dk_u2 (h 1 _ rfl) (h 2 _ rfl)))).trans rfl))
theorem dk_18 {code : ByteArray} {pc : Nat} (a : UInt8) (h : DkAt code pc [18, a]) : decode code pc = .ok (.ldc a.toNat, 2) := dk_of ((dk_bind (dk_u1 (h 0 _ rfl))).trans ((dk_bind (dk_u1 (h 1 _ rfl))).trans rfl))
theorem dk_20 {code : ByteArray} {pc : Nat} (a b : UInt8) (h : DkAt code pc [20, a, b]) : decode code pc = .ok (.ldc2_w (a.toNat * 256 + b.toNat), 3) := dk_of ((dk_bind (dk_u1 (h 0 _ rfl))).trans ((dk_bind (dk_u2 (h 1 _ rfl) (h 2 _ rfl))).trans rfl))
theorem dk_21 {code : ByteArray} {pc : Nat} (a : UInt8) (h : DkAt code pc [21, a]) : decode code pc = .ok (.iload a.toNat, 2) := dk_of ((dk_bind (dk_u1 (h 0 _ rfl))).trans ((dk_bind (dk_u1 (h 1 _ rfl))).trans rfl))
theorem dk_22 {code : ByteArray} {pc : Nat} (a : UInt8) (h : DkAt code pc [22, a]) : decode code pc = .ok (.lload a.toNat, 2) := dk_of ((dk_bind (dk_u1 (h 0 _ rfl))).trans ((dk_bind (dk_u1 (h 1 _ rfl))).trans rfl))
theorem dk_26 {code : ByteArray} {pc : Nat} (h : DkAt code pc [26]) : decode code pc = .ok (.iload_n 0, 1) := dk_of ((dk_bind (dk_u1 (h 0 _ rfl))).trans rfl)
theorem dk_27 {code : ByteArray} {pc : Nat} (h : DkAt code pc [27]) : decode code pc = .ok (.iload_n 1, 1) := dk_of ((dk_bind (dk_u1 (h 0 _ rfl))).trans rfl)
theorem dk_28 {code : ByteArray} {pc : Nat} (h : DkAt code pc [28]) : decode code pc = .ok (.iload_n 2, 1) := dk_of ((dk_bind (dk_u1 (h 0 _ rfl))).trans rfl)
theorem dk_29 {code : ByteArray} {pc : Nat} (h : DkAt code pc [29]) : decode code pc = .ok (.iload_n 3, 1) := dk_of ((dk_bind (dk_u1 (h 0 _ rfl))).trans rfl)
theorem dk_30 {code : ByteArray} {pc : Nat} (h : DkAt code pc [30]) : decode code pc = .ok (.lload_n 0, 1) := dk_of ((dk_bind (dk_u1 (h 0 _ rfl))).trans rfl)
theorem dk_31 {code : ByteArray} {pc : Nat} (h : DkAt code pc [31]) : decode code pc = .ok (.lload_n 1, 1) := dk_of ((dk_bind (dk_u1 (h 0 _ rfl))).trans rfl)
theorem dk_32 {code : ByteArray} {pc : Nat} (h : DkAt code pc [32]) : decode code pc = .ok (.lload_n 2, 1) := dk_of ((dk_bind (dk_u1 (h 0 _ rfl))).trans rfl)
theorem dk_42 {code : ByteArray} {pc : Nat} (h : DkAt code pc [42]) : decode code pc = .ok (.aload_n 0, 1) := dk_of ((dk_bind (dk_u1 (h 0 _ rfl))).trans rfl)
theorem dk_43 {code : ByteArray} {pc : Nat} (h : DkAt code pc [43]) : decode code pc = .ok (.aload_n 1, 1) := dk_of ((dk_bind (dk_u1 (h 0 _ rfl))).trans rfl)
theorem dk_44 {code : ByteArray} {pc : Nat} (h : DkAt code pc [44]) : decode code pc = .ok (.aload_n 2, 1) := dk_of ((dk_bind (dk_u1 (h 0 _ rfl))).trans rfl)
theorem dk_45 {code : ByteArray} {pc : Nat} (h : DkAt code pc [45]) : decode code pc = .ok (.aload_n 3, 1) := dk_of ((dk_bind (dk_u1 (h 0 _ rfl))).trans rfl)
theorem dk_46 {code : ByteArray} {pc : Nat} (h : DkAt code pc [46]) : decode code pc = .ok (.iaload, 1) := dk_of ((dk_bind (dk_u1 (h 0 _ rfl))).trans rfl)
theorem dk_47 {code : ByteArray} {pc : Nat} (h : DkAt code pc [47]) : decode code pc = .ok (.laload, 1) := dk_of ((dk_bind (dk_u1 (h 0 _ rfl))).trans rfl)
theorem dk_51 {code : ByteArray} {pc : Nat} (h : DkAt code pc [51]) : decode code pc = .ok (.baload, 1) := dk_of ((dk_bind (dk_u1 (h 0 _ rfl))).trans rfl)
theorem dk_54 {code : ByteArray} {pc : Nat} (a : UInt8) (h : DkAt code pc [54, a]) : decode code pc = .ok (.istore a.toNat, 2) := dk_of ((dk_bind (dk_u1 (h 0 _ rfl))).trans ((dk_bind (dk_u1 (h 1 _ rfl))).trans rfl))
theorem dk_55 {code : ByteArray} {pc : Nat} (a : UInt8) (h : DkAt code pc [55, a]) : decode code pc = .ok (.lstore a.toNat, 2) := dk_of ((dk_bind (dk_u1 (h 0 _ rfl))).trans ((dk_bind (dk_u1 (h 1 _ rfl))).trans rfl))
theorem dk_62 {code : ByteArray} {pc : Nat} (h : DkAt code pc [62]) : decode code pc = .ok (.istore_n 3, 1) := dk_of ((dk_bind (dk_u1 (h 0 _ rfl))).trans rfl)
theorem dk_63 {code : ByteArray} {pc : Nat} (h : DkAt code pc [63]) : decode code pc = .ok (.lstore_n 0, 1) := dk_of ((dk_bind (dk_u1 (h 0 _ rfl))).trans rfl)
theorem dk_64 {code : ByteArray} {pc : Nat} (h : DkAt code pc [64]) : decode code pc = .ok (.lstore_n 1, 1) := dk_of ((dk_bind (dk_u1 (h 0 _ rfl))).trans rfl)
theorem dk_65 {code : ByteArray} {pc : Nat} (h : DkAt code pc [65]) : decode code pc = .ok (.lstore_n 2, 1) := dk_of ((dk_bind (dk_u1 (h 0 _ rfl))).trans rfl)
theorem dk_76 {code : ByteArray} {pc : Nat} (h : DkAt code pc [76]) : decode code pc = .ok (.astore_n 1, 1) := dk_of ((dk_bind (dk_u1 (h 0 _ rfl))).trans rfl)
theorem dk_77 {code : ByteArray} {pc : Nat} (h : DkAt code pc [77]) : decode code pc = .ok (.astore_n 2, 1) := dk_of ((dk_bind (dk_u1 (h 0 _ rfl))).trans rfl)
theorem dk_78 {code : ByteArray} {pc : Nat} (h : DkAt code pc [78]) : decode code pc = .ok (.astore_n 3, 1) := dk_of ((dk_bind (dk_u1 (h 0 _ rfl))).trans rfl)
theorem dk_80 {code : ByteArray} {pc : Nat} (h : DkAt code pc [80]) : decode code pc = .ok (.lastore, 1) := dk_of ((dk_bind (dk_u1 (h 0 _ rfl))).trans rfl)
theorem dk_84 {code : ByteArray} {pc : Nat} (h : DkAt code pc [84]) : decode code pc = .ok (.bastore, 1) := dk_of ((dk_bind (dk_u1 (h 0 _ rfl))).trans rfl)
theorem dk_87 {code : ByteArray} {pc : Nat} (h : DkAt code pc [87]) : decode code pc = .ok (.pop, 1) := dk_of ((dk_bind (dk_u1 (h 0 _ rfl))).trans rfl)
theorem dk_89 {code : ByteArray} {pc : Nat} (h : DkAt code pc [89]) : decode code pc = .ok (.dup, 1) := dk_of ((dk_bind (dk_u1 (h 0 _ rfl))).trans rfl)
theorem dk_96 {code : ByteArray} {pc : Nat} (h : DkAt code pc [96]) : decode code pc = .ok (.iadd, 1) := dk_of ((dk_bind (dk_u1 (h 0 _ rfl))).trans rfl)
theorem dk_100 {code : ByteArray} {pc : Nat} (h : DkAt code pc [100]) : decode code pc = .ok (.isub, 1) := dk_of ((dk_bind (dk_u1 (h 0 _ rfl))).trans rfl)
theorem dk_104 {code : ByteArray} {pc : Nat} (h : DkAt code pc [104]) : decode code pc = .ok (.imul, 1) := dk_of ((dk_bind (dk_u1 (h 0 _ rfl))).trans rfl)
theorem dk_112 {code : ByteArray} {pc : Nat} (h : DkAt code pc [112]) : decode code pc = .ok (.irem, 1) := dk_of ((dk_bind (dk_u1 (h 0 _ rfl))).trans rfl)
theorem dk_121 {code : ByteArray} {pc : Nat} (h : DkAt code pc [121]) : decode code pc = .ok (.lshl, 1) := dk_of ((dk_bind (dk_u1 (h 0 _ rfl))).trans rfl)
theorem dk_122 {code : ByteArray} {pc : Nat} (h : DkAt code pc [122]) : decode code pc = .ok (.ishr, 1) := dk_of ((dk_bind (dk_u1 (h 0 _ rfl))).trans rfl)
theorem dk_123 {code : ByteArray} {pc : Nat} (h : DkAt code pc [123]) : decode code pc = .ok (.lshr, 1) := dk_of ((dk_bind (dk_u1 (h 0 _ rfl))).trans rfl)
theorem dk_125 {code : ByteArray} {pc : Nat} (h : DkAt code pc [125]) : decode code pc = .ok (.lushr, 1) := dk_of ((dk_bind (dk_u1 (h 0 _ rfl))).trans rfl)
theorem dk_126 {code : ByteArray} {pc : Nat} (h : DkAt code pc [126]) : decode code pc = .ok (.iand, 1) := dk_of ((dk_bind (dk_u1 (h 0 _ rfl))).trans rfl)
theorem dk_127 {code : ByteArray} {pc : Nat} (h : DkAt code pc [127]) : decode code pc = .ok (.land, 1) := dk_of ((dk_bind (dk_u1 (h 0 _ rfl))).trans rfl)
theorem dk_129 {code : ByteArray} {pc : Nat} (h : DkAt code pc [129]) : decode code pc = .ok (.lor, 1) := dk_of ((dk_bind (dk_u1 (h 0 _ rfl))).trans rfl)
theorem dk_132 {code : ByteArray} {pc : Nat} (a b : UInt8) (h : DkAt code pc [132, a, b]) : decode code pc = .ok (.iinc a.toNat (Reader.signed 8 b.toNat), 3) := dk_of ((dk_bind (dk_u1 (h 0 _ rfl))).trans ((dk_bind (dk_u1 (h 1 _ rfl))).trans ((dk_bind (dk_map (dk_u1 (h 2 _ rfl)))).trans rfl)))
theorem dk_133 {code : ByteArray} {pc : Nat} (h : DkAt code pc [133]) : decode code pc = .ok (.i2l, 1) := dk_of ((dk_bind (dk_u1 (h 0 _ rfl))).trans rfl)
theorem dk_136 {code : ByteArray} {pc : Nat} (h : DkAt code pc [136]) : decode code pc = .ok (.l2i, 1) := dk_of ((dk_bind (dk_u1 (h 0 _ rfl))).trans rfl)
theorem dk_145 {code : ByteArray} {pc : Nat} (h : DkAt code pc [145]) : decode code pc = .ok (.i2b, 1) := dk_of ((dk_bind (dk_u1 (h 0 _ rfl))).trans rfl)
theorem dk_148 {code : ByteArray} {pc : Nat} (h : DkAt code pc [148]) : decode code pc = .ok (.lcmp, 1) := dk_of ((dk_bind (dk_u1 (h 0 _ rfl))).trans rfl)
theorem dk_153 {code : ByteArray} {pc : Nat} (a b : UInt8) (h : DkAt code pc [153, a, b]) : decode code pc = .ok (.ifCond .eq (Reader.signed 16 (a.toNat * 256 + b.toNat)), 3) := dk_of ((dk_bind (dk_u1 (h 0 _ rfl))).trans ((dk_bind (dk_map (dk_u2 (h 1 _ rfl) (h 2 _ rfl)))).trans rfl))
theorem dk_154 {code : ByteArray} {pc : Nat} (a b : UInt8) (h : DkAt code pc [154, a, b]) : decode code pc = .ok (.ifCond .ne (Reader.signed 16 (a.toNat * 256 + b.toNat)), 3) := dk_of ((dk_bind (dk_u1 (h 0 _ rfl))).trans ((dk_bind (dk_map (dk_u2 (h 1 _ rfl) (h 2 _ rfl)))).trans rfl))
theorem dk_155 {code : ByteArray} {pc : Nat} (a b : UInt8) (h : DkAt code pc [155, a, b]) : decode code pc = .ok (.ifCond .lt (Reader.signed 16 (a.toNat * 256 + b.toNat)), 3) := dk_of ((dk_bind (dk_u1 (h 0 _ rfl))).trans ((dk_bind (dk_map (dk_u2 (h 1 _ rfl) (h 2 _ rfl)))).trans rfl))
theorem dk_156 {code : ByteArray} {pc : Nat} (a b : UInt8) (h : DkAt code pc [156, a, b]) : decode code pc = .ok (.ifCond .ge (Reader.signed 16 (a.toNat * 256 + b.toNat)), 3) := dk_of ((dk_bind (dk_u1 (h 0 _ rfl))).trans ((dk_bind (dk_map (dk_u2 (h 1 _ rfl) (h 2 _ rfl)))).trans rfl))
theorem dk_157 {code : ByteArray} {pc : Nat} (a b : UInt8) (h : DkAt code pc [157, a, b]) : decode code pc = .ok (.ifCond .gt (Reader.signed 16 (a.toNat * 256 + b.toNat)), 3) := dk_of ((dk_bind (dk_u1 (h 0 _ rfl))).trans ((dk_bind (dk_map (dk_u2 (h 1 _ rfl) (h 2 _ rfl)))).trans rfl))
theorem dk_158 {code : ByteArray} {pc : Nat} (a b : UInt8) (h : DkAt code pc [158, a, b]) : decode code pc = .ok (.ifCond .le (Reader.signed 16 (a.toNat * 256 + b.toNat)), 3) := dk_of ((dk_bind (dk_u1 (h 0 _ rfl))).trans ((dk_bind (dk_map (dk_u2 (h 1 _ rfl) (h 2 _ rfl)))).trans rfl))
theorem dk_159 {code : ByteArray} {pc : Nat} (a b : UInt8) (h : DkAt code pc [159, a, b]) : decode code pc = .ok (.if_icmp .eq (Reader.signed 16 (a.toNat * 256 + b.toNat)), 3) := dk_of ((dk_bind (dk_u1 (h 0 _ rfl))).trans ((dk_bind (dk_map (dk_u2 (h 1 _ rfl) (h 2 _ rfl)))).trans rfl))
theorem dk_160 {code : ByteArray} {pc : Nat} (a b : UInt8) (h : DkAt code pc [160, a, b]) : decode code pc = .ok (.if_icmp .ne (Reader.signed 16 (a.toNat * 256 + b.toNat)), 3) := dk_of ((dk_bind (dk_u1 (h 0 _ rfl))).trans ((dk_bind (dk_map (dk_u2 (h 1 _ rfl) (h 2 _ rfl)))).trans rfl))
theorem dk_161 {code : ByteArray} {pc : Nat} (a b : UInt8) (h : DkAt code pc [161, a, b]) : decode code pc = .ok (.if_icmp .lt (Reader.signed 16 (a.toNat * 256 + b.toNat)), 3) := dk_of ((dk_bind (dk_u1 (h 0 _ rfl))).trans ((dk_bind (dk_map (dk_u2 (h 1 _ rfl) (h 2 _ rfl)))).trans rfl))
theorem dk_162 {code : ByteArray} {pc : Nat} (a b : UInt8) (h : DkAt code pc [162, a, b]) : decode code pc = .ok (.if_icmp .ge (Reader.signed 16 (a.toNat * 256 + b.toNat)), 3) := dk_of ((dk_bind (dk_u1 (h 0 _ rfl))).trans ((dk_bind (dk_map (dk_u2 (h 1 _ rfl) (h 2 _ rfl)))).trans rfl))
theorem dk_164 {code : ByteArray} {pc : Nat} (a b : UInt8) (h : DkAt code pc [164, a, b]) : decode code pc = .ok (.if_icmp .le (Reader.signed 16 (a.toNat * 256 + b.toNat)), 3) := dk_of ((dk_bind (dk_u1 (h 0 _ rfl))).trans ((dk_bind (dk_map (dk_u2 (h 1 _ rfl) (h 2 _ rfl)))).trans rfl))
theorem dk_167 {code : ByteArray} {pc : Nat} (a b : UInt8) (h : DkAt code pc [167, a, b]) : decode code pc = .ok (.goto (Reader.signed 16 (a.toNat * 256 + b.toNat)), 3) := dk_of ((dk_bind (dk_u1 (h 0 _ rfl))).trans ((dk_bind (dk_map (dk_u2 (h 1 _ rfl) (h 2 _ rfl)))).trans rfl))
theorem dk_172 {code : ByteArray} {pc : Nat} (h : DkAt code pc [172]) : decode code pc = .ok (.ireturn, 1) := dk_of ((dk_bind (dk_u1 (h 0 _ rfl))).trans rfl)
theorem dk_173 {code : ByteArray} {pc : Nat} (h : DkAt code pc [173]) : decode code pc = .ok (.lreturn, 1) := dk_of ((dk_bind (dk_u1 (h 0 _ rfl))).trans rfl)
theorem dk_176 {code : ByteArray} {pc : Nat} (h : DkAt code pc [176]) : decode code pc = .ok (.areturn, 1) := dk_of ((dk_bind (dk_u1 (h 0 _ rfl))).trans rfl)
theorem dk_177 {code : ByteArray} {pc : Nat} (h : DkAt code pc [177]) : decode code pc = .ok (.return_, 1) := dk_of ((dk_bind (dk_u1 (h 0 _ rfl))).trans rfl)
theorem dk_178 {code : ByteArray} {pc : Nat} (a b : UInt8) (h : DkAt code pc [178, a, b]) : decode code pc = .ok (.getstatic (a.toNat * 256 + b.toNat), 3) := dk_of ((dk_bind (dk_u1 (h 0 _ rfl))).trans ((dk_bind (dk_u2 (h 1 _ rfl) (h 2 _ rfl))).trans rfl))
theorem dk_180 {code : ByteArray} {pc : Nat} (a b : UInt8) (h : DkAt code pc [180, a, b]) : decode code pc = .ok (.getfield (a.toNat * 256 + b.toNat), 3) := dk_of ((dk_bind (dk_u1 (h 0 _ rfl))).trans ((dk_bind (dk_u2 (h 1 _ rfl) (h 2 _ rfl))).trans rfl))
theorem dk_181 {code : ByteArray} {pc : Nat} (a b : UInt8) (h : DkAt code pc [181, a, b]) : decode code pc = .ok (.putfield (a.toNat * 256 + b.toNat), 3) := dk_of ((dk_bind (dk_u1 (h 0 _ rfl))).trans ((dk_bind (dk_u2 (h 1 _ rfl) (h 2 _ rfl))).trans rfl))
theorem dk_182 {code : ByteArray} {pc : Nat} (a b : UInt8) (h : DkAt code pc [182, a, b]) : decode code pc = .ok (.invokevirtual (a.toNat * 256 + b.toNat), 3) := dk_of ((dk_bind (dk_u1 (h 0 _ rfl))).trans ((dk_bind (dk_u2 (h 1 _ rfl) (h 2 _ rfl))).trans rfl))
theorem dk_183 {code : ByteArray} {pc : Nat} (a b : UInt8) (h : DkAt code pc [183, a, b]) : decode code pc = .ok (.invokespecial (a.toNat * 256 + b.toNat), 3) := dk_of ((dk_bind (dk_u1 (h 0 _ rfl))).trans ((dk_bind (dk_u2 (h 1 _ rfl) (h 2 _ rfl))).trans rfl))
theorem dk_184 {code : ByteArray} {pc : Nat} (a b : UInt8) (h : DkAt code pc [184, a, b]) : decode code pc = .ok (.invokestatic (a.toNat * 256 + b.toNat), 3) := dk_of ((dk_bind (dk_u1 (h 0 _ rfl))).trans ((dk_bind (dk_u2 (h 1 _ rfl) (h 2 _ rfl))).trans rfl))
theorem dk_187 {code : ByteArray} {pc : Nat} (a b : UInt8) (h : DkAt code pc [187, a, b]) : decode code pc = .ok (.new (a.toNat * 256 + b.toNat), 3) := dk_of ((dk_bind (dk_u1 (h 0 _ rfl))).trans ((dk_bind (dk_u2 (h 1 _ rfl) (h 2 _ rfl))).trans rfl))
theorem dk_188_8 {code : ByteArray} {pc : Nat} (h : DkAt code pc [188, 8]) : decode code pc = .ok (.newarray .byte, 2) := dk_of ((dk_bind (dk_u1 (h 0 _ rfl))).trans ((dk_bind (dk_u1 (h 1 _ rfl))).trans rfl))
theorem dk_188_11 {code : ByteArray} {pc : Nat} (h : DkAt code pc [188, 11]) : decode code pc = .ok (.newarray .long, 2) := dk_of ((dk_bind (dk_u1 (h 0 _ rfl))).trans ((dk_bind (dk_u1 (h 1 _ rfl))).trans rfl))
theorem dk_190 {code : ByteArray} {pc : Nat} (h : DkAt code pc [190]) : decode code pc = .ok (.arraylength, 1) := dk_of ((dk_bind (dk_u1 (h 0 _ rfl))).trans rfl)
theorem dk_191 {code : ByteArray} {pc : Nat} (h : DkAt code pc [191]) : decode code pc = .ok (.athrow, 1) := dk_of ((dk_bind (dk_u1 (h 0 _ rfl))).trans rfl)
theorem q25 : (Jvm.Cond.arrayClass Jvm.ClassFile.FieldType.long) ∈ lw_all := lw_g (lw_at lw_m1 22 rfl) rfl
set_option maxRecDepth 100000
theorem q122 : (Jvm.Cond.arrayClass Jvm.ClassFile.FieldType.byte) ∈ lw_all := lw_g (lw_at lw_m1 119 rfl) rfl
/-! java/lang/Math -/
set_option maxRecDepth 100000
def RJ5 : String := "java/lang/Math"
abbrev cJ5_min : ByteArray := prog_8_method_70_code
def yJ5_min : MethodName := ⟨RJ5, "min", "(JJ)J"⟩
def dkwJ5_min_0 : List UInt8 := [30, 32, 148, 157, 0, 7, 30, 167, 0, 4, 32, 173]
abbrev dktJ5_min_0 : List UInt8 := dkwJ5_min_0 ++ []
theorem dksJ5_min_0 : cJ5_min.data.toList.drop 0 = dktJ5_min_0 := by decide +kernel
theorem dJ5_min_0 : decode cJ5_min 0 = .ok (.lload_n 0, 1) := dk_30 (dk_at dksJ5_min_0 0 rfl rfl)
theorem dJ5_min_1 : decode cJ5_min 1 = .ok (.lload_n 2, 1) := dk_32 (dk_at dksJ5_min_0 1 rfl rfl)
theorem dJ5_min_2 : decode cJ5_min 2 = .ok (.lcmp, 1) := dk_148 (dk_at dksJ5_min_0 2 rfl rfl)
theorem dJ5_min_3 : decode cJ5_min 3 = .ok (.ifCond .gt 7, 3) := dk_157 0 7 (dk_at dksJ5_min_0 3 rfl rfl)
theorem dJ5_min_6 : decode cJ5_min 6 = .ok (.lload_n 0, 1) := dk_30 (dk_at dksJ5_min_0 6 rfl rfl)
theorem dJ5_min_7 : decode cJ5_min 7 = .ok (.goto 4, 3) := dk_167 0 4 (dk_at dksJ5_min_0 7 rfl rfl)
theorem dJ5_min_10 : decode cJ5_min 10 = .ok (.lload_n 2, 1) := dk_32 (dk_at dksJ5_min_0 10 rfl rfl)
theorem dJ5_min_11 : decode cJ5_min 11 = .ok (.lreturn, 1) := dk_173 (dk_at dksJ5_min_0 11 rfl rfl)
abbrev cJ5_max : ByteArray := prog_8_method_66_code
def yJ5_max : MethodName := ⟨RJ5, "max", "(JJ)J"⟩
def dkwJ5_max_0 : List UInt8 := [30, 32, 148, 155, 0, 7, 30, 167, 0, 4, 32, 173]
abbrev dktJ5_max_0 : List UInt8 := dkwJ5_max_0 ++ []
theorem dksJ5_max_0 : cJ5_max.data.toList.drop 0 = dktJ5_max_0 := by decide +kernel
theorem dJ5_max_0 : decode cJ5_max 0 = .ok (.lload_n 0, 1) := dk_30 (dk_at dksJ5_max_0 0 rfl rfl)
theorem dJ5_max_1 : decode cJ5_max 1 = .ok (.lload_n 2, 1) := dk_32 (dk_at dksJ5_max_0 1 rfl rfl)
theorem dJ5_max_2 : decode cJ5_max 2 = .ok (.lcmp, 1) := dk_148 (dk_at dksJ5_max_0 2 rfl rfl)
theorem dJ5_max_3 : decode cJ5_max 3 = .ok (.ifCond .lt 7, 3) := dk_155 0 7 (dk_at dksJ5_max_0 3 rfl rfl)
theorem dJ5_max_6 : decode cJ5_max 6 = .ok (.lload_n 0, 1) := dk_30 (dk_at dksJ5_max_0 6 rfl rfl)
theorem dJ5_max_7 : decode cJ5_max 7 = .ok (.goto 4, 3) := dk_167 0 4 (dk_at dksJ5_max_0 7 rfl rfl)
theorem dJ5_max_10 : decode cJ5_max 10 = .ok (.lload_n 2, 1) := dk_32 (dk_at dksJ5_max_0 10 rfl rfl)
theorem dJ5_max_11 : decode cJ5_max 11 = .ok (.lreturn, 1) := dk_173 (dk_at dksJ5_max_0 11 rfl rfl)
theorem q12 : (Jvm.Cond.initialized "java/lang/Math") ∈ lw_all := lw_g (lw_at lw_m1 9 rfl) rfl
theorem q238 : (Jvm.Cond.static ({ cls := "java/lang/Math", name := "min", desc := "(JJ)J" } : Jvm.MethodName)) ∈ lw_all := lw_g (lw_at lw_m1 235 rfl) rfl
theorem q239 : (Jvm.Cond.code ({ cls := "java/lang/Math", name := "min", desc := "(JJ)J" } : Jvm.MethodName) prog_8_method_70_code (4 : Nat) (Option.some Jvm.ClassFile.FieldType.long)) ∈ lw_all := lw_g (lw_at lw_m1 236 rfl) rfl
theorem q241 : (Jvm.Cond.static ({ cls := "java/lang/Math", name := "max", desc := "(JJ)J" } : Jvm.MethodName)) ∈ lw_all := lw_g (lw_at lw_m1 238 rfl) rfl
theorem q242 : (Jvm.Cond.code ({ cls := "java/lang/Math", name := "max", desc := "(JJ)J" } : Jvm.MethodName) prog_8_method_66_code (4 : Nat) (Option.some Jvm.ClassFile.FieldType.long)) ∈ lw_all := lw_g (lw_at lw_m1 239 rfl) rfl
/-! java/lang/Object -/
set_option maxRecDepth 100000
def RJ6 : String := "java/lang/Object"
abbrev cJ6_init : ByteArray := object_method_1_code
def yJ6_init : MethodName := ⟨RJ6, "<init>", "()V"⟩
theorem dJ6_init_0 : decode cJ6_init 0 = .ok (.return_, 1) := by decide +kernel
theorem q19 : (Jvm.Cond.instanceMethod ({ cls := "java/lang/Object", name := "<init>", desc := "()V" } : Jvm.MethodName)) ∈ lw_all := lw_g (lw_at lw_m1 16 rfl) rfl
theorem q20 : (Jvm.Cond.code ({ cls := "java/lang/Object", name := "<init>", desc := "()V" } : Jvm.MethodName) object_method_1_code (1 : Nat) (Option.none : Option Jvm.ClassFile.FieldType)) ∈ lw_all := lw_g (lw_at lw_m1 17 rfl) rfl
end
section
/-! Preconditions -/
set_option maxRecDepth 100000
def RX3 : String := "Preconditions"
abbrev cX3_checkNotNull : ByteArray := prog_4_method_3_code
def yX3_checkNotNull : MethodName := ⟨RX3, "checkNotNull", "(Ljava/lang/Object;)Ljava/lang/Object;"⟩
theorem dX3_checkNotNull_0 : decode cX3_checkNotNull 0 = .ok (.aload_n 0, 1) := by decide +kernel
theorem dX3_checkNotNull_1 : decode cX3_checkNotNull 1 = .ok (.areturn, 1) := by decide +kernel
abbrev cX3_checkPositionIndexes : ByteArray := prog_4_method_4_code
def yX3_checkPositionIndexes : MethodName := ⟨RX3, "checkPositionIndexes", "(III)V"⟩
def dkwX3_checkPositionIndexes_1 : List UInt8 := [177]
abbrev dktX3_checkPositionIndexes_1 : List UInt8 := dkwX3_checkPositionIndexes_1 ++ []
def dkwX3_checkPositionIndexes_0 : List UInt8 := [26, 155, 0, 13, 27, 26, 161, 0, 8, 27, 28, 164, 0, 13, 187, 0, 12, 89, 18, 7, 183, 0, 14, 191]
abbrev dktX3_checkPositionIndexes_0 : List UInt8 := dkwX3_checkPositionIndexes_0 ++ dktX3_checkPositionIndexes_1
theorem dksX3_checkPositionIndexes_0 : cX3_checkPositionIndexes.data.toList.drop 0 = dktX3_checkPositionIndexes_0 := by decide +kernel
theorem dksX3_checkPositionIndexes_1 : cX3_checkPositionIndexes.data.toList.drop 24 = dktX3_checkPositionIndexes_1 := dk_seg dksX3_checkPositionIndexes_0 24 rfl rfl
theorem dX3_checkPositionIndexes_0 : decode cX3_checkPositionIndexes 0 = .ok (.iload_n 0, 1) := dk_26 (dk_at dksX3_checkPositionIndexes_0 0 rfl rfl)
theorem dX3_checkPositionIndexes_1 : decode cX3_checkPositionIndexes 1 = .ok (.ifCond .lt 13, 3) := dk_155 0 13 (dk_at dksX3_checkPositionIndexes_0 1 rfl rfl)
theorem dX3_checkPositionIndexes_4 : decode cX3_checkPositionIndexes 4 = .ok (.iload_n 1, 1) := dk_27 (dk_at dksX3_checkPositionIndexes_0 4 rfl rfl)
theorem dX3_checkPositionIndexes_5 : decode cX3_checkPositionIndexes 5 = .ok (.iload_n 0, 1) := dk_26 (dk_at dksX3_checkPositionIndexes_0 5 rfl rfl)
theorem dX3_checkPositionIndexes_6 : decode cX3_checkPositionIndexes 6 = .ok (.if_icmp .lt 8, 3) := dk_161 0 8 (dk_at dksX3_checkPositionIndexes_0 6 rfl rfl)
theorem dX3_checkPositionIndexes_9 : decode cX3_checkPositionIndexes 9 = .ok (.iload_n 1, 1) := dk_27 (dk_at dksX3_checkPositionIndexes_0 9 rfl rfl)
theorem dX3_checkPositionIndexes_10 : decode cX3_checkPositionIndexes 10 = .ok (.iload_n 2, 1) := dk_28 (dk_at dksX3_checkPositionIndexes_0 10 rfl rfl)
theorem dX3_checkPositionIndexes_11 : decode cX3_checkPositionIndexes 11 = .ok (.if_icmp .le 13, 3) := dk_164 0 13 (dk_at dksX3_checkPositionIndexes_0 11 rfl rfl)
theorem dX3_checkPositionIndexes_14 : decode cX3_checkPositionIndexes 14 = .ok (.new 12, 3) := dk_187 0 12 (dk_at dksX3_checkPositionIndexes_0 14 rfl rfl)
theorem dX3_checkPositionIndexes_17 : decode cX3_checkPositionIndexes 17 = .ok (.dup, 1) := dk_89 (dk_at dksX3_checkPositionIndexes_0 17 rfl rfl)
theorem dX3_checkPositionIndexes_18 : decode cX3_checkPositionIndexes 18 = .ok (.ldc 7, 2) := dk_18 7 (dk_at dksX3_checkPositionIndexes_0 18 rfl rfl)
theorem dX3_checkPositionIndexes_20 : decode cX3_checkPositionIndexes 20 = .ok (.invokespecial 14, 3) := dk_183 0 14 (dk_at dksX3_checkPositionIndexes_0 20 rfl rfl)
theorem dX3_checkPositionIndexes_23 : decode cX3_checkPositionIndexes 23 = .ok (.athrow, 1) := dk_191 (dk_at dksX3_checkPositionIndexes_0 23 rfl rfl)
theorem dX3_checkPositionIndexes_24 : decode cX3_checkPositionIndexes 24 = .ok (.return_, 1) := dk_177 (dk_at dksX3_checkPositionIndexes_1 0 rfl rfl)
abbrev cX3_checkArgument : ByteArray := prog_4_method_1_code
def yX3_checkArgument : MethodName := ⟨RX3, "checkArgument", "(Z)V"⟩
def dkwX3_checkArgument_0 : List UInt8 := [26, 154, 0, 11, 187, 0, 1, 89, 183, 0, 3, 191, 177]
abbrev dktX3_checkArgument_0 : List UInt8 := dkwX3_checkArgument_0 ++ []
theorem dksX3_checkArgument_0 : cX3_checkArgument.data.toList.drop 0 = dktX3_checkArgument_0 := by decide +kernel
theorem dX3_checkArgument_0 : decode cX3_checkArgument 0 = .ok (.iload_n 0, 1) := dk_26 (dk_at dksX3_checkArgument_0 0 rfl rfl)
theorem dX3_checkArgument_1 : decode cX3_checkArgument 1 = .ok (.ifCond .ne 11, 3) := dk_154 0 11 (dk_at dksX3_checkArgument_0 1 rfl rfl)
theorem dX3_checkArgument_4 : decode cX3_checkArgument 4 = .ok (.new 1, 3) := dk_187 0 1 (dk_at dksX3_checkArgument_0 4 rfl rfl)
theorem dX3_checkArgument_7 : decode cX3_checkArgument 7 = .ok (.dup, 1) := dk_89 (dk_at dksX3_checkArgument_0 7 rfl rfl)
theorem dX3_checkArgument_8 : decode cX3_checkArgument 8 = .ok (.invokespecial 3, 3) := dk_183 0 3 (dk_at dksX3_checkArgument_0 8 rfl rfl)
theorem dX3_checkArgument_11 : decode cX3_checkArgument 11 = .ok (.athrow, 1) := dk_191 (dk_at dksX3_checkArgument_0 11 rfl rfl)
theorem dX3_checkArgument_12 : decode cX3_checkArgument 12 = .ok (.return_, 1) := dk_177 (dk_at dksX3_checkArgument_0 12 rfl rfl)
abbrev cX3_checkArgument_2 : ByteArray := prog_4_method_2_code
def yX3_checkArgument_2 : MethodName := ⟨RX3, "checkArgument", "(ZLjava/lang/String;JJ)V"⟩
def dkwX3_checkArgument_2_0 : List UInt8 := [26, 154, 0, 13, 187, 0, 1, 89, 18, 7, 183, 0, 9, 191, 177]
abbrev dktX3_checkArgument_2_0 : List UInt8 := dkwX3_checkArgument_2_0 ++ []
theorem dksX3_checkArgument_2_0 : cX3_checkArgument_2.data.toList.drop 0 = dktX3_checkArgument_2_0 := by decide +kernel
theorem dX3_checkArgument_2_0 : decode cX3_checkArgument_2 0 = .ok (.iload_n 0, 1) := dk_26 (dk_at dksX3_checkArgument_2_0 0 rfl rfl)
theorem dX3_checkArgument_2_1 : decode cX3_checkArgument_2 1 = .ok (.ifCond .ne 13, 3) := dk_154 0 13 (dk_at dksX3_checkArgument_2_0 1 rfl rfl)
theorem dX3_checkArgument_2_4 : decode cX3_checkArgument_2 4 = .ok (.new 1, 3) := dk_187 0 1 (dk_at dksX3_checkArgument_2_0 4 rfl rfl)
theorem dX3_checkArgument_2_7 : decode cX3_checkArgument_2 7 = .ok (.dup, 1) := dk_89 (dk_at dksX3_checkArgument_2_0 7 rfl rfl)
theorem dX3_checkArgument_2_8 : decode cX3_checkArgument_2 8 = .ok (.ldc 7, 2) := dk_18 7 (dk_at dksX3_checkArgument_2_0 8 rfl rfl)
theorem dX3_checkArgument_2_10 : decode cX3_checkArgument_2 10 = .ok (.invokespecial 9, 3) := dk_183 0 9 (dk_at dksX3_checkArgument_2_0 10 rfl rfl)
theorem dX3_checkArgument_2_13 : decode cX3_checkArgument_2 13 = .ok (.athrow, 1) := dk_191 (dk_at dksX3_checkArgument_2_0 13 rfl rfl)
theorem dX3_checkArgument_2_14 : decode cX3_checkArgument_2 14 = .ok (.return_, 1) := dk_177 (dk_at dksX3_checkArgument_2_0 14 rfl rfl)
theorem q6 : (Jvm.Cond.initialized "Preconditions") ∈ lw_all := lw_g (lw_at lw_m1 3 rfl) rfl
theorem q51 : (Jvm.Cond.static ({ cls := "Preconditions", name := "checkNotNull", desc := "(Ljava/lang/Object;)Ljava/lang/Object;" } : Jvm.MethodName)) ∈ lw_all := lw_g (lw_at lw_m1 48 rfl) rfl
theorem q52 : (Jvm.Cond.code ({ cls := "Preconditions", name := "checkNotNull", desc := "(Ljava/lang/Object;)Ljava/lang/Object;" } : Jvm.MethodName) prog_4_method_3_code (1 : Nat) (Option.some (Jvm.ClassFile.FieldType.object "java/lang/Object"))) ∈ lw_all := lw_g (lw_at lw_m1 49 rfl) rfl
theorem q54 : (Jvm.Cond.static ({ cls := "Preconditions", name := "checkPositionIndexes", desc := "(III)V" } : Jvm.MethodName)) ∈ lw_all := lw_g (lw_at lw_m1 51 rfl) rfl
theorem q55 : (Jvm.Cond.code ({ cls := "Preconditions", name := "checkPositionIndexes", desc := "(III)V" } : Jvm.MethodName) prog_4_method_4_code (3 : Nat) (Option.none : Option Jvm.ClassFile.FieldType)) ∈ lw_all := lw_g (lw_at lw_m1 52 rfl) rfl
theorem q56 : (Jvm.Cond.classLink "Preconditions" (12 : Nat) "java/lang/IndexOutOfBoundsException") ∈ lw_all := lw_g (lw_at lw_m1 53 rfl) rfl
theorem q96 : (Jvm.Cond.stringRef "Preconditions" (7 : Nat) "left out") ∈ lw_tbl := lw_at lw_m1 93 rfl
theorem q97 : (Jvm.Cond.methodLink "Preconditions" (14 : Nat) ({ cls := "java/lang/IndexOutOfBoundsException", name := "<init>", desc := "(Ljava/lang/String;)V" } : Jvm.MethodName)) ∈ lw_all := lw_g (lw_at lw_m1 94 rfl) rfl
theorem q185 : (Jvm.Cond.static ({ cls := "Preconditions", name := "checkArgument", desc := "(Z)V" } : Jvm.MethodName)) ∈ lw_all := lw_g (lw_at lw_m1 182 rfl) rfl
theorem q186 : (Jvm.Cond.code ({ cls := "Preconditions", name := "checkArgument", desc := "(Z)V" } : Jvm.MethodName) prog_4_method_1_code (1 : Nat) (Option.none : Option Jvm.ClassFile.FieldType)) ∈ lw_all := lw_g (lw_at lw_m1 183 rfl) rfl
theorem q187 : (Jvm.Cond.classLink "Preconditions" (1 : Nat) "java/lang/IllegalArgumentException") ∈ lw_all := lw_g (lw_at lw_m1 184 rfl) rfl
theorem q196 : (Jvm.Cond.methodLink "Preconditions" (3 : Nat) ({ cls := "java/lang/IllegalArgumentException", name := "<init>", desc := "()V" } : Jvm.MethodName)) ∈ lw_all := lw_g (lw_at lw_m1 193 rfl) rfl
theorem q252 : (Jvm.Cond.static ({ cls := "Preconditions", name := "checkArgument", desc := "(ZLjava/lang/String;JJ)V" } : Jvm.MethodName)) ∈ lw_all := lw_g (lw_at lw_m2 9 rfl) rfl
theorem q253 : (Jvm.Cond.code ({ cls := "Preconditions", name := "checkArgument", desc := "(ZLjava/lang/String;JJ)V" } : Jvm.MethodName) prog_4_method_2_code (6 : Nat) (Option.none : Option Jvm.ClassFile.FieldType)) ∈ lw_all := lw_g (lw_at lw_m2 10 rfl) rfl
theorem q254 : (Jvm.Cond.methodLink "Preconditions" (9 : Nat) ({ cls := "java/lang/IllegalArgumentException", name := "<init>", desc := "(Ljava/lang/String;)V" } : Jvm.MethodName)) ∈ lw_all := lw_g (lw_at lw_m2 11 rfl) rfl
/-! Longs -/
set_option maxRecDepth 100000
def RX2 : String := "Longs"
abbrev cX2_reverse : ByteArray := prog_3_method_11_code
def yX2_reverse : MethodName := ⟨RX2, "reverse", "([JII)V"⟩
def dkwX2_reverse_2 : List UInt8 := [132, 4, 255, 167, 255, 226, 177]
abbrev dktX2_reverse_2 : List UInt8 := dkwX2_reverse_2 ++ []
def dkwX2_reverse_1 : List UInt8 := [162, 0, 30, 42, 29, 47, 55, 5, 42, 29, 42, 21, 4, 47, 80, 42, 21, 4, 22, 5, 80, 132, 3, 1]
abbrev dktX2_reverse_1 : List UInt8 := dkwX2_reverse_1 ++ dktX2_reverse_2
def dkwX2_reverse_0 : List UInt8 := [42, 184, 0, 32, 87, 27, 28, 42, 190, 184, 0, 36, 27, 62, 28, 4, 100, 54, 4, 29, 21, 4]
abbrev dktX2_reverse_0 : List UInt8 := dkwX2_reverse_0 ++ dktX2_reverse_1
theorem dksX2_reverse_0 : cX2_reverse.data.toList.drop 0 = dktX2_reverse_0 := by decide +kernel
theorem dksX2_reverse_1 : cX2_reverse.data.toList.drop 22 = dktX2_reverse_1 := dk_seg dksX2_reverse_0 22 rfl rfl
theorem dksX2_reverse_2 : cX2_reverse.data.toList.drop 46 = dktX2_reverse_2 := dk_seg dksX2_reverse_1 24 rfl rfl
theorem dX2_reverse_0 : decode cX2_reverse 0 = .ok (.aload_n 0, 1) := dk_42 (dk_at dksX2_reverse_0 0 rfl rfl)
theorem dX2_reverse_1 : decode cX2_reverse 1 = .ok (.invokestatic 32, 3) := dk_184 0 32 (dk_at dksX2_reverse_0 1 rfl rfl)
theorem dX2_reverse_4 : decode cX2_reverse 4 = .ok (.pop, 1) := dk_87 (dk_at dksX2_reverse_0 4 rfl rfl)
theorem dX2_reverse_5 : decode cX2_reverse 5 = .ok (.iload_n 1, 1) := dk_27 (dk_at dksX2_reverse_0 5 rfl rfl)
theorem dX2_reverse_6 : decode cX2_reverse 6 = .ok (.iload_n 2, 1) := dk_28 (dk_at dksX2_reverse_0 6 rfl rfl)
theorem dX2_reverse_7 : decode cX2_reverse 7 = .ok (.aload_n 0, 1) := dk_42 (dk_at dksX2_reverse_0 7 rfl rfl)
theorem dX2_reverse_8 : decode cX2_reverse 8 = .ok (.arraylength, 1) := dk_190 (dk_at dksX2_reverse_0 8 rfl rfl)
theorem dX2_reverse_9 : decode cX2_reverse 9 = .ok (.invokestatic 36, 3) := dk_184 0 36 (dk_at dksX2_reverse_0 9 rfl rfl)
theorem dX2_reverse_12 : decode cX2_reverse 12 = .ok (.iload_n 1, 1) := dk_27 (dk_at dksX2_reverse_0 12 rfl rfl)
theorem dX2_reverse_13 : decode cX2_reverse 13 = .ok (.istore_n 3, 1) := dk_62 (dk_at dksX2_reverse_0 13 rfl rfl)
theorem dX2_reverse_14 : decode cX2_reverse 14 = .ok (.iload_n 2, 1) := dk_28 (dk_at dksX2_reverse_0 14 rfl rfl)
theorem dX2_reverse_15 : decode cX2_reverse 15 = .ok (.iconst 1, 1) := dk_4 (dk_at dksX2_reverse_0 15 rfl rfl)
theorem dX2_reverse_16 : decode cX2_reverse 16 = .ok (.isub, 1) := dk_100 (dk_at dksX2_reverse_0 16 rfl rfl)
theorem dX2_reverse_17 : decode cX2_reverse 17 = .ok (.istore 4, 2) := dk_54 4 (dk_at dksX2_reverse_0 17 rfl rfl)
theorem dX2_reverse_19 : decode cX2_reverse 19 = .ok (.iload_n 3, 1) := dk_29 (dk_at dksX2_reverse_0 19 rfl rfl)
theorem dX2_reverse_20 : decode cX2_reverse 20 = .ok (.iload 4, 2) := dk_21 4 (dk_at dksX2_reverse_0 20 rfl rfl)
theorem dX2_reverse_22 : decode cX2_reverse 22 = .ok (.if_icmp .ge 30, 3) := dk_162 0 30 (dk_at dksX2_reverse_1 0 rfl rfl)
theorem dX2_reverse_25 : decode cX2_reverse 25 = .ok (.aload_n 0, 1) := dk_42 (dk_at dksX2_reverse_1 3 rfl rfl)
theorem dX2_reverse_26 : decode cX2_reverse 26 = .ok (.iload_n 3, 1) := dk_29 (dk_at dksX2_reverse_1 4 rfl rfl)
theorem dX2_reverse_27 : decode cX2_reverse 27 = .ok (.laload, 1) := dk_47 (dk_at dksX2_reverse_1 5 rfl rfl)
theorem dX2_reverse_28 : decode cX2_reverse 28 = .ok (.lstore 5, 2) := dk_55 5 (dk_at dksX2_reverse_1 6 rfl rfl)
theorem dX2_reverse_30 : decode cX2_reverse 30 = .ok (.aload_n 0, 1) := dk_42 (dk_at dksX2_reverse_1 8 rfl rfl)
theorem dX2_reverse_31 : decode cX2_reverse 31 = .ok (.iload_n 3, 1) := dk_29 (dk_at dksX2_reverse_1 9 rfl rfl)
theorem dX2_reverse_32 : decode cX2_reverse 32 = .ok (.aload_n 0, 1) := dk_42 (dk_at dksX2_reverse_1 10 rfl rfl)
theorem dX2_reverse_33 : decode cX2_reverse 33 = .ok (.iload 4, 2) := dk_21 4 (dk_at dksX2_reverse_1 11 rfl rfl)
theorem dX2_reverse_35 : decode cX2_reverse 35 = .ok (.laload, 1) := dk_47 (dk_at dksX2_reverse_1 13 rfl rfl)
theorem dX2_reverse_36 : decode cX2_reverse 36 = .ok (.lastore, 1) := dk_80 (dk_at dksX2_reverse_1 14 rfl rfl)
theorem dX2_reverse_37 : decode cX2_reverse 37 = .ok (.aload_n 0, 1) := dk_42 (dk_at dksX2_reverse_1 15 rfl rfl)
theorem dX2_reverse_38 : decode cX2_reverse 38 = .ok (.iload 4, 2) := dk_21 4 (dk_at dksX2_reverse_1 16 rfl rfl)
theorem dX2_reverse_40 : decode cX2_reverse 40 = .ok (.lload 5, 2) := dk_22 5 (dk_at dksX2_reverse_1 18 rfl rfl)
theorem dX2_reverse_42 : decode cX2_reverse 42 = .ok (.lastore, 1) := dk_80 (dk_at dksX2_reverse_1 20 rfl rfl)
theorem dX2_reverse_43 : decode cX2_reverse 43 = .ok (.iinc 3 1, 3) := dk_132 3 1 (dk_at dksX2_reverse_1 21 rfl rfl)
theorem dX2_reverse_46 : decode cX2_reverse 46 = .ok (.iinc 4 (-1), 3) := dk_132 4 255 (dk_at dksX2_reverse_2 0 rfl rfl)
theorem dX2_reverse_49 : decode cX2_reverse 49 = .ok (.goto (-30), 3) := dk_167 255 226 (dk_at dksX2_reverse_2 3 rfl rfl)
theorem dX2_reverse_52 : decode cX2_reverse 52 = .ok (.return_, 1) := dk_177 (dk_at dksX2_reverse_2 6 rfl rfl)
abbrev cX2_indexOf : ByteArray := prog_3_method_2_code
def yX2_indexOf : MethodName := ⟨RX2, "indexOf", "([JJ)I"⟩
def dkwX2_indexOf_0 : List UInt8 := [42, 31, 3, 42, 190, 184, 0, 1, 172]
abbrev dktX2_indexOf_0 : List UInt8 := dkwX2_indexOf_0 ++ []
theorem dksX2_indexOf_0 : cX2_indexOf.data.toList.drop 0 = dktX2_indexOf_0 := by decide +kernel
theorem dX2_indexOf_0 : decode cX2_indexOf 0 = .ok (.aload_n 0, 1) := dk_42 (dk_at dksX2_indexOf_0 0 rfl rfl)
theorem dX2_indexOf_1 : decode cX2_indexOf 1 = .ok (.lload_n 1, 1) := dk_31 (dk_at dksX2_indexOf_0 1 rfl rfl)
theorem dX2_indexOf_2 : decode cX2_indexOf 2 = .ok (.iconst 0, 1) := dk_3 (dk_at dksX2_indexOf_0 2 rfl rfl)
theorem dX2_indexOf_3 : decode cX2_indexOf 3 = .ok (.aload_n 0, 1) := dk_42 (dk_at dksX2_indexOf_0 3 rfl rfl)
theorem dX2_indexOf_4 : decode cX2_indexOf 4 = .ok (.arraylength, 1) := dk_190 (dk_at dksX2_indexOf_0 4 rfl rfl)
theorem dX2_indexOf_5 : decode cX2_indexOf 5 = .ok (.invokestatic 1, 3) := dk_184 0 1 (dk_at dksX2_indexOf_0 5 rfl rfl)
theorem dX2_indexOf_8 : decode cX2_indexOf 8 = .ok (.ireturn, 1) := dk_172 (dk_at dksX2_indexOf_0 8 rfl rfl)
abbrev cX2_indexOf_2 : ByteArray := prog_3_method_3_code
def yX2_indexOf_2 : MethodName := ⟨RX2, "indexOf", "([JJII)I"⟩
def dkwX2_indexOf_2_1 : List UInt8 := [132, 5, 1, 167, 255, 234, 2, 172]
abbrev dktX2_indexOf_2_1 : List UInt8 := dkwX2_indexOf_2_1 ++ []
def dkwX2_indexOf_2_0 : List UInt8 := [29, 54, 5, 21, 5, 21, 4, 162, 0, 21, 42, 21, 5, 47, 31, 148, 154, 0, 6, 21, 5, 172]
abbrev dktX2_indexOf_2_0 : List UInt8 := dkwX2_indexOf_2_0 ++ dktX2_indexOf_2_1
theorem dksX2_indexOf_2_0 : cX2_indexOf_2.data.toList.drop 0 = dktX2_indexOf_2_0 := by decide +kernel
theorem dksX2_indexOf_2_1 : cX2_indexOf_2.data.toList.drop 22 = dktX2_indexOf_2_1 := dk_seg dksX2_indexOf_2_0 22 rfl rfl
theorem dX2_indexOf_2_0 : decode cX2_indexOf_2 0 = .ok (.iload_n 3, 1) := dk_29 (dk_at dksX2_indexOf_2_0 0 rfl rfl)
theorem dX2_indexOf_2_1 : decode cX2_indexOf_2 1 = .ok (.istore 5, 2) := dk_54 5 (dk_at dksX2_indexOf_2_0 1 rfl rfl)
theorem dX2_indexOf_2_3 : decode cX2_indexOf_2 3 = .ok (.iload 5, 2) := dk_21 5 (dk_at dksX2_indexOf_2_0 3 rfl rfl)
theorem dX2_indexOf_2_5 : decode cX2_indexOf_2 5 = .ok (.iload 4, 2) := dk_21 4 (dk_at dksX2_indexOf_2_0 5 rfl rfl)
theorem dX2_indexOf_2_7 : decode cX2_indexOf_2 7 = .ok (.if_icmp .ge 21, 3) := dk_162 0 21 (dk_at dksX2_indexOf_2_0 7 rfl rfl)
theorem dX2_indexOf_2_10 : decode cX2_indexOf_2 10 = .ok (.aload_n 0, 1) := dk_42 (dk_at dksX2_indexOf_2_0 10 rfl rfl)
theorem dX2_indexOf_2_11 : decode cX2_indexOf_2 11 = .ok (.iload 5, 2) := dk_21 5 (dk_at dksX2_indexOf_2_0 11 rfl rfl)
theorem dX2_indexOf_2_13 : decode cX2_indexOf_2 13 = .ok (.laload, 1) := dk_47 (dk_at dksX2_indexOf_2_0 13 rfl rfl)
theorem dX2_indexOf_2_14 : decode cX2_indexOf_2 14 = .ok (.lload_n 1, 1) := dk_31 (dk_at dksX2_indexOf_2_0 14 rfl rfl)
theorem dX2_indexOf_2_15 : decode cX2_indexOf_2 15 = .ok (.lcmp, 1) := dk_148 (dk_at dksX2_indexOf_2_0 15 rfl rfl)
theorem dX2_indexOf_2_16 : decode cX2_indexOf_2 16 = .ok (.ifCond .ne 6, 3) := dk_154 0 6 (dk_at dksX2_indexOf_2_0 16 rfl rfl)
theorem dX2_indexOf_2_19 : decode cX2_indexOf_2 19 = .ok (.iload 5, 2) := dk_21 5 (dk_at dksX2_indexOf_2_0 19 rfl rfl)
theorem dX2_indexOf_2_21 : decode cX2_indexOf_2 21 = .ok (.ireturn, 1) := dk_172 (dk_at dksX2_indexOf_2_0 21 rfl rfl)
theorem dX2_indexOf_2_22 : decode cX2_indexOf_2 22 = .ok (.iinc 5 1, 3) := dk_132 5 1 (dk_at dksX2_indexOf_2_1 0 rfl rfl)
theorem dX2_indexOf_2_25 : decode cX2_indexOf_2 25 = .ok (.goto (-22), 3) := dk_167 255 234 (dk_at dksX2_indexOf_2_1 3 rfl rfl)
theorem dX2_indexOf_2_28 : decode cX2_indexOf_2 28 = .ok (.iconst (-1), 1) := dk_2 (dk_at dksX2_indexOf_2_1 6 rfl rfl)
theorem dX2_indexOf_2_29 : decode cX2_indexOf_2 29 = .ok (.ireturn, 1) := dk_172 (dk_at dksX2_indexOf_2_1 7 rfl rfl)
abbrev cX2_lastIndexOf : ByteArray := prog_3_method_4_code
def yX2_lastIndexOf : MethodName := ⟨RX2, "lastIndexOf", "([JJ)I"⟩
def dkwX2_lastIndexOf_0 : List UInt8 := [42, 31, 3, 42, 190, 184, 0, 7, 172]
abbrev dktX2_lastIndexOf_0 : List UInt8 := dkwX2_lastIndexOf_0 ++ []
theorem dksX2_lastIndexOf_0 : cX2_lastIndexOf.data.toList.drop 0 = dktX2_lastIndexOf_0 := by decide +kernel
theorem dX2_lastIndexOf_0 : decode cX2_lastIndexOf 0 = .ok (.aload_n 0, 1) := dk_42 (dk_at dksX2_lastIndexOf_0 0 rfl rfl)
theorem dX2_lastIndexOf_1 : decode cX2_lastIndexOf 1 = .ok (.lload_n 1, 1) := dk_31 (dk_at dksX2_lastIndexOf_0 1 rfl rfl)
theorem dX2_lastIndexOf_2 : decode cX2_lastIndexOf 2 = .ok (.iconst 0, 1) := dk_3 (dk_at dksX2_lastIndexOf_0 2 rfl rfl)
theorem dX2_lastIndexOf_3 : decode cX2_lastIndexOf 3 = .ok (.aload_n 0, 1) := dk_42 (dk_at dksX2_lastIndexOf_0 3 rfl rfl)
theorem dX2_lastIndexOf_4 : decode cX2_lastIndexOf 4 = .ok (.arraylength, 1) := dk_190 (dk_at dksX2_lastIndexOf_0 4 rfl rfl)
theorem dX2_lastIndexOf_5 : decode cX2_lastIndexOf 5 = .ok (.invokestatic 7, 3) := dk_184 0 7 (dk_at dksX2_lastIndexOf_0 5 rfl rfl)
theorem dX2_lastIndexOf_8 : decode cX2_lastIndexOf 8 = .ok (.ireturn, 1) := dk_172 (dk_at dksX2_lastIndexOf_0 8 rfl rfl)
abbrev cX2_lastIndexOf_2 : ByteArray := prog_3_method_5_code
def yX2_lastIndexOf_2 : MethodName := ⟨RX2, "lastIndexOf", "([JJII)I"⟩
def dkwX2_lastIndexOf_2_1 : List UInt8 := [132, 5, 255, 167, 255, 235, 2, 172]
abbrev dktX2_lastIndexOf_2_1 : List UInt8 := dkwX2_lastIndexOf_2_1 ++ []
def dkwX2_lastIndexOf_2_0 : List UInt8 := [21, 4, 4, 100, 54, 5, 21, 5, 29, 161, 0, 21, 42, 21, 5, 47, 31, 148, 154, 0, 6, 21, 5, 172]
abbrev dktX2_lastIndexOf_2_0 : List UInt8 := dkwX2_lastIndexOf_2_0 ++ dktX2_lastIndexOf_2_1
theorem dksX2_lastIndexOf_2_0 : cX2_lastIndexOf_2.data.toList.drop 0 = dktX2_lastIndexOf_2_0 := by decide +kernel
theorem dksX2_lastIndexOf_2_1 : cX2_lastIndexOf_2.data.toList.drop 24 = dktX2_lastIndexOf_2_1 := dk_seg dksX2_lastIndexOf_2_0 24 rfl rfl
theorem dX2_lastIndexOf_2_0 : decode cX2_lastIndexOf_2 0 = .ok (.iload 4, 2) := dk_21 4 (dk_at dksX2_lastIndexOf_2_0 0 rfl rfl)
theorem dX2_lastIndexOf_2_2 : decode cX2_lastIndexOf_2 2 = .ok (.iconst 1, 1) := dk_4 (dk_at dksX2_lastIndexOf_2_0 2 rfl rfl)
theorem dX2_lastIndexOf_2_3 : decode cX2_lastIndexOf_2 3 = .ok (.isub, 1) := dk_100 (dk_at dksX2_lastIndexOf_2_0 3 rfl rfl)
theorem dX2_lastIndexOf_2_4 : decode cX2_lastIndexOf_2 4 = .ok (.istore 5, 2) := dk_54 5 (dk_at dksX2_lastIndexOf_2_0 4 rfl rfl)
theorem dX2_lastIndexOf_2_6 : decode cX2_lastIndexOf_2 6 = .ok (.iload 5, 2) := dk_21 5 (dk_at dksX2_lastIndexOf_2_0 6 rfl rfl)
theorem dX2_lastIndexOf_2_8 : decode cX2_lastIndexOf_2 8 = .ok (.iload_n 3, 1) := dk_29 (dk_at dksX2_lastIndexOf_2_0 8 rfl rfl)
theorem dX2_lastIndexOf_2_9 : decode cX2_lastIndexOf_2 9 = .ok (.if_icmp .lt 21, 3) := dk_161 0 21 (dk_at dksX2_lastIndexOf_2_0 9 rfl rfl)
theorem dX2_lastIndexOf_2_12 : decode cX2_lastIndexOf_2 12 = .ok (.aload_n 0, 1) := dk_42 (dk_at dksX2_lastIndexOf_2_0 12 rfl rfl)
theorem dX2_lastIndexOf_2_13 : decode cX2_lastIndexOf_2 13 = .ok (.iload 5, 2) := dk_21 5 (dk_at dksX2_lastIndexOf_2_0 13 rfl rfl)
theorem dX2_lastIndexOf_2_15 : decode cX2_lastIndexOf_2 15 = .ok (.laload, 1) := dk_47 (dk_at dksX2_lastIndexOf_2_0 15 rfl rfl)
theorem dX2_lastIndexOf_2_16 : decode cX2_lastIndexOf_2 16 = .ok (.lload_n 1, 1) := dk_31 (dk_at dksX2_lastIndexOf_2_0 16 rfl rfl)
theorem dX2_lastIndexOf_2_17 : decode cX2_lastIndexOf_2 17 = .ok (.lcmp, 1) := dk_148 (dk_at dksX2_lastIndexOf_2_0 17 rfl rfl)
theorem dX2_lastIndexOf_2_18 : decode cX2_lastIndexOf_2 18 = .ok (.ifCond .ne 6, 3) := dk_154 0 6 (dk_at dksX2_lastIndexOf_2_0 18 rfl rfl)
theorem dX2_lastIndexOf_2_21 : decode cX2_lastIndexOf_2 21 = .ok (.iload 5, 2) := dk_21 5 (dk_at dksX2_lastIndexOf_2_0 21 rfl rfl)
theorem dX2_lastIndexOf_2_23 : decode cX2_lastIndexOf_2 23 = .ok (.ireturn, 1) := dk_172 (dk_at dksX2_lastIndexOf_2_0 23 rfl rfl)
theorem dX2_lastIndexOf_2_24 : decode cX2_lastIndexOf_2 24 = .ok (.iinc 5 (-1), 3) := dk_132 5 255 (dk_at dksX2_lastIndexOf_2_1 0 rfl rfl)
theorem dX2_lastIndexOf_2_27 : decode cX2_lastIndexOf_2 27 = .ok (.goto (-21), 3) := dk_167 255 235 (dk_at dksX2_lastIndexOf_2_1 3 rfl rfl)
theorem dX2_lastIndexOf_2_30 : decode cX2_lastIndexOf_2 30 = .ok (.iconst (-1), 1) := dk_2 (dk_at dksX2_lastIndexOf_2_1 6 rfl rfl)
theorem dX2_lastIndexOf_2_31 : decode cX2_lastIndexOf_2 31 = .ok (.ireturn, 1) := dk_172 (dk_at dksX2_lastIndexOf_2_1 7 rfl rfl)
abbrev cX2_contains : ByteArray := prog_3_method_1_code
def yX2_contains : MethodName := ⟨RX2, "contains", "([JJ)Z"⟩
def dkwX2_contains_1 : List UInt8 := [31, 148, 154, 0, 5, 4, 172, 132, 5, 1, 167, 255, 231, 3, 172]
abbrev dktX2_contains_1 : List UInt8 := dkwX2_contains_1 ++ []
def dkwX2_contains_0 : List UInt8 := [42, 78, 45, 190, 54, 4, 3, 54, 5, 21, 5, 21, 4, 162, 0, 24, 45, 21, 5, 47, 55, 6, 22, 6]
abbrev dktX2_contains_0 : List UInt8 := dkwX2_contains_0 ++ dktX2_contains_1
theorem dksX2_contains_0 : cX2_contains.data.toList.drop 0 = dktX2_contains_0 := by decide +kernel
theorem dksX2_contains_1 : cX2_contains.data.toList.drop 24 = dktX2_contains_1 := dk_seg dksX2_contains_0 24 rfl rfl
theorem dX2_contains_0 : decode cX2_contains 0 = .ok (.aload_n 0, 1) := dk_42 (dk_at dksX2_contains_0 0 rfl rfl)
theorem dX2_contains_1 : decode cX2_contains 1 = .ok (.astore_n 3, 1) := dk_78 (dk_at dksX2_contains_0 1 rfl rfl)
theorem dX2_contains_2 : decode cX2_contains 2 = .ok (.aload_n 3, 1) := dk_45 (dk_at dksX2_contains_0 2 rfl rfl)
theorem dX2_contains_3 : decode cX2_contains 3 = .ok (.arraylength, 1) := dk_190 (dk_at dksX2_contains_0 3 rfl rfl)
theorem dX2_contains_4 : decode cX2_contains 4 = .ok (.istore 4, 2) := dk_54 4 (dk_at dksX2_contains_0 4 rfl rfl)
theorem dX2_contains_6 : decode cX2_contains 6 = .ok (.iconst 0, 1) := dk_3 (dk_at dksX2_contains_0 6 rfl rfl)
theorem dX2_contains_7 : decode cX2_contains 7 = .ok (.istore 5, 2) := dk_54 5 (dk_at dksX2_contains_0 7 rfl rfl)
theorem dX2_contains_9 : decode cX2_contains 9 = .ok (.iload 5, 2) := dk_21 5 (dk_at dksX2_contains_0 9 rfl rfl)
theorem dX2_contains_11 : decode cX2_contains 11 = .ok (.iload 4, 2) := dk_21 4 (dk_at dksX2_contains_0 11 rfl rfl)
theorem dX2_contains_13 : decode cX2_contains 13 = .ok (.if_icmp .ge 24, 3) := dk_162 0 24 (dk_at dksX2_contains_0 13 rfl rfl)
theorem dX2_contains_16 : decode cX2_contains 16 = .ok (.aload_n 3, 1) := dk_45 (dk_at dksX2_contains_0 16 rfl rfl)
theorem dX2_contains_17 : decode cX2_contains 17 = .ok (.iload 5, 2) := dk_21 5 (dk_at dksX2_contains_0 17 rfl rfl)
theorem dX2_contains_19 : decode cX2_contains 19 = .ok (.laload, 1) := dk_47 (dk_at dksX2_contains_0 19 rfl rfl)
theorem dX2_contains_20 : decode cX2_contains 20 = .ok (.lstore 6, 2) := dk_55 6 (dk_at dksX2_contains_0 20 rfl rfl)
theorem dX2_contains_22 : decode cX2_contains 22 = .ok (.lload 6, 2) := dk_22 6 (dk_at dksX2_contains_0 22 rfl rfl)
theorem dX2_contains_24 : decode cX2_contains 24 = .ok (.lload_n 1, 1) := dk_31 (dk_at dksX2_contains_1 0 rfl rfl)
theorem dX2_contains_25 : decode cX2_contains 25 = .ok (.lcmp, 1) := dk_148 (dk_at dksX2_contains_1 1 rfl rfl)
theorem dX2_contains_26 : decode cX2_contains 26 = .ok (.ifCond .ne 5, 3) := dk_154 0 5 (dk_at dksX2_contains_1 2 rfl rfl)
theorem dX2_contains_29 : decode cX2_contains 29 = .ok (.iconst 1, 1) := dk_4 (dk_at dksX2_contains_1 5 rfl rfl)
theorem dX2_contains_30 : decode cX2_contains 30 = .ok (.ireturn, 1) := dk_172 (dk_at dksX2_contains_1 6 rfl rfl)
theorem dX2_contains_31 : decode cX2_contains 31 = .ok (.iinc 5 1, 3) := dk_132 5 1 (dk_at dksX2_contains_1 7 rfl rfl)
theorem dX2_contains_34 : decode cX2_contains 34 = .ok (.goto (-25), 3) := dk_167 255 231 (dk_at dksX2_contains_1 10 rfl rfl)
theorem dX2_contains_37 : decode cX2_contains 37 = .ok (.iconst 0, 1) := dk_3 (dk_at dksX2_contains_1 13 rfl rfl)
theorem dX2_contains_38 : decode cX2_contains 38 = .ok (.ireturn, 1) := dk_172 (dk_at dksX2_contains_1 14 rfl rfl)
abbrev cX2_max : ByteArray := prog_3_method_7_code
def yX2_max : MethodName := ⟨RX2, "max", "([J)J"⟩
def dkwX2_max_1 : List UInt8 := [162, 0, 21, 42, 29, 47, 31, 148, 158, 0, 7, 42, 29, 47, 64, 132, 3, 1, 167, 255, 235, 31, 173]
abbrev dktX2_max_1 : List UInt8 := dkwX2_max_1 ++ []
def dkwX2_max_0 : List UInt8 := [42, 190, 158, 0, 7, 4, 167, 0, 4, 3, 184, 0, 10, 42, 3, 47, 64, 4, 62, 29, 42, 190]
abbrev dktX2_max_0 : List UInt8 := dkwX2_max_0 ++ dktX2_max_1
theorem dksX2_max_0 : cX2_max.data.toList.drop 0 = dktX2_max_0 := by decide +kernel
theorem dksX2_max_1 : cX2_max.data.toList.drop 22 = dktX2_max_1 := dk_seg dksX2_max_0 22 rfl rfl
theorem dX2_max_0 : decode cX2_max 0 = .ok (.aload_n 0, 1) := dk_42 (dk_at dksX2_max_0 0 rfl rfl)
theorem dX2_max_1 : decode cX2_max 1 = .ok (.arraylength, 1) := dk_190 (dk_at dksX2_max_0 1 rfl rfl)
theorem dX2_max_2 : decode cX2_max 2 = .ok (.ifCond .le 7, 3) := dk_158 0 7 (dk_at dksX2_max_0 2 rfl rfl)
theorem dX2_max_5 : decode cX2_max 5 = .ok (.iconst 1, 1) := dk_4 (dk_at dksX2_max_0 5 rfl rfl)
theorem dX2_max_6 : decode cX2_max 6 = .ok (.goto 4, 3) := dk_167 0 4 (dk_at dksX2_max_0 6 rfl rfl)
theorem dX2_max_9 : decode cX2_max 9 = .ok (.iconst 0, 1) := dk_3 (dk_at dksX2_max_0 9 rfl rfl)
theorem dX2_max_10 : decode cX2_max 10 = .ok (.invokestatic 10, 3) := dk_184 0 10 (dk_at dksX2_max_0 10 rfl rfl)
theorem dX2_max_13 : decode cX2_max 13 = .ok (.aload_n 0, 1) := dk_42 (dk_at dksX2_max_0 13 rfl rfl)
theorem dX2_max_14 : decode cX2_max 14 = .ok (.iconst 0, 1) := dk_3 (dk_at dksX2_max_0 14 rfl rfl)
theorem dX2_max_15 : decode cX2_max 15 = .ok (.laload, 1) := dk_47 (dk_at dksX2_max_0 15 rfl rfl)
theorem dX2_max_16 : decode cX2_max 16 = .ok (.lstore_n 1, 1) := dk_64 (dk_at dksX2_max_0 16 rfl rfl)
theorem dX2_max_17 : decode cX2_max 17 = .ok (.iconst 1, 1) := dk_4 (dk_at dksX2_max_0 17 rfl rfl)
theorem dX2_max_18 : decode cX2_max 18 = .ok (.istore_n 3, 1) := dk_62 (dk_at dksX2_max_0 18 rfl rfl)
theorem dX2_max_19 : decode cX2_max 19 = .ok (.iload_n 3, 1) := dk_29 (dk_at dksX2_max_0 19 rfl rfl)
theorem dX2_max_20 : decode cX2_max 20 = .ok (.aload_n 0, 1) := dk_42 (dk_at dksX2_max_0 20 rfl rfl)
theorem dX2_max_21 : decode cX2_max 21 = .ok (.arraylength, 1) := dk_190 (dk_at dksX2_max_0 21 rfl rfl)
theorem dX2_max_22 : decode cX2_max 22 = .ok (.if_icmp .ge 21, 3) := dk_162 0 21 (dk_at dksX2_max_1 0 rfl rfl)
theorem dX2_max_25 : decode cX2_max 25 = .ok (.aload_n 0, 1) := dk_42 (dk_at dksX2_max_1 3 rfl rfl)
theorem dX2_max_26 : decode cX2_max 26 = .ok (.iload_n 3, 1) := dk_29 (dk_at dksX2_max_1 4 rfl rfl)
theorem dX2_max_27 : decode cX2_max 27 = .ok (.laload, 1) := dk_47 (dk_at dksX2_max_1 5 rfl rfl)
theorem dX2_max_28 : decode cX2_max 28 = .ok (.lload_n 1, 1) := dk_31 (dk_at dksX2_max_1 6 rfl rfl)
theorem dX2_max_29 : decode cX2_max 29 = .ok (.lcmp, 1) := dk_148 (dk_at dksX2_max_1 7 rfl rfl)
theorem dX2_max_30 : decode cX2_max 30 = .ok (.ifCond .le 7, 3) := dk_158 0 7 (dk_at dksX2_max_1 8 rfl rfl)
theorem dX2_max_33 : decode cX2_max 33 = .ok (.aload_n 0, 1) := dk_42 (dk_at dksX2_max_1 11 rfl rfl)
theorem dX2_max_34 : decode cX2_max 34 = .ok (.iload_n 3, 1) := dk_29 (dk_at dksX2_max_1 12 rfl rfl)
theorem dX2_max_35 : decode cX2_max 35 = .ok (.laload, 1) := dk_47 (dk_at dksX2_max_1 13 rfl rfl)
theorem dX2_max_36 : decode cX2_max 36 = .ok (.lstore_n 1, 1) := dk_64 (dk_at dksX2_max_1 14 rfl rfl)
theorem dX2_max_37 : decode cX2_max 37 = .ok (.iinc 3 1, 3) := dk_132 3 1 (dk_at dksX2_max_1 15 rfl rfl)
theorem dX2_max_40 : decode cX2_max 40 = .ok (.goto (-21), 3) := dk_167 255 235 (dk_at dksX2_max_1 18 rfl rfl)
theorem dX2_max_43 : decode cX2_max 43 = .ok (.lload_n 1, 1) := dk_31 (dk_at dksX2_max_1 21 rfl rfl)
theorem dX2_max_44 : decode cX2_max 44 = .ok (.lreturn, 1) := dk_173 (dk_at dksX2_max_1 22 rfl rfl)
abbrev cX2_min : ByteArray := prog_3_method_6_code
def yX2_min : MethodName := ⟨RX2, "min", "([J)J"⟩
def dkwX2_min_1 : List UInt8 := [162, 0, 21, 42, 29, 47, 31, 148, 156, 0, 7, 42, 29, 47, 64, 132, 3, 1, 167, 255, 235, 31, 173]
abbrev dktX2_min_1 : List UInt8 := dkwX2_min_1 ++ []
def dkwX2_min_0 : List UInt8 := [42, 190, 158, 0, 7, 4, 167, 0, 4, 3, 184, 0, 10, 42, 3, 47, 64, 4, 62, 29, 42, 190]
abbrev dktX2_min_0 : List UInt8 := dkwX2_min_0 ++ dktX2_min_1
theorem dksX2_min_0 : cX2_min.data.toList.drop 0 = dktX2_min_0 := by decide +kernel
theorem dksX2_min_1 : cX2_min.data.toList.drop 22 = dktX2_min_1 := dk_seg dksX2_min_0 22 rfl rfl
theorem dX2_min_0 : decode cX2_min 0 = .ok (.aload_n 0, 1) := dk_42 (dk_at dksX2_min_0 0 rfl rfl)
theorem dX2_min_1 : decode cX2_min 1 = .ok (.arraylength, 1) := dk_190 (dk_at dksX2_min_0 1 rfl rfl)
theorem dX2_min_2 : decode cX2_min 2 = .ok (.ifCond .le 7, 3) := dk_158 0 7 (dk_at dksX2_min_0 2 rfl rfl)
theorem dX2_min_5 : decode cX2_min 5 = .ok (.iconst 1, 1) := dk_4 (dk_at dksX2_min_0 5 rfl rfl)
theorem dX2_min_6 : decode cX2_min 6 = .ok (.goto 4, 3) := dk_167 0 4 (dk_at dksX2_min_0 6 rfl rfl)
theorem dX2_min_9 : decode cX2_min 9 = .ok (.iconst 0, 1) := dk_3 (dk_at dksX2_min_0 9 rfl rfl)
theorem dX2_min_10 : decode cX2_min 10 = .ok (.invokestatic 10, 3) := dk_184 0 10 (dk_at dksX2_min_0 10 rfl rfl)
theorem dX2_min_13 : decode cX2_min 13 = .ok (.aload_n 0, 1) := dk_42 (dk_at dksX2_min_0 13 rfl rfl)
theorem dX2_min_14 : decode cX2_min 14 = .ok (.iconst 0, 1) := dk_3 (dk_at dksX2_min_0 14 rfl rfl)
theorem dX2_min_15 : decode cX2_min 15 = .ok (.laload, 1) := dk_47 (dk_at dksX2_min_0 15 rfl rfl)
theorem dX2_min_16 : decode cX2_min 16 = .ok (.lstore_n 1, 1) := dk_64 (dk_at dksX2_min_0 16 rfl rfl)
theorem dX2_min_17 : decode cX2_min 17 = .ok (.iconst 1, 1) := dk_4 (dk_at dksX2_min_0 17 rfl rfl)
theorem dX2_min_18 : decode cX2_min 18 = .ok (.istore_n 3, 1) := dk_62 (dk_at dksX2_min_0 18 rfl rfl)
theorem dX2_min_19 : decode cX2_min 19 = .ok (.iload_n 3, 1) := dk_29 (dk_at dksX2_min_0 19 rfl rfl)
theorem dX2_min_20 : decode cX2_min 20 = .ok (.aload_n 0, 1) := dk_42 (dk_at dksX2_min_0 20 rfl rfl)
theorem dX2_min_21 : decode cX2_min 21 = .ok (.arraylength, 1) := dk_190 (dk_at dksX2_min_0 21 rfl rfl)
theorem dX2_min_22 : decode cX2_min 22 = .ok (.if_icmp .ge 21, 3) := dk_162 0 21 (dk_at dksX2_min_1 0 rfl rfl)
theorem dX2_min_25 : decode cX2_min 25 = .ok (.aload_n 0, 1) := dk_42 (dk_at dksX2_min_1 3 rfl rfl)
theorem dX2_min_26 : decode cX2_min 26 = .ok (.iload_n 3, 1) := dk_29 (dk_at dksX2_min_1 4 rfl rfl)
theorem dX2_min_27 : decode cX2_min 27 = .ok (.laload, 1) := dk_47 (dk_at dksX2_min_1 5 rfl rfl)
theorem dX2_min_28 : decode cX2_min 28 = .ok (.lload_n 1, 1) := dk_31 (dk_at dksX2_min_1 6 rfl rfl)
theorem dX2_min_29 : decode cX2_min 29 = .ok (.lcmp, 1) := dk_148 (dk_at dksX2_min_1 7 rfl rfl)
theorem dX2_min_30 : decode cX2_min 30 = .ok (.ifCond .ge 7, 3) := dk_156 0 7 (dk_at dksX2_min_1 8 rfl rfl)
theorem dX2_min_33 : decode cX2_min 33 = .ok (.aload_n 0, 1) := dk_42 (dk_at dksX2_min_1 11 rfl rfl)
theorem dX2_min_34 : decode cX2_min 34 = .ok (.iload_n 3, 1) := dk_29 (dk_at dksX2_min_1 12 rfl rfl)
theorem dX2_min_35 : decode cX2_min 35 = .ok (.laload, 1) := dk_47 (dk_at dksX2_min_1 13 rfl rfl)
theorem dX2_min_36 : decode cX2_min 36 = .ok (.lstore_n 1, 1) := dk_64 (dk_at dksX2_min_1 14 rfl rfl)
theorem dX2_min_37 : decode cX2_min 37 = .ok (.iinc 3 1, 3) := dk_132 3 1 (dk_at dksX2_min_1 15 rfl rfl)
theorem dX2_min_40 : decode cX2_min 40 = .ok (.goto (-21), 3) := dk_167 255 235 (dk_at dksX2_min_1 18 rfl rfl)
theorem dX2_min_43 : decode cX2_min 43 = .ok (.lload_n 1, 1) := dk_31 (dk_at dksX2_min_1 21 rfl rfl)
theorem dX2_min_44 : decode cX2_min 44 = .ok (.lreturn, 1) := dk_173 (dk_at dksX2_min_1 22 rfl rfl)
abbrev cX2_toByteArray : ByteArray := prog_3_method_9_code
def yX2_toByteArray : MethodName := ⟨RX2, "toByteArray", "(J)[B"⟩
def dkwX2_toByteArray_1 : List UInt8 := [16, 8, 123, 63, 132, 3, 255, 167, 255, 234, 44, 176]
abbrev dktX2_toByteArray_1 : List UInt8 := dkwX2_toByteArray_1 ++ []
def dkwX2_toByteArray_0 : List UInt8 := [16, 8, 188, 8, 77, 16, 7, 62, 29, 155, 0, 24, 44, 29, 30, 20, 0, 30, 127, 136, 145, 84, 30]
abbrev dktX2_toByteArray_0 : List UInt8 := dkwX2_toByteArray_0 ++ dktX2_toByteArray_1
theorem dksX2_toByteArray_0 : cX2_toByteArray.data.toList.drop 0 = dktX2_toByteArray_0 := by decide +kernel
theorem dksX2_toByteArray_1 : cX2_toByteArray.data.toList.drop 23 = dktX2_toByteArray_1 := dk_seg dksX2_toByteArray_0 23 rfl rfl
theorem dX2_toByteArray_0 : decode cX2_toByteArray 0 = .ok (.bipush 8, 2) := dk_16 8 (dk_at dksX2_toByteArray_0 0 rfl rfl)
theorem dX2_toByteArray_2 : decode cX2_toByteArray 2 = .ok (.newarray .byte, 2) := dk_188_8 (dk_at dksX2_toByteArray_0 2 rfl rfl)
theorem dX2_toByteArray_4 : decode cX2_toByteArray 4 = .ok (.astore_n 2, 1) := dk_77 (dk_at dksX2_toByteArray_0 4 rfl rfl)
theorem dX2_toByteArray_5 : decode cX2_toByteArray 5 = .ok (.bipush 7, 2) := dk_16 7 (dk_at dksX2_toByteArray_0 5 rfl rfl)
theorem dX2_toByteArray_7 : decode cX2_toByteArray 7 = .ok (.istore_n 3, 1) := dk_62 (dk_at dksX2_toByteArray_0 7 rfl rfl)
theorem dX2_toByteArray_8 : decode cX2_toByteArray 8 = .ok (.iload_n 3, 1) := dk_29 (dk_at dksX2_toByteArray_0 8 rfl rfl)
theorem dX2_toByteArray_9 : decode cX2_toByteArray 9 = .ok (.ifCond .lt 24, 3) := dk_155 0 24 (dk_at dksX2_toByteArray_0 9 rfl rfl)
theorem dX2_toByteArray_12 : decode cX2_toByteArray 12 = .ok (.aload_n 2, 1) := dk_44 (dk_at dksX2_toByteArray_0 12 rfl rfl)
theorem dX2_toByteArray_13 : decode cX2_toByteArray 13 = .ok (.iload_n 3, 1) := dk_29 (dk_at dksX2_toByteArray_0 13 rfl rfl)
theorem dX2_toByteArray_14 : decode cX2_toByteArray 14 = .ok (.lload_n 0, 1) := dk_30 (dk_at dksX2_toByteArray_0 14 rfl rfl)
theorem dX2_toByteArray_15 : decode cX2_toByteArray 15 = .ok (.ldc2_w 30, 3) := dk_20 0 30 (dk_at dksX2_toByteArray_0 15 rfl rfl)
theorem dX2_toByteArray_18 : decode cX2_toByteArray 18 = .ok (.land, 1) := dk_127 (dk_at dksX2_toByteArray_0 18 rfl rfl)
theorem dX2_toByteArray_19 : decode cX2_toByteArray 19 = .ok (.l2i, 1) := dk_136 (dk_at dksX2_toByteArray_0 19 rfl rfl)
theorem dX2_toByteArray_20 : decode cX2_toByteArray 20 = .ok (.i2b, 1) := dk_145 (dk_at dksX2_toByteArray_0 20 rfl rfl)
theorem dX2_toByteArray_21 : decode cX2_toByteArray 21 = .ok (.bastore, 1) := dk_84 (dk_at dksX2_toByteArray_0 21 rfl rfl)
theorem dX2_toByteArray_22 : decode cX2_toByteArray 22 = .ok (.lload_n 0, 1) := dk_30 (dk_at dksX2_toByteArray_0 22 rfl rfl)
theorem dX2_toByteArray_23 : decode cX2_toByteArray 23 = .ok (.bipush 8, 2) := dk_16 8 (dk_at dksX2_toByteArray_1 0 rfl rfl)
theorem dX2_toByteArray_25 : decode cX2_toByteArray 25 = .ok (.lshr, 1) := dk_123 (dk_at dksX2_toByteArray_1 2 rfl rfl)
theorem dX2_toByteArray_26 : decode cX2_toByteArray 26 = .ok (.lstore_n 0, 1) := dk_63 (dk_at dksX2_toByteArray_1 3 rfl rfl)
theorem dX2_toByteArray_27 : decode cX2_toByteArray 27 = .ok (.iinc 3 (-1), 3) := dk_132 3 255 (dk_at dksX2_toByteArray_1 4 rfl rfl)
theorem dX2_toByteArray_30 : decode cX2_toByteArray 30 = .ok (.goto (-22), 3) := dk_167 255 234 (dk_at dksX2_toByteArray_1 7 rfl rfl)
theorem dX2_toByteArray_33 : decode cX2_toByteArray 33 = .ok (.aload_n 2, 1) := dk_44 (dk_at dksX2_toByteArray_1 10 rfl rfl)
theorem dX2_toByteArray_34 : decode cX2_toByteArray 34 = .ok (.areturn, 1) := dk_176 (dk_at dksX2_toByteArray_1 11 rfl rfl)
abbrev cX2_fromBytes : ByteArray := prog_3_method_10_code
def yX2_fromBytes : MethodName := ⟨RX2, "fromBytes", "(BBBBBBBB)J"⟩
def dkwX2_fromBytes_3 : List UInt8 := [21, 7, 133, 20, 0, 30, 127, 129, 173]
abbrev dktX2_fromBytes_3 : List UInt8 := dkwX2_fromBytes_3 ++ []
def dkwX2_fromBytes_2 : List UInt8 := [121, 129, 21, 5, 133, 20, 0, 30, 127, 16, 16, 121, 129, 21, 6, 133, 20, 0, 30, 127, 16, 8, 121, 129]
abbrev dktX2_fromBytes_2 : List UInt8 := dkwX2_fromBytes_2 ++ dktX2_fromBytes_3
def dkwX2_fromBytes_1 : List UInt8 := [127, 16, 40, 121, 129, 29, 133, 20, 0, 30, 127, 16, 32, 121, 129, 21, 4, 133, 20, 0, 30, 127, 16, 24]
abbrev dktX2_fromBytes_1 : List UInt8 := dkwX2_fromBytes_1 ++ dktX2_fromBytes_2
def dkwX2_fromBytes_0 : List UInt8 := [26, 133, 20, 0, 30, 127, 16, 56, 121, 27, 133, 20, 0, 30, 127, 16, 48, 121, 129, 28, 133, 20, 0, 30]
abbrev dktX2_fromBytes_0 : List UInt8 := dkwX2_fromBytes_0 ++ dktX2_fromBytes_1
theorem dksX2_fromBytes_0 : cX2_fromBytes.data.toList.drop 0 = dktX2_fromBytes_0 := by decide +kernel
theorem dksX2_fromBytes_1 : cX2_fromBytes.data.toList.drop 24 = dktX2_fromBytes_1 := dk_seg dksX2_fromBytes_0 24 rfl rfl
theorem dksX2_fromBytes_2 : cX2_fromBytes.data.toList.drop 48 = dktX2_fromBytes_2 := dk_seg dksX2_fromBytes_1 24 rfl rfl
theorem dksX2_fromBytes_3 : cX2_fromBytes.data.toList.drop 72 = dktX2_fromBytes_3 := dk_seg dksX2_fromBytes_2 24 rfl rfl
theorem dX2_fromBytes_0 : decode cX2_fromBytes 0 = .ok (.iload_n 0, 1) := dk_26 (dk_at dksX2_fromBytes_0 0 rfl rfl)
theorem dX2_fromBytes_1 : decode cX2_fromBytes 1 = .ok (.i2l, 1) := dk_133 (dk_at dksX2_fromBytes_0 1 rfl rfl)
theorem dX2_fromBytes_2 : decode cX2_fromBytes 2 = .ok (.ldc2_w 30, 3) := dk_20 0 30 (dk_at dksX2_fromBytes_0 2 rfl rfl)
theorem dX2_fromBytes_5 : decode cX2_fromBytes 5 = .ok (.land, 1) := dk_127 (dk_at dksX2_fromBytes_0 5 rfl rfl)
theorem dX2_fromBytes_6 : decode cX2_fromBytes 6 = .ok (.bipush 56, 2) := dk_16 56 (dk_at dksX2_fromBytes_0 6 rfl rfl)
theorem dX2_fromBytes_8 : decode cX2_fromBytes 8 = .ok (.lshl, 1) := dk_121 (dk_at dksX2_fromBytes_0 8 rfl rfl)
theorem dX2_fromBytes_9 : decode cX2_fromBytes 9 = .ok (.iload_n 1, 1) := dk_27 (dk_at dksX2_fromBytes_0 9 rfl rfl)
theorem dX2_fromBytes_10 : decode cX2_fromBytes 10 = .ok (.i2l, 1) := dk_133 (dk_at dksX2_fromBytes_0 10 rfl rfl)
theorem dX2_fromBytes_11 : decode cX2_fromBytes 11 = .ok (.ldc2_w 30, 3) := dk_20 0 30 (dk_at dksX2_fromBytes_0 11 rfl rfl)
theorem dX2_fromBytes_14 : decode cX2_fromBytes 14 = .ok (.land, 1) := dk_127 (dk_at dksX2_fromBytes_0 14 rfl rfl)
theorem dX2_fromBytes_15 : decode cX2_fromBytes 15 = .ok (.bipush 48, 2) := dk_16 48 (dk_at dksX2_fromBytes_0 15 rfl rfl)
theorem dX2_fromBytes_17 : decode cX2_fromBytes 17 = .ok (.lshl, 1) := dk_121 (dk_at dksX2_fromBytes_0 17 rfl rfl)
theorem dX2_fromBytes_18 : decode cX2_fromBytes 18 = .ok (.lor, 1) := dk_129 (dk_at dksX2_fromBytes_0 18 rfl rfl)
theorem dX2_fromBytes_19 : decode cX2_fromBytes 19 = .ok (.iload_n 2, 1) := dk_28 (dk_at dksX2_fromBytes_0 19 rfl rfl)
theorem dX2_fromBytes_20 : decode cX2_fromBytes 20 = .ok (.i2l, 1) := dk_133 (dk_at dksX2_fromBytes_0 20 rfl rfl)
theorem dX2_fromBytes_21 : decode cX2_fromBytes 21 = .ok (.ldc2_w 30, 3) := dk_20 0 30 (dk_at dksX2_fromBytes_0 21 rfl rfl)
theorem dX2_fromBytes_24 : decode cX2_fromBytes 24 = .ok (.land, 1) := dk_127 (dk_at dksX2_fromBytes_1 0 rfl rfl)
theorem dX2_fromBytes_25 : decode cX2_fromBytes 25 = .ok (.bipush 40, 2) := dk_16 40 (dk_at dksX2_fromBytes_1 1 rfl rfl)
theorem dX2_fromBytes_27 : decode cX2_fromBytes 27 = .ok (.lshl, 1) := dk_121 (dk_at dksX2_fromBytes_1 3 rfl rfl)
theorem dX2_fromBytes_28 : decode cX2_fromBytes 28 = .ok (.lor, 1) := dk_129 (dk_at dksX2_fromBytes_1 4 rfl rfl)
theorem dX2_fromBytes_29 : decode cX2_fromBytes 29 = .ok (.iload_n 3, 1) := dk_29 (dk_at dksX2_fromBytes_1 5 rfl rfl)
theorem dX2_fromBytes_30 : decode cX2_fromBytes 30 = .ok (.i2l, 1) := dk_133 (dk_at dksX2_fromBytes_1 6 rfl rfl)
theorem dX2_fromBytes_31 : decode cX2_fromBytes 31 = .ok (.ldc2_w 30, 3) := dk_20 0 30 (dk_at dksX2_fromBytes_1 7 rfl rfl)
theorem dX2_fromBytes_34 : decode cX2_fromBytes 34 = .ok (.land, 1) := dk_127 (dk_at dksX2_fromBytes_1 10 rfl rfl)
theorem dX2_fromBytes_35 : decode cX2_fromBytes 35 = .ok (.bipush 32, 2) := dk_16 32 (dk_at dksX2_fromBytes_1 11 rfl rfl)
theorem dX2_fromBytes_37 : decode cX2_fromBytes 37 = .ok (.lshl, 1) := dk_121 (dk_at dksX2_fromBytes_1 13 rfl rfl)
theorem dX2_fromBytes_38 : decode cX2_fromBytes 38 = .ok (.lor, 1) := dk_129 (dk_at dksX2_fromBytes_1 14 rfl rfl)
theorem dX2_fromBytes_39 : decode cX2_fromBytes 39 = .ok (.iload 4, 2) := dk_21 4 (dk_at dksX2_fromBytes_1 15 rfl rfl)
theorem dX2_fromBytes_41 : decode cX2_fromBytes 41 = .ok (.i2l, 1) := dk_133 (dk_at dksX2_fromBytes_1 17 rfl rfl)
theorem dX2_fromBytes_42 : decode cX2_fromBytes 42 = .ok (.ldc2_w 30, 3) := dk_20 0 30 (dk_at dksX2_fromBytes_1 18 rfl rfl)
theorem dX2_fromBytes_45 : decode cX2_fromBytes 45 = .ok (.land, 1) := dk_127 (dk_at dksX2_fromBytes_1 21 rfl rfl)
theorem dX2_fromBytes_46 : decode cX2_fromBytes 46 = .ok (.bipush 24, 2) := dk_16 24 (dk_at dksX2_fromBytes_1 22 rfl rfl)
theorem dX2_fromBytes_48 : decode cX2_fromBytes 48 = .ok (.lshl, 1) := dk_121 (dk_at dksX2_fromBytes_2 0 rfl rfl)
theorem dX2_fromBytes_49 : decode cX2_fromBytes 49 = .ok (.lor, 1) := dk_129 (dk_at dksX2_fromBytes_2 1 rfl rfl)
theorem dX2_fromBytes_50 : decode cX2_fromBytes 50 = .ok (.iload 5, 2) := dk_21 5 (dk_at dksX2_fromBytes_2 2 rfl rfl)
theorem dX2_fromBytes_52 : decode cX2_fromBytes 52 = .ok (.i2l, 1) := dk_133 (dk_at dksX2_fromBytes_2 4 rfl rfl)
theorem dX2_fromBytes_53 : decode cX2_fromBytes 53 = .ok (.ldc2_w 30, 3) := dk_20 0 30 (dk_at dksX2_fromBytes_2 5 rfl rfl)
theorem dX2_fromBytes_56 : decode cX2_fromBytes 56 = .ok (.land, 1) := dk_127 (dk_at dksX2_fromBytes_2 8 rfl rfl)
theorem dX2_fromBytes_57 : decode cX2_fromBytes 57 = .ok (.bipush 16, 2) := dk_16 16 (dk_at dksX2_fromBytes_2 9 rfl rfl)
theorem dX2_fromBytes_59 : decode cX2_fromBytes 59 = .ok (.lshl, 1) := dk_121 (dk_at dksX2_fromBytes_2 11 rfl rfl)
theorem dX2_fromBytes_60 : decode cX2_fromBytes 60 = .ok (.lor, 1) := dk_129 (dk_at dksX2_fromBytes_2 12 rfl rfl)
theorem dX2_fromBytes_61 : decode cX2_fromBytes 61 = .ok (.iload 6, 2) := dk_21 6 (dk_at dksX2_fromBytes_2 13 rfl rfl)
theorem dX2_fromBytes_63 : decode cX2_fromBytes 63 = .ok (.i2l, 1) := dk_133 (dk_at dksX2_fromBytes_2 15 rfl rfl)
theorem dX2_fromBytes_64 : decode cX2_fromBytes 64 = .ok (.ldc2_w 30, 3) := dk_20 0 30 (dk_at dksX2_fromBytes_2 16 rfl rfl)
theorem dX2_fromBytes_67 : decode cX2_fromBytes 67 = .ok (.land, 1) := dk_127 (dk_at dksX2_fromBytes_2 19 rfl rfl)
theorem dX2_fromBytes_68 : decode cX2_fromBytes 68 = .ok (.bipush 8, 2) := dk_16 8 (dk_at dksX2_fromBytes_2 20 rfl rfl)
theorem dX2_fromBytes_70 : decode cX2_fromBytes 70 = .ok (.lshl, 1) := dk_121 (dk_at dksX2_fromBytes_2 22 rfl rfl)
theorem dX2_fromBytes_71 : decode cX2_fromBytes 71 = .ok (.lor, 1) := dk_129 (dk_at dksX2_fromBytes_2 23 rfl rfl)
theorem dX2_fromBytes_72 : decode cX2_fromBytes 72 = .ok (.iload 7, 2) := dk_21 7 (dk_at dksX2_fromBytes_3 0 rfl rfl)
theorem dX2_fromBytes_74 : decode cX2_fromBytes 74 = .ok (.i2l, 1) := dk_133 (dk_at dksX2_fromBytes_3 2 rfl rfl)
theorem dX2_fromBytes_75 : decode cX2_fromBytes 75 = .ok (.ldc2_w 30, 3) := dk_20 0 30 (dk_at dksX2_fromBytes_3 3 rfl rfl)
theorem dX2_fromBytes_78 : decode cX2_fromBytes 78 = .ok (.land, 1) := dk_127 (dk_at dksX2_fromBytes_3 6 rfl rfl)
theorem dX2_fromBytes_79 : decode cX2_fromBytes 79 = .ok (.lor, 1) := dk_129 (dk_at dksX2_fromBytes_3 7 rfl rfl)
theorem dX2_fromBytes_80 : decode cX2_fromBytes 80 = .ok (.lreturn, 1) := dk_173 (dk_at dksX2_fromBytes_3 8 rfl rfl)
abbrev cX2_constrainToRange : ByteArray := prog_3_method_8_code
def yX2_constrainToRange : MethodName := ⟨RX2, "constrainToRange", "(JJJ)J"⟩
def dkwX2_constrainToRange_1 : List UInt8 := [184, 0, 21, 22, 4, 184, 0, 27, 173]
abbrev dktX2_constrainToRange_1 : List UInt8 := dkwX2_constrainToRange_1 ++ []
def dkwX2_constrainToRange_0 : List UInt8 := [32, 22, 4, 148, 157, 0, 7, 4, 167, 0, 4, 3, 18, 16, 32, 22, 4, 184, 0, 18, 30, 32]
abbrev dktX2_constrainToRange_0 : List UInt8 := dkwX2_constrainToRange_0 ++ dktX2_constrainToRange_1
theorem dksX2_constrainToRange_0 : cX2_constrainToRange.data.toList.drop 0 = dktX2_constrainToRange_0 := by decide +kernel
theorem dksX2_constrainToRange_1 : cX2_constrainToRange.data.toList.drop 22 = dktX2_constrainToRange_1 := dk_seg dksX2_constrainToRange_0 22 rfl rfl
theorem dX2_constrainToRange_0 : decode cX2_constrainToRange 0 = .ok (.lload_n 2, 1) := dk_32 (dk_at dksX2_constrainToRange_0 0 rfl rfl)
theorem dX2_constrainToRange_1 : decode cX2_constrainToRange 1 = .ok (.lload 4, 2) := dk_22 4 (dk_at dksX2_constrainToRange_0 1 rfl rfl)
theorem dX2_constrainToRange_3 : decode cX2_constrainToRange 3 = .ok (.lcmp, 1) := dk_148 (dk_at dksX2_constrainToRange_0 3 rfl rfl)
theorem dX2_constrainToRange_4 : decode cX2_constrainToRange 4 = .ok (.ifCond .gt 7, 3) := dk_157 0 7 (dk_at dksX2_constrainToRange_0 4 rfl rfl)
theorem dX2_constrainToRange_7 : decode cX2_constrainToRange 7 = .ok (.iconst 1, 1) := dk_4 (dk_at dksX2_constrainToRange_0 7 rfl rfl)
theorem dX2_constrainToRange_8 : decode cX2_constrainToRange 8 = .ok (.goto 4, 3) := dk_167 0 4 (dk_at dksX2_constrainToRange_0 8 rfl rfl)
theorem dX2_constrainToRange_11 : decode cX2_constrainToRange 11 = .ok (.iconst 0, 1) := dk_3 (dk_at dksX2_constrainToRange_0 11 rfl rfl)
theorem dX2_constrainToRange_12 : decode cX2_constrainToRange 12 = .ok (.ldc 16, 2) := dk_18 16 (dk_at dksX2_constrainToRange_0 12 rfl rfl)
theorem dX2_constrainToRange_14 : decode cX2_constrainToRange 14 = .ok (.lload_n 2, 1) := dk_32 (dk_at dksX2_constrainToRange_0 14 rfl rfl)
theorem dX2_constrainToRange_15 : decode cX2_constrainToRange 15 = .ok (.lload 4, 2) := dk_22 4 (dk_at dksX2_constrainToRange_0 15 rfl rfl)
theorem dX2_constrainToRange_17 : decode cX2_constrainToRange 17 = .ok (.invokestatic 18, 3) := dk_184 0 18 (dk_at dksX2_constrainToRange_0 17 rfl rfl)
theorem dX2_constrainToRange_20 : decode cX2_constrainToRange 20 = .ok (.lload_n 0, 1) := dk_30 (dk_at dksX2_constrainToRange_0 20 rfl rfl)
theorem dX2_constrainToRange_21 : decode cX2_constrainToRange 21 = .ok (.lload_n 2, 1) := dk_32 (dk_at dksX2_constrainToRange_0 21 rfl rfl)
theorem dX2_constrainToRange_22 : decode cX2_constrainToRange 22 = .ok (.invokestatic 21, 3) := dk_184 0 21 (dk_at dksX2_constrainToRange_1 0 rfl rfl)
theorem dX2_constrainToRange_25 : decode cX2_constrainToRange 25 = .ok (.lload 4, 2) := dk_22 4 (dk_at dksX2_constrainToRange_1 3 rfl rfl)
theorem dX2_constrainToRange_27 : decode cX2_constrainToRange 27 = .ok (.invokestatic 27, 3) := dk_184 0 27 (dk_at dksX2_constrainToRange_1 5 rfl rfl)
theorem dX2_constrainToRange_30 : decode cX2_constrainToRange 30 = .ok (.lreturn, 1) := dk_173 (dk_at dksX2_constrainToRange_1 8 rfl rfl)
theorem q5 : (Jvm.Cond.initialized "Longs") ∈ lw_all := lw_g (lw_at lw_m1 2 rfl) rfl
theorem q48 : (Jvm.Cond.static ({ cls := "Longs", name := "reverse", desc := "([JII)V" } : Jvm.MethodName)) ∈ lw_all := lw_g (lw_at lw_m1 45 rfl) rfl
theorem q49 : (Jvm.Cond.code ({ cls := "Longs", name := "reverse", desc := "([JII)V" } : Jvm.MethodName) prog_3_method_11_code (7 : Nat) (Option.none : Option Jvm.ClassFile.FieldType)) ∈ lw_all := lw_g (lw_at lw_m1 46 rfl) rfl
theorem q50 : (Jvm.Cond.methodLink "Longs" (32 : Nat) ({ cls := "Preconditions", name := "checkNotNull", desc := "(Ljava/lang/Object;)Ljava/lang/Object;" } : Jvm.MethodName)) ∈ lw_all := lw_g (lw_at lw_m1 47 rfl) rfl
theorem q53 : (Jvm.Cond.methodLink "Longs" (36 : Nat) ({ cls := "Preconditions", name := "checkPositionIndexes", desc := "(III)V" } : Jvm.MethodName)) ∈ lw_all := lw_g (lw_at lw_m1 50 rfl) rfl
theorem q148 : (Jvm.Cond.static ({ cls := "Longs", name := "indexOf", desc := "([JJ)I" } : Jvm.MethodName)) ∈ lw_all := lw_g (lw_at lw_m1 145 rfl) rfl
theorem q149 : (Jvm.Cond.code ({ cls := "Longs", name := "indexOf", desc := "([JJ)I" } : Jvm.MethodName) prog_3_method_2_code (3 : Nat) (Option.some Jvm.ClassFile.FieldType.int)) ∈ lw_all := lw_g (lw_at lw_m1 146 rfl) rfl
theorem q150 : (Jvm.Cond.methodLink "Longs" (1 : Nat) ({ cls := "Longs", name := "indexOf", desc := "([JJII)I" } : Jvm.MethodName)) ∈ lw_all := lw_g (lw_at lw_m1 147 rfl) rfl
theorem q151 : (Jvm.Cond.static ({ cls := "Longs", name := "indexOf", desc := "([JJII)I" } : Jvm.MethodName)) ∈ lw_all := lw_g (lw_at lw_m1 148 rfl) rfl
theorem q152 : (Jvm.Cond.code ({ cls := "Longs", name := "indexOf", desc := "([JJII)I" } : Jvm.MethodName) prog_3_method_3_code (6 : Nat) (Option.some Jvm.ClassFile.FieldType.int)) ∈ lw_all := lw_g (lw_at lw_m1 149 rfl) rfl
theorem q158 : (Jvm.Cond.static ({ cls := "Longs", name := "lastIndexOf", desc := "([JJ)I" } : Jvm.MethodName)) ∈ lw_all := lw_g (lw_at lw_m1 155 rfl) rfl
theorem q159 : (Jvm.Cond.code ({ cls := "Longs", name := "lastIndexOf", desc := "([JJ)I" } : Jvm.MethodName) prog_3_method_4_code (3 : Nat) (Option.some Jvm.ClassFile.FieldType.int)) ∈ lw_all := lw_g (lw_at lw_m1 156 rfl) rfl
theorem q160 : (Jvm.Cond.methodLink "Longs" (7 : Nat) ({ cls := "Longs", name := "lastIndexOf", desc := "([JJII)I" } : Jvm.MethodName)) ∈ lw_all := lw_g (lw_at lw_m1 157 rfl) rfl
theorem q161 : (Jvm.Cond.static ({ cls := "Longs", name := "lastIndexOf", desc := "([JJII)I" } : Jvm.MethodName)) ∈ lw_all := lw_g (lw_at lw_m1 158 rfl) rfl
theorem q162 : (Jvm.Cond.code ({ cls := "Longs", name := "lastIndexOf", desc := "([JJII)I" } : Jvm.MethodName) prog_3_method_5_code (6 : Nat) (Option.some Jvm.ClassFile.FieldType.int)) ∈ lw_all := lw_g (lw_at lw_m1 159 rfl) rfl
theorem q168 : (Jvm.Cond.static ({ cls := "Longs", name := "contains", desc := "([JJ)Z" } : Jvm.MethodName)) ∈ lw_all := lw_g (lw_at lw_m1 165 rfl) rfl
theorem q169 : (Jvm.Cond.code ({ cls := "Longs", name := "contains", desc := "([JJ)Z" } : Jvm.MethodName) prog_3_method_1_code (8 : Nat) (Option.some Jvm.ClassFile.FieldType.boolean)) ∈ lw_all := lw_g (lw_at lw_m1 166 rfl) rfl
theorem q182 : (Jvm.Cond.static ({ cls := "Longs", name := "max", desc := "([J)J" } : Jvm.MethodName)) ∈ lw_all := lw_g (lw_at lw_m1 179 rfl) rfl
theorem q183 : (Jvm.Cond.code ({ cls := "Longs", name := "max", desc := "([J)J" } : Jvm.MethodName) prog_3_method_7_code (4 : Nat) (Option.some Jvm.ClassFile.FieldType.long)) ∈ lw_all := lw_g (lw_at lw_m1 180 rfl) rfl
theorem q184 : (Jvm.Cond.methodLink "Longs" (10 : Nat) ({ cls := "Preconditions", name := "checkArgument", desc := "(Z)V" } : Jvm.MethodName)) ∈ lw_all := lw_g (lw_at lw_m1 181 rfl) rfl
theorem q213 : (Jvm.Cond.static ({ cls := "Longs", name := "min", desc := "([J)J" } : Jvm.MethodName)) ∈ lw_all := lw_g (lw_at lw_m1 210 rfl) rfl
theorem q214 : (Jvm.Cond.code ({ cls := "Longs", name := "min", desc := "([J)J" } : Jvm.MethodName) prog_3_method_6_code (4 : Nat) (Option.some Jvm.ClassFile.FieldType.long)) ∈ lw_all := lw_g (lw_at lw_m1 211 rfl) rfl
theorem q223 : (Jvm.Cond.static ({ cls := "Longs", name := "toByteArray", desc := "(J)[B" } : Jvm.MethodName)) ∈ lw_all := lw_g (lw_at lw_m1 220 rfl) rfl
theorem q224 : (Jvm.Cond.code ({ cls := "Longs", name := "toByteArray", desc := "(J)[B" } : Jvm.MethodName) prog_3_method_9_code (4 : Nat) (Option.some (Jvm.ClassFile.FieldType.array Jvm.ClassFile.FieldType.byte))) ∈ lw_all := lw_g (lw_at lw_m1 221 rfl) rfl
theorem q225 : (Jvm.Cond.constantLong "Longs" (30 : Nat) (255 : Int64)) ∈ lw_all := lw_g (lw_at lw_m1 222 rfl) rfl
theorem q232 : (Jvm.Cond.static ({ cls := "Longs", name := "fromBytes", desc := "(BBBBBBBB)J" } : Jvm.MethodName)) ∈ lw_all := lw_g (lw_at lw_m1 229 rfl) rfl
theorem q233 : (Jvm.Cond.code ({ cls := "Longs", name := "fromBytes", desc := "(BBBBBBBB)J" } : Jvm.MethodName) prog_3_method_10_code (8 : Nat) (Option.some Jvm.ClassFile.FieldType.long)) ∈ lw_all := lw_g (lw_at lw_m1 230 rfl) rfl
theorem q248 : (Jvm.Cond.static ({ cls := "Longs", name := "constrainToRange", desc := "(JJJ)J" } : Jvm.MethodName)) ∈ lw_all := lw_g (lw_at lw_m2 5 rfl) rfl
theorem q249 : (Jvm.Cond.code ({ cls := "Longs", name := "constrainToRange", desc := "(JJJ)J" } : Jvm.MethodName) prog_3_method_8_code (6 : Nat) (Option.some Jvm.ClassFile.FieldType.long)) ∈ lw_all := lw_g (lw_at lw_m2 6 rfl) rfl
theorem q250 : (Jvm.Cond.stringRef "Longs" (16 : Nat) "min (%s) must be less than or equal to max (%s)") ∈ lw_tbl := lw_at lw_m2 7 rfl
theorem q251 : (Jvm.Cond.methodLink "Longs" (18 : Nat) ({ cls := "Preconditions", name := "checkArgument", desc := "(ZLjava/lang/String;JJ)V" } : Jvm.MethodName)) ∈ lw_all := lw_g (lw_at lw_m2 8 rfl) rfl
theorem q258 : (Jvm.Cond.methodLink "Longs" (21 : Nat) ({ cls := "java/lang/Math", name := "max", desc := "(JJ)J" } : Jvm.MethodName)) ∈ lw_all := lw_g (lw_at lw_m2 15 rfl) rfl
theorem q259 : (Jvm.Cond.methodLink "Longs" (27 : Nat) ({ cls := "java/lang/Math", name := "min", desc := "(JJ)J" } : Jvm.MethodName)) ∈ lw_all := lw_g (lw_at lw_m2 16 rfl) rfl
end
section
/-! LongRowDesk -/
set_option maxRecDepth 100000
def RX1 : String := "LongRowDesk"
def TX1 : u_T := fun k => match k with
  | _ => ("LongRowDesk", "row", "[J", true)
def tyX1 : Nat → FieldType := fun k => match k with
  | _ => .array .long
abbrev wsX10 : List Cond := u_ws RX1 TX1 1
theorem nmX1 : ∀ a, a < 1 → ∀ b, b < 1 → a ≠ b → (TX1 a).2.1 ≠ (TX1 b).2.1 := by decide +kernel
theorem tyX1_ok : ∀ k, k < 1 → parseFieldDescriptor (TX1 k).2.2.1 = some (tyX1 k) := by decide +kernel
abbrev cX1_init : ByteArray := prog_1_method_1_code
def yX1_init : MethodName := ⟨RX1, "<init>", "()V"⟩
def dkwX1_init_0 : List UInt8 := [42, 183, 0, 1, 42, 16, 12, 188, 11, 181, 0, 7, 177]
abbrev dktX1_init_0 : List UInt8 := dkwX1_init_0 ++ []
theorem dksX1_init_0 : cX1_init.data.toList.drop 0 = dktX1_init_0 := by decide +kernel
theorem dX1_init_0 : decode cX1_init 0 = .ok (.aload_n 0, 1) := dk_42 (dk_at dksX1_init_0 0 rfl rfl)
theorem dX1_init_1 : decode cX1_init 1 = .ok (.invokespecial 1, 3) := dk_183 0 1 (dk_at dksX1_init_0 1 rfl rfl)
theorem dX1_init_4 : decode cX1_init 4 = .ok (.aload_n 0, 1) := dk_42 (dk_at dksX1_init_0 4 rfl rfl)
theorem dX1_init_5 : decode cX1_init 5 = .ok (.bipush 12, 2) := dk_16 12 (dk_at dksX1_init_0 5 rfl rfl)
theorem dX1_init_7 : decode cX1_init 7 = .ok (.newarray .long, 2) := dk_188_11 (dk_at dksX1_init_0 7 rfl rfl)
theorem dX1_init_9 : decode cX1_init 9 = .ok (.putfield 7, 3) := dk_181 0 7 (dk_at dksX1_init_0 9 rfl rfl)
theorem dX1_init_12 : decode cX1_init 12 = .ok (.return_, 1) := dk_177 (dk_at dksX1_init_0 12 rfl rfl)
abbrev cX1_set : ByteArray := prog_1_method_3_code
def yX1_set : MethodName := ⟨RX1, "set", "(III)V"⟩
def dkwX1_set_0 : List UInt8 := [42, 180, 0, 7, 27, 18, 15, 126, 16, 12, 112, 28, 29, 184, 0, 16, 80, 177]
abbrev dktX1_set_0 : List UInt8 := dkwX1_set_0 ++ []
theorem dksX1_set_0 : cX1_set.data.toList.drop 0 = dktX1_set_0 := by decide +kernel
theorem dX1_set_0 : decode cX1_set 0 = .ok (.aload_n 0, 1) := dk_42 (dk_at dksX1_set_0 0 rfl rfl)
theorem dX1_set_1 : decode cX1_set 1 = .ok (.getfield 7, 3) := dk_180 0 7 (dk_at dksX1_set_0 1 rfl rfl)
theorem dX1_set_4 : decode cX1_set 4 = .ok (.iload_n 1, 1) := dk_27 (dk_at dksX1_set_0 4 rfl rfl)
theorem dX1_set_5 : decode cX1_set 5 = .ok (.ldc 15, 2) := dk_18 15 (dk_at dksX1_set_0 5 rfl rfl)
theorem dX1_set_7 : decode cX1_set 7 = .ok (.iand, 1) := dk_126 (dk_at dksX1_set_0 7 rfl rfl)
theorem dX1_set_8 : decode cX1_set 8 = .ok (.bipush 12, 2) := dk_16 12 (dk_at dksX1_set_0 8 rfl rfl)
theorem dX1_set_10 : decode cX1_set 10 = .ok (.irem, 1) := dk_112 (dk_at dksX1_set_0 10 rfl rfl)
theorem dX1_set_11 : decode cX1_set 11 = .ok (.iload_n 2, 1) := dk_28 (dk_at dksX1_set_0 11 rfl rfl)
theorem dX1_set_12 : decode cX1_set 12 = .ok (.iload_n 3, 1) := dk_29 (dk_at dksX1_set_0 12 rfl rfl)
theorem dX1_set_13 : decode cX1_set 13 = .ok (.invokestatic 16, 3) := dk_184 0 16 (dk_at dksX1_set_0 13 rfl rfl)
theorem dX1_set_16 : decode cX1_set 16 = .ok (.lastore, 1) := dk_80 (dk_at dksX1_set_0 16 rfl rfl)
theorem dX1_set_17 : decode cX1_set 17 = .ok (.return_, 1) := dk_177 (dk_at dksX1_set_0 17 rfl rfl)
abbrev cX1_wide : ByteArray := prog_1_method_2_code
def yX1_wide : MethodName := ⟨RX1, "wide", "(II)J"⟩
def dkwX1_wide_0 : List UInt8 := [26, 133, 16, 32, 121, 27, 133, 20, 0, 13, 127, 129, 173]
abbrev dktX1_wide_0 : List UInt8 := dkwX1_wide_0 ++ []
theorem dksX1_wide_0 : cX1_wide.data.toList.drop 0 = dktX1_wide_0 := by decide +kernel
theorem dX1_wide_0 : decode cX1_wide 0 = .ok (.iload_n 0, 1) := dk_26 (dk_at dksX1_wide_0 0 rfl rfl)
theorem dX1_wide_1 : decode cX1_wide 1 = .ok (.i2l, 1) := dk_133 (dk_at dksX1_wide_0 1 rfl rfl)
theorem dX1_wide_2 : decode cX1_wide 2 = .ok (.bipush 32, 2) := dk_16 32 (dk_at dksX1_wide_0 2 rfl rfl)
theorem dX1_wide_4 : decode cX1_wide 4 = .ok (.lshl, 1) := dk_121 (dk_at dksX1_wide_0 4 rfl rfl)
theorem dX1_wide_5 : decode cX1_wide 5 = .ok (.iload_n 1, 1) := dk_27 (dk_at dksX1_wide_0 5 rfl rfl)
theorem dX1_wide_6 : decode cX1_wide 6 = .ok (.i2l, 1) := dk_133 (dk_at dksX1_wide_0 6 rfl rfl)
theorem dX1_wide_7 : decode cX1_wide 7 = .ok (.ldc2_w 13, 3) := dk_20 0 13 (dk_at dksX1_wide_0 7 rfl rfl)
theorem dX1_wide_10 : decode cX1_wide 10 = .ok (.land, 1) := dk_127 (dk_at dksX1_wide_0 10 rfl rfl)
theorem dX1_wide_11 : decode cX1_wide 11 = .ok (.lor, 1) := dk_129 (dk_at dksX1_wide_0 11 rfl rfl)
theorem dX1_wide_12 : decode cX1_wide 12 = .ok (.lreturn, 1) := dk_173 (dk_at dksX1_wide_0 12 rfl rfl)
abbrev cX1_reverse : ByteArray := prog_1_method_7_code
def yX1_reverse : MethodName := ⟨RX1, "reverse", "(II)V"⟩
def dkwX1_reverse_0 : List UInt8 := [42, 27, 182, 0, 20, 62, 42, 180, 0, 7, 29, 42, 29, 28, 182, 0, 24, 184, 0, 28, 177]
abbrev dktX1_reverse_0 : List UInt8 := dkwX1_reverse_0 ++ []
theorem dksX1_reverse_0 : cX1_reverse.data.toList.drop 0 = dktX1_reverse_0 := by decide +kernel
theorem dX1_reverse_0 : decode cX1_reverse 0 = .ok (.aload_n 0, 1) := dk_42 (dk_at dksX1_reverse_0 0 rfl rfl)
theorem dX1_reverse_1 : decode cX1_reverse 1 = .ok (.iload_n 1, 1) := dk_27 (dk_at dksX1_reverse_0 1 rfl rfl)
theorem dX1_reverse_2 : decode cX1_reverse 2 = .ok (.invokevirtual 20, 3) := dk_182 0 20 (dk_at dksX1_reverse_0 2 rfl rfl)
theorem dX1_reverse_5 : decode cX1_reverse 5 = .ok (.istore_n 3, 1) := dk_62 (dk_at dksX1_reverse_0 5 rfl rfl)
theorem dX1_reverse_6 : decode cX1_reverse 6 = .ok (.aload_n 0, 1) := dk_42 (dk_at dksX1_reverse_0 6 rfl rfl)
theorem dX1_reverse_7 : decode cX1_reverse 7 = .ok (.getfield 7, 3) := dk_180 0 7 (dk_at dksX1_reverse_0 7 rfl rfl)
theorem dX1_reverse_10 : decode cX1_reverse 10 = .ok (.iload_n 3, 1) := dk_29 (dk_at dksX1_reverse_0 10 rfl rfl)
theorem dX1_reverse_11 : decode cX1_reverse 11 = .ok (.aload_n 0, 1) := dk_42 (dk_at dksX1_reverse_0 11 rfl rfl)
theorem dX1_reverse_12 : decode cX1_reverse 12 = .ok (.iload_n 3, 1) := dk_29 (dk_at dksX1_reverse_0 12 rfl rfl)
theorem dX1_reverse_13 : decode cX1_reverse 13 = .ok (.iload_n 2, 1) := dk_28 (dk_at dksX1_reverse_0 13 rfl rfl)
theorem dX1_reverse_14 : decode cX1_reverse 14 = .ok (.invokevirtual 24, 3) := dk_182 0 24 (dk_at dksX1_reverse_0 14 rfl rfl)
theorem dX1_reverse_17 : decode cX1_reverse 17 = .ok (.invokestatic 28, 3) := dk_184 0 28 (dk_at dksX1_reverse_0 17 rfl rfl)
theorem dX1_reverse_20 : decode cX1_reverse 20 = .ok (.return_, 1) := dk_177 (dk_at dksX1_reverse_0 20 rfl rfl)
abbrev cX1_from : ByteArray := prog_1_method_5_code
def yX1_from : MethodName := ⟨RX1, "from", "(I)I"⟩
def dkwX1_from_0 : List UInt8 := [27, 18, 15, 126, 16, 13, 112, 172]
abbrev dktX1_from_0 : List UInt8 := dkwX1_from_0 ++ []
theorem dksX1_from_0 : cX1_from.data.toList.drop 0 = dktX1_from_0 := by decide +kernel
theorem dX1_from_0 : decode cX1_from 0 = .ok (.iload_n 1, 1) := dk_27 (dk_at dksX1_from_0 0 rfl rfl)
theorem dX1_from_1 : decode cX1_from 1 = .ok (.ldc 15, 2) := dk_18 15 (dk_at dksX1_from_0 1 rfl rfl)
theorem dX1_from_3 : decode cX1_from 3 = .ok (.iand, 1) := dk_126 (dk_at dksX1_from_0 3 rfl rfl)
theorem dX1_from_4 : decode cX1_from 4 = .ok (.bipush 13, 2) := dk_16 13 (dk_at dksX1_from_0 4 rfl rfl)
theorem dX1_from_6 : decode cX1_from 6 = .ok (.irem, 1) := dk_112 (dk_at dksX1_from_0 6 rfl rfl)
theorem dX1_from_7 : decode cX1_from 7 = .ok (.ireturn, 1) := dk_172 (dk_at dksX1_from_0 7 rfl rfl)
abbrev cX1_to : ByteArray := prog_1_method_6_code
def yX1_to : MethodName := ⟨RX1, "to", "(II)I"⟩
def dkwX1_to_0 : List UInt8 := [27, 28, 18, 15, 126, 16, 13, 27, 100, 112, 96, 172]
abbrev dktX1_to_0 : List UInt8 := dkwX1_to_0 ++ []
theorem dksX1_to_0 : cX1_to.data.toList.drop 0 = dktX1_to_0 := by decide +kernel
theorem dX1_to_0 : decode cX1_to 0 = .ok (.iload_n 1, 1) := dk_27 (dk_at dksX1_to_0 0 rfl rfl)
theorem dX1_to_1 : decode cX1_to 1 = .ok (.iload_n 2, 1) := dk_28 (dk_at dksX1_to_0 1 rfl rfl)
theorem dX1_to_2 : decode cX1_to 2 = .ok (.ldc 15, 2) := dk_18 15 (dk_at dksX1_to_0 2 rfl rfl)
theorem dX1_to_4 : decode cX1_to 4 = .ok (.iand, 1) := dk_126 (dk_at dksX1_to_0 4 rfl rfl)
theorem dX1_to_5 : decode cX1_to 5 = .ok (.bipush 13, 2) := dk_16 13 (dk_at dksX1_to_0 5 rfl rfl)
theorem dX1_to_7 : decode cX1_to 7 = .ok (.iload_n 1, 1) := dk_27 (dk_at dksX1_to_0 7 rfl rfl)
theorem dX1_to_8 : decode cX1_to 8 = .ok (.isub, 1) := dk_100 (dk_at dksX1_to_0 8 rfl rfl)
theorem dX1_to_9 : decode cX1_to 9 = .ok (.irem, 1) := dk_112 (dk_at dksX1_to_0 9 rfl rfl)
theorem dX1_to_10 : decode cX1_to 10 = .ok (.iadd, 1) := dk_96 (dk_at dksX1_to_0 10 rfl rfl)
theorem dX1_to_11 : decode cX1_to 11 = .ok (.ireturn, 1) := dk_172 (dk_at dksX1_to_0 11 rfl rfl)
abbrev cX1_find : ByteArray := prog_1_method_10_code
def yX1_find : MethodName := ⟨RX1, "find", "(II)I"⟩
def dkwX1_find_0 : List UInt8 := [42, 180, 0, 7, 27, 28, 184, 0, 16, 184, 0, 41, 172]
abbrev dktX1_find_0 : List UInt8 := dkwX1_find_0 ++ []
theorem dksX1_find_0 : cX1_find.data.toList.drop 0 = dktX1_find_0 := by decide +kernel
theorem dX1_find_0 : decode cX1_find 0 = .ok (.aload_n 0, 1) := dk_42 (dk_at dksX1_find_0 0 rfl rfl)
theorem dX1_find_1 : decode cX1_find 1 = .ok (.getfield 7, 3) := dk_180 0 7 (dk_at dksX1_find_0 1 rfl rfl)
theorem dX1_find_4 : decode cX1_find 4 = .ok (.iload_n 1, 1) := dk_27 (dk_at dksX1_find_0 4 rfl rfl)
theorem dX1_find_5 : decode cX1_find 5 = .ok (.iload_n 2, 1) := dk_28 (dk_at dksX1_find_0 5 rfl rfl)
theorem dX1_find_6 : decode cX1_find 6 = .ok (.invokestatic 16, 3) := dk_184 0 16 (dk_at dksX1_find_0 6 rfl rfl)
theorem dX1_find_9 : decode cX1_find 9 = .ok (.invokestatic 41, 3) := dk_184 0 41 (dk_at dksX1_find_0 9 rfl rfl)
theorem dX1_find_12 : decode cX1_find 12 = .ok (.ireturn, 1) := dk_172 (dk_at dksX1_find_0 12 rfl rfl)
abbrev cX1_findLast : ByteArray := prog_1_method_11_code
def yX1_findLast : MethodName := ⟨RX1, "findLast", "(II)I"⟩
def dkwX1_findLast_0 : List UInt8 := [42, 180, 0, 7, 27, 28, 184, 0, 16, 184, 0, 45, 172]
abbrev dktX1_findLast_0 : List UInt8 := dkwX1_findLast_0 ++ []
theorem dksX1_findLast_0 : cX1_findLast.data.toList.drop 0 = dktX1_findLast_0 := by decide +kernel
theorem dX1_findLast_0 : decode cX1_findLast 0 = .ok (.aload_n 0, 1) := dk_42 (dk_at dksX1_findLast_0 0 rfl rfl)
theorem dX1_findLast_1 : decode cX1_findLast 1 = .ok (.getfield 7, 3) := dk_180 0 7 (dk_at dksX1_findLast_0 1 rfl rfl)
theorem dX1_findLast_4 : decode cX1_findLast 4 = .ok (.iload_n 1, 1) := dk_27 (dk_at dksX1_findLast_0 4 rfl rfl)
theorem dX1_findLast_5 : decode cX1_findLast 5 = .ok (.iload_n 2, 1) := dk_28 (dk_at dksX1_findLast_0 5 rfl rfl)
theorem dX1_findLast_6 : decode cX1_findLast 6 = .ok (.invokestatic 16, 3) := dk_184 0 16 (dk_at dksX1_findLast_0 6 rfl rfl)
theorem dX1_findLast_9 : decode cX1_findLast 9 = .ok (.invokestatic 45, 3) := dk_184 0 45 (dk_at dksX1_findLast_0 9 rfl rfl)
theorem dX1_findLast_12 : decode cX1_findLast 12 = .ok (.ireturn, 1) := dk_172 (dk_at dksX1_findLast_0 12 rfl rfl)
abbrev cX1_has : ByteArray := prog_1_method_12_code
def yX1_has : MethodName := ⟨RX1, "has", "(II)Z"⟩
def dkwX1_has_0 : List UInt8 := [42, 180, 0, 7, 27, 28, 184, 0, 16, 184, 0, 48, 172]
abbrev dktX1_has_0 : List UInt8 := dkwX1_has_0 ++ []
theorem dksX1_has_0 : cX1_has.data.toList.drop 0 = dktX1_has_0 := by decide +kernel
theorem dX1_has_0 : decode cX1_has 0 = .ok (.aload_n 0, 1) := dk_42 (dk_at dksX1_has_0 0 rfl rfl)
theorem dX1_has_1 : decode cX1_has 1 = .ok (.getfield 7, 3) := dk_180 0 7 (dk_at dksX1_has_0 1 rfl rfl)
theorem dX1_has_4 : decode cX1_has 4 = .ok (.iload_n 1, 1) := dk_27 (dk_at dksX1_has_0 4 rfl rfl)
theorem dX1_has_5 : decode cX1_has 5 = .ok (.iload_n 2, 1) := dk_28 (dk_at dksX1_has_0 5 rfl rfl)
theorem dX1_has_6 : decode cX1_has 6 = .ok (.invokestatic 16, 3) := dk_184 0 16 (dk_at dksX1_has_0 6 rfl rfl)
theorem dX1_has_9 : decode cX1_has 9 = .ok (.invokestatic 48, 3) := dk_184 0 48 (dk_at dksX1_has_0 9 rfl rfl)
theorem dX1_has_12 : decode cX1_has 12 = .ok (.ireturn, 1) := dk_172 (dk_at dksX1_has_0 12 rfl rfl)
abbrev cX1_get : ByteArray := prog_1_method_4_code
def yX1_get : MethodName := ⟨RX1, "get", "(I)J"⟩
def dkwX1_get_0 : List UInt8 := [42, 180, 0, 7, 27, 18, 15, 126, 16, 12, 112, 47, 173]
abbrev dktX1_get_0 : List UInt8 := dkwX1_get_0 ++ []
theorem dksX1_get_0 : cX1_get.data.toList.drop 0 = dktX1_get_0 := by decide +kernel
theorem dX1_get_0 : decode cX1_get 0 = .ok (.aload_n 0, 1) := dk_42 (dk_at dksX1_get_0 0 rfl rfl)
theorem dX1_get_1 : decode cX1_get 1 = .ok (.getfield 7, 3) := dk_180 0 7 (dk_at dksX1_get_0 1 rfl rfl)
theorem dX1_get_4 : decode cX1_get 4 = .ok (.iload_n 1, 1) := dk_27 (dk_at dksX1_get_0 4 rfl rfl)
theorem dX1_get_5 : decode cX1_get 5 = .ok (.ldc 15, 2) := dk_18 15 (dk_at dksX1_get_0 5 rfl rfl)
theorem dX1_get_7 : decode cX1_get 7 = .ok (.iand, 1) := dk_126 (dk_at dksX1_get_0 7 rfl rfl)
theorem dX1_get_8 : decode cX1_get 8 = .ok (.bipush 12, 2) := dk_16 12 (dk_at dksX1_get_0 8 rfl rfl)
theorem dX1_get_10 : decode cX1_get 10 = .ok (.irem, 1) := dk_112 (dk_at dksX1_get_0 10 rfl rfl)
theorem dX1_get_11 : decode cX1_get 11 = .ok (.laload, 1) := dk_47 (dk_at dksX1_get_0 11 rfl rfl)
theorem dX1_get_12 : decode cX1_get 12 = .ok (.lreturn, 1) := dk_173 (dk_at dksX1_get_0 12 rfl rfl)
abbrev cX1_most : ByteArray := prog_1_method_8_code
def yX1_most : MethodName := ⟨RX1, "most", "()J"⟩
def dkwX1_most_0 : List UInt8 := [42, 180, 0, 7, 184, 0, 34, 173]
abbrev dktX1_most_0 : List UInt8 := dkwX1_most_0 ++ []
theorem dksX1_most_0 : cX1_most.data.toList.drop 0 = dktX1_most_0 := by decide +kernel
theorem dX1_most_0 : decode cX1_most 0 = .ok (.aload_n 0, 1) := dk_42 (dk_at dksX1_most_0 0 rfl rfl)
theorem dX1_most_1 : decode cX1_most 1 = .ok (.getfield 7, 3) := dk_180 0 7 (dk_at dksX1_most_0 1 rfl rfl)
theorem dX1_most_4 : decode cX1_most 4 = .ok (.invokestatic 34, 3) := dk_184 0 34 (dk_at dksX1_most_0 4 rfl rfl)
theorem dX1_most_7 : decode cX1_most 7 = .ok (.lreturn, 1) := dk_173 (dk_at dksX1_most_0 7 rfl rfl)
abbrev cX1_least : ByteArray := prog_1_method_9_code
def yX1_least : MethodName := ⟨RX1, "least", "()J"⟩
def dkwX1_least_0 : List UInt8 := [42, 180, 0, 7, 184, 0, 38, 173]
abbrev dktX1_least_0 : List UInt8 := dkwX1_least_0 ++ []
theorem dksX1_least_0 : cX1_least.data.toList.drop 0 = dktX1_least_0 := by decide +kernel
theorem dX1_least_0 : decode cX1_least 0 = .ok (.aload_n 0, 1) := dk_42 (dk_at dksX1_least_0 0 rfl rfl)
theorem dX1_least_1 : decode cX1_least 1 = .ok (.getfield 7, 3) := dk_180 0 7 (dk_at dksX1_least_0 1 rfl rfl)
theorem dX1_least_4 : decode cX1_least 4 = .ok (.invokestatic 38, 3) := dk_184 0 38 (dk_at dksX1_least_0 4 rfl rfl)
theorem dX1_least_7 : decode cX1_least 7 = .ok (.lreturn, 1) := dk_173 (dk_at dksX1_least_0 7 rfl rfl)
abbrev cX1_letter : ByteArray := prog_1_method_14_code
def yX1_letter : MethodName := ⟨RX1, "letter", "(II)I"⟩
def dkwX1_letter_1 : List UInt8 := [172]
abbrev dktX1_letter_1 : List UInt8 := dkwX1_letter_1 ++ []
def dkwX1_letter_0 : List UInt8 := [42, 180, 0, 7, 27, 18, 15, 126, 16, 12, 112, 47, 184, 0, 56, 28, 16, 7, 126, 51, 17, 0, 255, 126]
abbrev dktX1_letter_0 : List UInt8 := dkwX1_letter_0 ++ dktX1_letter_1
theorem dksX1_letter_0 : cX1_letter.data.toList.drop 0 = dktX1_letter_0 := by decide +kernel
theorem dksX1_letter_1 : cX1_letter.data.toList.drop 24 = dktX1_letter_1 := dk_seg dksX1_letter_0 24 rfl rfl
theorem dX1_letter_0 : decode cX1_letter 0 = .ok (.aload_n 0, 1) := dk_42 (dk_at dksX1_letter_0 0 rfl rfl)
theorem dX1_letter_1 : decode cX1_letter 1 = .ok (.getfield 7, 3) := dk_180 0 7 (dk_at dksX1_letter_0 1 rfl rfl)
theorem dX1_letter_4 : decode cX1_letter 4 = .ok (.iload_n 1, 1) := dk_27 (dk_at dksX1_letter_0 4 rfl rfl)
theorem dX1_letter_5 : decode cX1_letter 5 = .ok (.ldc 15, 2) := dk_18 15 (dk_at dksX1_letter_0 5 rfl rfl)
theorem dX1_letter_7 : decode cX1_letter 7 = .ok (.iand, 1) := dk_126 (dk_at dksX1_letter_0 7 rfl rfl)
theorem dX1_letter_8 : decode cX1_letter 8 = .ok (.bipush 12, 2) := dk_16 12 (dk_at dksX1_letter_0 8 rfl rfl)
theorem dX1_letter_10 : decode cX1_letter 10 = .ok (.irem, 1) := dk_112 (dk_at dksX1_letter_0 10 rfl rfl)
theorem dX1_letter_11 : decode cX1_letter 11 = .ok (.laload, 1) := dk_47 (dk_at dksX1_letter_0 11 rfl rfl)
theorem dX1_letter_12 : decode cX1_letter 12 = .ok (.invokestatic 56, 3) := dk_184 0 56 (dk_at dksX1_letter_0 12 rfl rfl)
theorem dX1_letter_15 : decode cX1_letter 15 = .ok (.iload_n 2, 1) := dk_28 (dk_at dksX1_letter_0 15 rfl rfl)
theorem dX1_letter_16 : decode cX1_letter 16 = .ok (.bipush 7, 2) := dk_16 7 (dk_at dksX1_letter_0 16 rfl rfl)
theorem dX1_letter_18 : decode cX1_letter 18 = .ok (.iand, 1) := dk_126 (dk_at dksX1_letter_0 18 rfl rfl)
theorem dX1_letter_19 : decode cX1_letter 19 = .ok (.baload, 1) := dk_51 (dk_at dksX1_letter_0 19 rfl rfl)
theorem dX1_letter_20 : decode cX1_letter 20 = .ok (.sipush 255, 3) := dk_17 0 255 (dk_at dksX1_letter_0 20 rfl rfl)
theorem dX1_letter_23 : decode cX1_letter 23 = .ok (.iand, 1) := dk_126 (dk_at dksX1_letter_0 23 rfl rfl)
theorem dX1_letter_24 : decode cX1_letter 24 = .ok (.ireturn, 1) := dk_172 (dk_at dksX1_letter_1 0 rfl rfl)
abbrev cX1_ofBytes : ByteArray := prog_1_method_13_code
def yX1_ofBytes : MethodName := ⟨RX1, "ofBytes", "(II)J"⟩
def dkwX1_ofBytes_1 : List UInt8 := [16, 16, 122, 145, 28, 16, 8, 122, 145, 28, 145, 184, 0, 52, 173]
abbrev dktX1_ofBytes_1 : List UInt8 := dkwX1_ofBytes_1 ++ []
def dkwX1_ofBytes_0 : List UInt8 := [27, 16, 24, 122, 145, 27, 16, 16, 122, 145, 27, 16, 8, 122, 145, 27, 145, 28, 16, 24, 122, 145, 28]
abbrev dktX1_ofBytes_0 : List UInt8 := dkwX1_ofBytes_0 ++ dktX1_ofBytes_1
theorem dksX1_ofBytes_0 : cX1_ofBytes.data.toList.drop 0 = dktX1_ofBytes_0 := by decide +kernel
theorem dksX1_ofBytes_1 : cX1_ofBytes.data.toList.drop 23 = dktX1_ofBytes_1 := dk_seg dksX1_ofBytes_0 23 rfl rfl
theorem dX1_ofBytes_0 : decode cX1_ofBytes 0 = .ok (.iload_n 1, 1) := dk_27 (dk_at dksX1_ofBytes_0 0 rfl rfl)
theorem dX1_ofBytes_1 : decode cX1_ofBytes 1 = .ok (.bipush 24, 2) := dk_16 24 (dk_at dksX1_ofBytes_0 1 rfl rfl)
theorem dX1_ofBytes_3 : decode cX1_ofBytes 3 = .ok (.ishr, 1) := dk_122 (dk_at dksX1_ofBytes_0 3 rfl rfl)
theorem dX1_ofBytes_4 : decode cX1_ofBytes 4 = .ok (.i2b, 1) := dk_145 (dk_at dksX1_ofBytes_0 4 rfl rfl)
theorem dX1_ofBytes_5 : decode cX1_ofBytes 5 = .ok (.iload_n 1, 1) := dk_27 (dk_at dksX1_ofBytes_0 5 rfl rfl)
theorem dX1_ofBytes_6 : decode cX1_ofBytes 6 = .ok (.bipush 16, 2) := dk_16 16 (dk_at dksX1_ofBytes_0 6 rfl rfl)
theorem dX1_ofBytes_8 : decode cX1_ofBytes 8 = .ok (.ishr, 1) := dk_122 (dk_at dksX1_ofBytes_0 8 rfl rfl)
theorem dX1_ofBytes_9 : decode cX1_ofBytes 9 = .ok (.i2b, 1) := dk_145 (dk_at dksX1_ofBytes_0 9 rfl rfl)
theorem dX1_ofBytes_10 : decode cX1_ofBytes 10 = .ok (.iload_n 1, 1) := dk_27 (dk_at dksX1_ofBytes_0 10 rfl rfl)
theorem dX1_ofBytes_11 : decode cX1_ofBytes 11 = .ok (.bipush 8, 2) := dk_16 8 (dk_at dksX1_ofBytes_0 11 rfl rfl)
theorem dX1_ofBytes_13 : decode cX1_ofBytes 13 = .ok (.ishr, 1) := dk_122 (dk_at dksX1_ofBytes_0 13 rfl rfl)
theorem dX1_ofBytes_14 : decode cX1_ofBytes 14 = .ok (.i2b, 1) := dk_145 (dk_at dksX1_ofBytes_0 14 rfl rfl)
theorem dX1_ofBytes_15 : decode cX1_ofBytes 15 = .ok (.iload_n 1, 1) := dk_27 (dk_at dksX1_ofBytes_0 15 rfl rfl)
theorem dX1_ofBytes_16 : decode cX1_ofBytes 16 = .ok (.i2b, 1) := dk_145 (dk_at dksX1_ofBytes_0 16 rfl rfl)
theorem dX1_ofBytes_17 : decode cX1_ofBytes 17 = .ok (.iload_n 2, 1) := dk_28 (dk_at dksX1_ofBytes_0 17 rfl rfl)
theorem dX1_ofBytes_18 : decode cX1_ofBytes 18 = .ok (.bipush 24, 2) := dk_16 24 (dk_at dksX1_ofBytes_0 18 rfl rfl)
theorem dX1_ofBytes_20 : decode cX1_ofBytes 20 = .ok (.ishr, 1) := dk_122 (dk_at dksX1_ofBytes_0 20 rfl rfl)
theorem dX1_ofBytes_21 : decode cX1_ofBytes 21 = .ok (.i2b, 1) := dk_145 (dk_at dksX1_ofBytes_0 21 rfl rfl)
theorem dX1_ofBytes_22 : decode cX1_ofBytes 22 = .ok (.iload_n 2, 1) := dk_28 (dk_at dksX1_ofBytes_0 22 rfl rfl)
theorem dX1_ofBytes_23 : decode cX1_ofBytes 23 = .ok (.bipush 16, 2) := dk_16 16 (dk_at dksX1_ofBytes_1 0 rfl rfl)
theorem dX1_ofBytes_25 : decode cX1_ofBytes 25 = .ok (.ishr, 1) := dk_122 (dk_at dksX1_ofBytes_1 2 rfl rfl)
theorem dX1_ofBytes_26 : decode cX1_ofBytes 26 = .ok (.i2b, 1) := dk_145 (dk_at dksX1_ofBytes_1 3 rfl rfl)
theorem dX1_ofBytes_27 : decode cX1_ofBytes 27 = .ok (.iload_n 2, 1) := dk_28 (dk_at dksX1_ofBytes_1 4 rfl rfl)
theorem dX1_ofBytes_28 : decode cX1_ofBytes 28 = .ok (.bipush 8, 2) := dk_16 8 (dk_at dksX1_ofBytes_1 5 rfl rfl)
theorem dX1_ofBytes_30 : decode cX1_ofBytes 30 = .ok (.ishr, 1) := dk_122 (dk_at dksX1_ofBytes_1 7 rfl rfl)
theorem dX1_ofBytes_31 : decode cX1_ofBytes 31 = .ok (.i2b, 1) := dk_145 (dk_at dksX1_ofBytes_1 8 rfl rfl)
theorem dX1_ofBytes_32 : decode cX1_ofBytes 32 = .ok (.iload_n 2, 1) := dk_28 (dk_at dksX1_ofBytes_1 9 rfl rfl)
theorem dX1_ofBytes_33 : decode cX1_ofBytes 33 = .ok (.i2b, 1) := dk_145 (dk_at dksX1_ofBytes_1 10 rfl rfl)
theorem dX1_ofBytes_34 : decode cX1_ofBytes 34 = .ok (.invokestatic 52, 3) := dk_184 0 52 (dk_at dksX1_ofBytes_1 11 rfl rfl)
theorem dX1_ofBytes_37 : decode cX1_ofBytes 37 = .ok (.lreturn, 1) := dk_173 (dk_at dksX1_ofBytes_1 14 rfl rfl)
abbrev cX1_within : ByteArray := prog_1_method_15_code
def yX1_within : MethodName := ⟨RX1, "within", "(III)J"⟩
def dkwX1_within_3 : List UInt8 := [184, 0, 60, 173]
abbrev dktX1_within_3 : List UInt8 := dkwX1_within_3 ++ []
def dkwX1_within_2 : List UInt8 := [22, 4, 167, 0, 5, 22, 6, 22, 4, 22, 6, 148, 156, 0, 8, 22, 6, 167, 0, 5, 22, 4]
abbrev dktX1_within_2 : List UInt8 := dkwX1_within_2 ++ dktX1_within_3
def dkwX1_within_1 : List UInt8 := [112, 47, 55, 6, 42, 180, 0, 7, 27, 18, 15, 126, 16, 12, 112, 47, 22, 4, 22, 6, 148, 156, 0, 8]
abbrev dktX1_within_1 : List UInt8 := dkwX1_within_1 ++ dktX1_within_2
def dkwX1_within_0 : List UInt8 := [42, 180, 0, 7, 28, 18, 15, 126, 16, 12, 112, 47, 55, 4, 42, 180, 0, 7, 29, 18, 15, 126, 16, 12]
abbrev dktX1_within_0 : List UInt8 := dkwX1_within_0 ++ dktX1_within_1
theorem dksX1_within_0 : cX1_within.data.toList.drop 0 = dktX1_within_0 := by decide +kernel
theorem dksX1_within_1 : cX1_within.data.toList.drop 24 = dktX1_within_1 := dk_seg dksX1_within_0 24 rfl rfl
theorem dksX1_within_2 : cX1_within.data.toList.drop 48 = dktX1_within_2 := dk_seg dksX1_within_1 24 rfl rfl
theorem dksX1_within_3 : cX1_within.data.toList.drop 70 = dktX1_within_3 := dk_seg dksX1_within_2 22 rfl rfl
theorem dX1_within_0 : decode cX1_within 0 = .ok (.aload_n 0, 1) := dk_42 (dk_at dksX1_within_0 0 rfl rfl)
theorem dX1_within_1 : decode cX1_within 1 = .ok (.getfield 7, 3) := dk_180 0 7 (dk_at dksX1_within_0 1 rfl rfl)
theorem dX1_within_4 : decode cX1_within 4 = .ok (.iload_n 2, 1) := dk_28 (dk_at dksX1_within_0 4 rfl rfl)
theorem dX1_within_5 : decode cX1_within 5 = .ok (.ldc 15, 2) := dk_18 15 (dk_at dksX1_within_0 5 rfl rfl)
theorem dX1_within_7 : decode cX1_within 7 = .ok (.iand, 1) := dk_126 (dk_at dksX1_within_0 7 rfl rfl)
theorem dX1_within_8 : decode cX1_within 8 = .ok (.bipush 12, 2) := dk_16 12 (dk_at dksX1_within_0 8 rfl rfl)
theorem dX1_within_10 : decode cX1_within 10 = .ok (.irem, 1) := dk_112 (dk_at dksX1_within_0 10 rfl rfl)
theorem dX1_within_11 : decode cX1_within 11 = .ok (.laload, 1) := dk_47 (dk_at dksX1_within_0 11 rfl rfl)
theorem dX1_within_12 : decode cX1_within 12 = .ok (.lstore 4, 2) := dk_55 4 (dk_at dksX1_within_0 12 rfl rfl)
theorem dX1_within_14 : decode cX1_within 14 = .ok (.aload_n 0, 1) := dk_42 (dk_at dksX1_within_0 14 rfl rfl)
theorem dX1_within_15 : decode cX1_within 15 = .ok (.getfield 7, 3) := dk_180 0 7 (dk_at dksX1_within_0 15 rfl rfl)
theorem dX1_within_18 : decode cX1_within 18 = .ok (.iload_n 3, 1) := dk_29 (dk_at dksX1_within_0 18 rfl rfl)
theorem dX1_within_19 : decode cX1_within 19 = .ok (.ldc 15, 2) := dk_18 15 (dk_at dksX1_within_0 19 rfl rfl)
theorem dX1_within_21 : decode cX1_within 21 = .ok (.iand, 1) := dk_126 (dk_at dksX1_within_0 21 rfl rfl)
theorem dX1_within_22 : decode cX1_within 22 = .ok (.bipush 12, 2) := dk_16 12 (dk_at dksX1_within_0 22 rfl rfl)
theorem dX1_within_24 : decode cX1_within 24 = .ok (.irem, 1) := dk_112 (dk_at dksX1_within_1 0 rfl rfl)
theorem dX1_within_25 : decode cX1_within 25 = .ok (.laload, 1) := dk_47 (dk_at dksX1_within_1 1 rfl rfl)
theorem dX1_within_26 : decode cX1_within 26 = .ok (.lstore 6, 2) := dk_55 6 (dk_at dksX1_within_1 2 rfl rfl)
theorem dX1_within_28 : decode cX1_within 28 = .ok (.aload_n 0, 1) := dk_42 (dk_at dksX1_within_1 4 rfl rfl)
theorem dX1_within_29 : decode cX1_within 29 = .ok (.getfield 7, 3) := dk_180 0 7 (dk_at dksX1_within_1 5 rfl rfl)
theorem dX1_within_32 : decode cX1_within 32 = .ok (.iload_n 1, 1) := dk_27 (dk_at dksX1_within_1 8 rfl rfl)
theorem dX1_within_33 : decode cX1_within 33 = .ok (.ldc 15, 2) := dk_18 15 (dk_at dksX1_within_1 9 rfl rfl)
theorem dX1_within_35 : decode cX1_within 35 = .ok (.iand, 1) := dk_126 (dk_at dksX1_within_1 11 rfl rfl)
theorem dX1_within_36 : decode cX1_within 36 = .ok (.bipush 12, 2) := dk_16 12 (dk_at dksX1_within_1 12 rfl rfl)
theorem dX1_within_38 : decode cX1_within 38 = .ok (.irem, 1) := dk_112 (dk_at dksX1_within_1 14 rfl rfl)
theorem dX1_within_39 : decode cX1_within 39 = .ok (.laload, 1) := dk_47 (dk_at dksX1_within_1 15 rfl rfl)
theorem dX1_within_40 : decode cX1_within 40 = .ok (.lload 4, 2) := dk_22 4 (dk_at dksX1_within_1 16 rfl rfl)
theorem dX1_within_42 : decode cX1_within 42 = .ok (.lload 6, 2) := dk_22 6 (dk_at dksX1_within_1 18 rfl rfl)
theorem dX1_within_44 : decode cX1_within 44 = .ok (.lcmp, 1) := dk_148 (dk_at dksX1_within_1 20 rfl rfl)
theorem dX1_within_45 : decode cX1_within 45 = .ok (.ifCond .ge 8, 3) := dk_156 0 8 (dk_at dksX1_within_1 21 rfl rfl)
theorem dX1_within_48 : decode cX1_within 48 = .ok (.lload 4, 2) := dk_22 4 (dk_at dksX1_within_2 0 rfl rfl)
theorem dX1_within_50 : decode cX1_within 50 = .ok (.goto 5, 3) := dk_167 0 5 (dk_at dksX1_within_2 2 rfl rfl)
theorem dX1_within_53 : decode cX1_within 53 = .ok (.lload 6, 2) := dk_22 6 (dk_at dksX1_within_2 5 rfl rfl)
theorem dX1_within_55 : decode cX1_within 55 = .ok (.lload 4, 2) := dk_22 4 (dk_at dksX1_within_2 7 rfl rfl)
theorem dX1_within_57 : decode cX1_within 57 = .ok (.lload 6, 2) := dk_22 6 (dk_at dksX1_within_2 9 rfl rfl)
theorem dX1_within_59 : decode cX1_within 59 = .ok (.lcmp, 1) := dk_148 (dk_at dksX1_within_2 11 rfl rfl)
theorem dX1_within_60 : decode cX1_within 60 = .ok (.ifCond .ge 8, 3) := dk_156 0 8 (dk_at dksX1_within_2 12 rfl rfl)
theorem dX1_within_63 : decode cX1_within 63 = .ok (.lload 6, 2) := dk_22 6 (dk_at dksX1_within_2 15 rfl rfl)
theorem dX1_within_65 : decode cX1_within 65 = .ok (.goto 5, 3) := dk_167 0 5 (dk_at dksX1_within_2 17 rfl rfl)
theorem dX1_within_68 : decode cX1_within 68 = .ok (.lload 4, 2) := dk_22 4 (dk_at dksX1_within_2 20 rfl rfl)
theorem dX1_within_70 : decode cX1_within 70 = .ok (.invokestatic 60, 3) := dk_184 0 60 (dk_at dksX1_within_3 0 rfl rfl)
theorem dX1_within_73 : decode cX1_within 73 = .ok (.lreturn, 1) := dk_173 (dk_at dksX1_within_3 3 rfl rfl)
theorem q4 : (Jvm.Cond.initialized "LongRowDesk") ∈ lw_all := lw_g (lw_at lw_m1 1 rfl) rfl
theorem q14 : (Jvm.Cond.instantiable "LongRowDesk" (1 : Nat)) ∈ lw_all := lw_g (lw_at lw_m1 11 rfl) rfl
theorem q16 : (Jvm.Cond.instanceMethod ({ cls := "LongRowDesk", name := "<init>", desc := "()V" } : Jvm.MethodName)) ∈ lw_all := lw_g (lw_at lw_m1 13 rfl) rfl
theorem q17 : (Jvm.Cond.code ({ cls := "LongRowDesk", name := "<init>", desc := "()V" } : Jvm.MethodName) prog_1_method_1_code (1 : Nat) (Option.none : Option Jvm.ClassFile.FieldType)) ∈ lw_all := lw_g (lw_at lw_m1 14 rfl) rfl
theorem q18 : (Jvm.Cond.methodLink "LongRowDesk" (1 : Nat) ({ cls := "java/lang/Object", name := "<init>", desc := "()V" } : Jvm.MethodName)) ∈ lw_all := lw_g (lw_at lw_m1 15 rfl) rfl
theorem q21 : (Jvm.Cond.fieldLink "LongRowDesk" (7 : Nat) "LongRowDesk" "row" "[J") ∈ lw_all := lw_g (lw_at lw_m1 18 rfl) rfl
theorem q22 : (Jvm.Cond.laysFinal "LongRowDesk" "LongRowDesk" "row" "[J") ∈ lw_all := lw_g (lw_at lw_m1 19 rfl) rfl
theorem q23 : (Jvm.Cond.soleField "LongRowDesk" "row") ∈ lw_all := lw_g (lw_at lw_m1 20 rfl) rfl
theorem q24 : (Jvm.Cond.superclass "LongRowDesk" "java/lang/Object") ∈ lw_all := lw_g (lw_at lw_m1 21 rfl) rfl
theorem q27 : (Jvm.Cond.instanceMethod ({ cls := "LongRowDesk", name := "set", desc := "(III)V" } : Jvm.MethodName)) ∈ lw_all := lw_g (lw_at lw_m1 24 rfl) rfl
theorem q28 : (Jvm.Cond.selects "LongRowDesk" ({ cls := "LongRowDesk", name := "set", desc := "(III)V" } : Jvm.MethodName) ({ cls := "LongRowDesk", name := "set", desc := "(III)V" } : Jvm.MethodName)) ∈ lw_all := lw_g (lw_at lw_m1 25 rfl) rfl
theorem q29 : (Jvm.Cond.code ({ cls := "LongRowDesk", name := "set", desc := "(III)V" } : Jvm.MethodName) prog_1_method_3_code (4 : Nat) (Option.none : Option Jvm.ClassFile.FieldType)) ∈ lw_all := lw_g (lw_at lw_m1 26 rfl) rfl
theorem q30 : (Jvm.Cond.constant "LongRowDesk" (15 : Nat) (2147483647 : Int32)) ∈ lw_all := lw_g (lw_at lw_m1 27 rfl) rfl
theorem q31 : (Jvm.Cond.methodLink "LongRowDesk" (16 : Nat) ({ cls := "LongRowDesk", name := "wide", desc := "(II)J" } : Jvm.MethodName)) ∈ lw_all := lw_g (lw_at lw_m1 28 rfl) rfl
theorem q32 : (Jvm.Cond.static ({ cls := "LongRowDesk", name := "wide", desc := "(II)J" } : Jvm.MethodName)) ∈ lw_all := lw_g (lw_at lw_m1 29 rfl) rfl
theorem q33 : (Jvm.Cond.code ({ cls := "LongRowDesk", name := "wide", desc := "(II)J" } : Jvm.MethodName) prog_1_method_2_code (2 : Nat) (Option.some Jvm.ClassFile.FieldType.long)) ∈ lw_all := lw_g (lw_at lw_m1 30 rfl) rfl
theorem q34 : (Jvm.Cond.constantLong "LongRowDesk" (13 : Nat) (4294967295 : Int64)) ∈ lw_all := lw_g (lw_at lw_m1 31 rfl) rfl
theorem q36 : (Jvm.Cond.instanceMethod ({ cls := "LongRowDesk", name := "reverse", desc := "(II)V" } : Jvm.MethodName)) ∈ lw_all := lw_g (lw_at lw_m1 33 rfl) rfl
theorem q37 : (Jvm.Cond.selects "LongRowDesk" ({ cls := "LongRowDesk", name := "reverse", desc := "(II)V" } : Jvm.MethodName) ({ cls := "LongRowDesk", name := "reverse", desc := "(II)V" } : Jvm.MethodName)) ∈ lw_all := lw_g (lw_at lw_m1 34 rfl) rfl
theorem q38 : (Jvm.Cond.code ({ cls := "LongRowDesk", name := "reverse", desc := "(II)V" } : Jvm.MethodName) prog_1_method_7_code (4 : Nat) (Option.none : Option Jvm.ClassFile.FieldType)) ∈ lw_all := lw_g (lw_at lw_m1 35 rfl) rfl
theorem q39 : (Jvm.Cond.methodLink "LongRowDesk" (20 : Nat) ({ cls := "LongRowDesk", name := "from", desc := "(I)I" } : Jvm.MethodName)) ∈ lw_all := lw_g (lw_at lw_m1 36 rfl) rfl
theorem q40 : (Jvm.Cond.privateMethod ({ cls := "LongRowDesk", name := "from", desc := "(I)I" } : Jvm.MethodName)) ∈ lw_tbl := lw_at lw_m1 37 rfl
theorem q41 : (Jvm.Cond.instanceMethod ({ cls := "LongRowDesk", name := "from", desc := "(I)I" } : Jvm.MethodName)) ∈ lw_all := lw_g (lw_at lw_m1 38 rfl) rfl
theorem q42 : (Jvm.Cond.code ({ cls := "LongRowDesk", name := "from", desc := "(I)I" } : Jvm.MethodName) prog_1_method_5_code (2 : Nat) (Option.some Jvm.ClassFile.FieldType.int)) ∈ lw_all := lw_g (lw_at lw_m1 39 rfl) rfl
theorem q43 : (Jvm.Cond.methodLink "LongRowDesk" (24 : Nat) ({ cls := "LongRowDesk", name := "to", desc := "(II)I" } : Jvm.MethodName)) ∈ lw_all := lw_g (lw_at lw_m1 40 rfl) rfl
theorem q44 : (Jvm.Cond.privateMethod ({ cls := "LongRowDesk", name := "to", desc := "(II)I" } : Jvm.MethodName)) ∈ lw_tbl := lw_at lw_m1 41 rfl
theorem q45 : (Jvm.Cond.instanceMethod ({ cls := "LongRowDesk", name := "to", desc := "(II)I" } : Jvm.MethodName)) ∈ lw_all := lw_g (lw_at lw_m1 42 rfl) rfl
theorem q46 : (Jvm.Cond.code ({ cls := "LongRowDesk", name := "to", desc := "(II)I" } : Jvm.MethodName) prog_1_method_6_code (3 : Nat) (Option.some Jvm.ClassFile.FieldType.int)) ∈ lw_all := lw_g (lw_at lw_m1 43 rfl) rfl
theorem q47 : (Jvm.Cond.methodLink "LongRowDesk" (28 : Nat) ({ cls := "Longs", name := "reverse", desc := "([JII)V" } : Jvm.MethodName)) ∈ lw_all := lw_g (lw_at lw_m1 44 rfl) rfl
theorem q144 : (Jvm.Cond.instanceMethod ({ cls := "LongRowDesk", name := "find", desc := "(II)I" } : Jvm.MethodName)) ∈ lw_all := lw_g (lw_at lw_m1 141 rfl) rfl
theorem q145 : (Jvm.Cond.selects "LongRowDesk" ({ cls := "LongRowDesk", name := "find", desc := "(II)I" } : Jvm.MethodName) ({ cls := "LongRowDesk", name := "find", desc := "(II)I" } : Jvm.MethodName)) ∈ lw_all := lw_g (lw_at lw_m1 142 rfl) rfl
theorem q146 : (Jvm.Cond.code ({ cls := "LongRowDesk", name := "find", desc := "(II)I" } : Jvm.MethodName) prog_1_method_10_code (3 : Nat) (Option.some Jvm.ClassFile.FieldType.int)) ∈ lw_all := lw_g (lw_at lw_m1 143 rfl) rfl
theorem q147 : (Jvm.Cond.methodLink "LongRowDesk" (41 : Nat) ({ cls := "Longs", name := "indexOf", desc := "([JJ)I" } : Jvm.MethodName)) ∈ lw_all := lw_g (lw_at lw_m1 144 rfl) rfl
theorem q154 : (Jvm.Cond.instanceMethod ({ cls := "LongRowDesk", name := "findLast", desc := "(II)I" } : Jvm.MethodName)) ∈ lw_all := lw_g (lw_at lw_m1 151 rfl) rfl
theorem q155 : (Jvm.Cond.selects "LongRowDesk" ({ cls := "LongRowDesk", name := "findLast", desc := "(II)I" } : Jvm.MethodName) ({ cls := "LongRowDesk", name := "findLast", desc := "(II)I" } : Jvm.MethodName)) ∈ lw_all := lw_g (lw_at lw_m1 152 rfl) rfl
theorem q156 : (Jvm.Cond.code ({ cls := "LongRowDesk", name := "findLast", desc := "(II)I" } : Jvm.MethodName) prog_1_method_11_code (3 : Nat) (Option.some Jvm.ClassFile.FieldType.int)) ∈ lw_all := lw_g (lw_at lw_m1 153 rfl) rfl
theorem q157 : (Jvm.Cond.methodLink "LongRowDesk" (45 : Nat) ({ cls := "Longs", name := "lastIndexOf", desc := "([JJ)I" } : Jvm.MethodName)) ∈ lw_all := lw_g (lw_at lw_m1 154 rfl) rfl
theorem q164 : (Jvm.Cond.instanceMethod ({ cls := "LongRowDesk", name := "has", desc := "(II)Z" } : Jvm.MethodName)) ∈ lw_all := lw_g (lw_at lw_m1 161 rfl) rfl
theorem q165 : (Jvm.Cond.selects "LongRowDesk" ({ cls := "LongRowDesk", name := "has", desc := "(II)Z" } : Jvm.MethodName) ({ cls := "LongRowDesk", name := "has", desc := "(II)Z" } : Jvm.MethodName)) ∈ lw_all := lw_g (lw_at lw_m1 162 rfl) rfl
theorem q166 : (Jvm.Cond.code ({ cls := "LongRowDesk", name := "has", desc := "(II)Z" } : Jvm.MethodName) prog_1_method_12_code (3 : Nat) (Option.some Jvm.ClassFile.FieldType.boolean)) ∈ lw_all := lw_g (lw_at lw_m1 163 rfl) rfl
theorem q167 : (Jvm.Cond.methodLink "LongRowDesk" (48 : Nat) ({ cls := "Longs", name := "contains", desc := "([JJ)Z" } : Jvm.MethodName)) ∈ lw_all := lw_g (lw_at lw_m1 164 rfl) rfl
theorem q174 : (Jvm.Cond.instanceMethod ({ cls := "LongRowDesk", name := "get", desc := "(I)J" } : Jvm.MethodName)) ∈ lw_all := lw_g (lw_at lw_m1 171 rfl) rfl
theorem q175 : (Jvm.Cond.selects "LongRowDesk" ({ cls := "LongRowDesk", name := "get", desc := "(I)J" } : Jvm.MethodName) ({ cls := "LongRowDesk", name := "get", desc := "(I)J" } : Jvm.MethodName)) ∈ lw_all := lw_g (lw_at lw_m1 172 rfl) rfl
theorem q176 : (Jvm.Cond.code ({ cls := "LongRowDesk", name := "get", desc := "(I)J" } : Jvm.MethodName) prog_1_method_4_code (2 : Nat) (Option.some Jvm.ClassFile.FieldType.long)) ∈ lw_all := lw_g (lw_at lw_m1 173 rfl) rfl
theorem q178 : (Jvm.Cond.instanceMethod ({ cls := "LongRowDesk", name := "most", desc := "()J" } : Jvm.MethodName)) ∈ lw_all := lw_g (lw_at lw_m1 175 rfl) rfl
theorem q179 : (Jvm.Cond.selects "LongRowDesk" ({ cls := "LongRowDesk", name := "most", desc := "()J" } : Jvm.MethodName) ({ cls := "LongRowDesk", name := "most", desc := "()J" } : Jvm.MethodName)) ∈ lw_all := lw_g (lw_at lw_m1 176 rfl) rfl
theorem q180 : (Jvm.Cond.code ({ cls := "LongRowDesk", name := "most", desc := "()J" } : Jvm.MethodName) prog_1_method_8_code (1 : Nat) (Option.some Jvm.ClassFile.FieldType.long)) ∈ lw_all := lw_g (lw_at lw_m1 177 rfl) rfl
theorem q181 : (Jvm.Cond.methodLink "LongRowDesk" (34 : Nat) ({ cls := "Longs", name := "max", desc := "([J)J" } : Jvm.MethodName)) ∈ lw_all := lw_g (lw_at lw_m1 178 rfl) rfl
theorem q209 : (Jvm.Cond.instanceMethod ({ cls := "LongRowDesk", name := "least", desc := "()J" } : Jvm.MethodName)) ∈ lw_all := lw_g (lw_at lw_m1 206 rfl) rfl
theorem q210 : (Jvm.Cond.selects "LongRowDesk" ({ cls := "LongRowDesk", name := "least", desc := "()J" } : Jvm.MethodName) ({ cls := "LongRowDesk", name := "least", desc := "()J" } : Jvm.MethodName)) ∈ lw_all := lw_g (lw_at lw_m1 207 rfl) rfl
theorem q211 : (Jvm.Cond.code ({ cls := "LongRowDesk", name := "least", desc := "()J" } : Jvm.MethodName) prog_1_method_9_code (1 : Nat) (Option.some Jvm.ClassFile.FieldType.long)) ∈ lw_all := lw_g (lw_at lw_m1 208 rfl) rfl
theorem q212 : (Jvm.Cond.methodLink "LongRowDesk" (38 : Nat) ({ cls := "Longs", name := "min", desc := "([J)J" } : Jvm.MethodName)) ∈ lw_all := lw_g (lw_at lw_m1 209 rfl) rfl
theorem q219 : (Jvm.Cond.instanceMethod ({ cls := "LongRowDesk", name := "letter", desc := "(II)I" } : Jvm.MethodName)) ∈ lw_all := lw_g (lw_at lw_m1 216 rfl) rfl
theorem q220 : (Jvm.Cond.selects "LongRowDesk" ({ cls := "LongRowDesk", name := "letter", desc := "(II)I" } : Jvm.MethodName) ({ cls := "LongRowDesk", name := "letter", desc := "(II)I" } : Jvm.MethodName)) ∈ lw_all := lw_g (lw_at lw_m1 217 rfl) rfl
theorem q221 : (Jvm.Cond.code ({ cls := "LongRowDesk", name := "letter", desc := "(II)I" } : Jvm.MethodName) prog_1_method_14_code (3 : Nat) (Option.some Jvm.ClassFile.FieldType.int)) ∈ lw_all := lw_g (lw_at lw_m1 218 rfl) rfl
theorem q222 : (Jvm.Cond.methodLink "LongRowDesk" (56 : Nat) ({ cls := "Longs", name := "toByteArray", desc := "(J)[B" } : Jvm.MethodName)) ∈ lw_all := lw_g (lw_at lw_m1 219 rfl) rfl
theorem q228 : (Jvm.Cond.instanceMethod ({ cls := "LongRowDesk", name := "ofBytes", desc := "(II)J" } : Jvm.MethodName)) ∈ lw_all := lw_g (lw_at lw_m1 225 rfl) rfl
theorem q229 : (Jvm.Cond.selects "LongRowDesk" ({ cls := "LongRowDesk", name := "ofBytes", desc := "(II)J" } : Jvm.MethodName) ({ cls := "LongRowDesk", name := "ofBytes", desc := "(II)J" } : Jvm.MethodName)) ∈ lw_all := lw_g (lw_at lw_m1 226 rfl) rfl
theorem q230 : (Jvm.Cond.code ({ cls := "LongRowDesk", name := "ofBytes", desc := "(II)J" } : Jvm.MethodName) prog_1_method_13_code (3 : Nat) (Option.some Jvm.ClassFile.FieldType.long)) ∈ lw_all := lw_g (lw_at lw_m1 227 rfl) rfl
theorem q231 : (Jvm.Cond.methodLink "LongRowDesk" (52 : Nat) ({ cls := "Longs", name := "fromBytes", desc := "(BBBBBBBB)J" } : Jvm.MethodName)) ∈ lw_all := lw_g (lw_at lw_m1 228 rfl) rfl
theorem q244 : (Jvm.Cond.instanceMethod ({ cls := "LongRowDesk", name := "within", desc := "(III)J" } : Jvm.MethodName)) ∈ lw_all := lw_g (lw_at lw_m2 1 rfl) rfl
theorem q245 : (Jvm.Cond.selects "LongRowDesk" ({ cls := "LongRowDesk", name := "within", desc := "(III)J" } : Jvm.MethodName) ({ cls := "LongRowDesk", name := "within", desc := "(III)J" } : Jvm.MethodName)) ∈ lw_all := lw_g (lw_at lw_m2 2 rfl) rfl
theorem q246 : (Jvm.Cond.code ({ cls := "LongRowDesk", name := "within", desc := "(III)J" } : Jvm.MethodName) prog_1_method_15_code (8 : Nat) (Option.some Jvm.ClassFile.FieldType.long)) ∈ lw_all := lw_g (lw_at lw_m2 3 rfl) rfl
theorem q247 : (Jvm.Cond.methodLink "LongRowDesk" (60 : Nat) ({ cls := "Longs", name := "constrainToRange", desc := "(JJJ)J" } : Jvm.MethodName)) ∈ lw_all := lw_g (lw_at lw_m2 4 rfl) rfl
theorem in_X1 : ∀ w ∈ wsX10, w ∈ lw_all := lw_in wsX10 [22] (by decide +kernel) (by decide +kernel)
end
section
/-! LongRowDeskLaw -/
set_option maxRecDepth 100000
def RX0 : String := "LongRowDeskLaw"
abbrev cX0_cell : ByteArray := method_2_code
def yX0_cell : MethodName := ⟨RX0, "cell", "([II)I"⟩
def dkwX0_cell_0 : List UInt8 := [27, 42, 190, 162, 0, 9, 42, 27, 46, 167, 0, 4, 3, 172]
abbrev dktX0_cell_0 : List UInt8 := dkwX0_cell_0 ++ []
theorem dksX0_cell_0 : cX0_cell.data.toList.drop 0 = dktX0_cell_0 := by decide +kernel
theorem dX0_cell_0 : decode cX0_cell 0 = .ok (.iload_n 1, 1) := dk_27 (dk_at dksX0_cell_0 0 rfl rfl)
theorem dX0_cell_1 : decode cX0_cell 1 = .ok (.aload_n 0, 1) := dk_42 (dk_at dksX0_cell_0 1 rfl rfl)
theorem dX0_cell_2 : decode cX0_cell 2 = .ok (.arraylength, 1) := dk_190 (dk_at dksX0_cell_0 2 rfl rfl)
theorem dX0_cell_3 : decode cX0_cell 3 = .ok (.if_icmp .ge 9, 3) := dk_162 0 9 (dk_at dksX0_cell_0 3 rfl rfl)
theorem dX0_cell_6 : decode cX0_cell 6 = .ok (.aload_n 0, 1) := dk_42 (dk_at dksX0_cell_0 6 rfl rfl)
theorem dX0_cell_7 : decode cX0_cell 7 = .ok (.iload_n 1, 1) := dk_27 (dk_at dksX0_cell_0 7 rfl rfl)
theorem dX0_cell_8 : decode cX0_cell 8 = .ok (.iaload, 1) := dk_46 (dk_at dksX0_cell_0 8 rfl rfl)
theorem dX0_cell_9 : decode cX0_cell 9 = .ok (.goto 4, 3) := dk_167 0 4 (dk_at dksX0_cell_0 9 rfl rfl)
theorem dX0_cell_12 : decode cX0_cell 12 = .ok (.iconst 0, 1) := dk_3 (dk_at dksX0_cell_0 12 rfl rfl)
theorem dX0_cell_13 : decode cX0_cell 13 = .ok (.ireturn, 1) := dk_172 (dk_at dksX0_cell_0 13 rfl rfl)
abbrev cX0_rest : ByteArray := method_3_code
def yX0_rest : MethodName := ⟨RX0, "rest", "(II)I"⟩
def dkwX0_rest_0 : List UInt8 := [26, 18, 7, 126, 27, 112, 172]
abbrev dktX0_rest_0 : List UInt8 := dkwX0_rest_0 ++ []
theorem dksX0_rest_0 : cX0_rest.data.toList.drop 0 = dktX0_rest_0 := by decide +kernel
theorem dX0_rest_0 : decode cX0_rest 0 = .ok (.iload_n 0, 1) := dk_26 (dk_at dksX0_rest_0 0 rfl rfl)
theorem dX0_rest_1 : decode cX0_rest 1 = .ok (.ldc 7, 2) := dk_18 7 (dk_at dksX0_rest_0 1 rfl rfl)
theorem dX0_rest_3 : decode cX0_rest 3 = .ok (.iand, 1) := dk_126 (dk_at dksX0_rest_0 3 rfl rfl)
theorem dX0_rest_4 : decode cX0_rest 4 = .ok (.iload_n 1, 1) := dk_27 (dk_at dksX0_rest_0 4 rfl rfl)
theorem dX0_rest_5 : decode cX0_rest 5 = .ok (.irem, 1) := dk_112 (dk_at dksX0_rest_0 5 rfl rfl)
theorem dX0_rest_6 : decode cX0_rest 6 = .ok (.ireturn, 1) := dk_172 (dk_at dksX0_rest_0 6 rfl rfl)
abbrev cX0_of : ByteArray := method_4_code
def yX0_of : MethodName := ⟨RX0, "of", "(II)J"⟩
def dkwX0_of_0 : List UInt8 := [26, 133, 16, 32, 121, 27, 133, 20, 0, 8, 127, 129, 173]
abbrev dktX0_of_0 : List UInt8 := dkwX0_of_0 ++ []
theorem dksX0_of_0 : cX0_of.data.toList.drop 0 = dktX0_of_0 := by decide +kernel
theorem dX0_of_0 : decode cX0_of 0 = .ok (.iload_n 0, 1) := dk_26 (dk_at dksX0_of_0 0 rfl rfl)
theorem dX0_of_1 : decode cX0_of 1 = .ok (.i2l, 1) := dk_133 (dk_at dksX0_of_0 1 rfl rfl)
theorem dX0_of_2 : decode cX0_of 2 = .ok (.bipush 32, 2) := dk_16 32 (dk_at dksX0_of_0 2 rfl rfl)
theorem dX0_of_4 : decode cX0_of 4 = .ok (.lshl, 1) := dk_121 (dk_at dksX0_of_0 4 rfl rfl)
theorem dX0_of_5 : decode cX0_of 5 = .ok (.iload_n 1, 1) := dk_27 (dk_at dksX0_of_0 5 rfl rfl)
theorem dX0_of_6 : decode cX0_of 6 = .ok (.i2l, 1) := dk_133 (dk_at dksX0_of_0 6 rfl rfl)
theorem dX0_of_7 : decode cX0_of 7 = .ok (.ldc2_w 8, 3) := dk_20 0 8 (dk_at dksX0_of_0 7 rfl rfl)
theorem dX0_of_10 : decode cX0_of 10 = .ok (.land, 1) := dk_127 (dk_at dksX0_of_0 10 rfl rfl)
theorem dX0_of_11 : decode cX0_of 11 = .ok (.lor, 1) := dk_129 (dk_at dksX0_of_0 11 rfl rfl)
theorem dX0_of_12 : decode cX0_of 12 = .ok (.lreturn, 1) := dk_173 (dk_at dksX0_of_0 12 rfl rfl)
abbrev cX0_high : ByteArray := method_5_code
def yX0_high : MethodName := ⟨RX0, "high", "(J)I"⟩
def dkwX0_high_0 : List UInt8 := [30, 16, 32, 123, 136, 172]
abbrev dktX0_high_0 : List UInt8 := dkwX0_high_0 ++ []
theorem dksX0_high_0 : cX0_high.data.toList.drop 0 = dktX0_high_0 := by decide +kernel
theorem dX0_high_0 : decode cX0_high 0 = .ok (.lload_n 0, 1) := dk_30 (dk_at dksX0_high_0 0 rfl rfl)
theorem dX0_high_1 : decode cX0_high 1 = .ok (.bipush 32, 2) := dk_16 32 (dk_at dksX0_high_0 1 rfl rfl)
theorem dX0_high_3 : decode cX0_high 3 = .ok (.lshr, 1) := dk_123 (dk_at dksX0_high_0 3 rfl rfl)
theorem dX0_high_4 : decode cX0_high 4 = .ok (.l2i, 1) := dk_136 (dk_at dksX0_high_0 4 rfl rfl)
theorem dX0_high_5 : decode cX0_high 5 = .ok (.ireturn, 1) := dk_172 (dk_at dksX0_high_0 5 rfl rfl)
abbrev cX0_isFound : ByteArray := method_7_code
def yX0_isFound : MethodName := ⟨RX0, "isFound", "(LLongRowDesk;[JJ)Z"⟩
def dkwX0_isFound_2 : List UInt8 := [136, 182, 0, 29, 21, 4, 155, 0, 7, 4, 167, 0, 4, 3, 160, 0, 7, 4, 167, 0, 4, 3, 172]
abbrev dktX0_isFound_2 : List UInt8 := dkwX0_isFound_2 ++ []
def dkwX0_isFound_1 : List UInt8 := [32, 184, 0, 16, 32, 136, 182, 0, 26, 43, 32, 4, 184, 0, 10, 160, 0, 30, 42, 32, 184, 0, 16, 32]
abbrev dktX0_isFound_1 : List UInt8 := dkwX0_isFound_1 ++ dktX0_isFound_2
def dkwX0_isFound_0 : List UInt8 := [43, 32, 3, 184, 0, 10, 54, 4, 42, 32, 184, 0, 16, 32, 136, 182, 0, 20, 21, 4, 160, 0, 49, 42]
abbrev dktX0_isFound_0 : List UInt8 := dkwX0_isFound_0 ++ dktX0_isFound_1
theorem dksX0_isFound_0 : cX0_isFound.data.toList.drop 0 = dktX0_isFound_0 := by decide +kernel
theorem dksX0_isFound_1 : cX0_isFound.data.toList.drop 24 = dktX0_isFound_1 := dk_seg dksX0_isFound_0 24 rfl rfl
theorem dksX0_isFound_2 : cX0_isFound.data.toList.drop 48 = dktX0_isFound_2 := dk_seg dksX0_isFound_1 24 rfl rfl
theorem dX0_isFound_0 : decode cX0_isFound 0 = .ok (.aload_n 1, 1) := dk_43 (dk_at dksX0_isFound_0 0 rfl rfl)
theorem dX0_isFound_1 : decode cX0_isFound 1 = .ok (.lload_n 2, 1) := dk_32 (dk_at dksX0_isFound_0 1 rfl rfl)
theorem dX0_isFound_2 : decode cX0_isFound 2 = .ok (.iconst 0, 1) := dk_3 (dk_at dksX0_isFound_0 2 rfl rfl)
theorem dX0_isFound_3 : decode cX0_isFound 3 = .ok (.invokestatic 10, 3) := dk_184 0 10 (dk_at dksX0_isFound_0 3 rfl rfl)
theorem dX0_isFound_6 : decode cX0_isFound 6 = .ok (.istore 4, 2) := dk_54 4 (dk_at dksX0_isFound_0 6 rfl rfl)
theorem dX0_isFound_8 : decode cX0_isFound 8 = .ok (.aload_n 0, 1) := dk_42 (dk_at dksX0_isFound_0 8 rfl rfl)
theorem dX0_isFound_9 : decode cX0_isFound 9 = .ok (.lload_n 2, 1) := dk_32 (dk_at dksX0_isFound_0 9 rfl rfl)
theorem dX0_isFound_10 : decode cX0_isFound 10 = .ok (.invokestatic 16, 3) := dk_184 0 16 (dk_at dksX0_isFound_0 10 rfl rfl)
theorem dX0_isFound_13 : decode cX0_isFound 13 = .ok (.lload_n 2, 1) := dk_32 (dk_at dksX0_isFound_0 13 rfl rfl)
theorem dX0_isFound_14 : decode cX0_isFound 14 = .ok (.l2i, 1) := dk_136 (dk_at dksX0_isFound_0 14 rfl rfl)
theorem dX0_isFound_15 : decode cX0_isFound 15 = .ok (.invokevirtual 20, 3) := dk_182 0 20 (dk_at dksX0_isFound_0 15 rfl rfl)
theorem dX0_isFound_18 : decode cX0_isFound 18 = .ok (.iload 4, 2) := dk_21 4 (dk_at dksX0_isFound_0 18 rfl rfl)
theorem dX0_isFound_20 : decode cX0_isFound 20 = .ok (.if_icmp .ne 49, 3) := dk_160 0 49 (dk_at dksX0_isFound_0 20 rfl rfl)
theorem dX0_isFound_23 : decode cX0_isFound 23 = .ok (.aload_n 0, 1) := dk_42 (dk_at dksX0_isFound_0 23 rfl rfl)
theorem dX0_isFound_24 : decode cX0_isFound 24 = .ok (.lload_n 2, 1) := dk_32 (dk_at dksX0_isFound_1 0 rfl rfl)
theorem dX0_isFound_25 : decode cX0_isFound 25 = .ok (.invokestatic 16, 3) := dk_184 0 16 (dk_at dksX0_isFound_1 1 rfl rfl)
theorem dX0_isFound_28 : decode cX0_isFound 28 = .ok (.lload_n 2, 1) := dk_32 (dk_at dksX0_isFound_1 4 rfl rfl)
theorem dX0_isFound_29 : decode cX0_isFound 29 = .ok (.l2i, 1) := dk_136 (dk_at dksX0_isFound_1 5 rfl rfl)
theorem dX0_isFound_30 : decode cX0_isFound 30 = .ok (.invokevirtual 26, 3) := dk_182 0 26 (dk_at dksX0_isFound_1 6 rfl rfl)
theorem dX0_isFound_33 : decode cX0_isFound 33 = .ok (.aload_n 1, 1) := dk_43 (dk_at dksX0_isFound_1 9 rfl rfl)
theorem dX0_isFound_34 : decode cX0_isFound 34 = .ok (.lload_n 2, 1) := dk_32 (dk_at dksX0_isFound_1 10 rfl rfl)
theorem dX0_isFound_35 : decode cX0_isFound 35 = .ok (.iconst 1, 1) := dk_4 (dk_at dksX0_isFound_1 11 rfl rfl)
theorem dX0_isFound_36 : decode cX0_isFound 36 = .ok (.invokestatic 10, 3) := dk_184 0 10 (dk_at dksX0_isFound_1 12 rfl rfl)
theorem dX0_isFound_39 : decode cX0_isFound 39 = .ok (.if_icmp .ne 30, 3) := dk_160 0 30 (dk_at dksX0_isFound_1 15 rfl rfl)
theorem dX0_isFound_42 : decode cX0_isFound 42 = .ok (.aload_n 0, 1) := dk_42 (dk_at dksX0_isFound_1 18 rfl rfl)
theorem dX0_isFound_43 : decode cX0_isFound 43 = .ok (.lload_n 2, 1) := dk_32 (dk_at dksX0_isFound_1 19 rfl rfl)
theorem dX0_isFound_44 : decode cX0_isFound 44 = .ok (.invokestatic 16, 3) := dk_184 0 16 (dk_at dksX0_isFound_1 20 rfl rfl)
theorem dX0_isFound_47 : decode cX0_isFound 47 = .ok (.lload_n 2, 1) := dk_32 (dk_at dksX0_isFound_1 23 rfl rfl)
theorem dX0_isFound_48 : decode cX0_isFound 48 = .ok (.l2i, 1) := dk_136 (dk_at dksX0_isFound_2 0 rfl rfl)
theorem dX0_isFound_49 : decode cX0_isFound 49 = .ok (.invokevirtual 29, 3) := dk_182 0 29 (dk_at dksX0_isFound_2 1 rfl rfl)
theorem dX0_isFound_52 : decode cX0_isFound 52 = .ok (.iload 4, 2) := dk_21 4 (dk_at dksX0_isFound_2 4 rfl rfl)
theorem dX0_isFound_54 : decode cX0_isFound 54 = .ok (.ifCond .lt 7, 3) := dk_155 0 7 (dk_at dksX0_isFound_2 6 rfl rfl)
theorem dX0_isFound_57 : decode cX0_isFound 57 = .ok (.iconst 1, 1) := dk_4 (dk_at dksX0_isFound_2 9 rfl rfl)
theorem dX0_isFound_58 : decode cX0_isFound 58 = .ok (.goto 4, 3) := dk_167 0 4 (dk_at dksX0_isFound_2 10 rfl rfl)
theorem dX0_isFound_61 : decode cX0_isFound 61 = .ok (.iconst 0, 1) := dk_3 (dk_at dksX0_isFound_2 13 rfl rfl)
theorem dX0_isFound_62 : decode cX0_isFound 62 = .ok (.if_icmp .ne 7, 3) := dk_160 0 7 (dk_at dksX0_isFound_2 14 rfl rfl)
theorem dX0_isFound_65 : decode cX0_isFound 65 = .ok (.iconst 1, 1) := dk_4 (dk_at dksX0_isFound_2 17 rfl rfl)
theorem dX0_isFound_66 : decode cX0_isFound 66 = .ok (.goto 4, 3) := dk_167 0 4 (dk_at dksX0_isFound_2 18 rfl rfl)
theorem dX0_isFound_69 : decode cX0_isFound 69 = .ok (.iconst 0, 1) := dk_3 (dk_at dksX0_isFound_2 21 rfl rfl)
theorem dX0_isFound_70 : decode cX0_isFound 70 = .ok (.ireturn, 1) := dk_172 (dk_at dksX0_isFound_2 22 rfl rfl)
abbrev cX0_place : ByteArray := method_6_code
def yX0_place : MethodName := ⟨RX0, "place", "([JJZ)I"⟩
def dkwX0_place_1 : List UInt8 := [155, 0, 7, 29, 153, 0, 7, 21, 5, 54, 4, 132, 5, 1, 167, 255, 224, 21, 4, 172]
abbrev dktX0_place_1 : List UInt8 := dkwX0_place_1 ++ []
def dkwX0_place_0 : List UInt8 := [2, 54, 4, 3, 54, 5, 21, 5, 16, 12, 162, 0, 31, 42, 21, 5, 47, 31, 148, 154, 0, 16, 21, 4]
abbrev dktX0_place_0 : List UInt8 := dkwX0_place_0 ++ dktX0_place_1
theorem dksX0_place_0 : cX0_place.data.toList.drop 0 = dktX0_place_0 := by decide +kernel
theorem dksX0_place_1 : cX0_place.data.toList.drop 24 = dktX0_place_1 := dk_seg dksX0_place_0 24 rfl rfl
theorem dX0_place_0 : decode cX0_place 0 = .ok (.iconst (-1), 1) := dk_2 (dk_at dksX0_place_0 0 rfl rfl)
theorem dX0_place_1 : decode cX0_place 1 = .ok (.istore 4, 2) := dk_54 4 (dk_at dksX0_place_0 1 rfl rfl)
theorem dX0_place_3 : decode cX0_place 3 = .ok (.iconst 0, 1) := dk_3 (dk_at dksX0_place_0 3 rfl rfl)
theorem dX0_place_4 : decode cX0_place 4 = .ok (.istore 5, 2) := dk_54 5 (dk_at dksX0_place_0 4 rfl rfl)
theorem dX0_place_6 : decode cX0_place 6 = .ok (.iload 5, 2) := dk_21 5 (dk_at dksX0_place_0 6 rfl rfl)
theorem dX0_place_8 : decode cX0_place 8 = .ok (.bipush 12, 2) := dk_16 12 (dk_at dksX0_place_0 8 rfl rfl)
theorem dX0_place_10 : decode cX0_place 10 = .ok (.if_icmp .ge 31, 3) := dk_162 0 31 (dk_at dksX0_place_0 10 rfl rfl)
theorem dX0_place_13 : decode cX0_place 13 = .ok (.aload_n 0, 1) := dk_42 (dk_at dksX0_place_0 13 rfl rfl)
theorem dX0_place_14 : decode cX0_place 14 = .ok (.iload 5, 2) := dk_21 5 (dk_at dksX0_place_0 14 rfl rfl)
theorem dX0_place_16 : decode cX0_place 16 = .ok (.laload, 1) := dk_47 (dk_at dksX0_place_0 16 rfl rfl)
theorem dX0_place_17 : decode cX0_place 17 = .ok (.lload_n 1, 1) := dk_31 (dk_at dksX0_place_0 17 rfl rfl)
theorem dX0_place_18 : decode cX0_place 18 = .ok (.lcmp, 1) := dk_148 (dk_at dksX0_place_0 18 rfl rfl)
theorem dX0_place_19 : decode cX0_place 19 = .ok (.ifCond .ne 16, 3) := dk_154 0 16 (dk_at dksX0_place_0 19 rfl rfl)
theorem dX0_place_22 : decode cX0_place 22 = .ok (.iload 4, 2) := dk_21 4 (dk_at dksX0_place_0 22 rfl rfl)
theorem dX0_place_24 : decode cX0_place 24 = .ok (.ifCond .lt 7, 3) := dk_155 0 7 (dk_at dksX0_place_1 0 rfl rfl)
theorem dX0_place_27 : decode cX0_place 27 = .ok (.iload_n 3, 1) := dk_29 (dk_at dksX0_place_1 3 rfl rfl)
theorem dX0_place_28 : decode cX0_place 28 = .ok (.ifCond .eq 7, 3) := dk_153 0 7 (dk_at dksX0_place_1 4 rfl rfl)
theorem dX0_place_31 : decode cX0_place 31 = .ok (.iload 5, 2) := dk_21 5 (dk_at dksX0_place_1 7 rfl rfl)
theorem dX0_place_33 : decode cX0_place 33 = .ok (.istore 4, 2) := dk_54 4 (dk_at dksX0_place_1 9 rfl rfl)
theorem dX0_place_35 : decode cX0_place 35 = .ok (.iinc 5 1, 3) := dk_132 5 1 (dk_at dksX0_place_1 11 rfl rfl)
theorem dX0_place_38 : decode cX0_place 38 = .ok (.goto (-32), 3) := dk_167 255 224 (dk_at dksX0_place_1 14 rfl rfl)
theorem dX0_place_41 : decode cX0_place 41 = .ok (.iload 4, 2) := dk_21 4 (dk_at dksX0_place_1 17 rfl rfl)
theorem dX0_place_43 : decode cX0_place 43 = .ok (.ireturn, 1) := dk_172 (dk_at dksX0_place_1 19 rfl rfl)
abbrev cX0_same : ByteArray := method_8_code
def yX0_same : MethodName := ⟨RX0, "same", "(LLongRowDesk;[J)Z"⟩
def dkwX0_same_4 : List UInt8 := [182, 0, 41, 22, 4, 148, 154, 0, 7, 4, 167, 0, 4, 3, 172]
abbrev dktX0_same_4 : List UInt8 := dkwX0_same_4 ++ []
def dkwX0_same_3 : List UInt8 := [167, 0, 5, 22, 4, 55, 4, 132, 6, 1, 167, 255, 191, 42, 182, 0, 37, 32, 148, 154, 0, 17, 42]
abbrev dktX0_same_3 : List UInt8 := dkwX0_same_3 ++ dktX0_same_4
def dkwX0_same_2 : List UInt8 := [21, 6, 47, 167, 0, 4, 32, 65, 43, 21, 6, 47, 22, 4, 148, 156, 0, 10, 43, 21, 6, 47]
abbrev dktX0_same_2 : List UInt8 := dkwX0_same_2 ++ dktX0_same_3
def dkwX0_same_1 : List UInt8 := [182, 0, 33, 43, 21, 6, 47, 148, 153, 0, 5, 3, 172, 43, 21, 6, 47, 32, 148, 158, 0, 10, 43]
abbrev dktX0_same_1 : List UInt8 := dkwX0_same_1 ++ dktX0_same_2
def dkwX0_same_0 : List UInt8 := [43, 3, 47, 65, 43, 3, 47, 55, 4, 3, 54, 6, 21, 6, 16, 12, 162, 0, 64, 42, 21, 6]
abbrev dktX0_same_0 : List UInt8 := dkwX0_same_0 ++ dktX0_same_1
theorem dksX0_same_0 : cX0_same.data.toList.drop 0 = dktX0_same_0 := by decide +kernel
theorem dksX0_same_1 : cX0_same.data.toList.drop 22 = dktX0_same_1 := dk_seg dksX0_same_0 22 rfl rfl
theorem dksX0_same_2 : cX0_same.data.toList.drop 45 = dktX0_same_2 := dk_seg dksX0_same_1 23 rfl rfl
theorem dksX0_same_3 : cX0_same.data.toList.drop 67 = dktX0_same_3 := dk_seg dksX0_same_2 22 rfl rfl
theorem dksX0_same_4 : cX0_same.data.toList.drop 90 = dktX0_same_4 := dk_seg dksX0_same_3 23 rfl rfl
theorem dX0_same_0 : decode cX0_same 0 = .ok (.aload_n 1, 1) := dk_43 (dk_at dksX0_same_0 0 rfl rfl)
theorem dX0_same_1 : decode cX0_same 1 = .ok (.iconst 0, 1) := dk_3 (dk_at dksX0_same_0 1 rfl rfl)
theorem dX0_same_2 : decode cX0_same 2 = .ok (.laload, 1) := dk_47 (dk_at dksX0_same_0 2 rfl rfl)
theorem dX0_same_3 : decode cX0_same 3 = .ok (.lstore_n 2, 1) := dk_65 (dk_at dksX0_same_0 3 rfl rfl)
theorem dX0_same_4 : decode cX0_same 4 = .ok (.aload_n 1, 1) := dk_43 (dk_at dksX0_same_0 4 rfl rfl)
theorem dX0_same_5 : decode cX0_same 5 = .ok (.iconst 0, 1) := dk_3 (dk_at dksX0_same_0 5 rfl rfl)
theorem dX0_same_6 : decode cX0_same 6 = .ok (.laload, 1) := dk_47 (dk_at dksX0_same_0 6 rfl rfl)
theorem dX0_same_7 : decode cX0_same 7 = .ok (.lstore 4, 2) := dk_55 4 (dk_at dksX0_same_0 7 rfl rfl)
theorem dX0_same_9 : decode cX0_same 9 = .ok (.iconst 0, 1) := dk_3 (dk_at dksX0_same_0 9 rfl rfl)
theorem dX0_same_10 : decode cX0_same 10 = .ok (.istore 6, 2) := dk_54 6 (dk_at dksX0_same_0 10 rfl rfl)
theorem dX0_same_12 : decode cX0_same 12 = .ok (.iload 6, 2) := dk_21 6 (dk_at dksX0_same_0 12 rfl rfl)
theorem dX0_same_14 : decode cX0_same 14 = .ok (.bipush 12, 2) := dk_16 12 (dk_at dksX0_same_0 14 rfl rfl)
theorem dX0_same_16 : decode cX0_same 16 = .ok (.if_icmp .ge 64, 3) := dk_162 0 64 (dk_at dksX0_same_0 16 rfl rfl)
theorem dX0_same_19 : decode cX0_same 19 = .ok (.aload_n 0, 1) := dk_42 (dk_at dksX0_same_0 19 rfl rfl)
theorem dX0_same_20 : decode cX0_same 20 = .ok (.iload 6, 2) := dk_21 6 (dk_at dksX0_same_0 20 rfl rfl)
theorem dX0_same_22 : decode cX0_same 22 = .ok (.invokevirtual 33, 3) := dk_182 0 33 (dk_at dksX0_same_1 0 rfl rfl)
theorem dX0_same_25 : decode cX0_same 25 = .ok (.aload_n 1, 1) := dk_43 (dk_at dksX0_same_1 3 rfl rfl)
theorem dX0_same_26 : decode cX0_same 26 = .ok (.iload 6, 2) := dk_21 6 (dk_at dksX0_same_1 4 rfl rfl)
theorem dX0_same_28 : decode cX0_same 28 = .ok (.laload, 1) := dk_47 (dk_at dksX0_same_1 6 rfl rfl)
theorem dX0_same_29 : decode cX0_same 29 = .ok (.lcmp, 1) := dk_148 (dk_at dksX0_same_1 7 rfl rfl)
theorem dX0_same_30 : decode cX0_same 30 = .ok (.ifCond .eq 5, 3) := dk_153 0 5 (dk_at dksX0_same_1 8 rfl rfl)
theorem dX0_same_33 : decode cX0_same 33 = .ok (.iconst 0, 1) := dk_3 (dk_at dksX0_same_1 11 rfl rfl)
theorem dX0_same_34 : decode cX0_same 34 = .ok (.ireturn, 1) := dk_172 (dk_at dksX0_same_1 12 rfl rfl)
theorem dX0_same_35 : decode cX0_same 35 = .ok (.aload_n 1, 1) := dk_43 (dk_at dksX0_same_1 13 rfl rfl)
theorem dX0_same_36 : decode cX0_same 36 = .ok (.iload 6, 2) := dk_21 6 (dk_at dksX0_same_1 14 rfl rfl)
theorem dX0_same_38 : decode cX0_same 38 = .ok (.laload, 1) := dk_47 (dk_at dksX0_same_1 16 rfl rfl)
theorem dX0_same_39 : decode cX0_same 39 = .ok (.lload_n 2, 1) := dk_32 (dk_at dksX0_same_1 17 rfl rfl)
theorem dX0_same_40 : decode cX0_same 40 = .ok (.lcmp, 1) := dk_148 (dk_at dksX0_same_1 18 rfl rfl)
theorem dX0_same_41 : decode cX0_same 41 = .ok (.ifCond .le 10, 3) := dk_158 0 10 (dk_at dksX0_same_1 19 rfl rfl)
theorem dX0_same_44 : decode cX0_same 44 = .ok (.aload_n 1, 1) := dk_43 (dk_at dksX0_same_1 22 rfl rfl)
theorem dX0_same_45 : decode cX0_same 45 = .ok (.iload 6, 2) := dk_21 6 (dk_at dksX0_same_2 0 rfl rfl)
theorem dX0_same_47 : decode cX0_same 47 = .ok (.laload, 1) := dk_47 (dk_at dksX0_same_2 2 rfl rfl)
theorem dX0_same_48 : decode cX0_same 48 = .ok (.goto 4, 3) := dk_167 0 4 (dk_at dksX0_same_2 3 rfl rfl)
theorem dX0_same_51 : decode cX0_same 51 = .ok (.lload_n 2, 1) := dk_32 (dk_at dksX0_same_2 6 rfl rfl)
theorem dX0_same_52 : decode cX0_same 52 = .ok (.lstore_n 2, 1) := dk_65 (dk_at dksX0_same_2 7 rfl rfl)
theorem dX0_same_53 : decode cX0_same 53 = .ok (.aload_n 1, 1) := dk_43 (dk_at dksX0_same_2 8 rfl rfl)
theorem dX0_same_54 : decode cX0_same 54 = .ok (.iload 6, 2) := dk_21 6 (dk_at dksX0_same_2 9 rfl rfl)
theorem dX0_same_56 : decode cX0_same 56 = .ok (.laload, 1) := dk_47 (dk_at dksX0_same_2 11 rfl rfl)
theorem dX0_same_57 : decode cX0_same 57 = .ok (.lload 4, 2) := dk_22 4 (dk_at dksX0_same_2 12 rfl rfl)
theorem dX0_same_59 : decode cX0_same 59 = .ok (.lcmp, 1) := dk_148 (dk_at dksX0_same_2 14 rfl rfl)
theorem dX0_same_60 : decode cX0_same 60 = .ok (.ifCond .ge 10, 3) := dk_156 0 10 (dk_at dksX0_same_2 15 rfl rfl)
theorem dX0_same_63 : decode cX0_same 63 = .ok (.aload_n 1, 1) := dk_43 (dk_at dksX0_same_2 18 rfl rfl)
theorem dX0_same_64 : decode cX0_same 64 = .ok (.iload 6, 2) := dk_21 6 (dk_at dksX0_same_2 19 rfl rfl)
theorem dX0_same_66 : decode cX0_same 66 = .ok (.laload, 1) := dk_47 (dk_at dksX0_same_2 21 rfl rfl)
theorem dX0_same_67 : decode cX0_same 67 = .ok (.goto 5, 3) := dk_167 0 5 (dk_at dksX0_same_3 0 rfl rfl)
theorem dX0_same_70 : decode cX0_same 70 = .ok (.lload 4, 2) := dk_22 4 (dk_at dksX0_same_3 3 rfl rfl)
theorem dX0_same_72 : decode cX0_same 72 = .ok (.lstore 4, 2) := dk_55 4 (dk_at dksX0_same_3 5 rfl rfl)
theorem dX0_same_74 : decode cX0_same 74 = .ok (.iinc 6 1, 3) := dk_132 6 1 (dk_at dksX0_same_3 7 rfl rfl)
theorem dX0_same_77 : decode cX0_same 77 = .ok (.goto (-65), 3) := dk_167 255 191 (dk_at dksX0_same_3 10 rfl rfl)
theorem dX0_same_80 : decode cX0_same 80 = .ok (.aload_n 0, 1) := dk_42 (dk_at dksX0_same_3 13 rfl rfl)
theorem dX0_same_81 : decode cX0_same 81 = .ok (.invokevirtual 37, 3) := dk_182 0 37 (dk_at dksX0_same_3 14 rfl rfl)
theorem dX0_same_84 : decode cX0_same 84 = .ok (.lload_n 2, 1) := dk_32 (dk_at dksX0_same_3 17 rfl rfl)
theorem dX0_same_85 : decode cX0_same 85 = .ok (.lcmp, 1) := dk_148 (dk_at dksX0_same_3 18 rfl rfl)
theorem dX0_same_86 : decode cX0_same 86 = .ok (.ifCond .ne 17, 3) := dk_154 0 17 (dk_at dksX0_same_3 19 rfl rfl)
theorem dX0_same_89 : decode cX0_same 89 = .ok (.aload_n 0, 1) := dk_42 (dk_at dksX0_same_3 22 rfl rfl)
theorem dX0_same_90 : decode cX0_same 90 = .ok (.invokevirtual 41, 3) := dk_182 0 41 (dk_at dksX0_same_4 0 rfl rfl)
theorem dX0_same_93 : decode cX0_same 93 = .ok (.lload 4, 2) := dk_22 4 (dk_at dksX0_same_4 3 rfl rfl)
theorem dX0_same_95 : decode cX0_same 95 = .ok (.lcmp, 1) := dk_148 (dk_at dksX0_same_4 5 rfl rfl)
theorem dX0_same_96 : decode cX0_same 96 = .ok (.ifCond .ne 7, 3) := dk_154 0 7 (dk_at dksX0_same_4 6 rfl rfl)
theorem dX0_same_99 : decode cX0_same 99 = .ok (.iconst 1, 1) := dk_4 (dk_at dksX0_same_4 9 rfl rfl)
theorem dX0_same_100 : decode cX0_same 100 = .ok (.goto 4, 3) := dk_167 0 4 (dk_at dksX0_same_4 10 rfl rfl)
theorem dX0_same_103 : decode cX0_same 103 = .ok (.iconst 0, 1) := dk_3 (dk_at dksX0_same_4 13 rfl rfl)
theorem dX0_same_104 : decode cX0_same 104 = .ok (.ireturn, 1) := dk_172 (dk_at dksX0_same_4 14 rfl rfl)
abbrev cX0_isBytes : ByteArray := method_9_code
def yX0_isBytes : MethodName := ⟨RX0, "isBytes", "(LLongRowDesk;[JIII)Z"⟩
def dkwX0_isBytes_4 : List UInt8 := [20, 0, 50, 127, 136, 160, 0, 7, 4, 167, 0, 4, 3, 172]
abbrev dktX0_isBytes_4 : List UInt8 := dkwX0_isBytes_4 ++ []
def dkwX0_isBytes_3 : List UInt8 := [182, 0, 44, 43, 28, 16, 12, 184, 0, 47, 47, 16, 8, 16, 7, 29, 16, 7, 126, 100, 104, 125]
abbrev dktX0_isBytes_3 : List UInt8 := dkwX0_isBytes_3 ++ dktX0_isBytes_4
def dkwX0_isBytes_2 : List UInt8 := [167, 255, 212, 42, 29, 21, 4, 182, 0, 52, 29, 21, 4, 184, 0, 56, 148, 154, 0, 40, 42, 28, 29]
abbrev dktX0_isBytes_2 : List UInt8 := dkwX0_isBytes_2 ++ dktX0_isBytes_3
def dkwX0_isBytes_1 : List UInt8 := [47, 16, 8, 16, 7, 21, 5, 100, 104, 125, 20, 0, 50, 127, 136, 159, 0, 5, 3, 172, 132, 5, 1]
abbrev dktX0_isBytes_1 : List UInt8 := dkwX0_isBytes_1 ++ dktX0_isBytes_2
def dkwX0_isBytes_0 : List UInt8 := [3, 54, 5, 21, 5, 16, 8, 162, 0, 43, 42, 28, 21, 5, 182, 0, 44, 43, 28, 16, 12, 184, 0, 47]
abbrev dktX0_isBytes_0 : List UInt8 := dkwX0_isBytes_0 ++ dktX0_isBytes_1
theorem dksX0_isBytes_0 : cX0_isBytes.data.toList.drop 0 = dktX0_isBytes_0 := by decide +kernel
theorem dksX0_isBytes_1 : cX0_isBytes.data.toList.drop 24 = dktX0_isBytes_1 := dk_seg dksX0_isBytes_0 24 rfl rfl
theorem dksX0_isBytes_2 : cX0_isBytes.data.toList.drop 47 = dktX0_isBytes_2 := dk_seg dksX0_isBytes_1 23 rfl rfl
theorem dksX0_isBytes_3 : cX0_isBytes.data.toList.drop 70 = dktX0_isBytes_3 := dk_seg dksX0_isBytes_2 23 rfl rfl
theorem dksX0_isBytes_4 : cX0_isBytes.data.toList.drop 92 = dktX0_isBytes_4 := dk_seg dksX0_isBytes_3 22 rfl rfl
theorem dX0_isBytes_0 : decode cX0_isBytes 0 = .ok (.iconst 0, 1) := dk_3 (dk_at dksX0_isBytes_0 0 rfl rfl)
theorem dX0_isBytes_1 : decode cX0_isBytes 1 = .ok (.istore 5, 2) := dk_54 5 (dk_at dksX0_isBytes_0 1 rfl rfl)
theorem dX0_isBytes_3 : decode cX0_isBytes 3 = .ok (.iload 5, 2) := dk_21 5 (dk_at dksX0_isBytes_0 3 rfl rfl)
theorem dX0_isBytes_5 : decode cX0_isBytes 5 = .ok (.bipush 8, 2) := dk_16 8 (dk_at dksX0_isBytes_0 5 rfl rfl)
theorem dX0_isBytes_7 : decode cX0_isBytes 7 = .ok (.if_icmp .ge 43, 3) := dk_162 0 43 (dk_at dksX0_isBytes_0 7 rfl rfl)
theorem dX0_isBytes_10 : decode cX0_isBytes 10 = .ok (.aload_n 0, 1) := dk_42 (dk_at dksX0_isBytes_0 10 rfl rfl)
theorem dX0_isBytes_11 : decode cX0_isBytes 11 = .ok (.iload_n 2, 1) := dk_28 (dk_at dksX0_isBytes_0 11 rfl rfl)
theorem dX0_isBytes_12 : decode cX0_isBytes 12 = .ok (.iload 5, 2) := dk_21 5 (dk_at dksX0_isBytes_0 12 rfl rfl)
theorem dX0_isBytes_14 : decode cX0_isBytes 14 = .ok (.invokevirtual 44, 3) := dk_182 0 44 (dk_at dksX0_isBytes_0 14 rfl rfl)
theorem dX0_isBytes_17 : decode cX0_isBytes 17 = .ok (.aload_n 1, 1) := dk_43 (dk_at dksX0_isBytes_0 17 rfl rfl)
theorem dX0_isBytes_18 : decode cX0_isBytes 18 = .ok (.iload_n 2, 1) := dk_28 (dk_at dksX0_isBytes_0 18 rfl rfl)
theorem dX0_isBytes_19 : decode cX0_isBytes 19 = .ok (.bipush 12, 2) := dk_16 12 (dk_at dksX0_isBytes_0 19 rfl rfl)
theorem dX0_isBytes_21 : decode cX0_isBytes 21 = .ok (.invokestatic 47, 3) := dk_184 0 47 (dk_at dksX0_isBytes_0 21 rfl rfl)
theorem dX0_isBytes_24 : decode cX0_isBytes 24 = .ok (.laload, 1) := dk_47 (dk_at dksX0_isBytes_1 0 rfl rfl)
theorem dX0_isBytes_25 : decode cX0_isBytes 25 = .ok (.bipush 8, 2) := dk_16 8 (dk_at dksX0_isBytes_1 1 rfl rfl)
theorem dX0_isBytes_27 : decode cX0_isBytes 27 = .ok (.bipush 7, 2) := dk_16 7 (dk_at dksX0_isBytes_1 3 rfl rfl)
theorem dX0_isBytes_29 : decode cX0_isBytes 29 = .ok (.iload 5, 2) := dk_21 5 (dk_at dksX0_isBytes_1 5 rfl rfl)
theorem dX0_isBytes_31 : decode cX0_isBytes 31 = .ok (.isub, 1) := dk_100 (dk_at dksX0_isBytes_1 7 rfl rfl)
theorem dX0_isBytes_32 : decode cX0_isBytes 32 = .ok (.imul, 1) := dk_104 (dk_at dksX0_isBytes_1 8 rfl rfl)
theorem dX0_isBytes_33 : decode cX0_isBytes 33 = .ok (.lushr, 1) := dk_125 (dk_at dksX0_isBytes_1 9 rfl rfl)
theorem dX0_isBytes_34 : decode cX0_isBytes 34 = .ok (.ldc2_w 50, 3) := dk_20 0 50 (dk_at dksX0_isBytes_1 10 rfl rfl)
theorem dX0_isBytes_37 : decode cX0_isBytes 37 = .ok (.land, 1) := dk_127 (dk_at dksX0_isBytes_1 13 rfl rfl)
theorem dX0_isBytes_38 : decode cX0_isBytes 38 = .ok (.l2i, 1) := dk_136 (dk_at dksX0_isBytes_1 14 rfl rfl)
theorem dX0_isBytes_39 : decode cX0_isBytes 39 = .ok (.if_icmp .eq 5, 3) := dk_159 0 5 (dk_at dksX0_isBytes_1 15 rfl rfl)
theorem dX0_isBytes_42 : decode cX0_isBytes 42 = .ok (.iconst 0, 1) := dk_3 (dk_at dksX0_isBytes_1 18 rfl rfl)
theorem dX0_isBytes_43 : decode cX0_isBytes 43 = .ok (.ireturn, 1) := dk_172 (dk_at dksX0_isBytes_1 19 rfl rfl)
theorem dX0_isBytes_44 : decode cX0_isBytes 44 = .ok (.iinc 5 1, 3) := dk_132 5 1 (dk_at dksX0_isBytes_1 20 rfl rfl)
theorem dX0_isBytes_47 : decode cX0_isBytes 47 = .ok (.goto (-44), 3) := dk_167 255 212 (dk_at dksX0_isBytes_2 0 rfl rfl)
theorem dX0_isBytes_50 : decode cX0_isBytes 50 = .ok (.aload_n 0, 1) := dk_42 (dk_at dksX0_isBytes_2 3 rfl rfl)
theorem dX0_isBytes_51 : decode cX0_isBytes 51 = .ok (.iload_n 3, 1) := dk_29 (dk_at dksX0_isBytes_2 4 rfl rfl)
theorem dX0_isBytes_52 : decode cX0_isBytes 52 = .ok (.iload 4, 2) := dk_21 4 (dk_at dksX0_isBytes_2 5 rfl rfl)
theorem dX0_isBytes_54 : decode cX0_isBytes 54 = .ok (.invokevirtual 52, 3) := dk_182 0 52 (dk_at dksX0_isBytes_2 7 rfl rfl)
theorem dX0_isBytes_57 : decode cX0_isBytes 57 = .ok (.iload_n 3, 1) := dk_29 (dk_at dksX0_isBytes_2 10 rfl rfl)
theorem dX0_isBytes_58 : decode cX0_isBytes 58 = .ok (.iload 4, 2) := dk_21 4 (dk_at dksX0_isBytes_2 11 rfl rfl)
theorem dX0_isBytes_60 : decode cX0_isBytes 60 = .ok (.invokestatic 56, 3) := dk_184 0 56 (dk_at dksX0_isBytes_2 13 rfl rfl)
theorem dX0_isBytes_63 : decode cX0_isBytes 63 = .ok (.lcmp, 1) := dk_148 (dk_at dksX0_isBytes_2 16 rfl rfl)
theorem dX0_isBytes_64 : decode cX0_isBytes 64 = .ok (.ifCond .ne 40, 3) := dk_154 0 40 (dk_at dksX0_isBytes_2 17 rfl rfl)
theorem dX0_isBytes_67 : decode cX0_isBytes 67 = .ok (.aload_n 0, 1) := dk_42 (dk_at dksX0_isBytes_2 20 rfl rfl)
theorem dX0_isBytes_68 : decode cX0_isBytes 68 = .ok (.iload_n 2, 1) := dk_28 (dk_at dksX0_isBytes_2 21 rfl rfl)
theorem dX0_isBytes_69 : decode cX0_isBytes 69 = .ok (.iload_n 3, 1) := dk_29 (dk_at dksX0_isBytes_2 22 rfl rfl)
theorem dX0_isBytes_70 : decode cX0_isBytes 70 = .ok (.invokevirtual 44, 3) := dk_182 0 44 (dk_at dksX0_isBytes_3 0 rfl rfl)
theorem dX0_isBytes_73 : decode cX0_isBytes 73 = .ok (.aload_n 1, 1) := dk_43 (dk_at dksX0_isBytes_3 3 rfl rfl)
theorem dX0_isBytes_74 : decode cX0_isBytes 74 = .ok (.iload_n 2, 1) := dk_28 (dk_at dksX0_isBytes_3 4 rfl rfl)
theorem dX0_isBytes_75 : decode cX0_isBytes 75 = .ok (.bipush 12, 2) := dk_16 12 (dk_at dksX0_isBytes_3 5 rfl rfl)
theorem dX0_isBytes_77 : decode cX0_isBytes 77 = .ok (.invokestatic 47, 3) := dk_184 0 47 (dk_at dksX0_isBytes_3 7 rfl rfl)
theorem dX0_isBytes_80 : decode cX0_isBytes 80 = .ok (.laload, 1) := dk_47 (dk_at dksX0_isBytes_3 10 rfl rfl)
theorem dX0_isBytes_81 : decode cX0_isBytes 81 = .ok (.bipush 8, 2) := dk_16 8 (dk_at dksX0_isBytes_3 11 rfl rfl)
theorem dX0_isBytes_83 : decode cX0_isBytes 83 = .ok (.bipush 7, 2) := dk_16 7 (dk_at dksX0_isBytes_3 13 rfl rfl)
theorem dX0_isBytes_85 : decode cX0_isBytes 85 = .ok (.iload_n 3, 1) := dk_29 (dk_at dksX0_isBytes_3 15 rfl rfl)
theorem dX0_isBytes_86 : decode cX0_isBytes 86 = .ok (.bipush 7, 2) := dk_16 7 (dk_at dksX0_isBytes_3 16 rfl rfl)
theorem dX0_isBytes_88 : decode cX0_isBytes 88 = .ok (.iand, 1) := dk_126 (dk_at dksX0_isBytes_3 18 rfl rfl)
theorem dX0_isBytes_89 : decode cX0_isBytes 89 = .ok (.isub, 1) := dk_100 (dk_at dksX0_isBytes_3 19 rfl rfl)
theorem dX0_isBytes_90 : decode cX0_isBytes 90 = .ok (.imul, 1) := dk_104 (dk_at dksX0_isBytes_3 20 rfl rfl)
theorem dX0_isBytes_91 : decode cX0_isBytes 91 = .ok (.lushr, 1) := dk_125 (dk_at dksX0_isBytes_3 21 rfl rfl)
theorem dX0_isBytes_92 : decode cX0_isBytes 92 = .ok (.ldc2_w 50, 3) := dk_20 0 50 (dk_at dksX0_isBytes_4 0 rfl rfl)
theorem dX0_isBytes_95 : decode cX0_isBytes 95 = .ok (.land, 1) := dk_127 (dk_at dksX0_isBytes_4 3 rfl rfl)
theorem dX0_isBytes_96 : decode cX0_isBytes 96 = .ok (.l2i, 1) := dk_136 (dk_at dksX0_isBytes_4 4 rfl rfl)
theorem dX0_isBytes_97 : decode cX0_isBytes 97 = .ok (.if_icmp .ne 7, 3) := dk_160 0 7 (dk_at dksX0_isBytes_4 5 rfl rfl)
theorem dX0_isBytes_100 : decode cX0_isBytes 100 = .ok (.iconst 1, 1) := dk_4 (dk_at dksX0_isBytes_4 8 rfl rfl)
theorem dX0_isBytes_101 : decode cX0_isBytes 101 = .ok (.goto 4, 3) := dk_167 0 4 (dk_at dksX0_isBytes_4 9 rfl rfl)
theorem dX0_isBytes_104 : decode cX0_isBytes 104 = .ok (.iconst 0, 1) := dk_3 (dk_at dksX0_isBytes_4 12 rfl rfl)
theorem dX0_isBytes_105 : decode cX0_isBytes 105 = .ok (.ireturn, 1) := dk_172 (dk_at dksX0_isBytes_4 13 rfl rfl)
abbrev cX0_isHeld : ByteArray := method_10_code
def yX0_isHeld : MethodName := ⟨RX0, "isHeld", "(LLongRowDesk;[JIII)Z"⟩
def dkwX0_isHeld_4 : List UInt8 := [154, 0, 7, 4, 167, 0, 4, 3, 172]
abbrev dktX0_isHeld_4 : List UInt8 := dkwX0_isHeld_4 ++ []
def dkwX0_isHeld_3 : List UInt8 := [156, 0, 8, 22, 7, 167, 0, 18, 22, 5, 22, 9, 148, 158, 0, 8, 22, 9, 167, 0, 5, 22, 5, 148]
abbrev dktX0_isHeld_3 : List UInt8 := dkwX0_isHeld_3 ++ dktX0_isHeld_4
def dkwX0_isHeld_2 : List UInt8 := [184, 0, 47, 47, 184, 0, 65, 55, 9, 42, 28, 29, 21, 4, 182, 0, 68, 22, 5, 22, 7, 148]
abbrev dktX0_isHeld_2 : List UInt8 := dkwX0_isHeld_2 ++ dktX0_isHeld_3
def dkwX0_isHeld_1 : List UInt8 := [184, 0, 47, 47, 184, 0, 59, 55, 7, 43, 29, 16, 12, 184, 0, 47, 47, 43, 21, 4, 16, 12]
abbrev dktX0_isHeld_1 : List UInt8 := dkwX0_isHeld_1 ++ dktX0_isHeld_2
def dkwX0_isHeld_0 : List UInt8 := [43, 28, 16, 12, 184, 0, 47, 47, 55, 5, 43, 29, 16, 12, 184, 0, 47, 47, 43, 21, 4, 16, 12]
abbrev dktX0_isHeld_0 : List UInt8 := dkwX0_isHeld_0 ++ dktX0_isHeld_1
theorem dksX0_isHeld_0 : cX0_isHeld.data.toList.drop 0 = dktX0_isHeld_0 := by decide +kernel
theorem dksX0_isHeld_1 : cX0_isHeld.data.toList.drop 23 = dktX0_isHeld_1 := dk_seg dksX0_isHeld_0 23 rfl rfl
theorem dksX0_isHeld_2 : cX0_isHeld.data.toList.drop 45 = dktX0_isHeld_2 := dk_seg dksX0_isHeld_1 22 rfl rfl
theorem dksX0_isHeld_3 : cX0_isHeld.data.toList.drop 67 = dktX0_isHeld_3 := dk_seg dksX0_isHeld_2 22 rfl rfl
theorem dksX0_isHeld_4 : cX0_isHeld.data.toList.drop 91 = dktX0_isHeld_4 := dk_seg dksX0_isHeld_3 24 rfl rfl
theorem dX0_isHeld_0 : decode cX0_isHeld 0 = .ok (.aload_n 1, 1) := dk_43 (dk_at dksX0_isHeld_0 0 rfl rfl)
theorem dX0_isHeld_1 : decode cX0_isHeld 1 = .ok (.iload_n 2, 1) := dk_28 (dk_at dksX0_isHeld_0 1 rfl rfl)
theorem dX0_isHeld_2 : decode cX0_isHeld 2 = .ok (.bipush 12, 2) := dk_16 12 (dk_at dksX0_isHeld_0 2 rfl rfl)
theorem dX0_isHeld_4 : decode cX0_isHeld 4 = .ok (.invokestatic 47, 3) := dk_184 0 47 (dk_at dksX0_isHeld_0 4 rfl rfl)
theorem dX0_isHeld_7 : decode cX0_isHeld 7 = .ok (.laload, 1) := dk_47 (dk_at dksX0_isHeld_0 7 rfl rfl)
theorem dX0_isHeld_8 : decode cX0_isHeld 8 = .ok (.lstore 5, 2) := dk_55 5 (dk_at dksX0_isHeld_0 8 rfl rfl)
theorem dX0_isHeld_10 : decode cX0_isHeld 10 = .ok (.aload_n 1, 1) := dk_43 (dk_at dksX0_isHeld_0 10 rfl rfl)
theorem dX0_isHeld_11 : decode cX0_isHeld 11 = .ok (.iload_n 3, 1) := dk_29 (dk_at dksX0_isHeld_0 11 rfl rfl)
theorem dX0_isHeld_12 : decode cX0_isHeld 12 = .ok (.bipush 12, 2) := dk_16 12 (dk_at dksX0_isHeld_0 12 rfl rfl)
theorem dX0_isHeld_14 : decode cX0_isHeld 14 = .ok (.invokestatic 47, 3) := dk_184 0 47 (dk_at dksX0_isHeld_0 14 rfl rfl)
theorem dX0_isHeld_17 : decode cX0_isHeld 17 = .ok (.laload, 1) := dk_47 (dk_at dksX0_isHeld_0 17 rfl rfl)
theorem dX0_isHeld_18 : decode cX0_isHeld 18 = .ok (.aload_n 1, 1) := dk_43 (dk_at dksX0_isHeld_0 18 rfl rfl)
theorem dX0_isHeld_19 : decode cX0_isHeld 19 = .ok (.iload 4, 2) := dk_21 4 (dk_at dksX0_isHeld_0 19 rfl rfl)
theorem dX0_isHeld_21 : decode cX0_isHeld 21 = .ok (.bipush 12, 2) := dk_16 12 (dk_at dksX0_isHeld_0 21 rfl rfl)
theorem dX0_isHeld_23 : decode cX0_isHeld 23 = .ok (.invokestatic 47, 3) := dk_184 0 47 (dk_at dksX0_isHeld_1 0 rfl rfl)
theorem dX0_isHeld_26 : decode cX0_isHeld 26 = .ok (.laload, 1) := dk_47 (dk_at dksX0_isHeld_1 3 rfl rfl)
theorem dX0_isHeld_27 : decode cX0_isHeld 27 = .ok (.invokestatic 59, 3) := dk_184 0 59 (dk_at dksX0_isHeld_1 4 rfl rfl)
theorem dX0_isHeld_30 : decode cX0_isHeld 30 = .ok (.lstore 7, 2) := dk_55 7 (dk_at dksX0_isHeld_1 7 rfl rfl)
theorem dX0_isHeld_32 : decode cX0_isHeld 32 = .ok (.aload_n 1, 1) := dk_43 (dk_at dksX0_isHeld_1 9 rfl rfl)
theorem dX0_isHeld_33 : decode cX0_isHeld 33 = .ok (.iload_n 3, 1) := dk_29 (dk_at dksX0_isHeld_1 10 rfl rfl)
theorem dX0_isHeld_34 : decode cX0_isHeld 34 = .ok (.bipush 12, 2) := dk_16 12 (dk_at dksX0_isHeld_1 11 rfl rfl)
theorem dX0_isHeld_36 : decode cX0_isHeld 36 = .ok (.invokestatic 47, 3) := dk_184 0 47 (dk_at dksX0_isHeld_1 13 rfl rfl)
theorem dX0_isHeld_39 : decode cX0_isHeld 39 = .ok (.laload, 1) := dk_47 (dk_at dksX0_isHeld_1 16 rfl rfl)
theorem dX0_isHeld_40 : decode cX0_isHeld 40 = .ok (.aload_n 1, 1) := dk_43 (dk_at dksX0_isHeld_1 17 rfl rfl)
theorem dX0_isHeld_41 : decode cX0_isHeld 41 = .ok (.iload 4, 2) := dk_21 4 (dk_at dksX0_isHeld_1 18 rfl rfl)
theorem dX0_isHeld_43 : decode cX0_isHeld 43 = .ok (.bipush 12, 2) := dk_16 12 (dk_at dksX0_isHeld_1 20 rfl rfl)
theorem dX0_isHeld_45 : decode cX0_isHeld 45 = .ok (.invokestatic 47, 3) := dk_184 0 47 (dk_at dksX0_isHeld_2 0 rfl rfl)
theorem dX0_isHeld_48 : decode cX0_isHeld 48 = .ok (.laload, 1) := dk_47 (dk_at dksX0_isHeld_2 3 rfl rfl)
theorem dX0_isHeld_49 : decode cX0_isHeld 49 = .ok (.invokestatic 65, 3) := dk_184 0 65 (dk_at dksX0_isHeld_2 4 rfl rfl)
theorem dX0_isHeld_52 : decode cX0_isHeld 52 = .ok (.lstore 9, 2) := dk_55 9 (dk_at dksX0_isHeld_2 7 rfl rfl)
theorem dX0_isHeld_54 : decode cX0_isHeld 54 = .ok (.aload_n 0, 1) := dk_42 (dk_at dksX0_isHeld_2 9 rfl rfl)
theorem dX0_isHeld_55 : decode cX0_isHeld 55 = .ok (.iload_n 2, 1) := dk_28 (dk_at dksX0_isHeld_2 10 rfl rfl)
theorem dX0_isHeld_56 : decode cX0_isHeld 56 = .ok (.iload_n 3, 1) := dk_29 (dk_at dksX0_isHeld_2 11 rfl rfl)
theorem dX0_isHeld_57 : decode cX0_isHeld 57 = .ok (.iload 4, 2) := dk_21 4 (dk_at dksX0_isHeld_2 12 rfl rfl)
theorem dX0_isHeld_59 : decode cX0_isHeld 59 = .ok (.invokevirtual 68, 3) := dk_182 0 68 (dk_at dksX0_isHeld_2 14 rfl rfl)
theorem dX0_isHeld_62 : decode cX0_isHeld 62 = .ok (.lload 5, 2) := dk_22 5 (dk_at dksX0_isHeld_2 17 rfl rfl)
theorem dX0_isHeld_64 : decode cX0_isHeld 64 = .ok (.lload 7, 2) := dk_22 7 (dk_at dksX0_isHeld_2 19 rfl rfl)
theorem dX0_isHeld_66 : decode cX0_isHeld 66 = .ok (.lcmp, 1) := dk_148 (dk_at dksX0_isHeld_2 21 rfl rfl)
theorem dX0_isHeld_67 : decode cX0_isHeld 67 = .ok (.ifCond .ge 8, 3) := dk_156 0 8 (dk_at dksX0_isHeld_3 0 rfl rfl)
theorem dX0_isHeld_70 : decode cX0_isHeld 70 = .ok (.lload 7, 2) := dk_22 7 (dk_at dksX0_isHeld_3 3 rfl rfl)
theorem dX0_isHeld_72 : decode cX0_isHeld 72 = .ok (.goto 18, 3) := dk_167 0 18 (dk_at dksX0_isHeld_3 5 rfl rfl)
theorem dX0_isHeld_75 : decode cX0_isHeld 75 = .ok (.lload 5, 2) := dk_22 5 (dk_at dksX0_isHeld_3 8 rfl rfl)
theorem dX0_isHeld_77 : decode cX0_isHeld 77 = .ok (.lload 9, 2) := dk_22 9 (dk_at dksX0_isHeld_3 10 rfl rfl)
theorem dX0_isHeld_79 : decode cX0_isHeld 79 = .ok (.lcmp, 1) := dk_148 (dk_at dksX0_isHeld_3 12 rfl rfl)
theorem dX0_isHeld_80 : decode cX0_isHeld 80 = .ok (.ifCond .le 8, 3) := dk_158 0 8 (dk_at dksX0_isHeld_3 13 rfl rfl)
theorem dX0_isHeld_83 : decode cX0_isHeld 83 = .ok (.lload 9, 2) := dk_22 9 (dk_at dksX0_isHeld_3 16 rfl rfl)
theorem dX0_isHeld_85 : decode cX0_isHeld 85 = .ok (.goto 5, 3) := dk_167 0 5 (dk_at dksX0_isHeld_3 18 rfl rfl)
theorem dX0_isHeld_88 : decode cX0_isHeld 88 = .ok (.lload 5, 2) := dk_22 5 (dk_at dksX0_isHeld_3 21 rfl rfl)
theorem dX0_isHeld_90 : decode cX0_isHeld 90 = .ok (.lcmp, 1) := dk_148 (dk_at dksX0_isHeld_3 23 rfl rfl)
theorem dX0_isHeld_91 : decode cX0_isHeld 91 = .ok (.ifCond .ne 7, 3) := dk_154 0 7 (dk_at dksX0_isHeld_4 0 rfl rfl)
theorem dX0_isHeld_94 : decode cX0_isHeld 94 = .ok (.iconst 1, 1) := dk_4 (dk_at dksX0_isHeld_4 3 rfl rfl)
theorem dX0_isHeld_95 : decode cX0_isHeld 95 = .ok (.goto 4, 3) := dk_167 0 4 (dk_at dksX0_isHeld_4 4 rfl rfl)
theorem dX0_isHeld_98 : decode cX0_isHeld 98 = .ok (.iconst 0, 1) := dk_3 (dk_at dksX0_isHeld_4 7 rfl rfl)
theorem dX0_isHeld_99 : decode cX0_isHeld 99 = .ok (.ireturn, 1) := dk_172 (dk_at dksX0_isHeld_4 8 rfl rfl)
theorem q3 : (Jvm.Cond.initialized "LongRowDeskLaw") ∈ lw_all := lw_g (lw_at lw_m1 0 rfl) rfl
theorem q13 : (Jvm.Cond.classLink "LongRowDeskLaw" (21 : Nat) "LongRowDesk") ∈ lw_all := lw_g (lw_at lw_m1 10 rfl) rfl
theorem q15 : (Jvm.Cond.methodLink "LongRowDeskLaw" (72 : Nat) ({ cls := "LongRowDesk", name := "<init>", desc := "()V" } : Jvm.MethodName)) ∈ lw_all := lw_g (lw_at lw_m1 12 rfl) rfl
theorem q26 : (Jvm.Cond.methodLink "LongRowDeskLaw" (85 : Nat) ({ cls := "LongRowDesk", name := "set", desc := "(III)V" } : Jvm.MethodName)) ∈ lw_all := lw_g (lw_at lw_m1 23 rfl) rfl
theorem q35 : (Jvm.Cond.methodLink "LongRowDeskLaw" (81 : Nat) ({ cls := "LongRowDesk", name := "reverse", desc := "(II)V" } : Jvm.MethodName)) ∈ lw_all := lw_g (lw_at lw_m1 32 rfl) rfl
theorem q123 : (Jvm.Cond.methodLink "LongRowDeskLaw" (77 : Nat) ({ cls := "LongRowDeskLaw", name := "cell", desc := "([II)I" } : Jvm.MethodName)) ∈ lw_all := lw_g (lw_at lw_m1 120 rfl) rfl
theorem q124 : (Jvm.Cond.static ({ cls := "LongRowDeskLaw", name := "cell", desc := "([II)I" } : Jvm.MethodName)) ∈ lw_all := lw_g (lw_at lw_m1 121 rfl) rfl
theorem q125 : (Jvm.Cond.code ({ cls := "LongRowDeskLaw", name := "cell", desc := "([II)I" } : Jvm.MethodName) method_2_code (2 : Nat) (Option.some Jvm.ClassFile.FieldType.int)) ∈ lw_all := lw_g (lw_at lw_m1 122 rfl) rfl
theorem q126 : (Jvm.Cond.methodLink "LongRowDeskLaw" (47 : Nat) ({ cls := "LongRowDeskLaw", name := "rest", desc := "(II)I" } : Jvm.MethodName)) ∈ lw_all := lw_g (lw_at lw_m1 123 rfl) rfl
theorem q127 : (Jvm.Cond.static ({ cls := "LongRowDeskLaw", name := "rest", desc := "(II)I" } : Jvm.MethodName)) ∈ lw_all := lw_g (lw_at lw_m1 124 rfl) rfl
theorem q128 : (Jvm.Cond.code ({ cls := "LongRowDeskLaw", name := "rest", desc := "(II)I" } : Jvm.MethodName) method_3_code (2 : Nat) (Option.some Jvm.ClassFile.FieldType.int)) ∈ lw_all := lw_g (lw_at lw_m1 125 rfl) rfl
theorem q129 : (Jvm.Cond.constant "LongRowDeskLaw" (7 : Nat) (2147483647 : Int32)) ∈ lw_all := lw_g (lw_at lw_m1 126 rfl) rfl
theorem q130 : (Jvm.Cond.methodLink "LongRowDeskLaw" (56 : Nat) ({ cls := "LongRowDeskLaw", name := "of", desc := "(II)J" } : Jvm.MethodName)) ∈ lw_all := lw_g (lw_at lw_m1 127 rfl) rfl
theorem q131 : (Jvm.Cond.static ({ cls := "LongRowDeskLaw", name := "of", desc := "(II)J" } : Jvm.MethodName)) ∈ lw_all := lw_g (lw_at lw_m1 128 rfl) rfl
theorem q132 : (Jvm.Cond.code ({ cls := "LongRowDeskLaw", name := "of", desc := "(II)J" } : Jvm.MethodName) method_4_code (2 : Nat) (Option.some Jvm.ClassFile.FieldType.long)) ∈ lw_all := lw_g (lw_at lw_m1 129 rfl) rfl
theorem q133 : (Jvm.Cond.constantLong "LongRowDeskLaw" (8 : Nat) (4294967295 : Int64)) ∈ lw_all := lw_g (lw_at lw_m1 130 rfl) rfl
theorem q134 : (Jvm.Cond.methodLink "LongRowDeskLaw" (16 : Nat) ({ cls := "LongRowDeskLaw", name := "high", desc := "(J)I" } : Jvm.MethodName)) ∈ lw_all := lw_g (lw_at lw_m1 131 rfl) rfl
theorem q135 : (Jvm.Cond.static ({ cls := "LongRowDeskLaw", name := "high", desc := "(J)I" } : Jvm.MethodName)) ∈ lw_all := lw_g (lw_at lw_m1 132 rfl) rfl
theorem q136 : (Jvm.Cond.code ({ cls := "LongRowDeskLaw", name := "high", desc := "(J)I" } : Jvm.MethodName) method_5_code (2 : Nat) (Option.some Jvm.ClassFile.FieldType.int)) ∈ lw_all := lw_g (lw_at lw_m1 133 rfl) rfl
theorem q137 : (Jvm.Cond.methodLink "LongRowDeskLaw" (89 : Nat) ({ cls := "LongRowDeskLaw", name := "isFound", desc := "(LLongRowDesk;[JJ)Z" } : Jvm.MethodName)) ∈ lw_all := lw_g (lw_at lw_m1 134 rfl) rfl
theorem q138 : (Jvm.Cond.static ({ cls := "LongRowDeskLaw", name := "isFound", desc := "(LLongRowDesk;[JJ)Z" } : Jvm.MethodName)) ∈ lw_all := lw_g (lw_at lw_m1 135 rfl) rfl
theorem q139 : (Jvm.Cond.code ({ cls := "LongRowDeskLaw", name := "isFound", desc := "(LLongRowDesk;[JJ)Z" } : Jvm.MethodName) method_7_code (5 : Nat) (Option.some Jvm.ClassFile.FieldType.boolean)) ∈ lw_all := lw_g (lw_at lw_m1 136 rfl) rfl
theorem q140 : (Jvm.Cond.methodLink "LongRowDeskLaw" (10 : Nat) ({ cls := "LongRowDeskLaw", name := "place", desc := "([JJZ)I" } : Jvm.MethodName)) ∈ lw_all := lw_g (lw_at lw_m1 137 rfl) rfl
theorem q141 : (Jvm.Cond.static ({ cls := "LongRowDeskLaw", name := "place", desc := "([JJZ)I" } : Jvm.MethodName)) ∈ lw_all := lw_g (lw_at lw_m1 138 rfl) rfl
theorem q142 : (Jvm.Cond.code ({ cls := "LongRowDeskLaw", name := "place", desc := "([JJZ)I" } : Jvm.MethodName) method_6_code (6 : Nat) (Option.some Jvm.ClassFile.FieldType.int)) ∈ lw_all := lw_g (lw_at lw_m1 139 rfl) rfl
theorem q143 : (Jvm.Cond.methodLink "LongRowDeskLaw" (20 : Nat) ({ cls := "LongRowDesk", name := "find", desc := "(II)I" } : Jvm.MethodName)) ∈ lw_all := lw_g (lw_at lw_m1 140 rfl) rfl
theorem q153 : (Jvm.Cond.methodLink "LongRowDeskLaw" (26 : Nat) ({ cls := "LongRowDesk", name := "findLast", desc := "(II)I" } : Jvm.MethodName)) ∈ lw_all := lw_g (lw_at lw_m1 150 rfl) rfl
theorem q163 : (Jvm.Cond.methodLink "LongRowDeskLaw" (29 : Nat) ({ cls := "LongRowDesk", name := "has", desc := "(II)Z" } : Jvm.MethodName)) ∈ lw_all := lw_g (lw_at lw_m1 160 rfl) rfl
theorem q170 : (Jvm.Cond.methodLink "LongRowDeskLaw" (73 : Nat) ({ cls := "LongRowDeskLaw", name := "same", desc := "(LLongRowDesk;[J)Z" } : Jvm.MethodName)) ∈ lw_all := lw_g (lw_at lw_m1 167 rfl) rfl
theorem q171 : (Jvm.Cond.static ({ cls := "LongRowDeskLaw", name := "same", desc := "(LLongRowDesk;[J)Z" } : Jvm.MethodName)) ∈ lw_all := lw_g (lw_at lw_m1 168 rfl) rfl
theorem q172 : (Jvm.Cond.code ({ cls := "LongRowDeskLaw", name := "same", desc := "(LLongRowDesk;[J)Z" } : Jvm.MethodName) method_8_code (7 : Nat) (Option.some Jvm.ClassFile.FieldType.boolean)) ∈ lw_all := lw_g (lw_at lw_m1 169 rfl) rfl
theorem q173 : (Jvm.Cond.methodLink "LongRowDeskLaw" (33 : Nat) ({ cls := "LongRowDesk", name := "get", desc := "(I)J" } : Jvm.MethodName)) ∈ lw_all := lw_g (lw_at lw_m1 170 rfl) rfl
theorem q177 : (Jvm.Cond.methodLink "LongRowDeskLaw" (37 : Nat) ({ cls := "LongRowDesk", name := "most", desc := "()J" } : Jvm.MethodName)) ∈ lw_all := lw_g (lw_at lw_m1 174 rfl) rfl
theorem q208 : (Jvm.Cond.methodLink "LongRowDeskLaw" (41 : Nat) ({ cls := "LongRowDesk", name := "least", desc := "()J" } : Jvm.MethodName)) ∈ lw_all := lw_g (lw_at lw_m1 205 rfl) rfl
theorem q215 : (Jvm.Cond.methodLink "LongRowDeskLaw" (93 : Nat) ({ cls := "LongRowDeskLaw", name := "isBytes", desc := "(LLongRowDesk;[JIII)Z" } : Jvm.MethodName)) ∈ lw_all := lw_g (lw_at lw_m1 212 rfl) rfl
theorem q216 : (Jvm.Cond.static ({ cls := "LongRowDeskLaw", name := "isBytes", desc := "(LLongRowDesk;[JIII)Z" } : Jvm.MethodName)) ∈ lw_all := lw_g (lw_at lw_m1 213 rfl) rfl
theorem q217 : (Jvm.Cond.code ({ cls := "LongRowDeskLaw", name := "isBytes", desc := "(LLongRowDesk;[JIII)Z" } : Jvm.MethodName) method_9_code (6 : Nat) (Option.some Jvm.ClassFile.FieldType.boolean)) ∈ lw_all := lw_g (lw_at lw_m1 214 rfl) rfl
theorem q218 : (Jvm.Cond.methodLink "LongRowDeskLaw" (44 : Nat) ({ cls := "LongRowDesk", name := "letter", desc := "(II)I" } : Jvm.MethodName)) ∈ lw_all := lw_g (lw_at lw_m1 215 rfl) rfl
theorem q226 : (Jvm.Cond.constantLong "LongRowDeskLaw" (50 : Nat) (255 : Int64)) ∈ lw_all := lw_g (lw_at lw_m1 223 rfl) rfl
theorem q227 : (Jvm.Cond.methodLink "LongRowDeskLaw" (52 : Nat) ({ cls := "LongRowDesk", name := "ofBytes", desc := "(II)J" } : Jvm.MethodName)) ∈ lw_all := lw_g (lw_at lw_m1 224 rfl) rfl
theorem q234 : (Jvm.Cond.methodLink "LongRowDeskLaw" (97 : Nat) ({ cls := "LongRowDeskLaw", name := "isHeld", desc := "(LLongRowDesk;[JIII)Z" } : Jvm.MethodName)) ∈ lw_all := lw_g (lw_at lw_m1 231 rfl) rfl
theorem q235 : (Jvm.Cond.static ({ cls := "LongRowDeskLaw", name := "isHeld", desc := "(LLongRowDesk;[JIII)Z" } : Jvm.MethodName)) ∈ lw_all := lw_g (lw_at lw_m1 232 rfl) rfl
theorem q236 : (Jvm.Cond.code ({ cls := "LongRowDeskLaw", name := "isHeld", desc := "(LLongRowDesk;[JIII)Z" } : Jvm.MethodName) method_10_code (11 : Nat) (Option.some Jvm.ClassFile.FieldType.boolean)) ∈ lw_all := lw_g (lw_at lw_m1 233 rfl) rfl
theorem q237 : (Jvm.Cond.methodLink "LongRowDeskLaw" (59 : Nat) ({ cls := "java/lang/Math", name := "min", desc := "(JJ)J" } : Jvm.MethodName)) ∈ lw_all := lw_g (lw_at lw_m1 234 rfl) rfl
theorem q240 : (Jvm.Cond.methodLink "LongRowDeskLaw" (65 : Nat) ({ cls := "java/lang/Math", name := "max", desc := "(JJ)J" } : Jvm.MethodName)) ∈ lw_all := lw_g (lw_at lw_m1 237 rfl) rfl
theorem q243 : (Jvm.Cond.methodLink "LongRowDeskLaw" (68 : Nat) ({ cls := "LongRowDesk", name := "within", desc := "(III)J" } : Jvm.MethodName)) ∈ lw_all := lw_g (lw_at lw_m2 0 rfl) rfl
/-! the law's own entry -/
set_option maxRecDepth 100000
abbrev cL_law : ByteArray := code
def dkwL_law_14 : List UInt8 := [3, 172, 132, 3, 1, 167, 254, 205, 4, 172]
abbrev dktL_law_14 : List UInt8 := dkwL_law_14 ++ []
def dkwL_law_13 : List UInt8 := [21, 6, 21, 7, 184, 0, 97, 153, 0, 17, 43, 44, 21, 7, 21, 5, 21, 4, 184, 0, 97, 154, 0, 5]
abbrev dktL_law_13 : List UInt8 := dkwL_law_13 ++ dktL_law_14
def dkwL_law_12 : List UInt8 := [184, 0, 89, 153, 0, 45, 43, 44, 21, 6, 21, 5, 21, 7, 184, 0, 93, 153, 0, 31, 43, 44, 21, 5]
abbrev dktL_law_12 : List UInt8 := dkwL_law_12 ++ dktL_law_13
def dkwL_law_11 : List UInt8 := [21, 7, 16, 12, 184, 0, 47, 47, 184, 0, 89, 153, 0, 60, 43, 44, 21, 7, 21, 6, 184, 0, 56]
abbrev dktL_law_11 : List UInt8 := dkwL_law_11 ++ dktL_law_12
def dkwL_law_10 : List UInt8 := [184, 0, 73, 153, 0, 92, 43, 44, 21, 6, 21, 7, 184, 0, 56, 184, 0, 89, 153, 0, 77, 43, 44, 44]
abbrev dktL_law_10 : List UInt8 := dkwL_law_10 ++ dktL_law_11
def dkwL_law_9 : List UInt8 := [184, 0, 16, 22, 8, 136, 182, 0, 85, 44, 21, 5, 16, 12, 184, 0, 47, 22, 8, 80, 43, 44]
abbrev dktL_law_9 : List UInt8 := dkwL_law_9 ++ dktL_law_10
def dkwL_law_8 : List UInt8 := [16, 12, 184, 0, 47, 47, 167, 0, 10, 21, 6, 21, 7, 184, 0, 56, 55, 8, 43, 21, 5, 22, 8]
abbrev dktL_law_8 : List UInt8 := dkwL_law_8 ++ dktL_law_9
def dkwL_law_7 : List UInt8 := [22, 11, 80, 132, 10, 1, 167, 255, 202, 167, 0, 57, 21, 4, 6, 126, 5, 160, 0, 15, 44, 21, 6]
abbrev dktL_law_7 : List UInt8 := dkwL_law_7 ++ dktL_law_8
def dkwL_law_6 : List UInt8 := [44, 21, 8, 21, 10, 96, 44, 21, 9, 4, 100, 21, 10, 100, 47, 80, 44, 21, 9, 4, 100, 21, 10, 100]
abbrev dktL_law_6 : List UInt8 := dkwL_law_6 ++ dktL_law_7
def dkwL_law_5 : List UInt8 := [21, 8, 21, 10, 96, 21, 9, 4, 100, 21, 10, 100, 162, 0, 45, 44, 21, 8, 21, 10, 96, 47, 55, 11]
abbrev dktL_law_5 : List UInt8 := dkwL_law_5 ++ dktL_law_6
def dkwL_law_4 : List UInt8 := [21, 6, 16, 13, 21, 8, 100, 184, 0, 47, 96, 54, 9, 43, 21, 5, 21, 6, 182, 0, 81, 3, 54, 10]
abbrev dktL_law_4 : List UInt8 := dkwL_law_4 ++ dktL_law_5
def dkwL_law_3 : List UInt8 := [184, 0, 77, 54, 7, 21, 4, 6, 126, 6, 160, 0, 98, 21, 5, 16, 13, 184, 0, 47, 54, 8, 21, 8]
abbrev dktL_law_3 : List UInt8 := dkwL_law_3 ++ dktL_law_4
def dkwL_law_2 : List UInt8 := [184, 0, 77, 54, 5, 42, 7, 29, 104, 5, 96, 184, 0, 77, 54, 6, 42, 7, 29, 104, 6, 96]
abbrev dktL_law_2 : List UInt8 := dkwL_law_2 ++ dktL_law_3
def dkwL_law_1 : List UInt8 := [62, 29, 16, 24, 162, 1, 51, 42, 7, 29, 104, 184, 0, 77, 54, 4, 42, 7, 29, 104, 4, 96]
abbrev dktL_law_1 : List UInt8 := dkwL_law_1 ++ dktL_law_2
def dkwL_law_0 : List UInt8 := [187, 0, 21, 89, 183, 0, 72, 76, 16, 12, 188, 11, 77, 43, 44, 184, 0, 73, 154, 0, 5, 3, 172, 3]
abbrev dktL_law_0 : List UInt8 := dkwL_law_0 ++ dktL_law_1
theorem dksL_law_0 : cL_law.data.toList.drop 0 = dktL_law_0 := by decide +kernel
theorem dksL_law_1 : cL_law.data.toList.drop 24 = dktL_law_1 := dk_seg dksL_law_0 24 rfl rfl
theorem dksL_law_2 : cL_law.data.toList.drop 46 = dktL_law_2 := dk_seg dksL_law_1 22 rfl rfl
theorem dksL_law_3 : cL_law.data.toList.drop 68 = dktL_law_3 := dk_seg dksL_law_2 22 rfl rfl
theorem dksL_law_4 : cL_law.data.toList.drop 92 = dktL_law_4 := dk_seg dksL_law_3 24 rfl rfl
theorem dksL_law_5 : cL_law.data.toList.drop 116 = dktL_law_5 := dk_seg dksL_law_4 24 rfl rfl
theorem dksL_law_6 : cL_law.data.toList.drop 140 = dktL_law_6 := dk_seg dksL_law_5 24 rfl rfl
theorem dksL_law_7 : cL_law.data.toList.drop 164 = dktL_law_7 := dk_seg dksL_law_6 24 rfl rfl
theorem dksL_law_8 : cL_law.data.toList.drop 187 = dktL_law_8 := dk_seg dksL_law_7 23 rfl rfl
theorem dksL_law_9 : cL_law.data.toList.drop 210 = dktL_law_9 := dk_seg dksL_law_8 23 rfl rfl
theorem dksL_law_10 : cL_law.data.toList.drop 232 = dktL_law_10 := dk_seg dksL_law_9 22 rfl rfl
theorem dksL_law_11 : cL_law.data.toList.drop 256 = dktL_law_11 := dk_seg dksL_law_10 24 rfl rfl
theorem dksL_law_12 : cL_law.data.toList.drop 279 = dktL_law_12 := dk_seg dksL_law_11 23 rfl rfl
theorem dksL_law_13 : cL_law.data.toList.drop 303 = dktL_law_13 := dk_seg dksL_law_12 24 rfl rfl
theorem dksL_law_14 : cL_law.data.toList.drop 327 = dktL_law_14 := dk_seg dksL_law_13 24 rfl rfl
theorem dL_law_0 : decode cL_law 0 = .ok (.new 21, 3) := dk_187 0 21 (dk_at dksL_law_0 0 rfl rfl)
theorem dL_law_3 : decode cL_law 3 = .ok (.dup, 1) := dk_89 (dk_at dksL_law_0 3 rfl rfl)
theorem dL_law_4 : decode cL_law 4 = .ok (.invokespecial 72, 3) := dk_183 0 72 (dk_at dksL_law_0 4 rfl rfl)
theorem dL_law_7 : decode cL_law 7 = .ok (.astore_n 1, 1) := dk_76 (dk_at dksL_law_0 7 rfl rfl)
theorem dL_law_8 : decode cL_law 8 = .ok (.bipush 12, 2) := dk_16 12 (dk_at dksL_law_0 8 rfl rfl)
theorem dL_law_10 : decode cL_law 10 = .ok (.newarray .long, 2) := dk_188_11 (dk_at dksL_law_0 10 rfl rfl)
theorem dL_law_12 : decode cL_law 12 = .ok (.astore_n 2, 1) := dk_77 (dk_at dksL_law_0 12 rfl rfl)
theorem dL_law_13 : decode cL_law 13 = .ok (.aload_n 1, 1) := dk_43 (dk_at dksL_law_0 13 rfl rfl)
theorem dL_law_14 : decode cL_law 14 = .ok (.aload_n 2, 1) := dk_44 (dk_at dksL_law_0 14 rfl rfl)
theorem dL_law_15 : decode cL_law 15 = .ok (.invokestatic 73, 3) := dk_184 0 73 (dk_at dksL_law_0 15 rfl rfl)
theorem dL_law_18 : decode cL_law 18 = .ok (.ifCond .ne 5, 3) := dk_154 0 5 (dk_at dksL_law_0 18 rfl rfl)
theorem dL_law_21 : decode cL_law 21 = .ok (.iconst 0, 1) := dk_3 (dk_at dksL_law_0 21 rfl rfl)
theorem dL_law_22 : decode cL_law 22 = .ok (.ireturn, 1) := dk_172 (dk_at dksL_law_0 22 rfl rfl)
theorem dL_law_23 : decode cL_law 23 = .ok (.iconst 0, 1) := dk_3 (dk_at dksL_law_0 23 rfl rfl)
theorem dL_law_24 : decode cL_law 24 = .ok (.istore_n 3, 1) := dk_62 (dk_at dksL_law_1 0 rfl rfl)
theorem dL_law_25 : decode cL_law 25 = .ok (.iload_n 3, 1) := dk_29 (dk_at dksL_law_1 1 rfl rfl)
theorem dL_law_26 : decode cL_law 26 = .ok (.bipush 24, 2) := dk_16 24 (dk_at dksL_law_1 2 rfl rfl)
theorem dL_law_28 : decode cL_law 28 = .ok (.if_icmp .ge 307, 3) := dk_162 1 51 (dk_at dksL_law_1 4 rfl rfl)
theorem dL_law_31 : decode cL_law 31 = .ok (.aload_n 0, 1) := dk_42 (dk_at dksL_law_1 7 rfl rfl)
theorem dL_law_32 : decode cL_law 32 = .ok (.iconst 4, 1) := dk_7 (dk_at dksL_law_1 8 rfl rfl)
theorem dL_law_33 : decode cL_law 33 = .ok (.iload_n 3, 1) := dk_29 (dk_at dksL_law_1 9 rfl rfl)
theorem dL_law_34 : decode cL_law 34 = .ok (.imul, 1) := dk_104 (dk_at dksL_law_1 10 rfl rfl)
theorem dL_law_35 : decode cL_law 35 = .ok (.invokestatic 77, 3) := dk_184 0 77 (dk_at dksL_law_1 11 rfl rfl)
theorem dL_law_38 : decode cL_law 38 = .ok (.istore 4, 2) := dk_54 4 (dk_at dksL_law_1 14 rfl rfl)
theorem dL_law_40 : decode cL_law 40 = .ok (.aload_n 0, 1) := dk_42 (dk_at dksL_law_1 16 rfl rfl)
theorem dL_law_41 : decode cL_law 41 = .ok (.iconst 4, 1) := dk_7 (dk_at dksL_law_1 17 rfl rfl)
theorem dL_law_42 : decode cL_law 42 = .ok (.iload_n 3, 1) := dk_29 (dk_at dksL_law_1 18 rfl rfl)
theorem dL_law_43 : decode cL_law 43 = .ok (.imul, 1) := dk_104 (dk_at dksL_law_1 19 rfl rfl)
theorem dL_law_44 : decode cL_law 44 = .ok (.iconst 1, 1) := dk_4 (dk_at dksL_law_1 20 rfl rfl)
theorem dL_law_45 : decode cL_law 45 = .ok (.iadd, 1) := dk_96 (dk_at dksL_law_1 21 rfl rfl)
theorem dL_law_46 : decode cL_law 46 = .ok (.invokestatic 77, 3) := dk_184 0 77 (dk_at dksL_law_2 0 rfl rfl)
theorem dL_law_49 : decode cL_law 49 = .ok (.istore 5, 2) := dk_54 5 (dk_at dksL_law_2 3 rfl rfl)
theorem dL_law_51 : decode cL_law 51 = .ok (.aload_n 0, 1) := dk_42 (dk_at dksL_law_2 5 rfl rfl)
theorem dL_law_52 : decode cL_law 52 = .ok (.iconst 4, 1) := dk_7 (dk_at dksL_law_2 6 rfl rfl)
theorem dL_law_53 : decode cL_law 53 = .ok (.iload_n 3, 1) := dk_29 (dk_at dksL_law_2 7 rfl rfl)
theorem dL_law_54 : decode cL_law 54 = .ok (.imul, 1) := dk_104 (dk_at dksL_law_2 8 rfl rfl)
theorem dL_law_55 : decode cL_law 55 = .ok (.iconst 2, 1) := dk_5 (dk_at dksL_law_2 9 rfl rfl)
theorem dL_law_56 : decode cL_law 56 = .ok (.iadd, 1) := dk_96 (dk_at dksL_law_2 10 rfl rfl)
theorem dL_law_57 : decode cL_law 57 = .ok (.invokestatic 77, 3) := dk_184 0 77 (dk_at dksL_law_2 11 rfl rfl)
theorem dL_law_60 : decode cL_law 60 = .ok (.istore 6, 2) := dk_54 6 (dk_at dksL_law_2 14 rfl rfl)
theorem dL_law_62 : decode cL_law 62 = .ok (.aload_n 0, 1) := dk_42 (dk_at dksL_law_2 16 rfl rfl)
theorem dL_law_63 : decode cL_law 63 = .ok (.iconst 4, 1) := dk_7 (dk_at dksL_law_2 17 rfl rfl)
theorem dL_law_64 : decode cL_law 64 = .ok (.iload_n 3, 1) := dk_29 (dk_at dksL_law_2 18 rfl rfl)
theorem dL_law_65 : decode cL_law 65 = .ok (.imul, 1) := dk_104 (dk_at dksL_law_2 19 rfl rfl)
theorem dL_law_66 : decode cL_law 66 = .ok (.iconst 3, 1) := dk_6 (dk_at dksL_law_2 20 rfl rfl)
theorem dL_law_67 : decode cL_law 67 = .ok (.iadd, 1) := dk_96 (dk_at dksL_law_2 21 rfl rfl)
theorem dL_law_68 : decode cL_law 68 = .ok (.invokestatic 77, 3) := dk_184 0 77 (dk_at dksL_law_3 0 rfl rfl)
theorem dL_law_71 : decode cL_law 71 = .ok (.istore 7, 2) := dk_54 7 (dk_at dksL_law_3 3 rfl rfl)
theorem dL_law_73 : decode cL_law 73 = .ok (.iload 4, 2) := dk_21 4 (dk_at dksL_law_3 5 rfl rfl)
theorem dL_law_75 : decode cL_law 75 = .ok (.iconst 3, 1) := dk_6 (dk_at dksL_law_3 7 rfl rfl)
theorem dL_law_76 : decode cL_law 76 = .ok (.iand, 1) := dk_126 (dk_at dksL_law_3 8 rfl rfl)
theorem dL_law_77 : decode cL_law 77 = .ok (.iconst 3, 1) := dk_6 (dk_at dksL_law_3 9 rfl rfl)
theorem dL_law_78 : decode cL_law 78 = .ok (.if_icmp .ne 98, 3) := dk_160 0 98 (dk_at dksL_law_3 10 rfl rfl)
theorem dL_law_81 : decode cL_law 81 = .ok (.iload 5, 2) := dk_21 5 (dk_at dksL_law_3 13 rfl rfl)
theorem dL_law_83 : decode cL_law 83 = .ok (.bipush 13, 2) := dk_16 13 (dk_at dksL_law_3 15 rfl rfl)
theorem dL_law_85 : decode cL_law 85 = .ok (.invokestatic 47, 3) := dk_184 0 47 (dk_at dksL_law_3 17 rfl rfl)
theorem dL_law_88 : decode cL_law 88 = .ok (.istore 8, 2) := dk_54 8 (dk_at dksL_law_3 20 rfl rfl)
theorem dL_law_90 : decode cL_law 90 = .ok (.iload 8, 2) := dk_21 8 (dk_at dksL_law_3 22 rfl rfl)
theorem dL_law_92 : decode cL_law 92 = .ok (.iload 6, 2) := dk_21 6 (dk_at dksL_law_4 0 rfl rfl)
theorem dL_law_94 : decode cL_law 94 = .ok (.bipush 13, 2) := dk_16 13 (dk_at dksL_law_4 2 rfl rfl)
theorem dL_law_96 : decode cL_law 96 = .ok (.iload 8, 2) := dk_21 8 (dk_at dksL_law_4 4 rfl rfl)
theorem dL_law_98 : decode cL_law 98 = .ok (.isub, 1) := dk_100 (dk_at dksL_law_4 6 rfl rfl)
theorem dL_law_99 : decode cL_law 99 = .ok (.invokestatic 47, 3) := dk_184 0 47 (dk_at dksL_law_4 7 rfl rfl)
theorem dL_law_102 : decode cL_law 102 = .ok (.iadd, 1) := dk_96 (dk_at dksL_law_4 10 rfl rfl)
theorem dL_law_103 : decode cL_law 103 = .ok (.istore 9, 2) := dk_54 9 (dk_at dksL_law_4 11 rfl rfl)
theorem dL_law_105 : decode cL_law 105 = .ok (.aload_n 1, 1) := dk_43 (dk_at dksL_law_4 13 rfl rfl)
theorem dL_law_106 : decode cL_law 106 = .ok (.iload 5, 2) := dk_21 5 (dk_at dksL_law_4 14 rfl rfl)
theorem dL_law_108 : decode cL_law 108 = .ok (.iload 6, 2) := dk_21 6 (dk_at dksL_law_4 16 rfl rfl)
theorem dL_law_110 : decode cL_law 110 = .ok (.invokevirtual 81, 3) := dk_182 0 81 (dk_at dksL_law_4 18 rfl rfl)
theorem dL_law_113 : decode cL_law 113 = .ok (.iconst 0, 1) := dk_3 (dk_at dksL_law_4 21 rfl rfl)
theorem dL_law_114 : decode cL_law 114 = .ok (.istore 10, 2) := dk_54 10 (dk_at dksL_law_4 22 rfl rfl)
theorem dL_law_116 : decode cL_law 116 = .ok (.iload 8, 2) := dk_21 8 (dk_at dksL_law_5 0 rfl rfl)
theorem dL_law_118 : decode cL_law 118 = .ok (.iload 10, 2) := dk_21 10 (dk_at dksL_law_5 2 rfl rfl)
theorem dL_law_120 : decode cL_law 120 = .ok (.iadd, 1) := dk_96 (dk_at dksL_law_5 4 rfl rfl)
theorem dL_law_121 : decode cL_law 121 = .ok (.iload 9, 2) := dk_21 9 (dk_at dksL_law_5 5 rfl rfl)
theorem dL_law_123 : decode cL_law 123 = .ok (.iconst 1, 1) := dk_4 (dk_at dksL_law_5 7 rfl rfl)
theorem dL_law_124 : decode cL_law 124 = .ok (.isub, 1) := dk_100 (dk_at dksL_law_5 8 rfl rfl)
theorem dL_law_125 : decode cL_law 125 = .ok (.iload 10, 2) := dk_21 10 (dk_at dksL_law_5 9 rfl rfl)
theorem dL_law_127 : decode cL_law 127 = .ok (.isub, 1) := dk_100 (dk_at dksL_law_5 11 rfl rfl)
theorem dL_law_128 : decode cL_law 128 = .ok (.if_icmp .ge 45, 3) := dk_162 0 45 (dk_at dksL_law_5 12 rfl rfl)
theorem dL_law_131 : decode cL_law 131 = .ok (.aload_n 2, 1) := dk_44 (dk_at dksL_law_5 15 rfl rfl)
theorem dL_law_132 : decode cL_law 132 = .ok (.iload 8, 2) := dk_21 8 (dk_at dksL_law_5 16 rfl rfl)
theorem dL_law_134 : decode cL_law 134 = .ok (.iload 10, 2) := dk_21 10 (dk_at dksL_law_5 18 rfl rfl)
theorem dL_law_136 : decode cL_law 136 = .ok (.iadd, 1) := dk_96 (dk_at dksL_law_5 20 rfl rfl)
theorem dL_law_137 : decode cL_law 137 = .ok (.laload, 1) := dk_47 (dk_at dksL_law_5 21 rfl rfl)
theorem dL_law_138 : decode cL_law 138 = .ok (.lstore 11, 2) := dk_55 11 (dk_at dksL_law_5 22 rfl rfl)
theorem dL_law_140 : decode cL_law 140 = .ok (.aload_n 2, 1) := dk_44 (dk_at dksL_law_6 0 rfl rfl)
theorem dL_law_141 : decode cL_law 141 = .ok (.iload 8, 2) := dk_21 8 (dk_at dksL_law_6 1 rfl rfl)
theorem dL_law_143 : decode cL_law 143 = .ok (.iload 10, 2) := dk_21 10 (dk_at dksL_law_6 3 rfl rfl)
theorem dL_law_145 : decode cL_law 145 = .ok (.iadd, 1) := dk_96 (dk_at dksL_law_6 5 rfl rfl)
theorem dL_law_146 : decode cL_law 146 = .ok (.aload_n 2, 1) := dk_44 (dk_at dksL_law_6 6 rfl rfl)
theorem dL_law_147 : decode cL_law 147 = .ok (.iload 9, 2) := dk_21 9 (dk_at dksL_law_6 7 rfl rfl)
theorem dL_law_149 : decode cL_law 149 = .ok (.iconst 1, 1) := dk_4 (dk_at dksL_law_6 9 rfl rfl)
theorem dL_law_150 : decode cL_law 150 = .ok (.isub, 1) := dk_100 (dk_at dksL_law_6 10 rfl rfl)
theorem dL_law_151 : decode cL_law 151 = .ok (.iload 10, 2) := dk_21 10 (dk_at dksL_law_6 11 rfl rfl)
theorem dL_law_153 : decode cL_law 153 = .ok (.isub, 1) := dk_100 (dk_at dksL_law_6 13 rfl rfl)
theorem dL_law_154 : decode cL_law 154 = .ok (.laload, 1) := dk_47 (dk_at dksL_law_6 14 rfl rfl)
theorem dL_law_155 : decode cL_law 155 = .ok (.lastore, 1) := dk_80 (dk_at dksL_law_6 15 rfl rfl)
theorem dL_law_156 : decode cL_law 156 = .ok (.aload_n 2, 1) := dk_44 (dk_at dksL_law_6 16 rfl rfl)
theorem dL_law_157 : decode cL_law 157 = .ok (.iload 9, 2) := dk_21 9 (dk_at dksL_law_6 17 rfl rfl)
theorem dL_law_159 : decode cL_law 159 = .ok (.iconst 1, 1) := dk_4 (dk_at dksL_law_6 19 rfl rfl)
theorem dL_law_160 : decode cL_law 160 = .ok (.isub, 1) := dk_100 (dk_at dksL_law_6 20 rfl rfl)
theorem dL_law_161 : decode cL_law 161 = .ok (.iload 10, 2) := dk_21 10 (dk_at dksL_law_6 21 rfl rfl)
theorem dL_law_163 : decode cL_law 163 = .ok (.isub, 1) := dk_100 (dk_at dksL_law_6 23 rfl rfl)
theorem dL_law_164 : decode cL_law 164 = .ok (.lload 11, 2) := dk_22 11 (dk_at dksL_law_7 0 rfl rfl)
theorem dL_law_166 : decode cL_law 166 = .ok (.lastore, 1) := dk_80 (dk_at dksL_law_7 2 rfl rfl)
theorem dL_law_167 : decode cL_law 167 = .ok (.iinc 10 1, 3) := dk_132 10 1 (dk_at dksL_law_7 3 rfl rfl)
theorem dL_law_170 : decode cL_law 170 = .ok (.goto (-54), 3) := dk_167 255 202 (dk_at dksL_law_7 6 rfl rfl)
theorem dL_law_173 : decode cL_law 173 = .ok (.goto 57, 3) := dk_167 0 57 (dk_at dksL_law_7 9 rfl rfl)
theorem dL_law_176 : decode cL_law 176 = .ok (.iload 4, 2) := dk_21 4 (dk_at dksL_law_7 12 rfl rfl)
theorem dL_law_178 : decode cL_law 178 = .ok (.iconst 3, 1) := dk_6 (dk_at dksL_law_7 14 rfl rfl)
theorem dL_law_179 : decode cL_law 179 = .ok (.iand, 1) := dk_126 (dk_at dksL_law_7 15 rfl rfl)
theorem dL_law_180 : decode cL_law 180 = .ok (.iconst 2, 1) := dk_5 (dk_at dksL_law_7 16 rfl rfl)
theorem dL_law_181 : decode cL_law 181 = .ok (.if_icmp .ne 15, 3) := dk_160 0 15 (dk_at dksL_law_7 17 rfl rfl)
theorem dL_law_184 : decode cL_law 184 = .ok (.aload_n 2, 1) := dk_44 (dk_at dksL_law_7 20 rfl rfl)
theorem dL_law_185 : decode cL_law 185 = .ok (.iload 6, 2) := dk_21 6 (dk_at dksL_law_7 21 rfl rfl)
theorem dL_law_187 : decode cL_law 187 = .ok (.bipush 12, 2) := dk_16 12 (dk_at dksL_law_8 0 rfl rfl)
theorem dL_law_189 : decode cL_law 189 = .ok (.invokestatic 47, 3) := dk_184 0 47 (dk_at dksL_law_8 2 rfl rfl)
theorem dL_law_192 : decode cL_law 192 = .ok (.laload, 1) := dk_47 (dk_at dksL_law_8 5 rfl rfl)
theorem dL_law_193 : decode cL_law 193 = .ok (.goto 10, 3) := dk_167 0 10 (dk_at dksL_law_8 6 rfl rfl)
theorem dL_law_196 : decode cL_law 196 = .ok (.iload 6, 2) := dk_21 6 (dk_at dksL_law_8 9 rfl rfl)
theorem dL_law_198 : decode cL_law 198 = .ok (.iload 7, 2) := dk_21 7 (dk_at dksL_law_8 11 rfl rfl)
theorem dL_law_200 : decode cL_law 200 = .ok (.invokestatic 56, 3) := dk_184 0 56 (dk_at dksL_law_8 13 rfl rfl)
theorem dL_law_203 : decode cL_law 203 = .ok (.lstore 8, 2) := dk_55 8 (dk_at dksL_law_8 16 rfl rfl)
theorem dL_law_205 : decode cL_law 205 = .ok (.aload_n 1, 1) := dk_43 (dk_at dksL_law_8 18 rfl rfl)
theorem dL_law_206 : decode cL_law 206 = .ok (.iload 5, 2) := dk_21 5 (dk_at dksL_law_8 19 rfl rfl)
theorem dL_law_208 : decode cL_law 208 = .ok (.lload 8, 2) := dk_22 8 (dk_at dksL_law_8 21 rfl rfl)
theorem dL_law_210 : decode cL_law 210 = .ok (.invokestatic 16, 3) := dk_184 0 16 (dk_at dksL_law_9 0 rfl rfl)
theorem dL_law_213 : decode cL_law 213 = .ok (.lload 8, 2) := dk_22 8 (dk_at dksL_law_9 3 rfl rfl)
theorem dL_law_215 : decode cL_law 215 = .ok (.l2i, 1) := dk_136 (dk_at dksL_law_9 5 rfl rfl)
theorem dL_law_216 : decode cL_law 216 = .ok (.invokevirtual 85, 3) := dk_182 0 85 (dk_at dksL_law_9 6 rfl rfl)
theorem dL_law_219 : decode cL_law 219 = .ok (.aload_n 2, 1) := dk_44 (dk_at dksL_law_9 9 rfl rfl)
theorem dL_law_220 : decode cL_law 220 = .ok (.iload 5, 2) := dk_21 5 (dk_at dksL_law_9 10 rfl rfl)
theorem dL_law_222 : decode cL_law 222 = .ok (.bipush 12, 2) := dk_16 12 (dk_at dksL_law_9 12 rfl rfl)
theorem dL_law_224 : decode cL_law 224 = .ok (.invokestatic 47, 3) := dk_184 0 47 (dk_at dksL_law_9 14 rfl rfl)
theorem dL_law_227 : decode cL_law 227 = .ok (.lload 8, 2) := dk_22 8 (dk_at dksL_law_9 17 rfl rfl)
theorem dL_law_229 : decode cL_law 229 = .ok (.lastore, 1) := dk_80 (dk_at dksL_law_9 19 rfl rfl)
theorem dL_law_230 : decode cL_law 230 = .ok (.aload_n 1, 1) := dk_43 (dk_at dksL_law_9 20 rfl rfl)
theorem dL_law_231 : decode cL_law 231 = .ok (.aload_n 2, 1) := dk_44 (dk_at dksL_law_9 21 rfl rfl)
theorem dL_law_232 : decode cL_law 232 = .ok (.invokestatic 73, 3) := dk_184 0 73 (dk_at dksL_law_10 0 rfl rfl)
theorem dL_law_235 : decode cL_law 235 = .ok (.ifCond .eq 92, 3) := dk_153 0 92 (dk_at dksL_law_10 3 rfl rfl)
theorem dL_law_238 : decode cL_law 238 = .ok (.aload_n 1, 1) := dk_43 (dk_at dksL_law_10 6 rfl rfl)
theorem dL_law_239 : decode cL_law 239 = .ok (.aload_n 2, 1) := dk_44 (dk_at dksL_law_10 7 rfl rfl)
theorem dL_law_240 : decode cL_law 240 = .ok (.iload 6, 2) := dk_21 6 (dk_at dksL_law_10 8 rfl rfl)
theorem dL_law_242 : decode cL_law 242 = .ok (.iload 7, 2) := dk_21 7 (dk_at dksL_law_10 10 rfl rfl)
theorem dL_law_244 : decode cL_law 244 = .ok (.invokestatic 56, 3) := dk_184 0 56 (dk_at dksL_law_10 12 rfl rfl)
theorem dL_law_247 : decode cL_law 247 = .ok (.invokestatic 89, 3) := dk_184 0 89 (dk_at dksL_law_10 15 rfl rfl)
theorem dL_law_250 : decode cL_law 250 = .ok (.ifCond .eq 77, 3) := dk_153 0 77 (dk_at dksL_law_10 18 rfl rfl)
theorem dL_law_253 : decode cL_law 253 = .ok (.aload_n 1, 1) := dk_43 (dk_at dksL_law_10 21 rfl rfl)
theorem dL_law_254 : decode cL_law 254 = .ok (.aload_n 2, 1) := dk_44 (dk_at dksL_law_10 22 rfl rfl)
theorem dL_law_255 : decode cL_law 255 = .ok (.aload_n 2, 1) := dk_44 (dk_at dksL_law_10 23 rfl rfl)
theorem dL_law_256 : decode cL_law 256 = .ok (.iload 7, 2) := dk_21 7 (dk_at dksL_law_11 0 rfl rfl)
theorem dL_law_258 : decode cL_law 258 = .ok (.bipush 12, 2) := dk_16 12 (dk_at dksL_law_11 2 rfl rfl)
theorem dL_law_260 : decode cL_law 260 = .ok (.invokestatic 47, 3) := dk_184 0 47 (dk_at dksL_law_11 4 rfl rfl)
theorem dL_law_263 : decode cL_law 263 = .ok (.laload, 1) := dk_47 (dk_at dksL_law_11 7 rfl rfl)
theorem dL_law_264 : decode cL_law 264 = .ok (.invokestatic 89, 3) := dk_184 0 89 (dk_at dksL_law_11 8 rfl rfl)
theorem dL_law_267 : decode cL_law 267 = .ok (.ifCond .eq 60, 3) := dk_153 0 60 (dk_at dksL_law_11 11 rfl rfl)
theorem dL_law_270 : decode cL_law 270 = .ok (.aload_n 1, 1) := dk_43 (dk_at dksL_law_11 14 rfl rfl)
theorem dL_law_271 : decode cL_law 271 = .ok (.aload_n 2, 1) := dk_44 (dk_at dksL_law_11 15 rfl rfl)
theorem dL_law_272 : decode cL_law 272 = .ok (.iload 7, 2) := dk_21 7 (dk_at dksL_law_11 16 rfl rfl)
theorem dL_law_274 : decode cL_law 274 = .ok (.iload 6, 2) := dk_21 6 (dk_at dksL_law_11 18 rfl rfl)
theorem dL_law_276 : decode cL_law 276 = .ok (.invokestatic 56, 3) := dk_184 0 56 (dk_at dksL_law_11 20 rfl rfl)
theorem dL_law_279 : decode cL_law 279 = .ok (.invokestatic 89, 3) := dk_184 0 89 (dk_at dksL_law_12 0 rfl rfl)
theorem dL_law_282 : decode cL_law 282 = .ok (.ifCond .eq 45, 3) := dk_153 0 45 (dk_at dksL_law_12 3 rfl rfl)
theorem dL_law_285 : decode cL_law 285 = .ok (.aload_n 1, 1) := dk_43 (dk_at dksL_law_12 6 rfl rfl)
theorem dL_law_286 : decode cL_law 286 = .ok (.aload_n 2, 1) := dk_44 (dk_at dksL_law_12 7 rfl rfl)
theorem dL_law_287 : decode cL_law 287 = .ok (.iload 6, 2) := dk_21 6 (dk_at dksL_law_12 8 rfl rfl)
theorem dL_law_289 : decode cL_law 289 = .ok (.iload 5, 2) := dk_21 5 (dk_at dksL_law_12 10 rfl rfl)
theorem dL_law_291 : decode cL_law 291 = .ok (.iload 7, 2) := dk_21 7 (dk_at dksL_law_12 12 rfl rfl)
theorem dL_law_293 : decode cL_law 293 = .ok (.invokestatic 93, 3) := dk_184 0 93 (dk_at dksL_law_12 14 rfl rfl)
theorem dL_law_296 : decode cL_law 296 = .ok (.ifCond .eq 31, 3) := dk_153 0 31 (dk_at dksL_law_12 17 rfl rfl)
theorem dL_law_299 : decode cL_law 299 = .ok (.aload_n 1, 1) := dk_43 (dk_at dksL_law_12 20 rfl rfl)
theorem dL_law_300 : decode cL_law 300 = .ok (.aload_n 2, 1) := dk_44 (dk_at dksL_law_12 21 rfl rfl)
theorem dL_law_301 : decode cL_law 301 = .ok (.iload 5, 2) := dk_21 5 (dk_at dksL_law_12 22 rfl rfl)
theorem dL_law_303 : decode cL_law 303 = .ok (.iload 6, 2) := dk_21 6 (dk_at dksL_law_13 0 rfl rfl)
theorem dL_law_305 : decode cL_law 305 = .ok (.iload 7, 2) := dk_21 7 (dk_at dksL_law_13 2 rfl rfl)
theorem dL_law_307 : decode cL_law 307 = .ok (.invokestatic 97, 3) := dk_184 0 97 (dk_at dksL_law_13 4 rfl rfl)
theorem dL_law_310 : decode cL_law 310 = .ok (.ifCond .eq 17, 3) := dk_153 0 17 (dk_at dksL_law_13 7 rfl rfl)
theorem dL_law_313 : decode cL_law 313 = .ok (.aload_n 1, 1) := dk_43 (dk_at dksL_law_13 10 rfl rfl)
theorem dL_law_314 : decode cL_law 314 = .ok (.aload_n 2, 1) := dk_44 (dk_at dksL_law_13 11 rfl rfl)
theorem dL_law_315 : decode cL_law 315 = .ok (.iload 7, 2) := dk_21 7 (dk_at dksL_law_13 12 rfl rfl)
theorem dL_law_317 : decode cL_law 317 = .ok (.iload 5, 2) := dk_21 5 (dk_at dksL_law_13 14 rfl rfl)
theorem dL_law_319 : decode cL_law 319 = .ok (.iload 4, 2) := dk_21 4 (dk_at dksL_law_13 16 rfl rfl)
theorem dL_law_321 : decode cL_law 321 = .ok (.invokestatic 97, 3) := dk_184 0 97 (dk_at dksL_law_13 18 rfl rfl)
theorem dL_law_324 : decode cL_law 324 = .ok (.ifCond .ne 5, 3) := dk_154 0 5 (dk_at dksL_law_13 21 rfl rfl)
theorem dL_law_327 : decode cL_law 327 = .ok (.iconst 0, 1) := dk_3 (dk_at dksL_law_14 0 rfl rfl)
theorem dL_law_328 : decode cL_law 328 = .ok (.ireturn, 1) := dk_172 (dk_at dksL_law_14 1 rfl rfl)
theorem dL_law_329 : decode cL_law 329 = .ok (.iinc 3 1, 3) := dk_132 3 1 (dk_at dksL_law_14 2 rfl rfl)
theorem dL_law_332 : decode cL_law 332 = .ok (.goto (-307), 3) := dk_167 254 205 (dk_at dksL_law_14 5 rfl rfl)
theorem dL_law_335 : decode cL_law 335 = .ok (.iconst 1, 1) := dk_4 (dk_at dksL_law_14 8 rfl rfl)
theorem dL_law_336 : decode cL_law 336 = .ok (.ireturn, 1) := dk_172 (dk_at dksL_law_14 9 rfl rfl)
end
section
/-! PLAIN FACTS: what the methods compute, no program in sight -/
/-- rest(v, d): the low 31 bits of v modulo d -/
def rn_v (v : Int32) (d : Nat) : Nat := v.toBitVec.toNat % 2 ^ 31 % d
theorem rn_lt (v : Int32) {d : Nat} (h : 0 < d) : rn_v v d < d := Nat.mod_lt _ h
theorem rn_lt12 (v : Int32) : rn_v v 12 < 12 := Nat.mod_lt _ (by decide)
theorem rn_lt13 (v : Int32) : rn_v v 13 < 13 := Nat.mod_lt _ (by decide)
theorem rn_eq (v : Int32) {d : Nat} (h0 : 0 < d) (hd : d < 2 ^ 31) : (v &&& 2147483647) - (v &&& 2147483647) / nI d * nI d = nI (rn_v v d) := by
  rw [pk_and v (m := 2147483647) 31 (by decide +kernel)]
  exact pk_rem (Nat.mod_lt _ (by decide)) h0 hd
theorem rn_12 (v : Int32) : (v &&& 2147483647) - (v &&& 2147483647) / 12 * 12 = nI (rn_v v 12) := rn_eq v (d := 12) (by decide) (by decide)
theorem rn_13 (v : Int32) : (v &&& 2147483647) - (v &&& 2147483647) / 13 * 13 = nI (rn_v v 13) := rn_eq v (d := 13) (by decide) (by decide)
theorem rn_nI {k d : Nat} (h : k < d) (hd : d ≤ 2 ^ 31) : rn_v (nI k) d = k := by
  unfold rn_v
  rw [pk_tn (Nat.lt_of_lt_of_le h (Nat.le_trans hd (by decide))), Nat.mod_eq_of_lt (Nat.lt_of_lt_of_le h hd), Nat.mod_eq_of_lt h]
theorem rn_in (v : Int32) : vp_in (nI (rn_v v 12)) 12 := vp_in_nI (rn_lt12 v) (by decide)
theorem rn_cl (v : Int32) : (nI (rn_v v 12)).toNatClampNeg = rn_v v 12 := nI_clamp (Nat.lt_trans (rn_lt12 v) (by decide))
theorem rn_ne {d : Nat} (h0 : 0 < d) (hd : d < 2 ^ 31) : ¬ nI d = 0 := nI_ne0 h0 hd
/-- x & 7 -/
def sv_n (x : Int32) : Nat := x.toBitVec.toNat % 8
theorem sv_lt (x : Int32) : sv_n x < 8 := Nat.mod_lt _ (by decide)
theorem sv_eq (x : Int32) : x &&& 7 = nI (sv_n x) := pk_and x (m := 7) 3 (by decide +kernel)
theorem sv_nI {k : Nat} (h : k < 8) : sv_n (nI k) = k := by
  unfold sv_n
  rw [pk_tn (Nat.lt_trans h (by decide)), Nat.mod_eq_of_lt h]
/-! the first place -/
def fs_n (f : Nat → Int64) (v : Int64) (n : Nat) (r : Int32) : Prop := (∃ j, j < n ∧ r = nI j ∧ f j = v ∧ ∀ i, i < j → f i ≠ v) ∨ (r = -1 ∧ ∀ i, i < n → f i ≠ v)
theorem fs_u {f : Nat → Int64} {v : Int64} {n : Nat} {r r' : Int32} (h : fs_n f v n r) (h' : fs_n f v n r') : r = r' := by
  rcases h with ⟨j, h1, h2, h3, h4⟩ | ⟨h1, h2⟩
  · rcases h' with ⟨j', g1, g2, g3, g4⟩ | ⟨g1, g2⟩
    · rcases Nat.lt_trichotomy j j' with q | q | q
      · exact absurd h3 (g4 j q)
      · rw [h2, g2, q]
      · exact absurd g3 (h4 j' q)
    · exact absurd h3 (g2 j h1)
  · rcases h' with ⟨j', g1, g2, g3, g4⟩ | ⟨g1, g2⟩
    · exact absurd g3 (h2 j' g1)
    · rw [h1, g1]
theorem fs_0 (f : Nat → Int64) (v : Int64) : fs_n f v 0 (-1) := Or.inr ⟨rfl, fun i h => absurd h (Nat.not_lt_zero i)⟩
theorem fs_keep {f : Nat → Int64} {v : Int64} {k : Nat} {a : Int32} (h : fs_n f v k a) (hne : ¬ f k = v) : fs_n f v (k + 1) a := by
  rcases h with ⟨j, h1, h2, h3, h4⟩ | ⟨h1, h2⟩
  · exact Or.inl ⟨j, Nat.lt_succ_of_lt h1, h2, h3, h4⟩
  · refine Or.inr ⟨h1, fun i hi => ?_⟩
    rcases Nat.lt_or_ge i k with q | q
    · exact h2 i q
    · rw [show i = k by omega]; exact hne
theorem fs_keep2 {f : Nat → Int64} {v : Int64} {k : Nat} {a : Int32} (h : fs_n f v k a) (h0 : ¬ a < 0) : fs_n f v (k + 1) a := by
  rcases h with ⟨j, h1, h2, h3, h4⟩ | ⟨h1, h2⟩
  · exact Or.inl ⟨j, Nat.lt_succ_of_lt h1, h2, h3, h4⟩
  · exact absurd (by rw [h1]; decide) h0
theorem fs_hit {f : Nat → Int64} {v : Int64} {k : Nat} {a : Int32} (hk : k < 2 ^ 31) (h : fs_n f v k a) (h0 : a < 0) (e : f k = v) : fs_n f v (k + 1) (nI k) := by
  rcases h with ⟨j, h1, h2, h3, h4⟩ | ⟨h1, h2⟩
  · exact absurd (by rw [← h2]; exact h0) (nI_pos (n := j) (Nat.lt_trans h1 hk))
  · exact Or.inl ⟨k, Nat.lt_succ_self k, rfl, e, h2⟩
theorem fs_at {f : Nat → Int64} {v : Int64} {k n : Nat} (hk : k < n) (e : f k = v) (h : ∀ i, i < k → f i ≠ v) : fs_n f v n (nI k) := Or.inl ⟨k, hk, rfl, e, h⟩
theorem fs_no {f : Nat → Int64} {v : Int64} {n : Nat} (h : ∀ i, i < n → f i ≠ v) : fs_n f v n (-1) := Or.inr ⟨rfl, h⟩
theorem al_s {f : Nat → Int64} {v : Int64} {k : Nat} (h : ∀ i, i < k → f i ≠ v) (e : ¬ f k = v) : ∀ i, i < k + 1 → f i ≠ v := by
  intro i hi
  rcases Nat.lt_or_ge i k with q | q
  · exact h i q
  · rw [show i = k by omega]; exact e
/-! the last place -/
def ls_n (f : Nat → Int64) (v : Int64) (n : Nat) (r : Int32) : Prop := (∃ j, j < n ∧ r = nI j ∧ f j = v ∧ ∀ i, j < i → i < n → f i ≠ v) ∨ (r = -1 ∧ ∀ i, i < n → f i ≠ v)
theorem ls_u {f : Nat → Int64} {v : Int64} {n : Nat} {r r' : Int32} (h : ls_n f v n r) (h' : ls_n f v n r') : r = r' := by
  rcases h with ⟨j, h1, h2, h3, h4⟩ | ⟨h1, h2⟩
  · rcases h' with ⟨j', g1, g2, g3, g4⟩ | ⟨g1, g2⟩
    · rcases Nat.lt_trichotomy j j' with q | q | q
      · exact absurd g3 (h4 j' q g1)
      · rw [h2, g2, q]
      · exact absurd h3 (g4 j q h1)
    · exact absurd h3 (g2 j h1)
  · rcases h' with ⟨j', g1, g2, g3, g4⟩ | ⟨g1, g2⟩
    · exact absurd g3 (h2 j' g1)
    · rw [h1, g1]
theorem ls_0 (f : Nat → Int64) (v : Int64) : ls_n f v 0 (-1) := Or.inr ⟨rfl, fun i h => absurd h (Nat.not_lt_zero i)⟩
theorem ls_keep {f : Nat → Int64} {v : Int64} {k : Nat} {a : Int32} (h : ls_n f v k a) (hne : ¬ f k = v) : ls_n f v (k + 1) a := by
  rcases h with ⟨j, h1, h2, h3, h4⟩ | ⟨h1, h2⟩
  · refine Or.inl ⟨j, Nat.lt_succ_of_lt h1, h2, h3, fun i hi hi2 => ?_⟩
    rcases Nat.lt_or_ge i k with q | q
    · exact h4 i hi q
    · rw [show i = k by omega]; exact hne
  · exact Or.inr ⟨h1, al_s h2 hne⟩
theorem ls_hit {f : Nat → Int64} {v : Int64} {k : Nat} (e : f k = v) : ls_n f v (k + 1) (nI k) := Or.inl ⟨k, Nat.lt_succ_self k, rfl, e, fun i h1 h2 => absurd h2 (by omega)⟩
theorem ls_at {f : Nat → Int64} {v : Int64} {k n : Nat} (hk : k < n) (e : f k = v) (h : ∀ i, k + 1 ≤ i → i < n → f i ≠ v) : ls_n f v n (nI k) := Or.inl ⟨k, hk, rfl, e, fun i h1 h2 => h i h1 h2⟩
theorem ls_no {f : Nat → Int64} {v : Int64} {n : Nat} (h : ∀ i, 0 ≤ i → i < n → f i ≠ v) : ls_n f v n (-1) := Or.inr ⟨rfl, fun i hi => h i (Nat.zero_le i) hi⟩
theorem al_d {f : Nat → Int64} {v : Int64} {k n : Nat} (h : ∀ i, k + 1 ≤ i → i < n → f i ≠ v) (e : ¬ f k = v) : ∀ i, k ≤ i → i < n → f i ≠ v := by
  intro i hi hn
  rcases Nat.lt_or_ge k i with q | q
  · exact h i q hn
  · rw [show i = k by omega]; exact e
/-! whether it is there -/
def hs_n (f : Nat → Int64) (v : Int64) (r : Int32) : Prop := (r = 1 ∧ ∃ j, j < 12 ∧ f j = v) ∨ (r = 0 ∧ ∀ i, i < 12 → f i ≠ v)
theorem hs_neg {f : Nat → Int64} {v : Int64} {a r : Int32} (h : fs_n f v 12 a) (g : hs_n f v r) (h0 : a < 0) : r = 0 := by
  rcases h with ⟨j, h1, h2, h3, h4⟩ | ⟨h1, h2⟩
  · exact absurd (by rw [← h2]; exact h0) (nI_pos (n := j) (Nat.lt_trans h1 (by decide)))
  · rcases g with ⟨g1, j, g2, g3⟩ | ⟨g1, g2⟩
    · exact absurd g3 (h2 j g2)
    · exact g1
theorem hs_pos {f : Nat → Int64} {v : Int64} {a r : Int32} (h : fs_n f v 12 a) (g : hs_n f v r) (h0 : ¬ a < 0) : r = 1 := by
  rcases h with ⟨j, h1, h2, h3, h4⟩ | ⟨h1, h2⟩
  · rcases g with ⟨g1, g2⟩ | ⟨g1, g2⟩
    · exact g1
    · exact absurd h3 (g2 j h1)
  · exact absurd (by rw [h1]; decide) h0
/-! the greatest and the least -/
def mx_n (f : Nat → Int64) (k : Nat) (m : Int64) : Prop := (∃ j, j < 12 ∧ f j = m) ∧ ∀ j, j < k → f j ≤ m
def mn_n (f : Nat → Int64) (k : Nat) (m : Int64) : Prop := (∃ j, j < 12 ∧ f j = m) ∧ ∀ j, j < k → m ≤ f j
theorem mx_u {f : Nat → Int64} {a b : Int64} (h : mx_n f 12 a) (g : mx_n f 12 b) : a = b := by
  obtain ⟨⟨i, i1, i2⟩, h2⟩ := h
  obtain ⟨⟨j, j1, j2⟩, g2⟩ := g
  exact Int64.le_antisymm (by rw [← i2]; exact g2 i i1) (by rw [← j2]; exact h2 j j1)
theorem mn_u {f : Nat → Int64} {a b : Int64} (h : mn_n f 12 a) (g : mn_n f 12 b) : a = b := by
  obtain ⟨⟨i, i1, i2⟩, h2⟩ := h
  obtain ⟨⟨j, j1, j2⟩, g2⟩ := g
  exact Int64.le_antisymm (by rw [← j2]; exact h2 j j1) (by rw [← i2]; exact g2 i i1)
theorem mx_0 (f : Nat → Int64) : mx_n f 0 (f 0) := ⟨⟨0, by decide, rfl⟩, fun j h => absurd h (Nat.not_lt_zero j)⟩
theorem mn_0 (f : Nat → Int64) : mn_n f 0 (f 0) := ⟨⟨0, by decide, rfl⟩, fun j h => absurd h (Nat.not_lt_zero j)⟩
theorem mx_1 (f : Nat → Int64) : mx_n f 1 (f 0) := ⟨⟨0, by decide, rfl⟩, fun j h => by rw [show j = 0 by omega]; exact Int64.le_refl _⟩
theorem mn_1 (f : Nat → Int64) : mn_n f 1 (f 0) := ⟨⟨0, by decide, rfl⟩, fun j h => by rw [show j = 0 by omega]; exact Int64.le_refl _⟩
theorem mx_keep {f : Nat → Int64} {k : Nat} {m : Int64} (h : mx_n f k m) (c : lg_cmp (f k) m ≤ 0) : mx_n f (k + 1) m := by
  refine ⟨h.1, fun j hj => ?_⟩
  rcases Nat.lt_or_ge j k with q | q
  · exact h.2 j q
  · rw [show j = k by omega]; exact (lg_cmp_le _ _).1 c
theorem mx_hit {f : Nat → Int64} {k : Nat} {m : Int64} (hk : k < 12) (h : mx_n f k m) (c : ¬ lg_cmp (f k) m ≤ 0) : mx_n f (k + 1) (f k) := by
  have c1 : m ≤ f k := by
    rcases Int64.le_total m (f k) with q | q
    · exact q
    · exact absurd ((lg_cmp_le _ _).2 q) c
  refine ⟨⟨k, hk, rfl⟩, fun j hj => ?_⟩
  rcases Nat.lt_or_ge j k with q | q
  · exact Int64.le_trans (h.2 j q) c1
  · rw [show j = k by omega]; exact Int64.le_refl _
theorem mn_keep {f : Nat → Int64} {k : Nat} {m : Int64} (h : mn_n f k m) (c : 0 ≤ lg_cmp (f k) m) : mn_n f (k + 1) m := by
  refine ⟨h.1, fun j hj => ?_⟩
  rcases Nat.lt_or_ge j k with q | q
  · exact h.2 j q
  · rw [show j = k by omega]; exact (lg_cmp_ge _ _).1 c
theorem mn_hit {f : Nat → Int64} {k : Nat} {m : Int64} (hk : k < 12) (h : mn_n f k m) (c : ¬ 0 ≤ lg_cmp (f k) m) : mn_n f (k + 1) (f k) := by
  have c1 : f k ≤ m := by
    rcases Int64.le_total m (f k) with q | q
    · exact absurd ((lg_cmp_ge _ _).2 q) c
    · exact q
  refine ⟨⟨k, hk, rfl⟩, fun j hj => ?_⟩
  rcases Nat.lt_or_ge j k with q | q
  · exact Int64.le_trans c1 (h.2 j q)
  · rw [show j = k by omega]; exact Int64.le_refl _
/-! Math.min, Math.max, and a number held between two others -/
def mi_l (a b : Int64) : Int64 := if b < a then b else a
def ma_l (a b : Int64) : Int64 := if b < a then a else b
theorem mi_1 {a b : Int64} (h : a ≤ b) : mi_l a b = a := if_neg (Int64.not_lt.mpr h)
theorem mi_2 {a b : Int64} (h : ¬ a ≤ b) : mi_l a b = b := if_pos (Int64.not_le.mp h)
theorem ma_1 {a b : Int64} (h : a < b) : ma_l a b = b := if_neg (Int64.not_lt.mpr (Int64.le_of_lt h))
theorem ma_2 {a b : Int64} (h : ¬ a < b) : ma_l a b = a := by
  by_cases q : b < a
  · exact if_pos q
  · exact (if_neg q).trans (Int64.le_antisymm (Int64.not_lt.mp h) (Int64.not_lt.mp q))
theorem mi_ma (a b : Int64) : mi_l a b ≤ ma_l a b := by
  rcases Int64.le_total a b with q | q
  · rw [mi_1 q]
    by_cases h : a < b
    · rw [ma_1 h]; exact q
    · rw [ma_2 h]; exact Int64.le_refl _
  · have h : ¬ a < b := Int64.not_lt.mpr q
    rw [ma_2 h]
    by_cases h : a ≤ b
    · rw [mi_1 h]; exact Int64.le_refl _
    · rw [mi_2 h]; exact q
/-- constrainToRange(v, lo, hi) -/
def hd_l (v lo hi : Int64) : Int64 := mi_l (ma_l v lo) hi
theorem hd_lo {v lo hi : Int64} (h : lo ≤ hi) (c : v < lo) : hd_l v lo hi = lo := by
  unfold hd_l
  rw [ma_1 c, mi_1 h]
theorem hd_hi {v lo hi : Int64} (c1 : ¬ v < lo) (c : hi < v) : hd_l v lo hi = hi := by
  unfold hd_l
  rw [ma_2 c1]
  by_cases h : v ≤ hi
  · exact absurd h (Int64.not_le.mpr c)
  · rw [mi_2 h]
theorem hd_in {v lo hi : Int64} (c1 : ¬ v < lo) (c : ¬ hi < v) : hd_l v lo hi = v := by
  unfold hd_l
  rw [ma_2 c1, mi_1 (Int64.not_lt.mp c)]
/-! turning the row round: the swaps one after another -/
def sw_n (f : Nat → Int64) (lo hi : Nat) : Nat → Nat → Int64
  | 0 => f
  | k + 1 => vp_updL (vp_updL (sw_n f lo hi k) (lo + k) (sw_n f lo hi k (hi - 1 - k))) (hi - 1 - k) (sw_n f lo hi k (lo + k))
def rv_f (f : Nat → Int64) (lo hi : Nat) : Nat → Int64 := sw_n f lo hi ((hi - lo) / 2)
def jx_n (hi k : Nat) : Int32 := nI hi - nI (k + 1)
theorem jx_e (hi k : Nat) : nI hi - 1 - nI k = jx_n hi k := by
  unfold jx_n
  rw [← nI_1 k]
  generalize nI hi = a
  generalize nI k = b
  grind
theorem jx_0 (hi : Nat) : nI hi - 1 = jx_n hi 0 := rfl
theorem jx_s (hi k : Nat) : jx_n hi k + (-1) = jx_n hi (k + 1) := by
  unfold jx_n
  rw [← nI_1 (k + 1)]
  generalize nI hi = a
  generalize nI (k + 1) = b
  grind
theorem jx_T {hi k : Nat} (h1 : hi ≤ 12) (h2 : k ≤ 12) : (jx_n hi k).toInt = (hi : Int) - (k + 1 : Nat) := pk_sub_toInt (Nat.lt_of_le_of_lt h1 (by decide)) (Nat.lt_of_le_of_lt (Nat.succ_le_succ h2) (by decide))
theorem jx_in {lo hi k : Nat} (h1 : hi ≤ 12) (hl : lo ≤ hi) (h2 : k ≤ (hi - lo) / 2) (c : ¬ jx_n hi k ≤ nI (lo + k)) : lo + k < hi - 1 - k ∧ k + 1 ≤ (hi - lo) / 2 ∧ jx_n hi k = nI (hi - 1 - k) := by
  have hc : (nI (lo + k)).toInt < (jx_n hi k).toInt := by
    have := Int32.not_le.mp c
    exact Int32.lt_iff_toInt_lt.mp this
  rw [jx_T h1 (by omega), nI_toInt (by omega)] at hc
  refine ⟨by omega, by omega, ?_⟩
  unfold jx_n
  rw [pk_sub (by omega)]
  congr 1
  omega
theorem jx_out {lo hi k : Nat} (h1 : hi ≤ 12) (hl : lo ≤ hi) (h2 : k ≤ (hi - lo) / 2) (c : jx_n hi k ≤ nI (lo + k)) : k = (hi - lo) / 2 := by
  have hc : (jx_n hi k).toInt ≤ (nI (lo + k)).toInt := Int32.le_iff_toInt_le.mp c
  rw [jx_T h1 (by omega), nI_toInt (by omega)] at hc
  omega
/-! bits of a long -/
def bt (x : Int32) (i : Nat) : Bool := x.toBitVec.getLsbD i
theorem b_ext {x y : Int32} (h : ∀ i, i < 32 → bt x i = bt y i) : x = y := Int32.toBitVec_inj.mp (BitVec.eq_of_getLsbD_eq (fun i hi => h i hi))
theorem b_and (x y : Int32) (i : Nat) : bt (x &&& y) i = (bt x i && bt y i) := by unfold bt; rw [Int32.toBitVec_and, BitVec.getLsbD_and]
theorem b_255 : ∀ i, i < 32 → bt 255 i = decide (i < 8) := by decide +kernel
theorem s_l : ∀ n, n < 32 → ((nI n &&& 31).toBitVec.smod 32).toNat = n := by decide +kernel
theorem b_sshr (n : Nat) (hn : n < 32) (x : Int32) {i : Nat} (hi : i < 32) : bt (x >>> (nI n &&& 31)) i = if n + i < 32 then bt x (n + i) else bt x 31 := by
  unfold bt
  rw [Int32.toBitVec_shiftRight]
  show (x.toBitVec.sshiftRight ((nI n &&& 31).toBitVec.smod 32).toNat).getLsbD i = _
  rw [s_l n hn, BitVec.getLsbD_sshiftRight, BitVec.msb_eq_getLsbD_last]
  simp [hi]
def bl_b (x : Int64) (i : Nat) : Bool := x.toBitVec.getLsbD i
theorem bl_ext {x y : Int64} (h : ∀ i, i < 64 → bl_b x i = bl_b y i) : x = y := Int64.toBitVec_inj.mp (BitVec.eq_of_getLsbD_eq (fun i hi => h i hi))
theorem bl_or (x y : Int64) (i : Nat) : bl_b (x ||| y) i = (bl_b x i || bl_b y i) := by unfold bl_b; rw [Int64.toBitVec_or, BitVec.getLsbD_or]
theorem bl_and (x y : Int64) (i : Nat) : bl_b (x &&& y) i = (bl_b x i && bl_b y i) := by unfold bl_b; rw [Int64.toBitVec_and, BitVec.getLsbD_and]
theorem bl_255 : ∀ i, i < 64 → bl_b 255 i = decide (i < 8) := by decide +kernel
theorem bl_ff : ∀ i, i < 64 → bl_b 4294967295 i = decide (i < 32) := by decide +kernel
theorem bl_s : ∀ n, n < 64 → (((nI n).toInt64 &&& 63).toBitVec.smod 64).toNat = n := by decide +kernel
theorem bl_us : ∀ n, n < 64 → (((nI n).toInt64.toUInt64 &&& Int64.toUInt64 63).toBitVec % 64).toNat = n := by decide +kernel
theorem bl_shl (n : Nat) (hn : n < 64) (x : Int64) {i : Nat} (hi : i < 64) : bl_b (x <<< ((nI n).toInt64 &&& 63)) i = (decide (n ≤ i) && bl_b x (i - n)) := by
  unfold bl_b
  rw [Int64.toBitVec_shiftLeft]
  show (x.toBitVec <<< (((nI n).toInt64 &&& 63).toBitVec.smod 64).toNat).getLsbD i = _
  rw [bl_s n hn, BitVec.getLsbD_shiftLeft]
  rcases Nat.lt_or_ge i n with h | h
  · simp [h, Nat.not_le.mpr h]
  · simp [hi, h, Nat.not_lt.mpr h]
theorem bl_shr (n : Nat) (hn : n < 64) (x : Int64) {i : Nat} (hi : i < 64) : bl_b (x >>> ((nI n).toInt64 &&& 63)) i = if n + i < 64 then bl_b x (n + i) else bl_b x 63 := by
  unfold bl_b
  rw [Int64.toBitVec_shiftRight]
  show (x.toBitVec.sshiftRight (((nI n).toInt64 &&& 63).toBitVec.smod 64).toNat).getLsbD i = _
  rw [bl_s n hn, BitVec.getLsbD_sshiftRight, BitVec.msb_eq_getLsbD_last]
  simp [hi]
theorem bl_ushr (n : Nat) (hn : n < 64) (x : Int64) (i : Nat) : bl_b ((x.toUInt64 >>> ((nI n).toInt64.toUInt64 &&& Int64.toUInt64 63)).toInt64) i = bl_b x (n + i) := by
  show (x.toUInt64 >>> ((nI n).toInt64.toUInt64 &&& Int64.toUInt64 63)).toBitVec.getLsbD i = x.toUInt64.toBitVec.getLsbD (n + i)
  rw [UInt64.toBitVec_shiftRight]
  show (x.toUInt64.toBitVec >>> (((nI n).toInt64.toUInt64 &&& Int64.toUInt64 63).toBitVec % 64).toNat).getLsbD i = _
  rw [bl_us n hn, BitVec.getLsbD_ushiftRight]
theorem bl_i2l (x : Int32) {i : Nat} (hi : i < 64) : bl_b x.toInt64 i = if i < 32 then bt x i else bt x 31 := by
  unfold bl_b bt
  rw [Int32.toBitVec_toInt64, BitVec.getLsbD_signExtend, BitVec.msb_eq_getLsbD_last]
  simp [hi]
theorem bl_l2i (x : Int64) {i : Nat} (hi : i < 32) : bt x.toInt32 i = bl_b x i := by
  unfold bl_b bt
  rw [Int64.toBitVec_toInt32, BitVec.getLsbD_signExtend, if_pos (show i < 64 by omega), decide_eq_true hi, Bool.true_and]
theorem bt_i2b (x : Int32) {i : Nat} (hi : i < 8) : bt x.toInt8.toInt32 i = bt x i := by
  unfold bt
  rw [Int8.toBitVec_toInt32, Int32.toBitVec_toInt8, BitVec.getLsbD_signExtend, if_pos hi, decide_eq_true (show i < 32 by omega), Bool.true_and, BitVec.getLsbD_signExtend, if_pos (show i < 32 by omega), decide_eq_true hi, Bool.true_and]
/-- wide(h, l), of(h, l) -/
def wd_v (h l : Int32) : Int64 := h.toInt64 <<< ((32 : Int32).toInt64 &&& 63) ||| (l.toInt64 &&& 4294967295)
/-- high(v) -/
def hi_v (v : Int64) : Int32 := (v >>> ((32 : Int32).toInt64 &&& 63)).toInt32
theorem bl_sh32 (x : Int64) {i : Nat} (hi : i < 64) : bl_b (x <<< ((32 : Int32).toInt64 &&& 63)) i = (decide (32 ≤ i) && bl_b x (i - 32)) := bl_shl 32 (by decide) x hi
theorem bl_sr32 (x : Int64) {i : Nat} (hi : i < 64) : bl_b (x >>> ((32 : Int32).toInt64 &&& 63)) i = if 32 + i < 64 then bl_b x (32 + i) else bl_b x 63 := bl_shr 32 (by decide) x hi
theorem bl_sr8 (x : Int64) {i : Nat} (hi : i < 64) : bl_b (x >>> ((8 : Int32).toInt64 &&& 63)) i = if 8 + i < 64 then bl_b x (8 + i) else bl_b x 63 := bl_shr 8 (by decide) x hi
theorem wd_lo (h l : Int32) {i : Nat} (hi : i < 32) : bl_b (wd_v h l) i = bt l i := by
  unfold wd_v
  rw [bl_or, bl_sh32 _ (by omega), decide_eq_false (by omega), Bool.false_and, Bool.false_or, bl_and, bl_ff i (by omega), decide_eq_true hi, Bool.and_true, bl_i2l _ (by omega), if_pos hi]
theorem wd_up (h l : Int32) {i : Nat} (h1 : 32 ≤ i) (hi : i < 64) : bl_b (wd_v h l) i = bt h (i - 32) := by
  unfold wd_v
  rw [bl_or, bl_sh32 _ hi, decide_eq_true h1, Bool.true_and, bl_and, bl_ff i hi, decide_eq_false (by omega), Bool.and_false, Bool.or_false, bl_i2l _ (by omega), if_pos (by omega)]
theorem wd_hi (v : Int64) : wd_v (hi_v v) v.toInt32 = v := by
  apply bl_ext
  intro i hi
  rcases Nat.lt_or_ge i 32 with h | h
  · rw [wd_lo _ _ h, bl_l2i _ h]
  · rw [wd_up _ _ h hi]
    unfold hi_v
    rw [bl_l2i _ (by omega), bl_sr32 _ (by omega), if_pos (by omega), show 32 + (i - 32) = i by omega]
/-- fromBytes -/
def fb_v (b1 b2 b3 b4 b5 b6 b7 b8 : Int32) : Int64 := (b1.toInt64 &&& 255) <<< ((56 : Int32).toInt64 &&& 63) ||| (b2.toInt64 &&& 255) <<< ((48 : Int32).toInt64 &&& 63) ||| (b3.toInt64 &&& 255) <<< ((40 : Int32).toInt64 &&& 63) ||| (b4.toInt64 &&& 255) <<< ((32 : Int32).toInt64 &&& 63) ||| (b5.toInt64 &&& 255) <<< ((24 : Int32).toInt64 &&& 63) ||| (b6.toInt64 &&& 255) <<< ((16 : Int32).toInt64 &&& 63) ||| (b7.toInt64 &&& 255) <<< ((8 : Int32).toInt64 &&& 63) ||| (b8.toInt64 &&& 255)
theorem by_lo (x : Int32) {i : Nat} (hi : i < 8) : bl_b (x.toInt8.toInt32.toInt64 &&& 255) i = bt x i := by
  rw [bl_and, bl_255 i (by omega), decide_eq_true hi, Bool.and_true, bl_i2l _ (by omega), if_pos (by omega), bt_i2b _ hi]
theorem by_no (x : Int64) {i : Nat} (h : 8 ≤ i) (hi : i < 64) : bl_b (x &&& 255) i = false := by
  rw [bl_and, bl_255 i hi, decide_eq_false (by omega), Bool.and_false]
theorem by_in (n : Nat) (hn : n < 64) (x : Int32) {i : Nat} (h1 : n ≤ i) (h2 : i < n + 8) (hi : i < 64) : bl_b ((x.toInt8.toInt32.toInt64 &&& 255) <<< ((nI n).toInt64 &&& 63)) i = bt x (i - n) := by
  rw [bl_shl n hn _ hi, decide_eq_true h1, Bool.true_and, by_lo _ (by omega)]
theorem by_out (n : Nat) (hn : n < 64) (x : Int64) {i : Nat} (h : i < n ∨ n + 8 ≤ i) (hi : i < 64) : bl_b ((x &&& 255) <<< ((nI n).toInt64 &&& 63)) i = false := by
  rw [bl_shl n hn _ hi]
  rcases h with h | h
  · rw [decide_eq_false (by omega), Bool.false_and]
  · rw [by_no _ (by omega) (by omega), Bool.and_false]
theorem by_in56 (x : Int32) {i : Nat} (h1 : 56 ≤ i) (h2 : i < 56 + 8) (hi : i < 64) : bl_b ((x.toInt8.toInt32.toInt64 &&& 255) <<< ((56 : Int32).toInt64 &&& 63)) i = bt x (i - 56) := by_in 56 (by decide) x h1 h2 hi
theorem by_out56 (x : Int64) {i : Nat} (h : i < 56 ∨ 56 + 8 ≤ i) (hi : i < 64) : bl_b ((x &&& 255) <<< ((56 : Int32).toInt64 &&& 63)) i = false := by_out 56 (by decide) x h hi
theorem by_in48 (x : Int32) {i : Nat} (h1 : 48 ≤ i) (h2 : i < 48 + 8) (hi : i < 64) : bl_b ((x.toInt8.toInt32.toInt64 &&& 255) <<< ((48 : Int32).toInt64 &&& 63)) i = bt x (i - 48) := by_in 48 (by decide) x h1 h2 hi
theorem by_out48 (x : Int64) {i : Nat} (h : i < 48 ∨ 48 + 8 ≤ i) (hi : i < 64) : bl_b ((x &&& 255) <<< ((48 : Int32).toInt64 &&& 63)) i = false := by_out 48 (by decide) x h hi
theorem by_in40 (x : Int32) {i : Nat} (h1 : 40 ≤ i) (h2 : i < 40 + 8) (hi : i < 64) : bl_b ((x.toInt8.toInt32.toInt64 &&& 255) <<< ((40 : Int32).toInt64 &&& 63)) i = bt x (i - 40) := by_in 40 (by decide) x h1 h2 hi
theorem by_out40 (x : Int64) {i : Nat} (h : i < 40 ∨ 40 + 8 ≤ i) (hi : i < 64) : bl_b ((x &&& 255) <<< ((40 : Int32).toInt64 &&& 63)) i = false := by_out 40 (by decide) x h hi
theorem by_in32 (x : Int32) {i : Nat} (h1 : 32 ≤ i) (h2 : i < 32 + 8) (hi : i < 64) : bl_b ((x.toInt8.toInt32.toInt64 &&& 255) <<< ((32 : Int32).toInt64 &&& 63)) i = bt x (i - 32) := by_in 32 (by decide) x h1 h2 hi
theorem by_out32 (x : Int64) {i : Nat} (h : i < 32 ∨ 32 + 8 ≤ i) (hi : i < 64) : bl_b ((x &&& 255) <<< ((32 : Int32).toInt64 &&& 63)) i = false := by_out 32 (by decide) x h hi
theorem by_in24 (x : Int32) {i : Nat} (h1 : 24 ≤ i) (h2 : i < 24 + 8) (hi : i < 64) : bl_b ((x.toInt8.toInt32.toInt64 &&& 255) <<< ((24 : Int32).toInt64 &&& 63)) i = bt x (i - 24) := by_in 24 (by decide) x h1 h2 hi
theorem by_out24 (x : Int64) {i : Nat} (h : i < 24 ∨ 24 + 8 ≤ i) (hi : i < 64) : bl_b ((x &&& 255) <<< ((24 : Int32).toInt64 &&& 63)) i = false := by_out 24 (by decide) x h hi
theorem by_in16 (x : Int32) {i : Nat} (h1 : 16 ≤ i) (h2 : i < 16 + 8) (hi : i < 64) : bl_b ((x.toInt8.toInt32.toInt64 &&& 255) <<< ((16 : Int32).toInt64 &&& 63)) i = bt x (i - 16) := by_in 16 (by decide) x h1 h2 hi
theorem by_out16 (x : Int64) {i : Nat} (h : i < 16 ∨ 16 + 8 ≤ i) (hi : i < 64) : bl_b ((x &&& 255) <<< ((16 : Int32).toInt64 &&& 63)) i = false := by_out 16 (by decide) x h hi
theorem by_in8 (x : Int32) {i : Nat} (h1 : 8 ≤ i) (h2 : i < 8 + 8) (hi : i < 64) : bl_b ((x.toInt8.toInt32.toInt64 &&& 255) <<< ((8 : Int32).toInt64 &&& 63)) i = bt x (i - 8) := by_in 8 (by decide) x h1 h2 hi
theorem by_out8 (x : Int64) {i : Nat} (h : i < 8 ∨ 8 + 8 ≤ i) (hi : i < 64) : bl_b ((x &&& 255) <<< ((8 : Int32).toInt64 &&& 63)) i = false := by_out 8 (by decide) x h hi
theorem b_sr24 (x : Int32) {i : Nat} (hi : 24 + i < 32) : bt (x >>> ((24 : Int32) &&& 31)) i = bt x (24 + i) := (b_sshr 24 (by decide) x (by omega)).trans (if_pos hi)
theorem b_sr16 (x : Int32) {i : Nat} (hi : 16 + i < 32) : bt (x >>> ((16 : Int32) &&& 31)) i = bt x (16 + i) := (b_sshr 16 (by decide) x (by omega)).trans (if_pos hi)
theorem b_sr8 (x : Int32) {i : Nat} (hi : 8 + i < 32) : bt (x >>> ((8 : Int32) &&& 31)) i = bt x (8 + i) := (b_sshr 8 (by decide) x (by omega)).trans (if_pos hi)
theorem fb_wd (a b : Int32) : fb_v ((a >>> ((24 : Int32) &&& 31)).toInt8.toInt32) ((a >>> ((16 : Int32) &&& 31)).toInt8.toInt32) ((a >>> ((8 : Int32) &&& 31)).toInt8.toInt32) (a.toInt8.toInt32) ((b >>> ((24 : Int32) &&& 31)).toInt8.toInt32) ((b >>> ((16 : Int32) &&& 31)).toInt8.toInt32) ((b >>> ((8 : Int32) &&& 31)).toInt8.toInt32) (b.toInt8.toInt32) = wd_v a b := by
  apply bl_ext
  intro i hi
  unfold fb_v
  rw [bl_or, bl_or, bl_or, bl_or, bl_or, bl_or, bl_or]
  have hc : (56 ≤ i) ∨ (48 ≤ i ∧ i < 56) ∨ (40 ≤ i ∧ i < 48) ∨ (32 ≤ i ∧ i < 40) ∨ (24 ≤ i ∧ i < 32) ∨ (16 ≤ i ∧ i < 24) ∨ (8 ≤ i ∧ i < 16) ∨ (i < 8) := by omega
  rcases hc with h | h | h | h | h | h | h | h
  · rw [by_in56 _ (by omega) (by omega) hi, by_out48 _ (by omega) hi, by_out40 _ (by omega) hi, by_out32 _ (by omega) hi, by_out24 _ (by omega) hi, by_out16 _ (by omega) hi, by_out8 _ (by omega) hi, by_no _ (by omega) hi]
    simp only [Bool.or_false, Bool.false_or]
    rw [wd_up _ _ (by omega) hi]
    rw [b_sr24 _ (by omega)]
    congr 1
    omega
  · rw [by_out56 _ (by omega) hi, by_in48 _ (by omega) (by omega) hi, by_out40 _ (by omega) hi, by_out32 _ (by omega) hi, by_out24 _ (by omega) hi, by_out16 _ (by omega) hi, by_out8 _ (by omega) hi, by_no _ (by omega) hi]
    simp only [Bool.or_false, Bool.false_or]
    rw [wd_up _ _ (by omega) hi]
    rw [b_sr16 _ (by omega)]
    congr 1
    omega
  · rw [by_out56 _ (by omega) hi, by_out48 _ (by omega) hi, by_in40 _ (by omega) (by omega) hi, by_out32 _ (by omega) hi, by_out24 _ (by omega) hi, by_out16 _ (by omega) hi, by_out8 _ (by omega) hi, by_no _ (by omega) hi]
    simp only [Bool.or_false, Bool.false_or]
    rw [wd_up _ _ (by omega) hi]
    rw [b_sr8 _ (by omega)]
    congr 1
    omega
  · rw [by_out56 _ (by omega) hi, by_out48 _ (by omega) hi, by_out40 _ (by omega) hi, by_in32 _ (by omega) (by omega) hi, by_out24 _ (by omega) hi, by_out16 _ (by omega) hi, by_out8 _ (by omega) hi, by_no _ (by omega) hi]
    simp only [Bool.or_false, Bool.false_or]
    rw [wd_up _ _ (by omega) hi]
  · rw [by_out56 _ (by omega) hi, by_out48 _ (by omega) hi, by_out40 _ (by omega) hi, by_out32 _ (by omega) hi, by_in24 _ (by omega) (by omega) hi, by_out16 _ (by omega) hi, by_out8 _ (by omega) hi, by_no _ (by omega) hi]
    simp only [Bool.or_false, Bool.false_or]
    rw [wd_lo _ _ (by omega)]
    rw [b_sr24 _ (by omega)]
    congr 1
    omega
  · rw [by_out56 _ (by omega) hi, by_out48 _ (by omega) hi, by_out40 _ (by omega) hi, by_out32 _ (by omega) hi, by_out24 _ (by omega) hi, by_in16 _ (by omega) (by omega) hi, by_out8 _ (by omega) hi, by_no _ (by omega) hi]
    simp only [Bool.or_false, Bool.false_or]
    rw [wd_lo _ _ (by omega)]
    rw [b_sr16 _ (by omega)]
    congr 1
    omega
  · rw [by_out56 _ (by omega) hi, by_out48 _ (by omega) hi, by_out40 _ (by omega) hi, by_out32 _ (by omega) hi, by_out24 _ (by omega) hi, by_out16 _ (by omega) hi, by_in8 _ (by omega) (by omega) hi, by_no _ (by omega) hi]
    simp only [Bool.or_false, Bool.false_or]
    rw [wd_lo _ _ (by omega)]
    rw [b_sr8 _ (by omega)]
    congr 1
    omega
  · rw [by_out56 _ (by omega) hi, by_out48 _ (by omega) hi, by_out40 _ (by omega) hi, by_out32 _ (by omega) hi, by_out24 _ (by omega) hi, by_out16 _ (by omega) hi, by_out8 _ (by omega) hi, by_lo _ (by omega)]
    simp only [Bool.or_false, Bool.false_or]
    rw [wd_lo _ _ (by omega)]
/-- the byte k of a long, the highest first -/
def lt_v (v : Int64) (k : Nat) : Int32 := ((v.toUInt64 >>> ((nI (8 * (7 - k))).toInt64.toUInt64 &&& Int64.toUInt64 63)).toInt64 &&& 255).toInt32
/-- w is v, t bytes lower -/
def sh_b (v w : Int64) (t : Nat) : Prop := ∀ i, 8 * t + i < 64 → bl_b w i = bl_b v (8 * t + i)
theorem sh_0 (v : Int64) : sh_b v v 0 := fun i _ => by rw [Nat.mul_zero, Nat.zero_add]
theorem sh_s {v w : Int64} {t : Nat} (h : sh_b v w t) : sh_b v (w >>> ((8 : Int32).toInt64 &&& 63)) (t + 1) := by
  intro i hi
  rw [bl_sr8 _ (by omega), if_pos (by omega), h (8 + i) (by omega)]
  congr 1
  omega
theorem lt_eq {v w : Int64} {t : Nat} (ht : t < 8) (h : sh_b v w t) : (vp_nar .byte (w &&& 255).toInt32.toInt8.toInt32) &&& 255 = lt_v v (7 - t) := by
  rw [vp_nar_byte]
  apply b_ext
  intro i hi
  unfold lt_v
  rw [b_and, b_255 i hi, bl_l2i _ hi, bl_and, bl_255 i (by omega)]
  by_cases h8 : i < 8
  · rw [decide_eq_true h8, Bool.and_true, Bool.and_true, bt_i2b _ h8, bt_i2b _ h8, bl_l2i _ hi, bl_and, bl_255 i (by omega), decide_eq_true h8, Bool.and_true, h i (by omega), bl_ushr _ (by omega)]
    congr 1
    omega
  · rw [decide_eq_false h8, Bool.and_false, Bool.and_false]
/-! the number on top, under another name -/
section TP
variable {p : Program} {l : Launch} {e : Env} {R : Room} {s : State} {m : MethodId} {args : Array Value} {below : List Frame} {meth : Method} {c : Code} {H : Heap} {locs : List Loc} {cells slots : Nat} {Q : State → Prop} {pc : Nat} {ls : Array Slot} {rest : List Value}
theorem tp_i {x y : Int32} (h : x = y) (k : W p l e R s m args below meth c H locs cells slots Q (F0 m pc ls (.int y :: rest))) : W p l e R s m args below meth c H locs cells slots Q (F0 m pc ls (.int x :: rest)) := by subst h; exact k
theorem tp_l {x y : Int64} (h : x = y) (k : W p l e R s m args below meth c H locs cells slots Q (F0 m pc ls (.long y :: rest))) : W p l e R s m args below meth c H locs cells slots Q (F0 m pc ls (.long x :: rest)) := by subst h; exact k
end TP
/-! more, for the walks -/
theorem lp_t {i N : Nat} (hN : N < 2 ^ 31) (h : i ≤ N) (c : nI N ≤ nI i) : i = N := by
  rcases Nat.lt_or_ge i N with q | q
  · exact absurd c (nI_ge q hN)
  · omega
theorem lp_f {i N : Nat} (hN : N < 2 ^ 31) (h : i ≤ N) (c : ¬ nI N ≤ nI i) : i < N := by
  rcases Nat.lt_or_ge i N with q | q
  · exact q
  · exact absurd (nI_le q (Nat.lt_of_le_of_lt h hN)) c
theorem lp_t12 {i : Nat} (h : i ≤ 12) (c : (12 : Int32) ≤ nI i) : i = 12 := lp_t (N := 12) (by decide) h c
theorem lp_f12 {i : Nat} (h : i ≤ 12) (c : ¬ (12 : Int32) ≤ nI i) : i < 12 := lp_f (N := 12) (by decide) h c
theorem lp_t8 {i : Nat} (h : i ≤ 8) (c : (8 : Int32) ≤ nI i) : i = 8 := lp_t (N := 8) (by decide) h c
theorem lp_f8 {i : Nat} (h : i ≤ 8) (c : ¬ (8 : Int32) ≤ nI i) : i < 8 := lp_f (N := 8) (by decide) h c
theorem lp_t24 {i : Nat} (h : i ≤ 24) (c : (24 : Int32) ≤ nI i) : i = 24 := lp_t (N := 24) (by decide) h c
theorem lp_f24 {i : Nat} (h : i ≤ 24) (c : ¬ (24 : Int32) ≤ nI i) : i < 24 := lp_f (N := 24) (by decide) h c
theorem ix_cl {i : Nat} (h : i < 12) : (nI i).toNatClampNeg = i := nI_clamp (Nat.lt_trans h (by decide))
theorem ix_in {i : Nat} (h : i < 12) : vp_in (nI i) 12 := vp_in_nI h (by decide)
theorem jm_1 (x : Int32) : x + (-1) = x - 1 := by grind
theorem tb_s {v w : Int64} {g : Nat → Int32} {k : Nat} (hk : k < 8) (hw : sh_b v w (8 - (k + 1))) (hg : ∀ j, k + 1 ≤ j → j < 8 → g j &&& 255 = lt_v v j) : ∀ j, k ≤ j → j < 8 → upd g (nI k).toNatClampNeg (vp_nar .byte (w &&& 255).toInt32.toInt8.toInt32) j &&& 255 = lt_v v j := by
  intro j h1 h2
  rw [nI_clamp (Nat.lt_trans hk (by decide))]
  rcases Nat.lt_or_ge k j with q | q
  · rw [pk_un (show j ≠ k by omega)]
    exact hg j q h2
  · rw [show j = k by omega, pk_us, lt_eq (show 8 - (k + 1) < 8 by omega) hw, show 7 - (8 - (k + 1)) = k by omega]
theorem sh_k {v w : Int64} {k : Nat} (hk : k < 8) (hw : sh_b v w (8 - (k + 1))) : sh_b v (w >>> ((8 : Int32).toInt64 &&& 63)) (8 - k) := by
  have h := sh_s hw
  rw [show 8 - (k + 1) + 1 = 8 - k by omega] at h
  exact h
theorem sw_s {f : Nat → Int64} {lo hi k : Nat} (h1 : lo + k < 2 ^ 31) (h2 : hi - 1 - k < 2 ^ 31) : vp_updL (vp_updL (sw_n f lo hi k) (nI (lo + k)).toNatClampNeg (sw_n f lo hi k (hi - 1 - k))) (nI (hi - 1 - k)).toNatClampNeg (sw_n f lo hi k (lo + k)) = sw_n f lo hi (k + 1) := by
  rw [nI_clamp h1, nI_clamp h2]
  rfl
theorem wi_1 {a b : Int64} (c : 0 ≤ lg_cmp a b) : b = mi_l a b := by
  have h : b ≤ a := (lg_cmp_ge a b).1 c
  by_cases q : a ≤ b
  · rw [mi_1 q]; exact Int64.le_antisymm h q
  · exact (mi_2 q).symm
theorem wi_2 {a b : Int64} (c : ¬ 0 ≤ lg_cmp a b) : a = mi_l a b := (mi_1 (Int64.le_of_lt (Int64.not_le.mp (fun h => c ((lg_cmp_ge a b).2 h))))).symm
theorem wa_1 {a b : Int64} (c : 0 ≤ lg_cmp a b) : a = ma_l a b := (ma_2 (Int64.not_lt.mpr ((lg_cmp_ge a b).1 c))).symm
theorem wa_2 {a b : Int64} (c : ¬ 0 ≤ lg_cmp a b) : b = ma_l a b := (ma_1 (Int64.not_le.mp (fun h => c ((lg_cmp_ge a b).2 h)))).symm
theorem lo_13 (a b : Int32) : rn_v a 13 + rn_v b (13 - rn_v a 13) ≤ 12 := by
  have h1 := rn_lt13 a
  have h2 := rn_lt b (d := 13 - rn_v a 13) (by omega)
  omega
theorem hd_1 {v a b : Int64} (c : ¬ 0 ≤ lg_cmp v (mi_l a b)) : hd_l v (mi_l a b) (ma_l a b) = mi_l a b := hd_lo (mi_ma a b) (Int64.not_le.mp (fun h => c ((lg_cmp_ge _ _).2 h)))
theorem hd_2 {v a b : Int64} (c1 : 0 ≤ lg_cmp v (mi_l a b)) (c : ¬ lg_cmp v (ma_l a b) ≤ 0) : hd_l v (mi_l a b) (ma_l a b) = ma_l a b := hd_hi (Int64.not_lt.mpr ((lg_cmp_ge _ _).1 c1)) (Int64.not_le.mp (fun h => c ((lg_cmp_le _ _).2 h)))
theorem hd_3 {v a b : Int64} (c1 : 0 ≤ lg_cmp v (mi_l a b)) (c : lg_cmp v (ma_l a b) ≤ 0) : hd_l v (mi_l a b) (ma_l a b) = v := hd_in (Int64.not_lt.mpr ((lg_cmp_ge _ _).1 c1)) (Int64.not_lt.mpr ((lg_cmp_le _ _).1 c))
theorem ce_in {k L : Nat} (hL : L ≤ 96) (c : ¬ Int32.ofNat L ≤ nI k) (hk : k < 2 ^ 31) : vp_in (nI k) L := by
  refine vp_in_nI ?_ (Nat.lt_of_le_of_lt hL (by decide))
  rcases Nat.lt_or_ge k L with q | q
  · exact q
  · exact absurd (nI_le q hk) c
end
section
/-! Preconditions, Math, Longs: their contracts -/
abbrev cl_d : List vw_C := [(RX1, TX1, 1)]
set_option maxHeartbeats 4000000 in
set_option maxRecDepth 100000 in
/-- checkArgument(true): nothing -/
theorem mX3_checkArgument (l : Launch)  : Met l yX3_checkArgument (ws_ yX3_checkArgument cX3_checkArgument 1 none) ({ frames := 1, cells := 0, slots := 0, locals := 12 }) (va_Pc [.int 1] (fun U => True)) (va_Sv (fun _ => True)) 0 0 (fun _ => False) := by
  refine Met.ofW (cc := cX3_checkArgument) (maxL := 1) (ret := none) (by decide) rfl ?_
  intro p e s m args below meth c s₁ B hml hv
  obtain ⟨rfl, -⟩ := hv
  have hx := B.exec
  have hb := B.bytes
  have hr := B.returns
  have hts := atoms_spec (ws := (ws_ yX3_checkArgument cX3_checkArgument 1 none)) B.pre
  have hts : ∀ w ∈ lw_all, w.before _ s = true := fun w h => hts w (List.mem_cons_of_mem _ h)
  have hown : s.vm.findClass RX3 = some m.cls := findClass_of_methodNamed B.named
  have hlocks := B.notSynchronized
  have hl := lv_entry ([.int 1]) (n := 1) (Nat.le_of_ble_eq_true rfl)
  rw [lg_entry_eq]
  generalize (lg_sl ([.int 1]) ++ List.replicate (1 - (lg_sl ([.int 1])).length) Slot.unset).toArray = ls at hl ⊢
  have hl : lv_has ls 1 [(0, .int 1)] := hl
  refine lv_iload_n hx hb dX3_checkArgument_0 rfl (lv_at hl 0 rfl) ?_
  refine lv_if_ne (tgt := 12) hx hb dX3_checkArgument_1 (by decide) (fun c_1 => ?_) (fun c_1 => ?_)
  · exact W.vret hx hb hr (fun t ht hW => ⟨rfl, trivial, ht⟩) (fun _ h => absurd h List.not_mem_nil) dX3_checkArgument_12
  · exact absurd c_1 (by decide)
set_option maxHeartbeats 4000000 in
set_option maxRecDepth 100000 in
/-- checkArgument(true, text, v, u): nothing -/
theorem mX3_checkArgument_2 (l : Launch) (a : Nat) (v u : Int64) : Met l yX3_checkArgument_2 (ws_ yX3_checkArgument_2 cX3_checkArgument_2 6 none) ({ frames := 1, cells := 0, slots := 0, locals := 12 }) (va_Pc [.int 1, .ref a, .long v, .long u] (fun U => True)) (va_Sv (fun _ => True)) 0 0 (fun _ => False) := by
  refine Met.ofW (cc := cX3_checkArgument_2) (maxL := 6) (ret := none) (by decide) rfl ?_
  intro p e s m args below meth c s₁ B hml hv
  obtain ⟨rfl, -⟩ := hv
  have hx := B.exec
  have hb := B.bytes
  have hr := B.returns
  have hts := atoms_spec (ws := (ws_ yX3_checkArgument_2 cX3_checkArgument_2 6 none)) B.pre
  have hts : ∀ w ∈ lw_all, w.before _ s = true := fun w h => hts w (List.mem_cons_of_mem _ h)
  have hown : s.vm.findClass RX3 = some m.cls := findClass_of_methodNamed B.named
  have hlocks := B.notSynchronized
  have hl := lv_entry ([.int 1, .ref a, .long v, .long u]) (n := 6) (Nat.le_of_ble_eq_true rfl)
  rw [lg_entry_eq]
  generalize (lg_sl ([.int 1, .ref a, .long v, .long u]) ++ List.replicate (6 - (lg_sl ([.int 1, .ref a, .long v, .long u])).length) Slot.unset).toArray = ls at hl ⊢
  have hl : lv_has ls 6 [(0, .int 1), (1, .ref a), (2, .long v), (4, .long u)] := hl
  refine lv_iload_n hx hb dX3_checkArgument_2_0 rfl (lv_at hl 0 rfl) ?_
  refine lv_if_ne (tgt := 14) hx hb dX3_checkArgument_2_1 (by decide) (fun c_1 => ?_) (fun c_1 => ?_)
  · exact W.vret hx hb hr (fun t ht hW => ⟨rfl, trivial, ht⟩) (fun _ h => absurd h List.not_mem_nil) dX3_checkArgument_2_14
  · exact absurd c_1 (by decide)
set_option maxHeartbeats 4000000 in
set_option maxRecDepth 100000 in
/-- checkNotNull: its argument -/
theorem mX3_checkNotNull (l : Launch) (a : Nat) : Met l yX3_checkNotNull (ws_ yX3_checkNotNull cX3_checkNotNull 1 (some (.object "java/lang/Object"))) ({ frames := 0, cells := 0, slots := 0, locals := 0 }) (va_Pc [.ref a] (fun U => True)) (va_Sr (fun k => k = a) (fun k => .ref k)) 0 0 (fun _ => False) := by
  refine Met.ofW (cc := cX3_checkNotNull) (maxL := 1) (ret := (some (.object "java/lang/Object"))) (by decide) rfl ?_
  intro p e s m args below meth c s₁ B hml hv
  obtain ⟨rfl, -⟩ := hv
  have hx := B.exec
  have hb := B.bytes
  have hr := B.returns
  have hts := atoms_spec (ws := (ws_ yX3_checkNotNull cX3_checkNotNull 1 (some (.object "java/lang/Object")))) B.pre
  have hts : ∀ w ∈ lw_all, w.before _ s = true := fun w h => hts w (List.mem_cons_of_mem _ h)
  have hown : s.vm.findClass RX3 = some m.cls := findClass_of_methodNamed B.named
  have hlocks := B.notSynchronized
  have hl := lv_entry ([.ref a]) (n := 1) (Nat.le_of_ble_eq_true rfl)
  rw [lg_entry_eq]
  generalize (lg_sl ([.ref a]) ++ List.replicate (1 - (lg_sl ([.ref a])).length) Slot.unset).toArray = ls at hl ⊢
  have hl : lv_has ls 1 [(0, .ref a)] := hl
  refine lv_aload_n hx hb dX3_checkNotNull_0 rfl (lv_at hl 0 rfl) ?_
  exact W.aret (v := .ref a) hx hb hr (Or.inl ⟨_, rfl⟩) (Or.inr ⟨_, rfl⟩) (fun t ht hW => ⟨a, rfl, rfl, ht⟩) (fun _ h => absurd h List.not_mem_nil) dX3_checkNotNull_1
set_option maxHeartbeats 4000000 in
set_option maxRecDepth 100000 in
/-- checkPositionIndexes: the places are in order -/
theorem mX3_checkPositionIndexes (l : Launch) (x y : Nat) (h1 : x ≤ y) (h2 : y ≤ 12) : Met l yX3_checkPositionIndexes (ws_ yX3_checkPositionIndexes cX3_checkPositionIndexes 3 none) ({ frames := 1, cells := 0, slots := 0, locals := 12 }) (va_Pc [.int (nI x), .int (nI y), .int 12] (fun U => True)) (va_Sv (fun _ => True)) 0 0 (fun _ => False) := by
  refine Met.ofW (cc := cX3_checkPositionIndexes) (maxL := 3) (ret := none) (by decide) rfl ?_
  intro p e s m args below meth c s₁ B hml hv
  obtain ⟨rfl, -⟩ := hv
  have hx := B.exec
  have hb := B.bytes
  have hr := B.returns
  have hts := atoms_spec (ws := (ws_ yX3_checkPositionIndexes cX3_checkPositionIndexes 3 none)) B.pre
  have hts : ∀ w ∈ lw_all, w.before _ s = true := fun w h => hts w (List.mem_cons_of_mem _ h)
  have hown : s.vm.findClass RX3 = some m.cls := findClass_of_methodNamed B.named
  have hlocks := B.notSynchronized
  have hl := lv_entry ([.int (nI x), .int (nI y), .int 12]) (n := 3) (Nat.le_of_ble_eq_true rfl)
  rw [lg_entry_eq]
  generalize (lg_sl ([.int (nI x), .int (nI y), .int 12]) ++ List.replicate (3 - (lg_sl ([.int (nI x), .int (nI y), .int 12])).length) Slot.unset).toArray = ls at hl ⊢
  have hl : lv_has ls 3 [(0, .int (nI x)), (1, .int (nI y)), (2, .int 12)] := hl
  refine lv_iload_n hx hb dX3_checkPositionIndexes_0 rfl (lv_at hl 0 rfl) ?_
  refine lv_if_lt (tgt := 14) hx hb dX3_checkPositionIndexes_1 (by decide) (fun c_1 => ?_) (fun c_1 => ?_)
  · exact absurd c_1 (nI_pos (by omega))
  · refine lv_iload_n hx hb dX3_checkPositionIndexes_4 rfl (lv_at hl 1 rfl) ?_
    refine lv_iload_n hx hb dX3_checkPositionIndexes_5 rfl (lv_at hl 0 rfl) ?_
    refine lv_icmp_lt (tgt := 14) hx hb dX3_checkPositionIndexes_6 (by decide) (fun c_2 => ?_) (fun c_2 => ?_)
    · exact absurd c_2 (nI_nlt h1 (by omega))
    · refine lv_iload_n hx hb dX3_checkPositionIndexes_9 rfl (lv_at hl 1 rfl) ?_
      refine lv_iload_n hx hb dX3_checkPositionIndexes_10 rfl (lv_at hl 2 rfl) ?_
      refine lv_icmp_le (tgt := 24) hx hb dX3_checkPositionIndexes_11 (by decide) (fun c_3 => ?_) (fun c_3 => ?_)
      · exact W.vret hx hb hr (fun t ht hW => ⟨rfl, trivial, ht⟩) (fun _ h => absurd h List.not_mem_nil) dX3_checkPositionIndexes_24
      · exact absurd (nI_le (b := 12) h2 (by decide)) c_3
set_option maxHeartbeats 4000000 in
set_option maxRecDepth 100000 in
/-- constrainToRange -/
theorem mX2_constrainToRange (l : Launch) (aS : Nat) (v lo hi : Int64) (h : lo ≤ hi) : Met l yX2_constrainToRange (ws_ yX2_constrainToRange cX2_constrainToRange 6 (some .long)) ({ frames := 2, cells := 0, slots := 0, locals := 37 }) (va_Pc [.long v, .long lo, .long hi] (fun U => vk_R RX2 16 "min (%s) must be less than or equal to max (%s)" aS U)) (vp_Sl (fun r => r = hd_l v lo hi)) 0 0 (fun _ => False) := by
  refine Met.ofW (cc := cX2_constrainToRange) (maxL := 6) (ret := (some .long)) (by decide) rfl ?_
  intro p e s m args below meth c s₁ B hml hv
  obtain ⟨rfl, hZ⟩ := hv
  have hx := B.exec
  have hb := B.bytes
  have hr := B.returns
  have hts := atoms_spec (ws := (ws_ yX2_constrainToRange cX2_constrainToRange 6 (some .long))) B.pre
  have hts : ∀ w ∈ lw_all, w.before _ s = true := fun w h => hts w (List.mem_cons_of_mem _ h)
  have hown : s.vm.findClass RX2 = some m.cls := findClass_of_methodNamed B.named
  have hlocks := B.notSynchronized
  have hl := lv_entry ([.long v, .long lo, .long hi]) (n := 6) (Nat.le_of_ble_eq_true rfl)
  rw [lg_entry_eq]
  generalize (lg_sl ([.long v, .long lo, .long hi]) ++ List.replicate (6 - (lg_sl ([.long v, .long lo, .long hi])).length) Slot.unset).toArray = ls at hl ⊢
  have hl : lv_has ls 6 [(0, .long v), (2, .long lo), (4, .long hi)] := hl
  refine lv_lload_n hx hb dX2_constrainToRange_0 rfl (lv_at hl 1 rfl) ?_
  refine lv_lload hx hb dX2_constrainToRange_1 (lv_at hl 2 rfl) ?_
  refine W.lcmp hx hb dX2_constrainToRange_3 ?_
  refine lv_if_gt (tgt := 11) hx hb dX2_constrainToRange_4 (by decide) (fun c_1 => ?_) (fun c_1 => ?_)
  · exact absurd ((lg_cmp_gt _ _).1 c_1) (Int64.not_lt.mpr h)
  · refine lv_iconst (v := 1) hx hb dX2_constrainToRange_7 (by decide) ?_
    refine lv_goto (tgt := 12) hx hb dX2_constrainToRange_8 (by decide) ?_
    refine va_ldcS hx hb hown hZ dX2_constrainToRange_12 ?_
    refine lv_lload_n hx hb dX2_constrainToRange_14 rfl (lv_at hl 1 rfl) ?_
    refine lv_lload hx hb dX2_constrainToRange_15 (lv_at hl 2 rfl) ?_
    refine va_csv (W.runS (As := [.int 1, .ref aS, .long lo, .long hi]) (rest := []) ⟨hx, hb, hml, hown, hts⟩ (mX3_checkArgument_2 l aS lo hi) (va_cwS 4 hts (lw_S q251 q252 q6 q253) rfl rfl rfl (by decide +kernel) ⟨Nat.le_of_ble_eq_true rfl, Nat.le_of_ble_eq_true rfl⟩) ⟨fun _ _ _ _ q => q, fun _ _ _ => ⟨rfl, trivial⟩⟩ rfl rfl hl.1 rfl (lv_room (Nat.le_of_ble_eq_true rfl)) dX2_constrainToRange_17 ⟨Nat.le_of_ble_eq_true rfl, Nat.le_of_ble_eq_true rfl⟩) (fun _ => ?_)
    refine lv_lload_n hx hb dX2_constrainToRange_20 rfl (lv_at hl 0 rfl) ?_
    refine lv_lload_n hx hb dX2_constrainToRange_21 rfl (lv_at hl 1 rfl) ?_
    refine va_mmax_long hx hb (hml.trans hl.1.symm) hown (hts _ q258) (hts _ q241) (hts _ q12) (hts _ q242) (Nat.le_of_ble_eq_true rfl) (Nat.le_of_ble_eq_true rfl) (Nat.le_of_ble_eq_true rfl) (Nat.le_of_ble_eq_true rfl) dX2_constrainToRange_22 ?_
    refine tp_l (y := ma_l v lo) rfl ?_
    refine lv_lload hx hb dX2_constrainToRange_25 (lv_at hl 2 rfl) ?_
    refine va_mmin_long hx hb (hml.trans hl.1.symm) hown (hts _ q259) (hts _ q238) (hts _ q12) (hts _ q239) (Nat.le_of_ble_eq_true rfl) (Nat.le_of_ble_eq_true rfl) (Nat.le_of_ble_eq_true rfl) (Nat.le_of_ble_eq_true rfl) dX2_constrainToRange_27 ?_
    refine tp_l (y := mi_l (ma_l v lo) hi) rfl ?_
    exact W.lret (v := mi_l (ma_l v lo) hi) hx hb hr (fun t ht hW => ⟨_, rfl, rfl, ht⟩) (fun _ h => absurd h List.not_mem_nil) dX2_constrainToRange_30
set_option maxHeartbeats 4000000 in
set_option maxRecDepth 100000 in
/-- contains: whether v stands in the array -/
theorem mX2_contains (l : Launch) (dC : Nat → ClassId) (dI : Nat → Nat → Nat) (a : Nat) (d : ClassId) (f : Nat → Int64) (v : Int64) : Met l yX2_contains (ws_ yX2_contains cX2_contains 8 (some .boolean)) ({ frames := 0, cells := 0, slots := 0, locals := 0 }) (va_Pc [.ref a, .long v] (fun U => va_P (dC, dI) cl_d [(a, .inl (d, 12, .inr (.inl f)))] U.heap ∧ va_K (dC, dI) cl_d [(d, .long)] U)) (vp_Si (fun r => hs_n f v r)) 0 0 (fun _ => False) := by
  refine Met.ofW (cc := cX2_contains) (maxL := 8) (ret := (some .boolean)) (by decide) rfl ?_
  intro p e s m args below meth c s₁ B hml hv
  obtain ⟨rfl, hP, hK⟩ := hv
  have hx := B.exec
  have hb := B.bytes
  have hr := B.returns
  have hts := atoms_spec (ws := (ws_ yX2_contains cX2_contains 8 (some .boolean))) B.pre
  have hts : ∀ w ∈ lw_all, w.before _ s = true := fun w h => hts w (List.mem_cons_of_mem _ h)
  have hown : s.vm.findClass RX2 = some m.cls := findClass_of_methodNamed B.named
  have hlocks := B.notSynchronized
  have K : ∀ (n i : Nat), i ≤ 12 → 13 ≤ i + n → (∀ j, j < i → f j ≠ v) → ∀ ls : Array Slot, lv_has ls 8 [(0, .ref a), (1, .long v), (3, .ref a), (4, .int 12), (5, .int (nI i))] → W p l e (headSpec (ws_ yX2_contains cX2_contains 8 (some .boolean)) ({ frames := 0, cells := 0, slots := 0, locals := 0 })).room s m ([.ref a, .long v] : List Value).toArray below meth c s.heap [] 0 0 (MQ below (vp_Si (fun r => hs_n f v r)) ([.ref a, .long v] : List Value).toArray s 0 0 (fun _ => False)) (F0 m 9 ls []) := by
    intro n
    induction n with
    | zero =>
      intro i hi hin
      omega
    | succ n ih =>
      intro i hi hin hall ls hl
      refine lv_iload hx hb dX2_contains_9 (lv_at hl 4 rfl) ?_
      refine lv_iload hx hb dX2_contains_11 (lv_at hl 3 rfl) ?_
      refine lv_icmp_ge (tgt := 37) hx hb dX2_contains_13 (by decide) (fun c_1 => ?_) (fun c_1 => ?_)
      · rw [lp_t12 hi c_1] at hall
        refine lv_iconst (v := 0) hx hb dX2_contains_37 (by decide) ?_
        exact W.zret (v := 0) hx hb hr rfl (fun t ht hW => ⟨_, rfl, (Or.inr ⟨rfl, hall⟩), ht⟩) (fun _ h => absurd h List.not_mem_nil) dX2_contains_38
      · have hlt := lp_f12 hi c_1
        refine lv_aload_n hx hb dX2_contains_16 rfl (lv_at hl 2 rfl) ?_
        refine lv_iload hx hb dX2_contains_17 (lv_at hl 4 rfl) ?_
        refine va_lald hx hb hK hP 0 0 rfl rfl (ix_in hlt) dX2_contains_19 ?_
        refine tp_l (y := f i) (by rw [ix_cl hlt]) ?_
        refine lv_lstore (lv' := [(6, .long (f i)), (0, .ref a), (1, .long v), (3, .ref a), (4, .int 12), (5, .int (nI i))]) hx hb dX2_contains_20 hl (by decide) rfl (fun ls hl => ?_)
        refine lv_lload hx hb dX2_contains_22 (lv_at hl 0 rfl) ?_
        refine lv_lload_n hx hb dX2_contains_24 rfl (lv_at hl 2 rfl) ?_
        refine W.lcmp hx hb dX2_contains_25 ?_
        refine lv_if_ne (tgt := 31) hx hb dX2_contains_26 (by decide) (fun c_2 => ?_) (fun c_2 => ?_)
        · refine lv_iinc (v := nI (i + 1)) (lv' := [(5, .int (nI (i + 1))), (6, .long (f i)), (0, .ref a), (1, .long v), (3, .ref a), (4, .int 12)]) hx hb dX2_contains_31 hl (k := 5) rfl (nI_1 i) (by decide) rfl (fun ls hl => ?_)
          refine lv_goto (tgt := 9) hx hb dX2_contains_34 (by decide) ?_
          exact ih (i + 1) hlt (by omega) (al_s hall (fun h => c_2 ((lg_cmp_eq _ _).2 h))) ls (lv_sub hl [2, 3, 4, 5, 0] rfl)
        · refine lv_iconst (v := 1) hx hb dX2_contains_29 (by decide) ?_
          exact W.zret (v := 1) hx hb hr rfl (fun t ht hW => ⟨_, rfl, (Or.inl ⟨rfl, i, hlt, (lg_cmp_eq _ _).1 c_2⟩), ht⟩) (fun _ h => absurd h List.not_mem_nil) dX2_contains_30
  have hl := lv_entry ([.ref a, .long v]) (n := 8) (Nat.le_of_ble_eq_true rfl)
  rw [lg_entry_eq]
  generalize (lg_sl ([.ref a, .long v]) ++ List.replicate (8 - (lg_sl ([.ref a, .long v])).length) Slot.unset).toArray = ls at hl ⊢
  have hl : lv_has ls 8 [(0, .ref a), (1, .long v)] := hl
  refine lv_aload_n hx hb dX2_contains_0 rfl (lv_at hl 0 rfl) ?_
  refine lv_astore_n (lv' := [(3, .ref a), (0, .ref a), (1, .long v)]) hx hb dX2_contains_1 rfl hl (by decide) rfl (fun ls hl => ?_)
  refine lv_aload_n hx hb dX2_contains_2 rfl (lv_at hl 0 rfl) ?_
  refine va_alen (v := 12) hx hb hK hP 0 0 rfl rfl rfl dX2_contains_3 ?_
  refine lv_istore (lv' := [(4, .int 12), (3, .ref a), (0, .ref a), (1, .long v)]) hx hb dX2_contains_4 hl (by decide) rfl (fun ls hl => ?_)
  refine lv_iconst (v := 0) hx hb dX2_contains_6 (by decide) ?_
  refine lv_istore (lv' := [(5, .int 0), (4, .int 12), (3, .ref a), (0, .ref a), (1, .long v)]) hx hb dX2_contains_7 hl (by decide) rfl (fun ls hl => ?_)
  exact K 13 0 (by decide) (by decide) (fun j h => absurd h (Nat.not_lt_zero j)) ls (lv_sub hl [3, 4, 2, 1, 0] rfl)
set_option maxHeartbeats 4000000 in
set_option maxRecDepth 100000 in
/-- indexOf over the whole array: the first place -/
theorem mX2_indexOf_2 (l : Launch) (dC : Nat → ClassId) (dI : Nat → Nat → Nat) (a : Nat) (d : ClassId) (f : Nat → Int64) (v : Int64) : Met l yX2_indexOf_2 (ws_ yX2_indexOf_2 cX2_indexOf_2 6 (some .int)) ({ frames := 0, cells := 0, slots := 0, locals := 0 }) (va_Pc [.ref a, .long v, .int 0, .int 12] (fun U => va_P (dC, dI) cl_d [(a, .inl (d, 12, .inr (.inl f)))] U.heap ∧ va_K (dC, dI) cl_d [(d, .long)] U)) (vp_Si (fun r => fs_n f v 12 r)) 0 0 (fun _ => False) := by
  refine Met.ofW (cc := cX2_indexOf_2) (maxL := 6) (ret := (some .int)) (by decide) rfl ?_
  intro p e s m args below meth c s₁ B hml hv
  obtain ⟨rfl, hP, hK⟩ := hv
  have hx := B.exec
  have hb := B.bytes
  have hr := B.returns
  have hts := atoms_spec (ws := (ws_ yX2_indexOf_2 cX2_indexOf_2 6 (some .int))) B.pre
  have hts : ∀ w ∈ lw_all, w.before _ s = true := fun w h => hts w (List.mem_cons_of_mem _ h)
  have hown : s.vm.findClass RX2 = some m.cls := findClass_of_methodNamed B.named
  have hlocks := B.notSynchronized
  have K : ∀ (n i : Nat), i ≤ 12 → 13 ≤ i + n → (∀ j, j < i → f j ≠ v) → ∀ ls : Array Slot, lv_has ls 6 [(0, .ref a), (1, .long v), (4, .int 12), (5, .int (nI i))] → W p l e (headSpec (ws_ yX2_indexOf_2 cX2_indexOf_2 6 (some .int)) ({ frames := 0, cells := 0, slots := 0, locals := 0 })).room s m ([.ref a, .long v, .int 0, .int 12] : List Value).toArray below meth c s.heap [] 0 0 (MQ below (vp_Si (fun r => fs_n f v 12 r)) ([.ref a, .long v, .int 0, .int 12] : List Value).toArray s 0 0 (fun _ => False)) (F0 m 3 ls []) := by
    intro n
    induction n with
    | zero =>
      intro i hi hin
      omega
    | succ n ih =>
      intro i hi hin hall ls hl
      refine lv_iload hx hb dX2_indexOf_2_3 (lv_at hl 3 rfl) ?_
      refine lv_iload hx hb dX2_indexOf_2_5 (lv_at hl 2 rfl) ?_
      refine lv_icmp_ge (tgt := 28) hx hb dX2_indexOf_2_7 (by decide) (fun c_1 => ?_) (fun c_1 => ?_)
      · rw [lp_t12 hi c_1] at hall
        refine lv_iconst (v := -1) hx hb dX2_indexOf_2_28 (by decide) ?_
        exact W.iret (v := -1) hx hb hr (fun t ht hW => ⟨_, rfl, (fs_no hall), ht⟩) (fun _ h => absurd h List.not_mem_nil) dX2_indexOf_2_29
      · have hlt := lp_f12 hi c_1
        refine lv_aload_n hx hb dX2_indexOf_2_10 rfl (lv_at hl 0 rfl) ?_
        refine lv_iload hx hb dX2_indexOf_2_11 (lv_at hl 3 rfl) ?_
        refine va_lald hx hb hK hP 0 0 rfl rfl (ix_in hlt) dX2_indexOf_2_13 ?_
        refine tp_l (y := f i) (by rw [ix_cl hlt]) ?_
        refine lv_lload_n hx hb dX2_indexOf_2_14 rfl (lv_at hl 1 rfl) ?_
        refine W.lcmp hx hb dX2_indexOf_2_15 ?_
        refine lv_if_ne (tgt := 22) hx hb dX2_indexOf_2_16 (by decide) (fun c_2 => ?_) (fun c_2 => ?_)
        · refine lv_iinc (v := nI (i + 1)) (lv' := [(5, .int (nI (i + 1))), (0, .ref a), (1, .long v), (4, .int 12)]) hx hb dX2_indexOf_2_22 hl (k := 3) rfl (nI_1 i) (by decide) rfl (fun ls hl => ?_)
          refine lv_goto (tgt := 3) hx hb dX2_indexOf_2_25 (by decide) ?_
          exact ih (i + 1) hlt (by omega) (al_s hall (fun h => c_2 ((lg_cmp_eq _ _).2 h))) ls (lv_sub hl [1, 2, 3, 0] rfl)
        · refine lv_iload hx hb dX2_indexOf_2_19 (lv_at hl 3 rfl) ?_
          exact W.iret (v := nI i) hx hb hr (fun t ht hW => ⟨_, rfl, (fs_at hlt ((lg_cmp_eq _ _).1 c_2) hall), ht⟩) (fun _ h => absurd h List.not_mem_nil) dX2_indexOf_2_21
  have hl := lv_entry ([.ref a, .long v, .int 0, .int 12]) (n := 6) (Nat.le_of_ble_eq_true rfl)
  rw [lg_entry_eq]
  generalize (lg_sl ([.ref a, .long v, .int 0, .int 12]) ++ List.replicate (6 - (lg_sl ([.ref a, .long v, .int 0, .int 12])).length) Slot.unset).toArray = ls at hl ⊢
  have hl : lv_has ls 6 [(0, .ref a), (1, .long v), (3, .int 0), (4, .int 12)] := hl
  refine lv_iload_n hx hb dX2_indexOf_2_0 rfl (lv_at hl 2 rfl) ?_
  refine lv_istore (lv' := [(5, .int 0), (0, .ref a), (1, .long v), (3, .int 0), (4, .int 12)]) hx hb dX2_indexOf_2_1 hl (by decide) rfl (fun ls hl => ?_)
  exact K 13 0 (by decide) (by decide) (fun j h => absurd h (Nat.not_lt_zero j)) ls (lv_sub hl [1, 2, 4, 0] rfl)
set_option maxHeartbeats 4000000 in
set_option maxRecDepth 100000 in
/-- over the whole array -/
theorem mX2_indexOf (l : Launch) (dC : Nat → ClassId) (dI : Nat → Nat → Nat) (a : Nat) (d : ClassId) (f : Nat → Int64) (v : Int64) : Met l yX2_indexOf (ws_ yX2_indexOf cX2_indexOf 3 (some .int)) ({ frames := 1, cells := 0, slots := 0, locals := 25 }) (va_Pc [.ref a, .long v] (fun U => va_P (dC, dI) cl_d [(a, .inl (d, 12, .inr (.inl f)))] U.heap ∧ va_K (dC, dI) cl_d [(d, .long)] U)) (vp_Si (fun r => fs_n f v 12 r)) 0 0 (fun _ => False) := by
  refine Met.ofW (cc := cX2_indexOf) (maxL := 3) (ret := (some .int)) (by decide) rfl ?_
  intro p e s m args below meth c s₁ B hml hv
  obtain ⟨rfl, hP, hK⟩ := hv
  have hx := B.exec
  have hb := B.bytes
  have hr := B.returns
  have hts := atoms_spec (ws := (ws_ yX2_indexOf cX2_indexOf 3 (some .int))) B.pre
  have hts : ∀ w ∈ lw_all, w.before _ s = true := fun w h => hts w (List.mem_cons_of_mem _ h)
  have hown : s.vm.findClass RX2 = some m.cls := findClass_of_methodNamed B.named
  have hlocks := B.notSynchronized
  have hl := lv_entry ([.ref a, .long v]) (n := 3) (Nat.le_of_ble_eq_true rfl)
  rw [lg_entry_eq]
  generalize (lg_sl ([.ref a, .long v]) ++ List.replicate (3 - (lg_sl ([.ref a, .long v])).length) Slot.unset).toArray = ls at hl ⊢
  have hl : lv_has ls 3 [(0, .ref a), (1, .long v)] := hl
  refine lv_aload_n hx hb dX2_indexOf_0 rfl (lv_at hl 0 rfl) ?_
  refine lv_lload_n hx hb dX2_indexOf_1 rfl (lv_at hl 1 rfl) ?_
  refine lv_iconst (v := 0) hx hb dX2_indexOf_2 (by decide) ?_
  refine lv_aload_n hx hb dX2_indexOf_3 rfl (lv_at hl 0 rfl) ?_
  refine va_alen (v := 12) hx hb hK hP 0 0 rfl rfl rfl dX2_indexOf_4 ?_
  refine vp_callSi (W.runS (As := [.ref a, .long v, .int 0, .int 12]) (rest := []) ⟨hx, hb, hml, hown, hts⟩ (mX2_indexOf_2 l dC dI a d f v) (va_cwS 4 hts (lw_S q150 q151 q5 q152) rfl rfl rfl (by decide +kernel) ⟨Nat.le_of_ble_eq_true rfl, Nat.le_of_ble_eq_true rfl⟩) ⟨fun a U g mk q => ⟨q.1, q.2.1, va_K.moved (u := U) (U := U.calling g mk a) (Vm.Alike.refl U.vm) q.2.2⟩, fun U hU hW => ⟨rfl, by rw [hU]; exact (hP.sub (ws' := [(a, .inl (d, 12, .inr (.inl f)))]) [0] rfl), va_K.moved hW.alike (hK.sub (tys' := [(d, .long)]) [0] rfl)⟩⟩ rfl rfl hl.1 rfl (lv_room (Nat.le_of_ble_eq_true rfl)) dX2_indexOf_5 ⟨Nat.le_of_ble_eq_true rfl, Nat.le_of_ble_eq_true rfl⟩) (fun r_1 hr_1 => ?_)
  exact W.iret (v := r_1) hx hb hr (fun t ht hW => ⟨_, rfl, hr_1, ht⟩) (fun _ h => absurd h List.not_mem_nil) dX2_indexOf_8
set_option maxHeartbeats 4000000 in
set_option maxRecDepth 100000 in
/-- lastIndexOf over the whole array: the last place -/
theorem mX2_lastIndexOf_2 (l : Launch) (dC : Nat → ClassId) (dI : Nat → Nat → Nat) (a : Nat) (d : ClassId) (f : Nat → Int64) (v : Int64) : Met l yX2_lastIndexOf_2 (ws_ yX2_lastIndexOf_2 cX2_lastIndexOf_2 6 (some .int)) ({ frames := 0, cells := 0, slots := 0, locals := 0 }) (va_Pc [.ref a, .long v, .int 0, .int 12] (fun U => va_P (dC, dI) cl_d [(a, .inl (d, 12, .inr (.inl f)))] U.heap ∧ va_K (dC, dI) cl_d [(d, .long)] U)) (vp_Si (fun r => ls_n f v 12 r)) 0 0 (fun _ => False) := by
  refine Met.ofW (cc := cX2_lastIndexOf_2) (maxL := 6) (ret := (some .int)) (by decide) rfl ?_
  intro p e s m args below meth c s₁ B hml hv
  obtain ⟨rfl, hP, hK⟩ := hv
  have hx := B.exec
  have hb := B.bytes
  have hr := B.returns
  have hts := atoms_spec (ws := (ws_ yX2_lastIndexOf_2 cX2_lastIndexOf_2 6 (some .int))) B.pre
  have hts : ∀ w ∈ lw_all, w.before _ s = true := fun w h => hts w (List.mem_cons_of_mem _ h)
  have hown : s.vm.findClass RX2 = some m.cls := findClass_of_methodNamed B.named
  have hlocks := B.notSynchronized
  have K : ∀ k : Nat, k ≤ 12 → (∀ j, k ≤ j → j < 12 → f j ≠ v) → ∀ x : Int32, x = nI k - 1 → ∀ ls : Array Slot, lv_has ls 6 [(0, .ref a), (1, .long v), (3, .int 0), (5, .int x)] → W p l e (headSpec (ws_ yX2_lastIndexOf_2 cX2_lastIndexOf_2 6 (some .int)) ({ frames := 0, cells := 0, slots := 0, locals := 0 })).room s m ([.ref a, .long v, .int 0, .int 12] : List Value).toArray below meth c s.heap [] 0 0 (MQ below (vp_Si (fun r => ls_n f v 12 r)) ([.ref a, .long v, .int 0, .int 12] : List Value).toArray s 0 0 (fun _ => False)) (F0 m 6 ls []) := by
    intro k
    induction k with
    | zero =>
      intro hk hall x ex ls hl
      refine lv_iload hx hb dX2_lastIndexOf_2_6 (lv_at hl 3 rfl) ?_
      refine lv_iload_n hx hb dX2_lastIndexOf_2_8 rfl (lv_at hl 2 rfl) ?_
      refine lv_icmp_lt (tgt := 30) hx hb dX2_lastIndexOf_2_9 (by decide) (fun c_1 => ?_) (fun c_1 => ?_)
      · refine lv_iconst (v := -1) hx hb dX2_lastIndexOf_2_30 (by decide) ?_
        exact W.iret (v := -1) hx hb hr (fun t ht hW => ⟨_, rfl, (ls_no hall), ht⟩) (fun _ h => absurd h List.not_mem_nil) dX2_lastIndexOf_2_31
      · exact absurd (by rw [ex]; decide +kernel) c_1
    | succ k ih =>
      intro hk hall x ex ls hl
      rw [nI_pred] at ex
      subst ex
      have hlt : k < 12 := hk
      refine lv_iload hx hb dX2_lastIndexOf_2_6 (lv_at hl 3 rfl) ?_
      refine lv_iload_n hx hb dX2_lastIndexOf_2_8 rfl (lv_at hl 2 rfl) ?_
      refine lv_icmp_lt (tgt := 30) hx hb dX2_lastIndexOf_2_9 (by decide) (fun c_1 => ?_) (fun c_1 => ?_)
      · exact absurd c_1 (nI_pos (by omega))
      · refine lv_aload_n hx hb dX2_lastIndexOf_2_12 rfl (lv_at hl 0 rfl) ?_
        refine lv_iload hx hb dX2_lastIndexOf_2_13 (lv_at hl 3 rfl) ?_
        refine va_lald hx hb hK hP 0 0 rfl rfl (ix_in hlt) dX2_lastIndexOf_2_15 ?_
        refine tp_l (y := f k) (by rw [ix_cl hlt]) ?_
        refine lv_lload_n hx hb dX2_lastIndexOf_2_16 rfl (lv_at hl 1 rfl) ?_
        refine W.lcmp hx hb dX2_lastIndexOf_2_17 ?_
        refine lv_if_ne (tgt := 24) hx hb dX2_lastIndexOf_2_18 (by decide) (fun c_2 => ?_) (fun c_2 => ?_)
        · refine lv_iinc (v := nI k - 1) (lv' := [(5, .int (nI k - 1)), (0, .ref a), (1, .long v), (3, .int 0)]) hx hb dX2_lastIndexOf_2_24 hl (k := 3) rfl (jm_1 (nI k)) (by decide) rfl (fun ls hl => ?_)
          refine lv_goto (tgt := 6) hx hb dX2_lastIndexOf_2_27 (by decide) ?_
          exact ih (by omega) (al_d hall (fun h => c_2 ((lg_cmp_eq _ _).2 h))) _ rfl ls (lv_sub hl [1, 2, 3, 0] rfl)
        · refine lv_iload hx hb dX2_lastIndexOf_2_21 (lv_at hl 3 rfl) ?_
          exact W.iret (v := nI k) hx hb hr (fun t ht hW => ⟨_, rfl, (ls_at hlt ((lg_cmp_eq _ _).1 c_2) hall), ht⟩) (fun _ h => absurd h List.not_mem_nil) dX2_lastIndexOf_2_23
  have hl := lv_entry ([.ref a, .long v, .int 0, .int 12]) (n := 6) (Nat.le_of_ble_eq_true rfl)
  rw [lg_entry_eq]
  generalize (lg_sl ([.ref a, .long v, .int 0, .int 12]) ++ List.replicate (6 - (lg_sl ([.ref a, .long v, .int 0, .int 12])).length) Slot.unset).toArray = ls at hl ⊢
  have hl : lv_has ls 6 [(0, .ref a), (1, .long v), (3, .int 0), (4, .int 12)] := hl
  refine lv_iload hx hb dX2_lastIndexOf_2_0 (lv_at hl 3 rfl) ?_
  refine lv_iconst (v := 1) hx hb dX2_lastIndexOf_2_2 (by decide) ?_
  refine lv_isub hx hb dX2_lastIndexOf_2_3 ?_
  refine lv_istore (lv' := [(5, .int (12 - 1)), (0, .ref a), (1, .long v), (3, .int 0), (4, .int 12)]) hx hb dX2_lastIndexOf_2_4 hl (by decide) rfl (fun ls hl => ?_)
  exact K 12 (Nat.le_refl 12) (fun j h1 h2 => absurd h1 (Nat.not_le.mpr h2)) _ rfl ls (lv_sub hl [1, 2, 3, 0] rfl)
set_option maxHeartbeats 4000000 in
set_option maxRecDepth 100000 in
/-- over the whole array -/
theorem mX2_lastIndexOf (l : Launch) (dC : Nat → ClassId) (dI : Nat → Nat → Nat) (a : Nat) (d : ClassId) (f : Nat → Int64) (v : Int64) : Met l yX2_lastIndexOf (ws_ yX2_lastIndexOf cX2_lastIndexOf 3 (some .int)) ({ frames := 1, cells := 0, slots := 0, locals := 25 }) (va_Pc [.ref a, .long v] (fun U => va_P (dC, dI) cl_d [(a, .inl (d, 12, .inr (.inl f)))] U.heap ∧ va_K (dC, dI) cl_d [(d, .long)] U)) (vp_Si (fun r => ls_n f v 12 r)) 0 0 (fun _ => False) := by
  refine Met.ofW (cc := cX2_lastIndexOf) (maxL := 3) (ret := (some .int)) (by decide) rfl ?_
  intro p e s m args below meth c s₁ B hml hv
  obtain ⟨rfl, hP, hK⟩ := hv
  have hx := B.exec
  have hb := B.bytes
  have hr := B.returns
  have hts := atoms_spec (ws := (ws_ yX2_lastIndexOf cX2_lastIndexOf 3 (some .int))) B.pre
  have hts : ∀ w ∈ lw_all, w.before _ s = true := fun w h => hts w (List.mem_cons_of_mem _ h)
  have hown : s.vm.findClass RX2 = some m.cls := findClass_of_methodNamed B.named
  have hlocks := B.notSynchronized
  have hl := lv_entry ([.ref a, .long v]) (n := 3) (Nat.le_of_ble_eq_true rfl)
  rw [lg_entry_eq]
  generalize (lg_sl ([.ref a, .long v]) ++ List.replicate (3 - (lg_sl ([.ref a, .long v])).length) Slot.unset).toArray = ls at hl ⊢
  have hl : lv_has ls 3 [(0, .ref a), (1, .long v)] := hl
  refine lv_aload_n hx hb dX2_lastIndexOf_0 rfl (lv_at hl 0 rfl) ?_
  refine lv_lload_n hx hb dX2_lastIndexOf_1 rfl (lv_at hl 1 rfl) ?_
  refine lv_iconst (v := 0) hx hb dX2_lastIndexOf_2 (by decide) ?_
  refine lv_aload_n hx hb dX2_lastIndexOf_3 rfl (lv_at hl 0 rfl) ?_
  refine va_alen (v := 12) hx hb hK hP 0 0 rfl rfl rfl dX2_lastIndexOf_4 ?_
  refine vp_callSi (W.runS (As := [.ref a, .long v, .int 0, .int 12]) (rest := []) ⟨hx, hb, hml, hown, hts⟩ (mX2_lastIndexOf_2 l dC dI a d f v) (va_cwS 4 hts (lw_S q160 q161 q5 q162) rfl rfl rfl (by decide +kernel) ⟨Nat.le_of_ble_eq_true rfl, Nat.le_of_ble_eq_true rfl⟩) ⟨fun a U g mk q => ⟨q.1, q.2.1, va_K.moved (u := U) (U := U.calling g mk a) (Vm.Alike.refl U.vm) q.2.2⟩, fun U hU hW => ⟨rfl, by rw [hU]; exact (hP.sub (ws' := [(a, .inl (d, 12, .inr (.inl f)))]) [0] rfl), va_K.moved hW.alike (hK.sub (tys' := [(d, .long)]) [0] rfl)⟩⟩ rfl rfl hl.1 rfl (lv_room (Nat.le_of_ble_eq_true rfl)) dX2_lastIndexOf_5 ⟨Nat.le_of_ble_eq_true rfl, Nat.le_of_ble_eq_true rfl⟩) (fun r_1 hr_1 => ?_)
  exact W.iret (v := r_1) hx hb hr (fun t ht hW => ⟨_, rfl, hr_1, ht⟩) (fun _ h => absurd h List.not_mem_nil) dX2_lastIndexOf_8
set_option maxHeartbeats 4000000 in
set_option maxRecDepth 100000 in
/-- max of the array -/
theorem mX2_max (l : Launch) (dC : Nat → ClassId) (dI : Nat → Nat → Nat) (a : Nat) (d : ClassId) (f : Nat → Int64) : Met l yX2_max (ws_ yX2_max cX2_max 4 (some .long)) ({ frames := 2, cells := 0, slots := 0, locals := 32 }) (va_Pc [.ref a] (fun U => va_P (dC, dI) cl_d [(a, .inl (d, 12, .inr (.inl f)))] U.heap ∧ va_K (dC, dI) cl_d [(d, .long)] U)) (vp_Sl (fun r => mx_n f 12 r)) 0 0 (fun _ => False) := by
  refine Met.ofW (cc := cX2_max) (maxL := 4) (ret := (some .long)) (by decide) rfl ?_
  intro p e s m args below meth c s₁ B hml hv
  obtain ⟨rfl, hP, hK⟩ := hv
  have hx := B.exec
  have hb := B.bytes
  have hr := B.returns
  have hts := atoms_spec (ws := (ws_ yX2_max cX2_max 4 (some .long))) B.pre
  have hts : ∀ w ∈ lw_all, w.before _ s = true := fun w h => hts w (List.mem_cons_of_mem _ h)
  have hown : s.vm.findClass RX2 = some m.cls := findClass_of_methodNamed B.named
  have hlocks := B.notSynchronized
  have K : ∀ (n i : Nat) (z : Int64), i ≤ 12 → 13 ≤ i + n → mx_n f i z → ∀ ls : Array Slot, lv_has ls 4 [(0, .ref a), (1, .long z), (3, .int (nI i))] → W p l e (headSpec (ws_ yX2_max cX2_max 4 (some .long)) ({ frames := 2, cells := 0, slots := 0, locals := 32 })).room s m ([.ref a] : List Value).toArray below meth c s.heap [] 0 0 (MQ below (vp_Sl (fun r => mx_n f 12 r)) ([.ref a] : List Value).toArray s 0 0 (fun _ => False)) (F0 m 19 ls []) := by
    intro n
    induction n with
    | zero =>
      intro i z hi hin
      omega
    | succ n ih =>
      intro i z hi hin hm ls hl
      refine lv_iload_n hx hb dX2_max_19 rfl (lv_at hl 2 rfl) ?_
      refine lv_aload_n hx hb dX2_max_20 rfl (lv_at hl 0 rfl) ?_
      refine va_alen (v := 12) hx hb hK hP 0 0 rfl rfl rfl dX2_max_21 ?_
      refine lv_icmp_ge (tgt := 43) hx hb dX2_max_22 (by decide) (fun c_1 => ?_) (fun c_1 => ?_)
      · rw [lp_t12 hi c_1] at hm
        refine lv_lload_n hx hb dX2_max_43 rfl (lv_at hl 1 rfl) ?_
        exact W.lret (v := z) hx hb hr (fun t ht hW => ⟨_, rfl, hm, ht⟩) (fun _ h => absurd h List.not_mem_nil) dX2_max_44
      · have hlt := lp_f12 hi c_1
        refine lv_aload_n hx hb dX2_max_25 rfl (lv_at hl 0 rfl) ?_
        refine lv_iload_n hx hb dX2_max_26 rfl (lv_at hl 2 rfl) ?_
        refine va_lald hx hb hK hP 0 0 rfl rfl (ix_in hlt) dX2_max_27 ?_
        refine tp_l (y := f i) (by rw [ix_cl hlt]) ?_
        refine lv_lload_n hx hb dX2_max_28 rfl (lv_at hl 1 rfl) ?_
        refine W.lcmp hx hb dX2_max_29 ?_
        refine lv_if_le (tgt := 37) hx hb dX2_max_30 (by decide) (fun c_2 => ?_) (fun c_2 => ?_)
        · refine lv_iinc (v := nI (i + 1)) (lv' := [(3, .int (nI (i + 1))), (0, .ref a), (1, .long z)]) hx hb dX2_max_37 hl (k := 2) rfl (nI_1 i) (by decide) rfl (fun ls hl => ?_)
          refine lv_goto (tgt := 19) hx hb dX2_max_40 (by decide) ?_
          exact ih (i + 1) z hlt (by omega) (mx_keep hm c_2) ls (lv_sub hl [1, 2, 0] rfl)
        · refine lv_aload_n hx hb dX2_max_33 rfl (lv_at hl 0 rfl) ?_
          refine lv_iload_n hx hb dX2_max_34 rfl (lv_at hl 2 rfl) ?_
          refine va_lald hx hb hK hP 0 0 rfl rfl (ix_in hlt) dX2_max_35 ?_
          refine tp_l (y := f i) (by rw [ix_cl hlt]) ?_
          refine lv_lstore_n (lv' := [(1, .long (f i)), (0, .ref a), (3, .int (nI i))]) hx hb dX2_max_36 rfl hl (by decide) rfl (fun ls hl => ?_)
          refine lv_iinc (v := nI (i + 1)) (lv' := [(3, .int (nI (i + 1))), (1, .long (f i)), (0, .ref a)]) hx hb dX2_max_37 hl (k := 2) rfl (nI_1 i) (by decide) rfl (fun ls hl => ?_)
          refine lv_goto (tgt := 19) hx hb dX2_max_40 (by decide) ?_
          exact ih (i + 1) (f i) hlt (by omega) (mx_hit hlt hm c_2) ls (lv_sub hl [2, 1, 0] rfl)
  have hl := lv_entry ([.ref a]) (n := 4) (Nat.le_of_ble_eq_true rfl)
  rw [lg_entry_eq]
  generalize (lg_sl ([.ref a]) ++ List.replicate (4 - (lg_sl ([.ref a])).length) Slot.unset).toArray = ls at hl ⊢
  have hl : lv_has ls 4 [(0, .ref a)] := hl
  refine lv_aload_n hx hb dX2_max_0 rfl (lv_at hl 0 rfl) ?_
  refine va_alen (v := 12) hx hb hK hP 0 0 rfl rfl rfl dX2_max_1 ?_
  refine lv_if_le (tgt := 9) hx hb dX2_max_2 (by decide) (fun c_1 => ?_) (fun c_1 => ?_)
  · exact absurd c_1 (by decide)
  · refine lv_iconst (v := 1) hx hb dX2_max_5 (by decide) ?_
    refine lv_goto (tgt := 10) hx hb dX2_max_6 (by decide) ?_
    refine va_csv (W.runS (As := [.int 1]) (rest := []) ⟨hx, hb, hml, hown, hts⟩ (mX3_checkArgument l ) (va_cwS 1 hts (lw_S q184 q185 q6 q186) rfl rfl rfl (by decide +kernel) ⟨Nat.le_of_ble_eq_true rfl, Nat.le_of_ble_eq_true rfl⟩) ⟨fun _ _ _ _ q => q, fun _ _ _ => ⟨rfl, trivial⟩⟩ rfl rfl hl.1 rfl (lv_room (Nat.le_of_ble_eq_true rfl)) dX2_max_10 ⟨Nat.le_of_ble_eq_true rfl, Nat.le_of_ble_eq_true rfl⟩) (fun _ => ?_)
    refine lv_aload_n hx hb dX2_max_13 rfl (lv_at hl 0 rfl) ?_
    refine lv_iconst (v := 0) hx hb dX2_max_14 (by decide) ?_
    refine va_lald hx hb hK hP 0 0 rfl rfl (ix_in (i := 0) (by decide)) dX2_max_15 ?_
    refine tp_l (y := f 0) rfl ?_
    refine lv_lstore_n (lv' := [(1, .long (f 0)), (0, .ref a)]) hx hb dX2_max_16 rfl hl (by decide) rfl (fun ls hl => ?_)
    refine lv_iconst (v := 1) hx hb dX2_max_17 (by decide) ?_
    refine lv_istore_n (lv' := [(3, .int 1), (1, .long (f 0)), (0, .ref a)]) hx hb dX2_max_18 rfl hl (by decide) rfl (fun ls hl => ?_)
    exact K 12 1 (f 0) (by decide) (by decide) (mx_1 f) ls (lv_sub hl [2, 1, 0] rfl)
set_option maxHeartbeats 4000000 in
set_option maxRecDepth 100000 in
/-- min of the array -/
theorem mX2_min (l : Launch) (dC : Nat → ClassId) (dI : Nat → Nat → Nat) (a : Nat) (d : ClassId) (f : Nat → Int64) : Met l yX2_min (ws_ yX2_min cX2_min 4 (some .long)) ({ frames := 2, cells := 0, slots := 0, locals := 32 }) (va_Pc [.ref a] (fun U => va_P (dC, dI) cl_d [(a, .inl (d, 12, .inr (.inl f)))] U.heap ∧ va_K (dC, dI) cl_d [(d, .long)] U)) (vp_Sl (fun r => mn_n f 12 r)) 0 0 (fun _ => False) := by
  refine Met.ofW (cc := cX2_min) (maxL := 4) (ret := (some .long)) (by decide) rfl ?_
  intro p e s m args below meth c s₁ B hml hv
  obtain ⟨rfl, hP, hK⟩ := hv
  have hx := B.exec
  have hb := B.bytes
  have hr := B.returns
  have hts := atoms_spec (ws := (ws_ yX2_min cX2_min 4 (some .long))) B.pre
  have hts : ∀ w ∈ lw_all, w.before _ s = true := fun w h => hts w (List.mem_cons_of_mem _ h)
  have hown : s.vm.findClass RX2 = some m.cls := findClass_of_methodNamed B.named
  have hlocks := B.notSynchronized
  have K : ∀ (n i : Nat) (z : Int64), i ≤ 12 → 13 ≤ i + n → mn_n f i z → ∀ ls : Array Slot, lv_has ls 4 [(0, .ref a), (1, .long z), (3, .int (nI i))] → W p l e (headSpec (ws_ yX2_min cX2_min 4 (some .long)) ({ frames := 2, cells := 0, slots := 0, locals := 32 })).room s m ([.ref a] : List Value).toArray below meth c s.heap [] 0 0 (MQ below (vp_Sl (fun r => mn_n f 12 r)) ([.ref a] : List Value).toArray s 0 0 (fun _ => False)) (F0 m 19 ls []) := by
    intro n
    induction n with
    | zero =>
      intro i z hi hin
      omega
    | succ n ih =>
      intro i z hi hin hm ls hl
      refine lv_iload_n hx hb dX2_min_19 rfl (lv_at hl 2 rfl) ?_
      refine lv_aload_n hx hb dX2_min_20 rfl (lv_at hl 0 rfl) ?_
      refine va_alen (v := 12) hx hb hK hP 0 0 rfl rfl rfl dX2_min_21 ?_
      refine lv_icmp_ge (tgt := 43) hx hb dX2_min_22 (by decide) (fun c_1 => ?_) (fun c_1 => ?_)
      · rw [lp_t12 hi c_1] at hm
        refine lv_lload_n hx hb dX2_min_43 rfl (lv_at hl 1 rfl) ?_
        exact W.lret (v := z) hx hb hr (fun t ht hW => ⟨_, rfl, hm, ht⟩) (fun _ h => absurd h List.not_mem_nil) dX2_min_44
      · have hlt := lp_f12 hi c_1
        refine lv_aload_n hx hb dX2_min_25 rfl (lv_at hl 0 rfl) ?_
        refine lv_iload_n hx hb dX2_min_26 rfl (lv_at hl 2 rfl) ?_
        refine va_lald hx hb hK hP 0 0 rfl rfl (ix_in hlt) dX2_min_27 ?_
        refine tp_l (y := f i) (by rw [ix_cl hlt]) ?_
        refine lv_lload_n hx hb dX2_min_28 rfl (lv_at hl 1 rfl) ?_
        refine W.lcmp hx hb dX2_min_29 ?_
        refine lv_if_ge (tgt := 37) hx hb dX2_min_30 (by decide) (fun c_2 => ?_) (fun c_2 => ?_)
        · refine lv_iinc (v := nI (i + 1)) (lv' := [(3, .int (nI (i + 1))), (0, .ref a), (1, .long z)]) hx hb dX2_min_37 hl (k := 2) rfl (nI_1 i) (by decide) rfl (fun ls hl => ?_)
          refine lv_goto (tgt := 19) hx hb dX2_min_40 (by decide) ?_
          exact ih (i + 1) z hlt (by omega) (mn_keep hm c_2) ls (lv_sub hl [1, 2, 0] rfl)
        · refine lv_aload_n hx hb dX2_min_33 rfl (lv_at hl 0 rfl) ?_
          refine lv_iload_n hx hb dX2_min_34 rfl (lv_at hl 2 rfl) ?_
          refine va_lald hx hb hK hP 0 0 rfl rfl (ix_in hlt) dX2_min_35 ?_
          refine tp_l (y := f i) (by rw [ix_cl hlt]) ?_
          refine lv_lstore_n (lv' := [(1, .long (f i)), (0, .ref a), (3, .int (nI i))]) hx hb dX2_min_36 rfl hl (by decide) rfl (fun ls hl => ?_)
          refine lv_iinc (v := nI (i + 1)) (lv' := [(3, .int (nI (i + 1))), (1, .long (f i)), (0, .ref a)]) hx hb dX2_min_37 hl (k := 2) rfl (nI_1 i) (by decide) rfl (fun ls hl => ?_)
          refine lv_goto (tgt := 19) hx hb dX2_min_40 (by decide) ?_
          exact ih (i + 1) (f i) hlt (by omega) (mn_hit hlt hm c_2) ls (lv_sub hl [2, 1, 0] rfl)
  have hl := lv_entry ([.ref a]) (n := 4) (Nat.le_of_ble_eq_true rfl)
  rw [lg_entry_eq]
  generalize (lg_sl ([.ref a]) ++ List.replicate (4 - (lg_sl ([.ref a])).length) Slot.unset).toArray = ls at hl ⊢
  have hl : lv_has ls 4 [(0, .ref a)] := hl
  refine lv_aload_n hx hb dX2_min_0 rfl (lv_at hl 0 rfl) ?_
  refine va_alen (v := 12) hx hb hK hP 0 0 rfl rfl rfl dX2_min_1 ?_
  refine lv_if_le (tgt := 9) hx hb dX2_min_2 (by decide) (fun c_1 => ?_) (fun c_1 => ?_)
  · exact absurd c_1 (by decide)
  · refine lv_iconst (v := 1) hx hb dX2_min_5 (by decide) ?_
    refine lv_goto (tgt := 10) hx hb dX2_min_6 (by decide) ?_
    refine va_csv (W.runS (As := [.int 1]) (rest := []) ⟨hx, hb, hml, hown, hts⟩ (mX3_checkArgument l ) (va_cwS 1 hts (lw_S q184 q185 q6 q186) rfl rfl rfl (by decide +kernel) ⟨Nat.le_of_ble_eq_true rfl, Nat.le_of_ble_eq_true rfl⟩) ⟨fun _ _ _ _ q => q, fun _ _ _ => ⟨rfl, trivial⟩⟩ rfl rfl hl.1 rfl (lv_room (Nat.le_of_ble_eq_true rfl)) dX2_min_10 ⟨Nat.le_of_ble_eq_true rfl, Nat.le_of_ble_eq_true rfl⟩) (fun _ => ?_)
    refine lv_aload_n hx hb dX2_min_13 rfl (lv_at hl 0 rfl) ?_
    refine lv_iconst (v := 0) hx hb dX2_min_14 (by decide) ?_
    refine va_lald hx hb hK hP 0 0 rfl rfl (ix_in (i := 0) (by decide)) dX2_min_15 ?_
    refine tp_l (y := f 0) rfl ?_
    refine lv_lstore_n (lv' := [(1, .long (f 0)), (0, .ref a)]) hx hb dX2_min_16 rfl hl (by decide) rfl (fun ls hl => ?_)
    refine lv_iconst (v := 1) hx hb dX2_min_17 (by decide) ?_
    refine lv_istore_n (lv' := [(3, .int 1), (1, .long (f 0)), (0, .ref a)]) hx hb dX2_min_18 rfl hl (by decide) rfl (fun ls hl => ?_)
    exact K 12 1 (f 0) (by decide) (by decide) (mn_1 f) ls (lv_sub hl [2, 1, 0] rfl)
set_option maxHeartbeats 4000000 in
set_option maxRecDepth 100000 in
/-- fromBytes -/
theorem mX2_fromBytes (l : Launch) (b1 b2 b3 b4 b5 b6 b7 b8 : Int32) : Met l yX2_fromBytes (ws_ yX2_fromBytes cX2_fromBytes 8 (some .long)) ({ frames := 0, cells := 0, slots := 0, locals := 0 }) (va_Pc [.int b1, .int b2, .int b3, .int b4, .int b5, .int b6, .int b7, .int b8] (fun U => True)) (vp_Sl (fun r => r = fb_v b1 b2 b3 b4 b5 b6 b7 b8)) 0 0 (fun _ => False) := by
  refine Met.ofW (cc := cX2_fromBytes) (maxL := 8) (ret := (some .long)) (by decide) rfl ?_
  intro p e s m args below meth c s₁ B hml hv
  obtain ⟨rfl, -⟩ := hv
  have hx := B.exec
  have hb := B.bytes
  have hr := B.returns
  have hts := atoms_spec (ws := (ws_ yX2_fromBytes cX2_fromBytes 8 (some .long))) B.pre
  have hts : ∀ w ∈ lw_all, w.before _ s = true := fun w h => hts w (List.mem_cons_of_mem _ h)
  have hown : s.vm.findClass RX2 = some m.cls := findClass_of_methodNamed B.named
  have hlocks := B.notSynchronized
  have hl := lv_entry ([.int b1, .int b2, .int b3, .int b4, .int b5, .int b6, .int b7, .int b8]) (n := 8) (Nat.le_of_ble_eq_true rfl)
  rw [lg_entry_eq]
  generalize (lg_sl ([.int b1, .int b2, .int b3, .int b4, .int b5, .int b6, .int b7, .int b8]) ++ List.replicate (8 - (lg_sl ([.int b1, .int b2, .int b3, .int b4, .int b5, .int b6, .int b7, .int b8])).length) Slot.unset).toArray = ls at hl ⊢
  have hl : lv_has ls 8 [(0, .int b1), (1, .int b2), (2, .int b3), (3, .int b4), (4, .int b5), (5, .int b6), (6, .int b7), (7, .int b8)] := hl
  refine lv_iload_n hx hb dX2_fromBytes_0 rfl (lv_at hl 0 rfl) ?_
  refine lv_i2l (v := b1.toInt64) hx hb dX2_fromBytes_1 rfl ?_
  refine lv_ldc2 hx hb hown (hts _ q225) dX2_fromBytes_2 ?_
  refine lv_land hx hb dX2_fromBytes_5 ?_
  refine lv_bipush (v := 56) hx hb dX2_fromBytes_6 (by decide) ?_
  refine lv_lshl (v := (b1.toInt64 &&& 255) <<< ((56 : Int32).toInt64 &&& 63)) hx hb dX2_fromBytes_8 rfl ?_
  refine lv_iload_n hx hb dX2_fromBytes_9 rfl (lv_at hl 1 rfl) ?_
  refine lv_i2l (v := b2.toInt64) hx hb dX2_fromBytes_10 rfl ?_
  refine lv_ldc2 hx hb hown (hts _ q225) dX2_fromBytes_11 ?_
  refine lv_land hx hb dX2_fromBytes_14 ?_
  refine lv_bipush (v := 48) hx hb dX2_fromBytes_15 (by decide) ?_
  refine lv_lshl (v := (b2.toInt64 &&& 255) <<< ((48 : Int32).toInt64 &&& 63)) hx hb dX2_fromBytes_17 rfl ?_
  refine lv_lor hx hb dX2_fromBytes_18 ?_
  refine lv_iload_n hx hb dX2_fromBytes_19 rfl (lv_at hl 2 rfl) ?_
  refine lv_i2l (v := b3.toInt64) hx hb dX2_fromBytes_20 rfl ?_
  refine lv_ldc2 hx hb hown (hts _ q225) dX2_fromBytes_21 ?_
  refine lv_land hx hb dX2_fromBytes_24 ?_
  refine lv_bipush (v := 40) hx hb dX2_fromBytes_25 (by decide) ?_
  refine lv_lshl (v := (b3.toInt64 &&& 255) <<< ((40 : Int32).toInt64 &&& 63)) hx hb dX2_fromBytes_27 rfl ?_
  refine lv_lor hx hb dX2_fromBytes_28 ?_
  refine lv_iload_n hx hb dX2_fromBytes_29 rfl (lv_at hl 3 rfl) ?_
  refine lv_i2l (v := b4.toInt64) hx hb dX2_fromBytes_30 rfl ?_
  refine lv_ldc2 hx hb hown (hts _ q225) dX2_fromBytes_31 ?_
  refine lv_land hx hb dX2_fromBytes_34 ?_
  refine lv_bipush (v := 32) hx hb dX2_fromBytes_35 (by decide) ?_
  refine lv_lshl (v := (b4.toInt64 &&& 255) <<< ((32 : Int32).toInt64 &&& 63)) hx hb dX2_fromBytes_37 rfl ?_
  refine lv_lor hx hb dX2_fromBytes_38 ?_
  refine lv_iload hx hb dX2_fromBytes_39 (lv_at hl 4 rfl) ?_
  refine lv_i2l (v := b5.toInt64) hx hb dX2_fromBytes_41 rfl ?_
  refine lv_ldc2 hx hb hown (hts _ q225) dX2_fromBytes_42 ?_
  refine lv_land hx hb dX2_fromBytes_45 ?_
  refine lv_bipush (v := 24) hx hb dX2_fromBytes_46 (by decide) ?_
  refine lv_lshl (v := (b5.toInt64 &&& 255) <<< ((24 : Int32).toInt64 &&& 63)) hx hb dX2_fromBytes_48 rfl ?_
  refine lv_lor hx hb dX2_fromBytes_49 ?_
  refine lv_iload hx hb dX2_fromBytes_50 (lv_at hl 5 rfl) ?_
  refine lv_i2l (v := b6.toInt64) hx hb dX2_fromBytes_52 rfl ?_
  refine lv_ldc2 hx hb hown (hts _ q225) dX2_fromBytes_53 ?_
  refine lv_land hx hb dX2_fromBytes_56 ?_
  refine lv_bipush (v := 16) hx hb dX2_fromBytes_57 (by decide) ?_
  refine lv_lshl (v := (b6.toInt64 &&& 255) <<< ((16 : Int32).toInt64 &&& 63)) hx hb dX2_fromBytes_59 rfl ?_
  refine lv_lor hx hb dX2_fromBytes_60 ?_
  refine lv_iload hx hb dX2_fromBytes_61 (lv_at hl 6 rfl) ?_
  refine lv_i2l (v := b7.toInt64) hx hb dX2_fromBytes_63 rfl ?_
  refine lv_ldc2 hx hb hown (hts _ q225) dX2_fromBytes_64 ?_
  refine lv_land hx hb dX2_fromBytes_67 ?_
  refine lv_bipush (v := 8) hx hb dX2_fromBytes_68 (by decide) ?_
  refine lv_lshl (v := (b7.toInt64 &&& 255) <<< ((8 : Int32).toInt64 &&& 63)) hx hb dX2_fromBytes_70 rfl ?_
  refine lv_lor hx hb dX2_fromBytes_71 ?_
  refine lv_iload hx hb dX2_fromBytes_72 (lv_at hl 7 rfl) ?_
  refine lv_i2l (v := b8.toInt64) hx hb dX2_fromBytes_74 rfl ?_
  refine lv_ldc2 hx hb hown (hts _ q225) dX2_fromBytes_75 ?_
  refine lv_land hx hb dX2_fromBytes_78 ?_
  refine lv_lor hx hb dX2_fromBytes_79 ?_
  exact W.lret (v := ((((((((b1.toInt64 &&& 255) <<< ((56 : Int32).toInt64 &&& 63)) ||| ((b2.toInt64 &&& 255) <<< ((48 : Int32).toInt64 &&& 63))) ||| ((b3.toInt64 &&& 255) <<< ((40 : Int32).toInt64 &&& 63))) ||| ((b4.toInt64 &&& 255) <<< ((32 : Int32).toInt64 &&& 63))) ||| ((b5.toInt64 &&& 255) <<< ((24 : Int32).toInt64 &&& 63))) ||| ((b6.toInt64 &&& 255) <<< ((16 : Int32).toInt64 &&& 63))) ||| ((b7.toInt64 &&& 255) <<< ((8 : Int32).toInt64 &&& 63))) ||| (b8.toInt64 &&& 255)) hx hb hr (fun t ht hW => ⟨_, rfl, rfl, ht⟩) (fun _ h => absurd h List.not_mem_nil) dX2_fromBytes_80
set_option maxHeartbeats 4000000 in
set_option maxRecDepth 100000 in
/-- toByteArray: a new array of the eight bytes, the highest first -/
theorem mX2_toByteArray (l : Launch) (dC : Nat → ClassId) (dI : Nat → Nat → Nat) (sz : Nat) (v : Int64) : Met l yX2_toByteArray (ws_ yX2_toByteArray cX2_toByteArray 4 (some (.array .byte))) ({ frames := 0, cells := 1, slots := 8, locals := 0 }) (va_Pc [.long v] (fun U => U.heap.size = sz ∧ va_K (dC, dI) cl_d [] U)) (va_Qr (fun u : ClassId × (Nat → Int32) => ∀ j, j < 8 → u.2 j &&& 255 = lt_v v j) (fun u ra t => va_P (dC, dI) cl_d [(ra, .inl (u.1, 8, .inl u.2))] t.heap ∧ va_K (dC, dI) cl_d [(u.1, .byte)] t ∧ va_D (fun q : Nat => sz ≤ q) [(ra, .inl (u.1, 8, .inl u.2))]) (fun q : Nat => sz ≤ q)) 1 8 (fun q : Nat => sz ≤ q) := by
  refine Met.ofW (cc := cX2_toByteArray) (maxL := 4) (ret := (some (.array .byte))) (by decide) rfl ?_
  intro p e s m args below meth c s₁ B hml hv
  obtain ⟨rfl, hsz, hK⟩ := hv
  have hx := B.exec
  have hb := B.bytes
  have hr := B.returns
  have hts := atoms_spec (ws := (ws_ yX2_toByteArray cX2_toByteArray 4 (some (.array .byte)))) B.pre
  have hts : ∀ w ∈ lw_all, w.before _ s = true := fun w h => hts w (List.mem_cons_of_mem _ h)
  have hown : s.vm.findClass RX2 = some m.cls := findClass_of_methodNamed B.named
  have hlocks := B.notSynchronized
  subst hsz
  have hA : ∀ q : Nat, s.heap.size ≤ q → (fun q : Nat => s.heap.size ≤ q) q := fun q h => h
  have hS : va_S (fun q : Nat => s.heap.size ≤ q) s.heap s.heap [] := va_S.rf
  have hP : va_P (dC, dI) cl_d [] s.heap := fun k q h => by simp at h
  have hD : va_D (fun q : Nat => s.heap.size ≤ q) [] := ⟨fun i j p q h => by simp at h, fun k q h => by simp at h⟩
  have hl := lv_entry ([.long v]) (n := 4) (Nat.le_of_ble_eq_true rfl)
  rw [lg_entry_eq]
  generalize (lg_sl ([.long v]) ++ List.replicate (4 - (lg_sl ([.long v])).length) Slot.unset).toArray = ls at hl ⊢
  have hl : lv_has ls 4 [(0, .long v)] := hl
  refine lv_bipush (v := 8) hx hb dX2_toByteArray_0 (by decide) ?_
  refine va_newa (atype := .byte) hx hb (hts _ q122) (ty := .byte) rfl hK hP hD hS hA (N' := 8) (a0 := (8, .inl (fun _ => 0))) (fun _ => rfl) (by decide) (by decide) (by decide) (Nat.le_of_ble_eq_true rfl) (Nat.le_of_ble_eq_true rfl) dX2_toByteArray_2 (fun qb cB H hK hP hD hS => ?_)
  have hP : va_P (dC, dI) cl_d [(qb, .inl (cB, 8, .inl (fun _ => 0)))] H := hP
  have hD : va_D (fun q : Nat => s.heap.size ≤ q) [(qb, .inl (cB, 8, .inl (fun _ => 0)))] := hD
  have hK : va_K (dC, dI) cl_d [(cB, .byte)] s := hK
  refine W.widen (k := 1) (n := 8) (Nat.le_refl _) (Nat.le_refl _) ?_
  refine lv_astore_n (lv' := [(2, .ref qb), (0, .long v)]) hx hb dX2_toByteArray_4 rfl hl (by decide) rfl (fun ls hl => ?_)
  refine lv_bipush (v := 7) hx hb dX2_toByteArray_5 (by decide) ?_
  refine lv_istore_n (lv' := [(3, .int 7), (2, .ref qb), (0, .long v)]) hx hb dX2_toByteArray_7 rfl hl (by decide) rfl (fun ls hl => ?_)
  have K : ∀ k : Nat, k ≤ 8 → ∀ (w : Int64) (g : Nat → Int32) (x : Int32), sh_b v w (8 - k) → (∀ j, k ≤ j → j < 8 → g j &&& 255 = lt_v v j) → x = nI k - 1 → ∀ (H : Heap) (locs : List Loc), va_P (dC, dI) cl_d [(qb, .inl (cB, 8, .inl g))] H → va_D (fun q : Nat => s.heap.size ≤ q) [(qb, .inl (cB, 8, .inl g))] → va_S (fun q : Nat => s.heap.size ≤ q) s.heap H locs → ∀ ls : Array Slot, lv_has ls 4 [(0, .long w), (2, .ref qb), (3, .int x)] → W p l e (headSpec (ws_ yX2_toByteArray cX2_toByteArray 4 (some (.array .byte))) ({ frames := 0, cells := 1, slots := 8, locals := 0 })).room s m ([.long v] : List Value).toArray below meth c H locs 1 8 (MQ below (va_Qr (fun u : ClassId × (Nat → Int32) => ∀ j, j < 8 → u.2 j &&& 255 = lt_v v j) (fun u ra t => va_P (dC, dI) cl_d [(ra, .inl (u.1, 8, .inl u.2))] t.heap ∧ va_K (dC, dI) cl_d [(u.1, .byte)] t ∧ va_D (fun q : Nat => s.heap.size ≤ q) [(ra, .inl (u.1, 8, .inl u.2))]) (fun q : Nat => s.heap.size ≤ q)) ([.long v] : List Value).toArray s 1 8 (fun q : Nat => s.heap.size ≤ q)) (F0 m 8 ls []) := by
    intro k
    induction k with
    | zero =>
      intro hk w g x hw hg ex H locs hP hD hS ls hl
      refine lv_iload_n hx hb dX2_toByteArray_8 rfl (lv_at hl 2 rfl) ?_
      refine lv_if_lt (tgt := 33) hx hb dX2_toByteArray_9 (by decide) (fun c_101 => ?_) (fun c_101 => ?_)
      · refine lv_aload_n hx hb dX2_toByteArray_33 rfl (lv_at hl 1 rfl) ?_
        exact W.aret (v := .ref qb) hx hb hr (Or.inr ⟨_, rfl⟩) (Or.inr ⟨_, rfl⟩) (fun t ht hW => ⟨⟨(cB, g), qb, rfl, (fun j h => hg j (Nat.zero_le j) h), by rw [ht]; exact hP, va_K.moved hW.alike hK, hD⟩, hS.F ht⟩) hS.2.2 dX2_toByteArray_34
      · exact absurd (by rw [ex]; decide +kernel) c_101
    | succ k ih =>
      intro hk w g x hw hg ex H locs hP hD hS ls hl
      rw [nI_pred] at ex
      subst ex
      have hlt : k < 8 := hk
      refine lv_iload_n hx hb dX2_toByteArray_8 rfl (lv_at hl 2 rfl) ?_
      refine lv_if_lt (tgt := 33) hx hb dX2_toByteArray_9 (by decide) (fun c_201 => ?_) (fun c_201 => ?_)
      · exact absurd c_201 (nI_pos (by omega))
      · refine lv_aload_n hx hb dX2_toByteArray_12 rfl (lv_at hl 1 rfl) ?_
        refine lv_iload_n hx hb dX2_toByteArray_13 rfl (lv_at hl 2 rfl) ?_
        refine lv_lload_n hx hb dX2_toByteArray_14 rfl (lv_at hl 0 rfl) ?_
        refine lv_ldc2 hx hb hown (hts _ q225) dX2_toByteArray_15 ?_
        refine lv_land hx hb dX2_toByteArray_18 ?_
        refine lv_l2i (v := (w &&& 255).toInt32) hx hb dX2_toByteArray_19 rfl ?_
        refine lv_i2b (v := ((w &&& 255).toInt32).toInt8.toInt32) hx hb dX2_toByteArray_20 rfl ?_
        refine va_bast hx hb hK hP hD hS 0 0 rfl rfl (vp_in_nI hlt (by decide)) dX2_toByteArray_21 (fun H locs hP hD hS => ?_)
        have hP : va_P (dC, dI) cl_d [(qb, .inl (cB, 8, .inl (upd g (nI k).toNatClampNeg (vp_nar .byte (((w &&& 255).toInt32).toInt8.toInt32)))))] H := hP
        have hD : va_D (fun q : Nat => s.heap.size ≤ q) [(qb, .inl (cB, 8, .inl (upd g (nI k).toNatClampNeg (vp_nar .byte (((w &&& 255).toInt32).toInt8.toInt32)))))] := hD
        refine lv_lload_n hx hb dX2_toByteArray_22 rfl (lv_at hl 0 rfl) ?_
        refine lv_bipush (v := 8) hx hb dX2_toByteArray_23 (by decide) ?_
        refine lv_lshr (v := w >>> ((8 : Int32).toInt64 &&& 63)) hx hb dX2_toByteArray_25 rfl ?_
        refine lv_lstore_n (lv' := [(0, .long (w >>> ((8 : Int32).toInt64 &&& 63))), (2, .ref qb), (3, .int (nI k))]) hx hb dX2_toByteArray_26 rfl hl (by decide) rfl (fun ls hl => ?_)
        refine lv_iinc (v := nI k - 1) (lv' := [(3, .int (nI k - 1)), (0, .long (w >>> ((8 : Int32).toInt64 &&& 63))), (2, .ref qb)]) hx hb dX2_toByteArray_27 hl (k := 2) rfl (jm_1 (nI k)) (by decide) rfl (fun ls hl => ?_)
        refine lv_goto (tgt := 8) hx hb dX2_toByteArray_30 (by decide) ?_
        exact ih (by omega) _ _ _ (sh_k hlt hw) (tb_s hlt hw hg) rfl H locs hP hD hS ls (lv_sub hl [1, 2, 0] rfl)
  exact K 8 (Nat.le_refl 8) _ _ _ (sh_0 v) (fun j h1 h2 => absurd h1 (Nat.not_le.mpr h2)) rfl H [] hP hD hS ls (lv_sub hl [2, 1, 0] rfl)
set_option maxHeartbeats 4000000 in
set_option maxRecDepth 100000 in
/-- reverse(a, lo, hi): the swaps -/
theorem mX2_reverse (l : Launch) (dC : Nat → ClassId) (dI : Nat → Nat → Nat) (sz : Nat) (a : Nat) (d : ClassId) (f : Nat → Int64) (lo hi : Nat) (h1 : lo ≤ hi) (h2 : hi ≤ 12) : Met l yX2_reverse (ws_ yX2_reverse cX2_reverse 7 none) ({ frames := 2, cells := 0, slots := 0, locals := 34 }) (va_Pc [.ref a, .int (nI lo), .int (nI hi)] (fun U => U.heap.size = sz ∧ va_P (dC, dI) cl_d [(a, .inl (d, 12, .inr (.inl f)))] U.heap ∧ va_K (dC, dI) cl_d [(d, .long)] U ∧ va_D (fun _ => True) [(a, .inl (d, 12, .inr (.inl f)))])) (va_Qv (fun _ : Unit => True) (fun _ t => va_P (dC, dI) cl_d [(a, .inl (d, 12, .inr (.inl (rv_f f lo hi))))] t.heap ∧ va_D (va_A [(a, .inl (d, 12, .inr (.inl f)))] sz) [(a, .inl (d, 12, .inr (.inl (rv_f f lo hi))))]) (va_A [(a, .inl (d, 12, .inr (.inl f)))] sz)) 0 0 ((va_A [(a, .inl (d, 12, .inr (.inl f)))] sz)) := by
  refine Met.ofW (cc := cX2_reverse) (maxL := 7) (ret := none) (by decide) rfl ?_
  intro p e s m args below meth c s₁ B hml hv
  obtain ⟨rfl, hsz, hP, hK, hD0⟩ := hv
  have hx := B.exec
  have hb := B.bytes
  have hr := B.returns
  have hts := atoms_spec (ws := (ws_ yX2_reverse cX2_reverse 7 none)) B.pre
  have hts : ∀ w ∈ lw_all, w.before _ s = true := fun w h => hts w (List.mem_cons_of_mem _ h)
  have hown : s.vm.findClass RX2 = some m.cls := findClass_of_methodNamed B.named
  have hlocks := B.notSynchronized
  subst hsz
  have hD := hD0.self (sz := s.heap.size)
  have hS : va_S (va_A [(a, .inl (d, 12, .inr (.inl f)))] s.heap.size) s.heap s.heap [] := va_S.rf
  have hP : va_P (dC, dI) cl_d [(a, .inl (d, 12, .inr (.inl f)))] s.heap := hP
  have K : ∀ n k : Nat, k ≤ (hi - lo) / 2 → (hi - lo) / 2 + 1 ≤ k + n → ∀ (H : Heap) (locs : List Loc), va_P (dC, dI) cl_d [(a, .inl (d, 12, .inr (.inl (sw_n f lo hi k))))] H → va_D (va_A [(a, .inl (d, 12, .inr (.inl f)))] s.heap.size) [(a, .inl (d, 12, .inr (.inl (sw_n f lo hi k))))] → va_S (va_A [(a, .inl (d, 12, .inr (.inl f)))] s.heap.size) s.heap H locs → ∀ ls : Array Slot, lv_has ls 7 [(0, .ref a), (3, .int (nI (lo + k))), (4, .int (jx_n hi k))] → W p l e (headSpec (ws_ yX2_reverse cX2_reverse 7 none) ({ frames := 2, cells := 0, slots := 0, locals := 34 })).room s m ([.ref a, .int (nI lo), .int (nI hi)] : List Value).toArray below meth c H locs 0 0 (MQ below (va_Qv (fun _ : Unit => True) (fun _ t => va_P (dC, dI) cl_d [(a, .inl (d, 12, .inr (.inl (rv_f f lo hi))))] t.heap ∧ va_D (va_A [(a, .inl (d, 12, .inr (.inl f)))] s.heap.size) [(a, .inl (d, 12, .inr (.inl (rv_f f lo hi))))]) (va_A [(a, .inl (d, 12, .inr (.inl f)))] s.heap.size)) ([.ref a, .int (nI lo), .int (nI hi)] : List Value).toArray s 0 0 ((va_A [(a, .inl (d, 12, .inr (.inl f)))] s.heap.size))) (F0 m 19 ls []) := by
    intro n
    induction n with
    | zero =>
      intro k hk hkn
      omega
    | succ n ih =>
      intro k hk hkn H locs hP hD hS ls hl
      refine lv_iload_n hx hb dX2_reverse_19 rfl (lv_at hl 1 rfl) ?_
      refine lv_iload hx hb dX2_reverse_20 (lv_at hl 2 rfl) ?_
      refine lv_icmp_ge (tgt := 52) hx hb dX2_reverse_22 (by decide) (fun c_1 => ?_) (fun c_1 => ?_)
      · have ek := jx_out h2 h1 hk c_1
        rw [ek] at hP hD
        exact W.vret hx hb hr (fun t ht hW => ⟨⟨(), rfl, trivial, by rw [ht]; exact hP, hD⟩, hS.F ht⟩) hS.2.2 dX2_reverse_52
      · obtain ⟨i1, i2, i3⟩ := jx_in h2 h1 hk c_1
        rw [i3] at hl
        refine lv_aload_n hx hb dX2_reverse_25 rfl (lv_at hl 0 rfl) ?_
        refine lv_iload_n hx hb dX2_reverse_26 rfl (lv_at hl 1 rfl) ?_
        refine va_lald hx hb hK hP 0 0 rfl rfl (vp_in_nI (by omega) (by decide)) dX2_reverse_27 ?_
        refine tp_l (y := sw_n f lo hi k (lo + k)) (by rw [nI_clamp (by omega)]) ?_
        refine lv_lstore (lv' := [(5, .long (sw_n f lo hi k (lo + k))), (0, .ref a), (3, .int (nI (lo + k))), (4, .int (nI (hi - 1 - k)))]) hx hb dX2_reverse_28 hl (by decide) rfl (fun ls hl => ?_)
        refine lv_aload_n hx hb dX2_reverse_30 rfl (lv_at hl 1 rfl) ?_
        refine lv_iload_n hx hb dX2_reverse_31 rfl (lv_at hl 2 rfl) ?_
        refine lv_aload_n hx hb dX2_reverse_32 rfl (lv_at hl 1 rfl) ?_
        refine lv_iload hx hb dX2_reverse_33 (lv_at hl 3 rfl) ?_
        refine va_lald hx hb hK hP 0 0 rfl rfl (vp_in_nI (by omega) (by decide)) dX2_reverse_35 ?_
        refine tp_l (y := sw_n f lo hi k (hi - 1 - k)) (by rw [nI_clamp (by omega)]) ?_
        refine va_last hx hb hK hP hD hS 0 0 rfl rfl (vp_in_nI (by omega) (by decide)) dX2_reverse_36 (fun H locs hP hD hS => ?_)
        have hP : va_P (dC, dI) cl_d [(a, .inl (d, 12, .inr (.inl (vp_updL (sw_n f lo hi k) (nI (lo + k)).toNatClampNeg (sw_n f lo hi k (hi - 1 - k))))))] H := hP
        have hD : va_D (va_A [(a, .inl (d, 12, .inr (.inl f)))] s.heap.size) [(a, .inl (d, 12, .inr (.inl (vp_updL (sw_n f lo hi k) (nI (lo + k)).toNatClampNeg (sw_n f lo hi k (hi - 1 - k))))))] := hD
        refine lv_aload_n hx hb dX2_reverse_37 rfl (lv_at hl 1 rfl) ?_
        refine lv_iload hx hb dX2_reverse_38 (lv_at hl 3 rfl) ?_
        refine lv_lload hx hb dX2_reverse_40 (lv_at hl 0 rfl) ?_
        refine va_last hx hb hK hP hD hS 0 0 rfl rfl (vp_in_nI (by omega) (by decide)) dX2_reverse_42 (fun H locs hP hD hS => ?_)
        have hP : va_P (dC, dI) cl_d [(a, .inl (d, 12, .inr (.inl (vp_updL (vp_updL (sw_n f lo hi k) (nI (lo + k)).toNatClampNeg (sw_n f lo hi k (hi - 1 - k))) (nI (hi - 1 - k)).toNatClampNeg (sw_n f lo hi k (lo + k))))))] H := hP
        have hD : va_D (va_A [(a, .inl (d, 12, .inr (.inl f)))] s.heap.size) [(a, .inl (d, 12, .inr (.inl (vp_updL (vp_updL (sw_n f lo hi k) (nI (lo + k)).toNatClampNeg (sw_n f lo hi k (hi - 1 - k))) (nI (hi - 1 - k)).toNatClampNeg (sw_n f lo hi k (lo + k))))))] := hD
        rw [sw_s (by omega) (by omega)] at hP hD
        refine lv_iinc (v := nI (lo + (k + 1))) (lv' := [(3, .int (nI (lo + (k + 1)))), (5, .long (sw_n f lo hi k (lo + k))), (0, .ref a), (4, .int (nI (hi - 1 - k)))]) hx hb dX2_reverse_43 hl (k := 2) rfl (nI_1 (lo + k)) (by decide) rfl (fun ls hl => ?_)
        refine lv_iinc (v := jx_n hi (k + 1)) (lv' := [(4, .int (jx_n hi (k + 1))), (3, .int (nI (lo + (k + 1)))), (5, .long (sw_n f lo hi k (lo + k))), (0, .ref a)]) hx hb dX2_reverse_46 hl (k := 3) rfl (by rw [← i3]; exact jx_s hi k) (by decide) rfl (fun ls hl => ?_)
        refine lv_goto (tgt := 19) hx hb dX2_reverse_49 (by decide) ?_
        exact ih (k + 1) i2 (by omega) H locs hP hD hS ls (lv_sub hl [3, 1, 0] rfl)
  have hl := lv_entry ([.ref a, .int (nI lo), .int (nI hi)]) (n := 7) (Nat.le_of_ble_eq_true rfl)
  rw [lg_entry_eq]
  generalize (lg_sl ([.ref a, .int (nI lo), .int (nI hi)]) ++ List.replicate (7 - (lg_sl ([.ref a, .int (nI lo), .int (nI hi)])).length) Slot.unset).toArray = ls at hl ⊢
  have hl : lv_has ls 7 [(0, .ref a), (1, .int (nI lo)), (2, .int (nI hi))] := hl
  refine lv_aload_n hx hb dX2_reverse_0 rfl (lv_at hl 0 rfl) ?_
  refine va_csr (W.runS (As := [.ref a]) (rest := []) ⟨hx, hb, hml, hown, hts⟩ (mX3_checkNotNull l a) (va_cwS 1 hts (lw_S q50 q51 q6 q52) rfl rfl rfl (by decide +kernel) ⟨Nat.le_of_ble_eq_true rfl, Nat.le_of_ble_eq_true rfl⟩) ⟨fun _ _ _ _ q => q, fun _ _ _ => ⟨rfl, trivial⟩⟩ rfl rfl hl.1 rfl (lv_room (Nat.le_of_ble_eq_true rfl)) dX2_reverse_1 ⟨Nat.le_of_ble_eq_true rfl, Nat.le_of_ble_eq_true rfl⟩) (fun r_1 hr_1 => ?_)
  rw [hr_1]
  refine lv_pop hx hb dX2_reverse_4 rfl ?_
  refine lv_iload_n hx hb dX2_reverse_5 rfl (lv_at hl 1 rfl) ?_
  refine lv_iload_n hx hb dX2_reverse_6 rfl (lv_at hl 2 rfl) ?_
  refine lv_aload_n hx hb dX2_reverse_7 rfl (lv_at hl 0 rfl) ?_
  refine va_alen (v := 12) hx hb hK hP 0 0 rfl rfl rfl dX2_reverse_8 ?_
  refine va_csv (W.runS (As := [.int (nI lo), .int (nI hi), .int 12]) (rest := []) ⟨hx, hb, hml, hown, hts⟩ (mX3_checkPositionIndexes l lo hi h1 h2) (va_cwS 3 hts (lw_S q53 q54 q6 q55) rfl rfl rfl (by decide +kernel) ⟨Nat.le_of_ble_eq_true rfl, Nat.le_of_ble_eq_true rfl⟩) ⟨fun _ _ _ _ q => q, fun _ _ _ => ⟨rfl, trivial⟩⟩ rfl rfl hl.1 rfl (lv_room (Nat.le_of_ble_eq_true rfl)) dX2_reverse_9 ⟨Nat.le_of_ble_eq_true rfl, Nat.le_of_ble_eq_true rfl⟩) (fun _ => ?_)
  refine lv_iload_n hx hb dX2_reverse_12 rfl (lv_at hl 1 rfl) ?_
  refine lv_istore_n (lv' := [(3, .int (nI lo)), (0, .ref a), (1, .int (nI lo)), (2, .int (nI hi))]) hx hb dX2_reverse_13 rfl hl (by decide) rfl (fun ls hl => ?_)
  refine lv_iload_n hx hb dX2_reverse_14 rfl (lv_at hl 3 rfl) ?_
  refine lv_iconst (v := 1) hx hb dX2_reverse_15 (by decide) ?_
  refine lv_isub hx hb dX2_reverse_16 ?_
  refine lv_istore (lv' := [(4, .int ((nI hi) - 1)), (3, .int (nI lo)), (0, .ref a), (1, .int (nI lo)), (2, .int (nI hi))]) hx hb dX2_reverse_17 hl (by decide) rfl (fun ls hl => ?_)
  exact K ((hi - lo) / 2 + 1) 0 (Nat.zero_le _) (by omega) s.heap [] hP hD hS ls (lv_sub hl [2, 1, 0] rfl)
end
section
/-! LongRowDesk: its contracts -/
set_option maxHeartbeats 4000000 in
set_option maxRecDepth 100000 in
/-- wide(h, w) -/
theorem mX1_wide (l : Launch) (h w : Int32) : Met l yX1_wide (ws_ yX1_wide cX1_wide 2 (some .long)) ({ frames := 0, cells := 0, slots := 0, locals := 0 }) (va_Pc [.int h, .int w] (fun U => True)) (vp_Sl (fun r => r = wd_v h w)) 0 0 (fun _ => False) := by
  refine Met.ofW (cc := cX1_wide) (maxL := 2) (ret := (some .long)) (by decide) rfl ?_
  intro p e s m args below meth c s₁ B hml hv
  obtain ⟨rfl, -⟩ := hv
  have hx := B.exec
  have hb := B.bytes
  have hr := B.returns
  have hts := atoms_spec (ws := (ws_ yX1_wide cX1_wide 2 (some .long))) B.pre
  have hts : ∀ w ∈ lw_all, w.before _ s = true := fun w h => hts w (List.mem_cons_of_mem _ h)
  have hown : s.vm.findClass RX1 = some m.cls := findClass_of_methodNamed B.named
  have hlocks := B.notSynchronized
  have hl := lv_entry ([.int h, .int w]) (n := 2) (Nat.le_of_ble_eq_true rfl)
  rw [lg_entry_eq]
  generalize (lg_sl ([.int h, .int w]) ++ List.replicate (2 - (lg_sl ([.int h, .int w])).length) Slot.unset).toArray = ls at hl ⊢
  have hl : lv_has ls 2 [(0, .int h), (1, .int w)] := hl
  refine lv_iload_n hx hb dX1_wide_0 rfl (lv_at hl 0 rfl) ?_
  refine lv_i2l (v := h.toInt64) hx hb dX1_wide_1 rfl ?_
  refine lv_bipush (v := 32) hx hb dX1_wide_2 (by decide) ?_
  refine lv_lshl (v := h.toInt64 <<< ((32 : Int32).toInt64 &&& 63)) hx hb dX1_wide_4 rfl ?_
  refine lv_iload_n hx hb dX1_wide_5 rfl (lv_at hl 1 rfl) ?_
  refine lv_i2l (v := w.toInt64) hx hb dX1_wide_6 rfl ?_
  refine lv_ldc2 hx hb hown (hts _ q34) dX1_wide_7 ?_
  refine lv_land hx hb dX1_wide_10 ?_
  refine lv_lor hx hb dX1_wide_11 ?_
  exact W.lret (v := (h.toInt64 <<< ((32 : Int32).toInt64 &&& 63)) ||| (w.toInt64 &&& 4294967295)) hx hb hr (fun t ht hW => ⟨_, rfl, rfl, ht⟩) (fun _ h => absurd h List.not_mem_nil) dX1_wide_12
set_option maxHeartbeats 4000000 in
set_option maxRecDepth 100000 in
/-- get(i) -/
theorem mX1_get (l : Launch) (dC : Nat → ClassId) (dI : Nat → Nat → Nat) (o r : Nat) (d : ClassId) (f : Nat → Int64) (i : Int32) : Met l yX1_get (ws_ yX1_get cX1_get 2 (some .long)) ({ frames := 0, cells := 0, slots := 0, locals := 0 }) (va_Pc [.ref o, .int i] (fun U => va_P (dC, dI) cl_d [(o, .inr (0, [.ref r])), (r, .inl (d, 12, .inr (.inl f)))] U.heap ∧ va_K (dC, dI) cl_d [(d, .long)] U)) (vp_Sl (fun z => z = f (rn_v i 12))) 0 0 (fun _ => False) := by
  refine Met.ofW (cc := cX1_get) (maxL := 2) (ret := (some .long)) (by decide) rfl ?_
  intro p e s m args below meth c s₁ B hml hv
  obtain ⟨rfl, hP, hK⟩ := hv
  have hx := B.exec
  have hb := B.bytes
  have hr := B.returns
  have hts := atoms_spec (ws := (ws_ yX1_get cX1_get 2 (some .long))) B.pre
  have hts : ∀ w ∈ lw_all, w.before _ s = true := fun w h => hts w (List.mem_cons_of_mem _ h)
  have hown : s.vm.findClass RX1 = some m.cls := findClass_of_methodNamed B.named
  have hlocks := B.notSynchronized
  have hl := lv_entry ([.ref o, .int i]) (n := 2) (Nat.le_of_ble_eq_true rfl)
  rw [lg_entry_eq]
  generalize (lg_sl ([.ref o, .int i]) ++ List.replicate (2 - (lg_sl ([.ref o, .int i])).length) Slot.unset).toArray = ls at hl ⊢
  have hl : lv_has ls 2 [(0, .ref o), (1, .int i)] := hl
  refine lv_aload_n hx hb dX1_get_0 rfl (lv_at hl 0 rfl) ?_
  refine va_get (D := (dC, dI)) (ci := 0) (v := .ref r) (C := RX1) (T := TX1) (N := 1) hx hb hts in_X1 hown hK hP 0 rfl rfl 0 (by decide) (hts _ q21) (fun _ h9 => h9) rfl dX1_get_1 ?_
  refine lv_iload_n hx hb dX1_get_4 rfl (lv_at hl 1 rfl) ?_
  refine lv_ldc hx hb hown (hts _ q30) dX1_get_5 ?_
  refine lv_iand hx hb dX1_get_7 ?_
  refine lv_bipush (v := 12) hx hb dX1_get_8 (by decide) ?_
  refine lv_irem hx hb dX1_get_10 (by decide) ?_
  refine tp_i (y := nI (rn_v i 12)) (rn_12 i) ?_
  refine va_lald hx hb hK hP 1 0 rfl rfl (rn_in i) dX1_get_11 ?_
  refine tp_l (y := f (rn_v i 12)) (by rw [rn_cl]) ?_
  exact W.lret (v := f (rn_v i 12)) hx hb hr (fun t ht hW => ⟨_, rfl, rfl, ht⟩) (fun _ h => absurd h List.not_mem_nil) dX1_get_12
set_option maxHeartbeats 4000000 in
set_option maxRecDepth 100000 in
/-- from(i) -/
theorem mX1_from (l : Launch) (o : Nat) (i : Int32) : Met l yX1_from (ws_ yX1_from cX1_from 2 (some .int)) ({ frames := 0, cells := 0, slots := 0, locals := 0 }) (va_Pc [.ref o, .int i] (fun U => True)) (vp_Si (fun z => z = nI (rn_v i 13))) 0 0 (fun _ => False) := by
  refine Met.ofW (cc := cX1_from) (maxL := 2) (ret := (some .int)) (by decide) rfl ?_
  intro p e s m args below meth c s₁ B hml hv
  obtain ⟨rfl, -⟩ := hv
  have hx := B.exec
  have hb := B.bytes
  have hr := B.returns
  have hts := atoms_spec (ws := (ws_ yX1_from cX1_from 2 (some .int))) B.pre
  have hts : ∀ w ∈ lw_all, w.before _ s = true := fun w h => hts w (List.mem_cons_of_mem _ h)
  have hown : s.vm.findClass RX1 = some m.cls := findClass_of_methodNamed B.named
  have hlocks := B.notSynchronized
  have hl := lv_entry ([.ref o, .int i]) (n := 2) (Nat.le_of_ble_eq_true rfl)
  rw [lg_entry_eq]
  generalize (lg_sl ([.ref o, .int i]) ++ List.replicate (2 - (lg_sl ([.ref o, .int i])).length) Slot.unset).toArray = ls at hl ⊢
  have hl : lv_has ls 2 [(0, .ref o), (1, .int i)] := hl
  refine lv_iload_n hx hb dX1_from_0 rfl (lv_at hl 1 rfl) ?_
  refine lv_ldc hx hb hown (hts _ q30) dX1_from_1 ?_
  refine lv_iand hx hb dX1_from_3 ?_
  refine lv_bipush (v := 13) hx hb dX1_from_4 (by decide) ?_
  refine lv_irem hx hb dX1_from_6 (by decide) ?_
  refine tp_i (y := nI (rn_v i 13)) (rn_13 i) ?_
  exact W.iret (v := nI (rn_v i 13)) hx hb hr (fun t ht hW => ⟨_, rfl, rfl, ht⟩) (fun _ h => absurd h List.not_mem_nil) dX1_from_7
set_option maxHeartbeats 4000000 in
set_option maxRecDepth 100000 in
/-- to(x, t) -/
theorem mX1_to (l : Launch) (o x : Nat) (t : Int32) (h : x ≤ 12) : Met l yX1_to (ws_ yX1_to cX1_to 3 (some .int)) ({ frames := 0, cells := 0, slots := 0, locals := 0 }) (va_Pc [.ref o, .int (nI x), .int t] (fun U => True)) (vp_Si (fun z => z = nI (x + rn_v t (13 - x)))) 0 0 (fun _ => False) := by
  refine Met.ofW (cc := cX1_to) (maxL := 3) (ret := (some .int)) (by decide) rfl ?_
  intro p e s m args below meth c s₁ B hml hv
  obtain ⟨rfl, -⟩ := hv
  have hx := B.exec
  have hb := B.bytes
  have hr := B.returns
  have hts := atoms_spec (ws := (ws_ yX1_to cX1_to 3 (some .int))) B.pre
  have hts : ∀ w ∈ lw_all, w.before _ s = true := fun w h => hts w (List.mem_cons_of_mem _ h)
  have hown : s.vm.findClass RX1 = some m.cls := findClass_of_methodNamed B.named
  have hlocks := B.notSynchronized
  have hl := lv_entry ([.ref o, .int (nI x), .int t]) (n := 3) (Nat.le_of_ble_eq_true rfl)
  rw [lg_entry_eq]
  generalize (lg_sl ([.ref o, .int (nI x), .int t]) ++ List.replicate (3 - (lg_sl ([.ref o, .int (nI x), .int t])).length) Slot.unset).toArray = ls at hl ⊢
  have hl : lv_has ls 3 [(0, .ref o), (1, .int (nI x)), (2, .int t)] := hl
  refine lv_iload_n hx hb dX1_to_0 rfl (lv_at hl 1 rfl) ?_
  refine lv_iload_n hx hb dX1_to_1 rfl (lv_at hl 2 rfl) ?_
  refine lv_ldc hx hb hown (hts _ q30) dX1_to_2 ?_
  refine lv_iand hx hb dX1_to_4 ?_
  refine lv_bipush (v := 13) hx hb dX1_to_5 (by decide) ?_
  refine lv_iload_n hx hb dX1_to_7 rfl (lv_at hl 1 rfl) ?_
  refine lv_isub hx hb dX1_to_8 ?_
  refine tp_i (y := nI (13 - x)) (pk_sub (a := 13) (by omega)) ?_
  refine lv_irem hx hb dX1_to_9 (rn_ne (by omega) (by omega)) ?_
  refine tp_i (y := nI (rn_v t (13 - x))) (rn_eq t (by omega) (by omega)) ?_
  refine lv_iadd hx hb dX1_to_10 ?_
  refine tp_i (y := nI (x + rn_v t (13 - x))) (nI_add _ _) ?_
  exact W.iret (v := nI (x + rn_v t (13 - x))) hx hb hr (fun t ht hW => ⟨_, rfl, rfl, ht⟩) (fun _ h => absurd h List.not_mem_nil) dX1_to_11
set_option maxHeartbeats 4000000 in
set_option maxRecDepth 100000 in
/-- most() -/
theorem mX1_most (l : Launch) (dC : Nat → ClassId) (dI : Nat → Nat → Nat) (o r : Nat) (d : ClassId) (f : Nat → Int64) : Met l yX1_most (ws_ yX1_most cX1_most 1 (some .long)) ({ frames := 3, cells := 0, slots := 0, locals := 55 }) (va_Pc [.ref o] (fun U => va_P (dC, dI) cl_d [(o, .inr (0, [.ref r])), (r, .inl (d, 12, .inr (.inl f)))] U.heap ∧ va_K (dC, dI) cl_d [(d, .long)] U)) (vp_Sl (fun z => mx_n f 12 z)) 0 0 (fun _ => False) := by
  refine Met.ofW (cc := cX1_most) (maxL := 1) (ret := (some .long)) (by decide) rfl ?_
  intro p e s m args below meth c s₁ B hml hv
  obtain ⟨rfl, hP, hK⟩ := hv
  have hx := B.exec
  have hb := B.bytes
  have hr := B.returns
  have hts := atoms_spec (ws := (ws_ yX1_most cX1_most 1 (some .long))) B.pre
  have hts : ∀ w ∈ lw_all, w.before _ s = true := fun w h => hts w (List.mem_cons_of_mem _ h)
  have hown : s.vm.findClass RX1 = some m.cls := findClass_of_methodNamed B.named
  have hlocks := B.notSynchronized
  have hl := lv_entry ([.ref o]) (n := 1) (Nat.le_of_ble_eq_true rfl)
  rw [lg_entry_eq]
  generalize (lg_sl ([.ref o]) ++ List.replicate (1 - (lg_sl ([.ref o])).length) Slot.unset).toArray = ls at hl ⊢
  have hl : lv_has ls 1 [(0, .ref o)] := hl
  refine lv_aload_n hx hb dX1_most_0 rfl (lv_at hl 0 rfl) ?_
  refine va_get (D := (dC, dI)) (ci := 0) (v := .ref r) (C := RX1) (T := TX1) (N := 1) hx hb hts in_X1 hown hK hP 0 rfl rfl 0 (by decide) (hts _ q21) (fun _ h9 => h9) rfl dX1_most_1 ?_
  refine vp_callSl (W.runS (As := [.ref r]) (rest := []) ⟨hx, hb, hml, hown, hts⟩ (mX2_max l dC dI r d f) (va_cwS 1 hts (lw_S q181 q182 q5 q183) rfl rfl rfl (by decide +kernel) ⟨Nat.le_of_ble_eq_true rfl, Nat.le_of_ble_eq_true rfl⟩) ⟨fun a U g mk q => ⟨q.1, q.2.1, va_K.moved (u := U) (U := U.calling g mk a) (Vm.Alike.refl U.vm) q.2.2⟩, fun U hU hW => ⟨rfl, by rw [hU]; exact (hP.sub (ws' := [(r, .inl (d, 12, .inr (.inl f)))]) [1] rfl), va_K.moved hW.alike (hK.sub (tys' := [(d, .long)]) [0] rfl)⟩⟩ rfl rfl hl.1 rfl (lv_room (Nat.le_of_ble_eq_true rfl)) dX1_most_4 ⟨Nat.le_of_ble_eq_true rfl, Nat.le_of_ble_eq_true rfl⟩) (fun r_1 hr_1 => ?_)
  exact W.lret (v := r_1) hx hb hr (fun t ht hW => ⟨_, rfl, hr_1, ht⟩) (fun _ h => absurd h List.not_mem_nil) dX1_most_7
set_option maxHeartbeats 4000000 in
set_option maxRecDepth 100000 in
/-- least() -/
theorem mX1_least (l : Launch) (dC : Nat → ClassId) (dI : Nat → Nat → Nat) (o r : Nat) (d : ClassId) (f : Nat → Int64) : Met l yX1_least (ws_ yX1_least cX1_least 1 (some .long)) ({ frames := 3, cells := 0, slots := 0, locals := 55 }) (va_Pc [.ref o] (fun U => va_P (dC, dI) cl_d [(o, .inr (0, [.ref r])), (r, .inl (d, 12, .inr (.inl f)))] U.heap ∧ va_K (dC, dI) cl_d [(d, .long)] U)) (vp_Sl (fun z => mn_n f 12 z)) 0 0 (fun _ => False) := by
  refine Met.ofW (cc := cX1_least) (maxL := 1) (ret := (some .long)) (by decide) rfl ?_
  intro p e s m args below meth c s₁ B hml hv
  obtain ⟨rfl, hP, hK⟩ := hv
  have hx := B.exec
  have hb := B.bytes
  have hr := B.returns
  have hts := atoms_spec (ws := (ws_ yX1_least cX1_least 1 (some .long))) B.pre
  have hts : ∀ w ∈ lw_all, w.before _ s = true := fun w h => hts w (List.mem_cons_of_mem _ h)
  have hown : s.vm.findClass RX1 = some m.cls := findClass_of_methodNamed B.named
  have hlocks := B.notSynchronized
  have hl := lv_entry ([.ref o]) (n := 1) (Nat.le_of_ble_eq_true rfl)
  rw [lg_entry_eq]
  generalize (lg_sl ([.ref o]) ++ List.replicate (1 - (lg_sl ([.ref o])).length) Slot.unset).toArray = ls at hl ⊢
  have hl : lv_has ls 1 [(0, .ref o)] := hl
  refine lv_aload_n hx hb dX1_least_0 rfl (lv_at hl 0 rfl) ?_
  refine va_get (D := (dC, dI)) (ci := 0) (v := .ref r) (C := RX1) (T := TX1) (N := 1) hx hb hts in_X1 hown hK hP 0 rfl rfl 0 (by decide) (hts _ q21) (fun _ h9 => h9) rfl dX1_least_1 ?_
  refine vp_callSl (W.runS (As := [.ref r]) (rest := []) ⟨hx, hb, hml, hown, hts⟩ (mX2_min l dC dI r d f) (va_cwS 1 hts (lw_S q212 q213 q5 q214) rfl rfl rfl (by decide +kernel) ⟨Nat.le_of_ble_eq_true rfl, Nat.le_of_ble_eq_true rfl⟩) ⟨fun a U g mk q => ⟨q.1, q.2.1, va_K.moved (u := U) (U := U.calling g mk a) (Vm.Alike.refl U.vm) q.2.2⟩, fun U hU hW => ⟨rfl, by rw [hU]; exact (hP.sub (ws' := [(r, .inl (d, 12, .inr (.inl f)))]) [1] rfl), va_K.moved hW.alike (hK.sub (tys' := [(d, .long)]) [0] rfl)⟩⟩ rfl rfl hl.1 rfl (lv_room (Nat.le_of_ble_eq_true rfl)) dX1_least_4 ⟨Nat.le_of_ble_eq_true rfl, Nat.le_of_ble_eq_true rfl⟩) (fun r_1 hr_1 => ?_)
  exact W.lret (v := r_1) hx hb hr (fun t ht hW => ⟨_, rfl, hr_1, ht⟩) (fun _ h => absurd h List.not_mem_nil) dX1_least_7
set_option maxHeartbeats 4000000 in
set_option maxRecDepth 100000 in
/-- find(h, w) -/
theorem mX1_find (l : Launch) (dC : Nat → ClassId) (dI : Nat → Nat → Nat) (o r : Nat) (d : ClassId) (f : Nat → Int64) (h w : Int32) : Met l yX1_find (ws_ yX1_find cX1_find 3 (some .int)) ({ frames := 2, cells := 0, slots := 0, locals := 47 }) (va_Pc [.ref o, .int h, .int w] (fun U => va_P (dC, dI) cl_d [(o, .inr (0, [.ref r])), (r, .inl (d, 12, .inr (.inl f)))] U.heap ∧ va_K (dC, dI) cl_d [(d, .long)] U)) (vp_Si (fun z => fs_n f (wd_v h w) 12 z)) 0 0 (fun _ => False) := by
  refine Met.ofW (cc := cX1_find) (maxL := 3) (ret := (some .int)) (by decide) rfl ?_
  intro p e s m args below meth c s₁ B hml hv
  obtain ⟨rfl, hP, hK⟩ := hv
  have hx := B.exec
  have hb := B.bytes
  have hr := B.returns
  have hts := atoms_spec (ws := (ws_ yX1_find cX1_find 3 (some .int))) B.pre
  have hts : ∀ w ∈ lw_all, w.before _ s = true := fun w h => hts w (List.mem_cons_of_mem _ h)
  have hown : s.vm.findClass RX1 = some m.cls := findClass_of_methodNamed B.named
  have hlocks := B.notSynchronized
  have hl := lv_entry ([.ref o, .int h, .int w]) (n := 3) (Nat.le_of_ble_eq_true rfl)
  rw [lg_entry_eq]
  generalize (lg_sl ([.ref o, .int h, .int w]) ++ List.replicate (3 - (lg_sl ([.ref o, .int h, .int w])).length) Slot.unset).toArray = ls at hl ⊢
  have hl : lv_has ls 3 [(0, .ref o), (1, .int h), (2, .int w)] := hl
  refine lv_aload_n hx hb dX1_find_0 rfl (lv_at hl 0 rfl) ?_
  refine va_get (D := (dC, dI)) (ci := 0) (v := .ref r) (C := RX1) (T := TX1) (N := 1) hx hb hts in_X1 hown hK hP 0 rfl rfl 0 (by decide) (hts _ q21) (fun _ h9 => h9) rfl dX1_find_1 ?_
  refine lv_iload_n hx hb dX1_find_4 rfl (lv_at hl 1 rfl) ?_
  refine lv_iload_n hx hb dX1_find_5 rfl (lv_at hl 2 rfl) ?_
  refine vp_callSl (W.runS (As := [.int h, .int w]) (rest := [.ref r]) ⟨hx, hb, hml, hown, hts⟩ (mX1_wide l h w) (va_cwS 2 hts (lw_S q31 q32 q4 q33) rfl rfl rfl (by decide +kernel) ⟨Nat.le_of_ble_eq_true rfl, Nat.le_of_ble_eq_true rfl⟩) ⟨fun _ _ _ _ q => q, fun _ _ _ => ⟨rfl, trivial⟩⟩ rfl rfl hl.1 rfl (lv_room (Nat.le_of_ble_eq_true rfl)) dX1_find_6 ⟨Nat.le_of_ble_eq_true rfl, Nat.le_of_ble_eq_true rfl⟩) (fun r_1 hr_1 => ?_)
  subst hr_1
  refine vp_callSi (W.runS (As := [.ref r, .long (wd_v h w)]) (rest := []) ⟨hx, hb, hml, hown, hts⟩ (mX2_indexOf l dC dI r d f (wd_v h w)) (va_cwS 2 hts (lw_S q147 q148 q5 q149) rfl rfl rfl (by decide +kernel) ⟨Nat.le_of_ble_eq_true rfl, Nat.le_of_ble_eq_true rfl⟩) ⟨fun a U g mk q => ⟨q.1, q.2.1, va_K.moved (u := U) (U := U.calling g mk a) (Vm.Alike.refl U.vm) q.2.2⟩, fun U hU hW => ⟨rfl, by rw [hU]; exact (hP.sub (ws' := [(r, .inl (d, 12, .inr (.inl f)))]) [1] rfl), va_K.moved hW.alike (hK.sub (tys' := [(d, .long)]) [0] rfl)⟩⟩ rfl rfl hl.1 rfl (lv_room (Nat.le_of_ble_eq_true rfl)) dX1_find_9 ⟨Nat.le_of_ble_eq_true rfl, Nat.le_of_ble_eq_true rfl⟩) (fun r_2 hr_2 => ?_)
  exact W.iret (v := r_2) hx hb hr (fun t ht hW => ⟨_, rfl, hr_2, ht⟩) (fun _ h => absurd h List.not_mem_nil) dX1_find_12
set_option maxHeartbeats 4000000 in
set_option maxRecDepth 100000 in
/-- findLast(h, w) -/
theorem mX1_findLast (l : Launch) (dC : Nat → ClassId) (dI : Nat → Nat → Nat) (o r : Nat) (d : ClassId) (f : Nat → Int64) (h w : Int32) : Met l yX1_findLast (ws_ yX1_findLast cX1_findLast 3 (some .int)) ({ frames := 2, cells := 0, slots := 0, locals := 47 }) (va_Pc [.ref o, .int h, .int w] (fun U => va_P (dC, dI) cl_d [(o, .inr (0, [.ref r])), (r, .inl (d, 12, .inr (.inl f)))] U.heap ∧ va_K (dC, dI) cl_d [(d, .long)] U)) (vp_Si (fun z => ls_n f (wd_v h w) 12 z)) 0 0 (fun _ => False) := by
  refine Met.ofW (cc := cX1_findLast) (maxL := 3) (ret := (some .int)) (by decide) rfl ?_
  intro p e s m args below meth c s₁ B hml hv
  obtain ⟨rfl, hP, hK⟩ := hv
  have hx := B.exec
  have hb := B.bytes
  have hr := B.returns
  have hts := atoms_spec (ws := (ws_ yX1_findLast cX1_findLast 3 (some .int))) B.pre
  have hts : ∀ w ∈ lw_all, w.before _ s = true := fun w h => hts w (List.mem_cons_of_mem _ h)
  have hown : s.vm.findClass RX1 = some m.cls := findClass_of_methodNamed B.named
  have hlocks := B.notSynchronized
  have hl := lv_entry ([.ref o, .int h, .int w]) (n := 3) (Nat.le_of_ble_eq_true rfl)
  rw [lg_entry_eq]
  generalize (lg_sl ([.ref o, .int h, .int w]) ++ List.replicate (3 - (lg_sl ([.ref o, .int h, .int w])).length) Slot.unset).toArray = ls at hl ⊢
  have hl : lv_has ls 3 [(0, .ref o), (1, .int h), (2, .int w)] := hl
  refine lv_aload_n hx hb dX1_findLast_0 rfl (lv_at hl 0 rfl) ?_
  refine va_get (D := (dC, dI)) (ci := 0) (v := .ref r) (C := RX1) (T := TX1) (N := 1) hx hb hts in_X1 hown hK hP 0 rfl rfl 0 (by decide) (hts _ q21) (fun _ h9 => h9) rfl dX1_findLast_1 ?_
  refine lv_iload_n hx hb dX1_findLast_4 rfl (lv_at hl 1 rfl) ?_
  refine lv_iload_n hx hb dX1_findLast_5 rfl (lv_at hl 2 rfl) ?_
  refine vp_callSl (W.runS (As := [.int h, .int w]) (rest := [.ref r]) ⟨hx, hb, hml, hown, hts⟩ (mX1_wide l h w) (va_cwS 2 hts (lw_S q31 q32 q4 q33) rfl rfl rfl (by decide +kernel) ⟨Nat.le_of_ble_eq_true rfl, Nat.le_of_ble_eq_true rfl⟩) ⟨fun _ _ _ _ q => q, fun _ _ _ => ⟨rfl, trivial⟩⟩ rfl rfl hl.1 rfl (lv_room (Nat.le_of_ble_eq_true rfl)) dX1_findLast_6 ⟨Nat.le_of_ble_eq_true rfl, Nat.le_of_ble_eq_true rfl⟩) (fun r_1 hr_1 => ?_)
  subst hr_1
  refine vp_callSi (W.runS (As := [.ref r, .long (wd_v h w)]) (rest := []) ⟨hx, hb, hml, hown, hts⟩ (mX2_lastIndexOf l dC dI r d f (wd_v h w)) (va_cwS 2 hts (lw_S q157 q158 q5 q159) rfl rfl rfl (by decide +kernel) ⟨Nat.le_of_ble_eq_true rfl, Nat.le_of_ble_eq_true rfl⟩) ⟨fun a U g mk q => ⟨q.1, q.2.1, va_K.moved (u := U) (U := U.calling g mk a) (Vm.Alike.refl U.vm) q.2.2⟩, fun U hU hW => ⟨rfl, by rw [hU]; exact (hP.sub (ws' := [(r, .inl (d, 12, .inr (.inl f)))]) [1] rfl), va_K.moved hW.alike (hK.sub (tys' := [(d, .long)]) [0] rfl)⟩⟩ rfl rfl hl.1 rfl (lv_room (Nat.le_of_ble_eq_true rfl)) dX1_findLast_9 ⟨Nat.le_of_ble_eq_true rfl, Nat.le_of_ble_eq_true rfl⟩) (fun r_2 hr_2 => ?_)
  exact W.iret (v := r_2) hx hb hr (fun t ht hW => ⟨_, rfl, hr_2, ht⟩) (fun _ h => absurd h List.not_mem_nil) dX1_findLast_12
set_option maxHeartbeats 4000000 in
set_option maxRecDepth 100000 in
/-- has(h, w) -/
theorem mX1_has (l : Launch) (dC : Nat → ClassId) (dI : Nat → Nat → Nat) (o r : Nat) (d : ClassId) (f : Nat → Int64) (h w : Int32) : Met l yX1_has (ws_ yX1_has cX1_has 3 (some .boolean)) ({ frames := 1, cells := 0, slots := 0, locals := 27 }) (va_Pc [.ref o, .int h, .int w] (fun U => va_P (dC, dI) cl_d [(o, .inr (0, [.ref r])), (r, .inl (d, 12, .inr (.inl f)))] U.heap ∧ va_K (dC, dI) cl_d [(d, .long)] U)) (vp_Si (fun z => hs_n f (wd_v h w) z)) 0 0 (fun _ => False) := by
  refine Met.ofW (cc := cX1_has) (maxL := 3) (ret := (some .boolean)) (by decide) rfl ?_
  intro p e s m args below meth c s₁ B hml hv
  obtain ⟨rfl, hP, hK⟩ := hv
  have hx := B.exec
  have hb := B.bytes
  have hr := B.returns
  have hts := atoms_spec (ws := (ws_ yX1_has cX1_has 3 (some .boolean))) B.pre
  have hts : ∀ w ∈ lw_all, w.before _ s = true := fun w h => hts w (List.mem_cons_of_mem _ h)
  have hown : s.vm.findClass RX1 = some m.cls := findClass_of_methodNamed B.named
  have hlocks := B.notSynchronized
  have hl := lv_entry ([.ref o, .int h, .int w]) (n := 3) (Nat.le_of_ble_eq_true rfl)
  rw [lg_entry_eq]
  generalize (lg_sl ([.ref o, .int h, .int w]) ++ List.replicate (3 - (lg_sl ([.ref o, .int h, .int w])).length) Slot.unset).toArray = ls at hl ⊢
  have hl : lv_has ls 3 [(0, .ref o), (1, .int h), (2, .int w)] := hl
  refine lv_aload_n hx hb dX1_has_0 rfl (lv_at hl 0 rfl) ?_
  refine va_get (D := (dC, dI)) (ci := 0) (v := .ref r) (C := RX1) (T := TX1) (N := 1) hx hb hts in_X1 hown hK hP 0 rfl rfl 0 (by decide) (hts _ q21) (fun _ h9 => h9) rfl dX1_has_1 ?_
  refine lv_iload_n hx hb dX1_has_4 rfl (lv_at hl 1 rfl) ?_
  refine lv_iload_n hx hb dX1_has_5 rfl (lv_at hl 2 rfl) ?_
  refine vp_callSl (W.runS (As := [.int h, .int w]) (rest := [.ref r]) ⟨hx, hb, hml, hown, hts⟩ (mX1_wide l h w) (va_cwS 2 hts (lw_S q31 q32 q4 q33) rfl rfl rfl (by decide +kernel) ⟨Nat.le_of_ble_eq_true rfl, Nat.le_of_ble_eq_true rfl⟩) ⟨fun _ _ _ _ q => q, fun _ _ _ => ⟨rfl, trivial⟩⟩ rfl rfl hl.1 rfl (lv_room (Nat.le_of_ble_eq_true rfl)) dX1_has_6 ⟨Nat.le_of_ble_eq_true rfl, Nat.le_of_ble_eq_true rfl⟩) (fun r_1 hr_1 => ?_)
  subst hr_1
  refine vp_callSi (W.runS (As := [.ref r, .long (wd_v h w)]) (rest := []) ⟨hx, hb, hml, hown, hts⟩ (mX2_contains l dC dI r d f (wd_v h w)) (va_cwS 2 hts (lw_S q167 q168 q5 q169) rfl rfl rfl (by decide +kernel) ⟨Nat.le_of_ble_eq_true rfl, Nat.le_of_ble_eq_true rfl⟩) ⟨fun a U g mk q => ⟨q.1, q.2.1, va_K.moved (u := U) (U := U.calling g mk a) (Vm.Alike.refl U.vm) q.2.2⟩, fun U hU hW => ⟨rfl, by rw [hU]; exact (hP.sub (ws' := [(r, .inl (d, 12, .inr (.inl f)))]) [1] rfl), va_K.moved hW.alike (hK.sub (tys' := [(d, .long)]) [0] rfl)⟩⟩ rfl rfl hl.1 rfl (lv_room (Nat.le_of_ble_eq_true rfl)) dX1_has_9 ⟨Nat.le_of_ble_eq_true rfl, Nat.le_of_ble_eq_true rfl⟩) (fun r_2 hr_2 => ?_)
  rcases hr_2 with ⟨e1, hj⟩ | ⟨e1, hj⟩
  · subst e1
    exact W.zret (v := 1) hx hb hr rfl (fun t ht hW => ⟨_, rfl, Or.inl ⟨rfl, hj⟩, ht⟩) (fun _ h => absurd h List.not_mem_nil) dX1_has_12
  · subst e1
    exact W.zret (v := 0) hx hb hr rfl (fun t ht hW => ⟨_, rfl, Or.inr ⟨rfl, hj⟩, ht⟩) (fun _ h => absurd h List.not_mem_nil) dX1_has_12
set_option maxHeartbeats 4000000 in
set_option maxRecDepth 100000 in
/-- ofBytes(a, b) -/
theorem mX1_ofBytes (l : Launch) (o : Nat) (a b : Int32) : Met l yX1_ofBytes (ws_ yX1_ofBytes cX1_ofBytes 3 (some .long)) ({ frames := 1, cells := 0, slots := 0, locals := 27 }) (va_Pc [.ref o, .int a, .int b] (fun U => True)) (vp_Sl (fun z => z = wd_v a b)) 0 0 (fun _ => False) := by
  refine Met.ofW (cc := cX1_ofBytes) (maxL := 3) (ret := (some .long)) (by decide) rfl ?_
  intro p e s m args below meth c s₁ B hml hv
  obtain ⟨rfl, -⟩ := hv
  have hx := B.exec
  have hb := B.bytes
  have hr := B.returns
  have hts := atoms_spec (ws := (ws_ yX1_ofBytes cX1_ofBytes 3 (some .long))) B.pre
  have hts : ∀ w ∈ lw_all, w.before _ s = true := fun w h => hts w (List.mem_cons_of_mem _ h)
  have hown : s.vm.findClass RX1 = some m.cls := findClass_of_methodNamed B.named
  have hlocks := B.notSynchronized
  have hl := lv_entry ([.ref o, .int a, .int b]) (n := 3) (Nat.le_of_ble_eq_true rfl)
  rw [lg_entry_eq]
  generalize (lg_sl ([.ref o, .int a, .int b]) ++ List.replicate (3 - (lg_sl ([.ref o, .int a, .int b])).length) Slot.unset).toArray = ls at hl ⊢
  have hl : lv_has ls 3 [(0, .ref o), (1, .int a), (2, .int b)] := hl
  refine lv_iload_n hx hb dX1_ofBytes_0 rfl (lv_at hl 1 rfl) ?_
  refine lv_bipush (v := 24) hx hb dX1_ofBytes_1 (by decide) ?_
  refine lv_ishr hx hb dX1_ofBytes_3 ?_
  refine lv_i2b (v := (a >>> ((24 : Int32) &&& 31)).toInt8.toInt32) hx hb dX1_ofBytes_4 rfl ?_
  refine lv_iload_n hx hb dX1_ofBytes_5 rfl (lv_at hl 1 rfl) ?_
  refine lv_bipush (v := 16) hx hb dX1_ofBytes_6 (by decide) ?_
  refine lv_ishr hx hb dX1_ofBytes_8 ?_
  refine lv_i2b (v := (a >>> ((16 : Int32) &&& 31)).toInt8.toInt32) hx hb dX1_ofBytes_9 rfl ?_
  refine lv_iload_n hx hb dX1_ofBytes_10 rfl (lv_at hl 1 rfl) ?_
  refine lv_bipush (v := 8) hx hb dX1_ofBytes_11 (by decide) ?_
  refine lv_ishr hx hb dX1_ofBytes_13 ?_
  refine lv_i2b (v := (a >>> ((8 : Int32) &&& 31)).toInt8.toInt32) hx hb dX1_ofBytes_14 rfl ?_
  refine lv_iload_n hx hb dX1_ofBytes_15 rfl (lv_at hl 1 rfl) ?_
  refine lv_i2b (v := a.toInt8.toInt32) hx hb dX1_ofBytes_16 rfl ?_
  refine lv_iload_n hx hb dX1_ofBytes_17 rfl (lv_at hl 2 rfl) ?_
  refine lv_bipush (v := 24) hx hb dX1_ofBytes_18 (by decide) ?_
  refine lv_ishr hx hb dX1_ofBytes_20 ?_
  refine lv_i2b (v := (b >>> ((24 : Int32) &&& 31)).toInt8.toInt32) hx hb dX1_ofBytes_21 rfl ?_
  refine lv_iload_n hx hb dX1_ofBytes_22 rfl (lv_at hl 2 rfl) ?_
  refine lv_bipush (v := 16) hx hb dX1_ofBytes_23 (by decide) ?_
  refine lv_ishr hx hb dX1_ofBytes_25 ?_
  refine lv_i2b (v := (b >>> ((16 : Int32) &&& 31)).toInt8.toInt32) hx hb dX1_ofBytes_26 rfl ?_
  refine lv_iload_n hx hb dX1_ofBytes_27 rfl (lv_at hl 2 rfl) ?_
  refine lv_bipush (v := 8) hx hb dX1_ofBytes_28 (by decide) ?_
  refine lv_ishr hx hb dX1_ofBytes_30 ?_
  refine lv_i2b (v := (b >>> ((8 : Int32) &&& 31)).toInt8.toInt32) hx hb dX1_ofBytes_31 rfl ?_
  refine lv_iload_n hx hb dX1_ofBytes_32 rfl (lv_at hl 2 rfl) ?_
  refine lv_i2b (v := b.toInt8.toInt32) hx hb dX1_ofBytes_33 rfl ?_
  refine vp_callSl (W.runS (As := [.int ((a >>> ((24 : Int32) &&& 31)).toInt8.toInt32), .int ((a >>> ((16 : Int32) &&& 31)).toInt8.toInt32), .int ((a >>> ((8 : Int32) &&& 31)).toInt8.toInt32), .int a.toInt8.toInt32, .int ((b >>> ((24 : Int32) &&& 31)).toInt8.toInt32), .int ((b >>> ((16 : Int32) &&& 31)).toInt8.toInt32), .int ((b >>> ((8 : Int32) &&& 31)).toInt8.toInt32), .int b.toInt8.toInt32]) (rest := []) ⟨hx, hb, hml, hown, hts⟩ (mX2_fromBytes l ((a >>> ((24 : Int32) &&& 31)).toInt8.toInt32) ((a >>> ((16 : Int32) &&& 31)).toInt8.toInt32) ((a >>> ((8 : Int32) &&& 31)).toInt8.toInt32) a.toInt8.toInt32 ((b >>> ((24 : Int32) &&& 31)).toInt8.toInt32) ((b >>> ((16 : Int32) &&& 31)).toInt8.toInt32) ((b >>> ((8 : Int32) &&& 31)).toInt8.toInt32) b.toInt8.toInt32) (va_cwS 8 hts (lw_S q231 q232 q5 q233) rfl rfl rfl (by decide +kernel) ⟨Nat.le_of_ble_eq_true rfl, Nat.le_of_ble_eq_true rfl⟩) ⟨fun _ _ _ _ q => q, fun _ _ _ => ⟨rfl, trivial⟩⟩ rfl rfl hl.1 rfl (lv_room (Nat.le_of_ble_eq_true rfl)) dX1_ofBytes_34 ⟨Nat.le_of_ble_eq_true rfl, Nat.le_of_ble_eq_true rfl⟩) (fun r_1 hr_1 => ?_)
  subst hr_1
  refine tp_l (y := wd_v a b) (fb_wd a b) ?_
  exact W.lret (v := wd_v a b) hx hb hr (fun t ht hW => ⟨_, rfl, rfl, ht⟩) (fun _ h => absurd h List.not_mem_nil) dX1_ofBytes_37
set_option maxHeartbeats 4000000 in
set_option maxRecDepth 100000 in
/-- within(i, j, k) -/
theorem mX1_within (l : Launch) (dC : Nat → ClassId) (dI : Nat → Nat → Nat) (o r : Nat) (d : ClassId) (f : Nat → Int64) (aS : Nat) (i j k : Int32) : Met l yX1_within (ws_ yX1_within cX1_within 8 (some .long)) ({ frames := 3, cells := 0, slots := 0, locals := 62 }) (va_Pc [.ref o, .int i, .int j, .int k] (fun U => va_P (dC, dI) cl_d [(o, .inr (0, [.ref r])), (r, .inl (d, 12, .inr (.inl f)))] U.heap ∧ va_K (dC, dI) cl_d [(d, .long)] U ∧ vk_R RX2 16 "min (%s) must be less than or equal to max (%s)" aS U)) (vp_Sl (fun z => z = hd_l (f (rn_v i 12)) (mi_l (f (rn_v j 12)) (f (rn_v k 12))) (ma_l (f (rn_v j 12)) (f (rn_v k 12))))) 0 0 (fun _ => False) := by
  refine Met.ofW (cc := cX1_within) (maxL := 8) (ret := (some .long)) (by decide) rfl ?_
  intro p e s m args below meth c s₁ B hml hv
  obtain ⟨rfl, hP, hK, hZ⟩ := hv
  have hx := B.exec
  have hb := B.bytes
  have hr := B.returns
  have hts := atoms_spec (ws := (ws_ yX1_within cX1_within 8 (some .long))) B.pre
  have hts : ∀ w ∈ lw_all, w.before _ s = true := fun w h => hts w (List.mem_cons_of_mem _ h)
  have hown : s.vm.findClass RX1 = some m.cls := findClass_of_methodNamed B.named
  have hlocks := B.notSynchronized
  have hl := lv_entry ([.ref o, .int i, .int j, .int k]) (n := 8) (Nat.le_of_ble_eq_true rfl)
  rw [lg_entry_eq]
  generalize (lg_sl ([.ref o, .int i, .int j, .int k]) ++ List.replicate (8 - (lg_sl ([.ref o, .int i, .int j, .int k])).length) Slot.unset).toArray = ls at hl ⊢
  have hl : lv_has ls 8 [(0, .ref o), (1, .int i), (2, .int j), (3, .int k)] := hl
  refine lv_aload_n hx hb dX1_within_0 rfl (lv_at hl 0 rfl) ?_
  refine va_get (D := (dC, dI)) (ci := 0) (v := .ref r) (C := RX1) (T := TX1) (N := 1) hx hb hts in_X1 hown hK hP 0 rfl rfl 0 (by decide) (hts _ q21) (fun _ h9 => h9) rfl dX1_within_1 ?_
  refine lv_iload_n hx hb dX1_within_4 rfl (lv_at hl 2 rfl) ?_
  refine lv_ldc hx hb hown (hts _ q30) dX1_within_5 ?_
  refine lv_iand hx hb dX1_within_7 ?_
  refine lv_bipush (v := 12) hx hb dX1_within_8 (by decide) ?_
  refine lv_irem hx hb dX1_within_10 (by decide) ?_
  refine tp_i (y := nI (rn_v j 12)) (rn_12 j) ?_
  refine va_lald hx hb hK hP 1 0 rfl rfl (rn_in j) dX1_within_11 ?_
  refine tp_l (y := f (rn_v j 12)) (by rw [rn_cl]) ?_
  refine lv_lstore (lv' := [(4, .long (f (rn_v j 12))), (0, .ref o), (1, .int i), (2, .int j), (3, .int k)]) hx hb dX1_within_12 hl (by decide) rfl (fun ls hl => ?_)
  refine lv_aload_n hx hb dX1_within_14 rfl (lv_at hl 1 rfl) ?_
  refine va_get (D := (dC, dI)) (ci := 0) (v := .ref r) (C := RX1) (T := TX1) (N := 1) hx hb hts in_X1 hown hK hP 0 rfl rfl 0 (by decide) (hts _ q21) (fun _ h9 => h9) rfl dX1_within_15 ?_
  refine lv_iload_n hx hb dX1_within_18 rfl (lv_at hl 4 rfl) ?_
  refine lv_ldc hx hb hown (hts _ q30) dX1_within_19 ?_
  refine lv_iand hx hb dX1_within_21 ?_
  refine lv_bipush (v := 12) hx hb dX1_within_22 (by decide) ?_
  refine lv_irem hx hb dX1_within_24 (by decide) ?_
  refine tp_i (y := nI (rn_v k 12)) (rn_12 k) ?_
  refine va_lald hx hb hK hP 1 0 rfl rfl (rn_in k) dX1_within_25 ?_
  refine tp_l (y := f (rn_v k 12)) (by rw [rn_cl]) ?_
  refine lv_lstore (lv' := [(6, .long (f (rn_v k 12))), (4, .long (f (rn_v j 12))), (0, .ref o), (1, .int i), (2, .int j), (3, .int k)]) hx hb dX1_within_26 hl (by decide) rfl (fun ls hl => ?_)
  refine lv_aload_n hx hb dX1_within_28 rfl (lv_at hl 2 rfl) ?_
  refine va_get (D := (dC, dI)) (ci := 0) (v := .ref r) (C := RX1) (T := TX1) (N := 1) hx hb hts in_X1 hown hK hP 0 rfl rfl 0 (by decide) (hts _ q21) (fun _ h9 => h9) rfl dX1_within_29 ?_
  refine lv_iload_n hx hb dX1_within_32 rfl (lv_at hl 3 rfl) ?_
  refine lv_ldc hx hb hown (hts _ q30) dX1_within_33 ?_
  refine lv_iand hx hb dX1_within_35 ?_
  refine lv_bipush (v := 12) hx hb dX1_within_36 (by decide) ?_
  refine lv_irem hx hb dX1_within_38 (by decide) ?_
  refine tp_i (y := nI (rn_v i 12)) (rn_12 i) ?_
  refine va_lald hx hb hK hP 1 0 rfl rfl (rn_in i) dX1_within_39 ?_
  refine tp_l (y := f (rn_v i 12)) (by rw [rn_cl]) ?_
  refine lv_lload hx hb dX1_within_40 (lv_at hl 1 rfl) ?_
  refine lv_lload hx hb dX1_within_42 (lv_at hl 0 rfl) ?_
  refine W.lcmp hx hb dX1_within_44 ?_
  refine lv_if_ge (tgt := 53) hx hb dX1_within_45 (by decide) (fun c_1 => ?_) (fun c_1 => ?_)
  · refine lv_lload hx hb dX1_within_53 (lv_at hl 0 rfl) ?_
    refine tp_l (y := mi_l (f (rn_v j 12)) (f (rn_v k 12))) (wi_1 c_1) ?_
    refine lv_lload hx hb dX1_within_55 (lv_at hl 1 rfl) ?_
    refine lv_lload hx hb dX1_within_57 (lv_at hl 0 rfl) ?_
    refine W.lcmp hx hb dX1_within_59 ?_
    refine lv_if_ge (tgt := 68) hx hb dX1_within_60 (by decide) (fun c_2 => ?_) (fun c_2 => ?_)
    · refine lv_lload hx hb dX1_within_68 (lv_at hl 1 rfl) ?_
      refine tp_l (y := ma_l (f (rn_v j 12)) (f (rn_v k 12))) (wa_1 c_2) ?_
      refine vp_callSl (W.runS (As := [.long (f (rn_v i 12)), .long (mi_l (f (rn_v j 12)) (f (rn_v k 12))), .long (ma_l (f (rn_v j 12)) (f (rn_v k 12)))]) (rest := []) ⟨hx, hb, hml, hown, hts⟩ (mX2_constrainToRange l aS (f (rn_v i 12)) (mi_l (f (rn_v j 12)) (f (rn_v k 12))) (ma_l (f (rn_v j 12)) (f (rn_v k 12))) (mi_ma _ _)) (va_cwS 3 hts (lw_S q247 q248 q5 q249) rfl rfl rfl (by decide +kernel) ⟨Nat.le_of_ble_eq_true rfl, Nat.le_of_ble_eq_true rfl⟩) ⟨fun _ _ _ _ q => ⟨q.1, vk_R.same rfl q.2⟩, fun U hU hW => ⟨rfl, vk_R.warm hW hZ⟩⟩ rfl rfl hl.1 rfl (lv_room (Nat.le_of_ble_eq_true rfl)) dX1_within_70 ⟨Nat.le_of_ble_eq_true rfl, Nat.le_of_ble_eq_true rfl⟩) (fun r_3 hr_3 => ?_)
      subst hr_3
      exact W.lret (v := hd_l (f (rn_v i 12)) (mi_l (f (rn_v j 12)) (f (rn_v k 12))) (ma_l (f (rn_v j 12)) (f (rn_v k 12)))) hx hb hr (fun t ht hW => ⟨_, rfl, rfl, ht⟩) (fun _ h => absurd h List.not_mem_nil) dX1_within_73
    · refine lv_lload hx hb dX1_within_63 (lv_at hl 0 rfl) ?_
      refine lv_goto (tgt := 70) hx hb dX1_within_65 (by decide) ?_
      refine tp_l (y := ma_l (f (rn_v j 12)) (f (rn_v k 12))) (wa_2 c_2) ?_
      refine vp_callSl (W.runS (As := [.long (f (rn_v i 12)), .long (mi_l (f (rn_v j 12)) (f (rn_v k 12))), .long (ma_l (f (rn_v j 12)) (f (rn_v k 12)))]) (rest := []) ⟨hx, hb, hml, hown, hts⟩ (mX2_constrainToRange l aS (f (rn_v i 12)) (mi_l (f (rn_v j 12)) (f (rn_v k 12))) (ma_l (f (rn_v j 12)) (f (rn_v k 12))) (mi_ma _ _)) (va_cwS 3 hts (lw_S q247 q248 q5 q249) rfl rfl rfl (by decide +kernel) ⟨Nat.le_of_ble_eq_true rfl, Nat.le_of_ble_eq_true rfl⟩) ⟨fun _ _ _ _ q => ⟨q.1, vk_R.same rfl q.2⟩, fun U hU hW => ⟨rfl, vk_R.warm hW hZ⟩⟩ rfl rfl hl.1 rfl (lv_room (Nat.le_of_ble_eq_true rfl)) dX1_within_70 ⟨Nat.le_of_ble_eq_true rfl, Nat.le_of_ble_eq_true rfl⟩) (fun r_4 hr_4 => ?_)
      subst hr_4
      exact W.lret (v := hd_l (f (rn_v i 12)) (mi_l (f (rn_v j 12)) (f (rn_v k 12))) (ma_l (f (rn_v j 12)) (f (rn_v k 12)))) hx hb hr (fun t ht hW => ⟨_, rfl, rfl, ht⟩) (fun _ h => absurd h List.not_mem_nil) dX1_within_73
  · refine lv_lload hx hb dX1_within_48 (lv_at hl 1 rfl) ?_
    refine lv_goto (tgt := 55) hx hb dX1_within_50 (by decide) ?_
    refine tp_l (y := mi_l (f (rn_v j 12)) (f (rn_v k 12))) (wi_2 c_1) ?_
    refine lv_lload hx hb dX1_within_55 (lv_at hl 1 rfl) ?_
    refine lv_lload hx hb dX1_within_57 (lv_at hl 0 rfl) ?_
    refine W.lcmp hx hb dX1_within_59 ?_
    refine lv_if_ge (tgt := 68) hx hb dX1_within_60 (by decide) (fun c_5 => ?_) (fun c_5 => ?_)
    · refine lv_lload hx hb dX1_within_68 (lv_at hl 1 rfl) ?_
      refine tp_l (y := ma_l (f (rn_v j 12)) (f (rn_v k 12))) (wa_1 c_5) ?_
      refine vp_callSl (W.runS (As := [.long (f (rn_v i 12)), .long (mi_l (f (rn_v j 12)) (f (rn_v k 12))), .long (ma_l (f (rn_v j 12)) (f (rn_v k 12)))]) (rest := []) ⟨hx, hb, hml, hown, hts⟩ (mX2_constrainToRange l aS (f (rn_v i 12)) (mi_l (f (rn_v j 12)) (f (rn_v k 12))) (ma_l (f (rn_v j 12)) (f (rn_v k 12))) (mi_ma _ _)) (va_cwS 3 hts (lw_S q247 q248 q5 q249) rfl rfl rfl (by decide +kernel) ⟨Nat.le_of_ble_eq_true rfl, Nat.le_of_ble_eq_true rfl⟩) ⟨fun _ _ _ _ q => ⟨q.1, vk_R.same rfl q.2⟩, fun U hU hW => ⟨rfl, vk_R.warm hW hZ⟩⟩ rfl rfl hl.1 rfl (lv_room (Nat.le_of_ble_eq_true rfl)) dX1_within_70 ⟨Nat.le_of_ble_eq_true rfl, Nat.le_of_ble_eq_true rfl⟩) (fun r_6 hr_6 => ?_)
      subst hr_6
      exact W.lret (v := hd_l (f (rn_v i 12)) (mi_l (f (rn_v j 12)) (f (rn_v k 12))) (ma_l (f (rn_v j 12)) (f (rn_v k 12)))) hx hb hr (fun t ht hW => ⟨_, rfl, rfl, ht⟩) (fun _ h => absurd h List.not_mem_nil) dX1_within_73
    · refine lv_lload hx hb dX1_within_63 (lv_at hl 0 rfl) ?_
      refine lv_goto (tgt := 70) hx hb dX1_within_65 (by decide) ?_
      refine tp_l (y := ma_l (f (rn_v j 12)) (f (rn_v k 12))) (wa_2 c_5) ?_
      refine vp_callSl (W.runS (As := [.long (f (rn_v i 12)), .long (mi_l (f (rn_v j 12)) (f (rn_v k 12))), .long (ma_l (f (rn_v j 12)) (f (rn_v k 12)))]) (rest := []) ⟨hx, hb, hml, hown, hts⟩ (mX2_constrainToRange l aS (f (rn_v i 12)) (mi_l (f (rn_v j 12)) (f (rn_v k 12))) (ma_l (f (rn_v j 12)) (f (rn_v k 12))) (mi_ma _ _)) (va_cwS 3 hts (lw_S q247 q248 q5 q249) rfl rfl rfl (by decide +kernel) ⟨Nat.le_of_ble_eq_true rfl, Nat.le_of_ble_eq_true rfl⟩) ⟨fun _ _ _ _ q => ⟨q.1, vk_R.same rfl q.2⟩, fun U hU hW => ⟨rfl, vk_R.warm hW hZ⟩⟩ rfl rfl hl.1 rfl (lv_room (Nat.le_of_ble_eq_true rfl)) dX1_within_70 ⟨Nat.le_of_ble_eq_true rfl, Nat.le_of_ble_eq_true rfl⟩) (fun r_7 hr_7 => ?_)
      subst hr_7
      exact W.lret (v := hd_l (f (rn_v i 12)) (mi_l (f (rn_v j 12)) (f (rn_v k 12))) (ma_l (f (rn_v j 12)) (f (rn_v k 12)))) hx hb hr (fun t ht hW => ⟨_, rfl, rfl, ht⟩) (fun _ h => absurd h List.not_mem_nil) dX1_within_73
set_option maxHeartbeats 4000000 in
set_option maxRecDepth 100000 in
/-- set(i, h, w) -/
theorem mX1_set (l : Launch) (dC : Nat → ClassId) (dI : Nat → Nat → Nat) (sz : Nat) (o r : Nat) (d : ClassId) (f : Nat → Int64) (i h w : Int32) : Met l yX1_set (ws_ yX1_set cX1_set 4 none) ({ frames := 1, cells := 0, slots := 0, locals := 21 }) (va_Pc [.ref o, .int i, .int h, .int w] (fun U => U.heap.size = sz ∧ va_P (dC, dI) cl_d [(o, .inr (0, [.ref r])), (r, .inl (d, 12, .inr (.inl f)))] U.heap ∧ va_K (dC, dI) cl_d [(d, .long)] U ∧ va_D (fun _ => True) [(o, .inr (0, [.ref r])), (r, .inl (d, 12, .inr (.inl f)))])) (va_Qv (fun _ : Unit => True) (fun _ t => va_P (dC, dI) cl_d [(o, .inr (0, [.ref r])), (r, .inl (d, 12, .inr (.inl (vp_updL f (rn_v i 12) (wd_v h w)))))] t.heap ∧ va_D (va_A [(o, .inr (0, [.ref r])), (r, .inl (d, 12, .inr (.inl f)))] sz) [(o, .inr (0, [.ref r])), (r, .inl (d, 12, .inr (.inl (vp_updL f (rn_v i 12) (wd_v h w)))))]) (va_A [(o, .inr (0, [.ref r])), (r, .inl (d, 12, .inr (.inl f)))] sz)) 0 0 ((va_A [(o, .inr (0, [.ref r])), (r, .inl (d, 12, .inr (.inl f)))] sz)) := by
  refine Met.ofW (cc := cX1_set) (maxL := 4) (ret := none) (by decide) rfl ?_
  intro p e s m args below meth c s₁ B hml hv
  obtain ⟨rfl, hsz, hP, hK, hD0⟩ := hv
  have hx := B.exec
  have hb := B.bytes
  have hr := B.returns
  have hts := atoms_spec (ws := (ws_ yX1_set cX1_set 4 none)) B.pre
  have hts : ∀ w ∈ lw_all, w.before _ s = true := fun w h => hts w (List.mem_cons_of_mem _ h)
  have hown : s.vm.findClass RX1 = some m.cls := findClass_of_methodNamed B.named
  have hlocks := B.notSynchronized
  subst hsz
  have hD := hD0.self (sz := s.heap.size)
  have hA : ∀ q : Nat, s.heap.size ≤ q → (va_A [(o, .inr (0, [.ref r])), (r, .inl (d, 12, .inr (.inl f)))] s.heap.size) q := fun q h => Or.inr h
  have hS : va_S (va_A [(o, .inr (0, [.ref r])), (r, .inl (d, 12, .inr (.inl f)))] s.heap.size) s.heap s.heap [] := va_S.rf
  have hP : va_P (dC, dI) cl_d [(o, .inr (0, [.ref r])), (r, .inl (d, 12, .inr (.inl f)))] s.heap := hP
  have hl := lv_entry ([.ref o, .int i, .int h, .int w]) (n := 4) (Nat.le_of_ble_eq_true rfl)
  rw [lg_entry_eq]
  generalize (lg_sl ([.ref o, .int i, .int h, .int w]) ++ List.replicate (4 - (lg_sl ([.ref o, .int i, .int h, .int w])).length) Slot.unset).toArray = ls at hl ⊢
  have hl : lv_has ls 4 [(0, .ref o), (1, .int i), (2, .int h), (3, .int w)] := hl
  refine lv_aload_n hx hb dX1_set_0 rfl (lv_at hl 0 rfl) ?_
  refine va_get (D := (dC, dI)) (ci := 0) (v := .ref r) (C := RX1) (T := TX1) (N := 1) hx hb hts in_X1 hown hK hP 0 rfl rfl 0 (by decide) (hts _ q21) (fun _ h9 => h9) rfl dX1_set_1 ?_
  refine lv_iload_n hx hb dX1_set_4 rfl (lv_at hl 1 rfl) ?_
  refine lv_ldc hx hb hown (hts _ q30) dX1_set_5 ?_
  refine lv_iand hx hb dX1_set_7 ?_
  refine lv_bipush (v := 12) hx hb dX1_set_8 (by decide) ?_
  refine lv_irem hx hb dX1_set_10 (by decide) ?_
  refine tp_i (y := nI (rn_v i 12)) (rn_12 i) ?_
  refine lv_iload_n hx hb dX1_set_11 rfl (lv_at hl 2 rfl) ?_
  refine lv_iload_n hx hb dX1_set_12 rfl (lv_at hl 3 rfl) ?_
  refine vp_callSl (W.runS (As := [.int h, .int w]) (rest := [.int (nI (rn_v i 12)), .ref r]) ⟨hx, hb, hml, hown, hts⟩ (mX1_wide l h w) (va_cwS 2 hts (lw_S q31 q32 q4 q33) rfl rfl rfl (by decide +kernel) ⟨Nat.le_of_ble_eq_true rfl, Nat.le_of_ble_eq_true rfl⟩) ⟨fun _ _ _ _ q => q, fun _ _ _ => ⟨rfl, trivial⟩⟩ rfl rfl hl.1 rfl (lv_room (Nat.le_of_ble_eq_true rfl)) dX1_set_13 ⟨Nat.le_of_ble_eq_true rfl, Nat.le_of_ble_eq_true rfl⟩) (fun r_1 hr_1 => ?_)
  subst hr_1
  refine va_last hx hb hK hP hD hS 1 0 rfl rfl (rn_in i) dX1_set_16 (fun H locs hP hD hS => ?_)
  have hP : va_P (dC, dI) cl_d [(o, .inr (0, [.ref r])), (r, .inl (d, 12, .inr (.inl (vp_updL f (nI (rn_v i 12)).toNatClampNeg (wd_v h w)))))] H := hP
  have hD : va_D (va_A [(o, .inr (0, [.ref r])), (r, .inl (d, 12, .inr (.inl f)))] s.heap.size) [(o, .inr (0, [.ref r])), (r, .inl (d, 12, .inr (.inl (vp_updL f (nI (rn_v i 12)).toNatClampNeg (wd_v h w)))))] := hD
  rw [rn_cl] at hP hD
  exact W.vret hx hb hr (fun t ht hW => ⟨⟨(), rfl, trivial, by rw [ht]; exact hP, hD⟩, hS.F ht⟩) hS.2.2 dX1_set_17
set_option maxHeartbeats 4000000 in
set_option maxRecDepth 100000 in
/-- reverse(fi, ti) -/
theorem mX1_reverse (l : Launch) (dC : Nat → ClassId) (dI : Nat → Nat → Nat) (sz : Nat) (o r : Nat) (d : ClassId) (f : Nat → Int64) (fi ti : Int32) : Met l yX1_reverse (ws_ yX1_reverse cX1_reverse 4 none) ({ frames := 3, cells := 0, slots := 0, locals := 60 }) (va_Pc [.ref o, .int fi, .int ti] (fun U => U.heap.size = sz ∧ va_P (dC, dI) cl_d [(o, .inr (0, [.ref r])), (r, .inl (d, 12, .inr (.inl f)))] U.heap ∧ va_K (dC, dI) cl_d [(d, .long)] U ∧ va_D (fun _ => True) [(o, .inr (0, [.ref r])), (r, .inl (d, 12, .inr (.inl f)))])) (va_Qv (fun _ : Unit => True) (fun _ t => va_P (dC, dI) cl_d [(o, .inr (0, [.ref r])), (r, .inl (d, 12, .inr (.inl (rv_f f (rn_v fi 13) (rn_v fi 13 + rn_v ti (13 - rn_v fi 13))))))] t.heap ∧ va_D (va_A [(o, .inr (0, [.ref r])), (r, .inl (d, 12, .inr (.inl f)))] sz) [(o, .inr (0, [.ref r])), (r, .inl (d, 12, .inr (.inl (rv_f f (rn_v fi 13) (rn_v fi 13 + rn_v ti (13 - rn_v fi 13))))))]) (va_A [(o, .inr (0, [.ref r])), (r, .inl (d, 12, .inr (.inl f)))] sz)) 0 0 ((va_A [(o, .inr (0, [.ref r])), (r, .inl (d, 12, .inr (.inl f)))] sz)) := by
  refine Met.ofW (cc := cX1_reverse) (maxL := 4) (ret := none) (by decide) rfl ?_
  intro p e s m args below meth c s₁ B hml hv
  obtain ⟨rfl, hsz, hP, hK, hD0⟩ := hv
  have hx := B.exec
  have hb := B.bytes
  have hr := B.returns
  have hts := atoms_spec (ws := (ws_ yX1_reverse cX1_reverse 4 none)) B.pre
  have hts : ∀ w ∈ lw_all, w.before _ s = true := fun w h => hts w (List.mem_cons_of_mem _ h)
  have hown : s.vm.findClass RX1 = some m.cls := findClass_of_methodNamed B.named
  have hlocks := B.notSynchronized
  subst hsz
  have hD := hD0.self (sz := s.heap.size)
  have hA : ∀ q : Nat, s.heap.size ≤ q → (va_A [(o, .inr (0, [.ref r])), (r, .inl (d, 12, .inr (.inl f)))] s.heap.size) q := fun q h => Or.inr h
  have hS : va_S (va_A [(o, .inr (0, [.ref r])), (r, .inl (d, 12, .inr (.inl f)))] s.heap.size) s.heap s.heap [] := va_S.rf
  have hP : va_P (dC, dI) cl_d [(o, .inr (0, [.ref r])), (r, .inl (d, 12, .inr (.inl f)))] s.heap := hP
  have hl := lv_entry ([.ref o, .int fi, .int ti]) (n := 4) (Nat.le_of_ble_eq_true rfl)
  rw [lg_entry_eq]
  generalize (lg_sl ([.ref o, .int fi, .int ti]) ++ List.replicate (4 - (lg_sl ([.ref o, .int fi, .int ti])).length) Slot.unset).toArray = ls at hl ⊢
  have hl : lv_has ls 4 [(0, .ref o), (1, .int fi), (2, .int ti)] := hl
  refine lv_aload_n hx hb dX1_reverse_0 rfl (lv_at hl 0 rfl) ?_
  refine lv_iload_n hx hb dX1_reverse_1 rfl (lv_at hl 1 rfl) ?_
  refine vp_callSi (W.runV (As := [.int fi]) (rest := []) ⟨hx, hb, hml, hown, hts⟩ (mX1_from l o fi) (cwV 1 hts (lw_V q39 q41 qs0 q4 q42) rfl rfl rfl (by decide +kernel) ⟨Nat.le_of_ble_eq_true rfl, Nat.le_of_ble_eq_true rfl⟩) ⟨fun _ _ _ _ q => q, (va_recv hK hP (ci := 0) (q0 := 0) rfl rfl), fun _ _ _ => ⟨rfl, trivial⟩⟩ rfl rfl hl.1 rfl (lv_room (Nat.le_of_ble_eq_true rfl)) dX1_reverse_2 ⟨Nat.le_of_ble_eq_true rfl, Nat.le_of_ble_eq_true rfl⟩) (fun r_1 hr_1 => ?_)
  subst hr_1
  refine lv_istore_n (lv' := [(3, .int (nI (rn_v fi 13))), (0, .ref o), (1, .int fi), (2, .int ti)]) hx hb dX1_reverse_5 rfl hl (by decide) rfl (fun ls hl => ?_)
  refine lv_aload_n hx hb dX1_reverse_6 rfl (lv_at hl 1 rfl) ?_
  refine va_get (D := (dC, dI)) (ci := 0) (v := .ref r) (C := RX1) (T := TX1) (N := 1) hx hb hts in_X1 hown hK hP 0 rfl rfl 0 (by decide) (hts _ q21) (fun _ h9 => h9) rfl dX1_reverse_7 ?_
  refine lv_iload_n hx hb dX1_reverse_10 rfl (lv_at hl 0 rfl) ?_
  refine lv_aload_n hx hb dX1_reverse_11 rfl (lv_at hl 1 rfl) ?_
  refine lv_iload_n hx hb dX1_reverse_12 rfl (lv_at hl 0 rfl) ?_
  refine lv_iload_n hx hb dX1_reverse_13 rfl (lv_at hl 3 rfl) ?_
  refine vp_callSi (W.runV (As := [.int (nI (rn_v fi 13)), .int ti]) (rest := [.int (nI (rn_v fi 13)), .ref r]) ⟨hx, hb, hml, hown, hts⟩ (mX1_to l o (rn_v fi 13) ti (Nat.le_of_lt_succ (rn_lt13 fi))) (cwV 2 hts (lw_V q43 q45 qs1 q4 q46) rfl rfl rfl (by decide +kernel) ⟨Nat.le_of_ble_eq_true rfl, Nat.le_of_ble_eq_true rfl⟩) ⟨fun _ _ _ _ q => q, (va_recv hK hP (ci := 0) (q0 := 0) rfl rfl), fun _ _ _ => ⟨rfl, trivial⟩⟩ rfl rfl hl.1 rfl (lv_room (Nat.le_of_ble_eq_true rfl)) dX1_reverse_14 ⟨Nat.le_of_ble_eq_true rfl, Nat.le_of_ble_eq_true rfl⟩) (fun r_2 hr_2 => ?_)
  subst hr_2
  have hPc := hP.sub (ws' := [(r, .inl (d, 12, .inr (.inl f)))]) [1] rfl
  have hDc := hD.sub (ws' := [(r, .inl (d, 12, .inr (.inl f)))]) [1] (by decide) rfl
  have hKc := hK.sub (tys' := [(d, .long)]) [0] rfl
  have hFc := va_free (wc := [(r, .inl (d, 12, .inr (.inl f)))]) hD hS hA [1] rfl
  refine va_callv (va_runS (As := [.ref r, .int (nI (rn_v fi 13)), .int (nI (rn_v fi 13 + rn_v ti (13 - rn_v fi 13)))]) (rest := []) ⟨hx, hb, hml, hown, hts⟩ (mX2_reverse l dC dI s.heap.size r d f (rn_v fi 13) (rn_v fi 13 + rn_v ti (13 - rn_v fi 13)) (Nat.le_add_right _ _) (lo_13 fi ti)) (va_cwS 3 hts (lw_S q47 q48 q5 q49) rfl rfl rfl (by decide +kernel) ⟨Nat.le_of_ble_eq_true rfl, Nat.le_of_ble_eq_true rfl⟩) ⟨fun a U g mk q => ⟨q.1, q.2.1, q.2.2.1, va_K.moved (u := U) (U := U.calling g mk a) (Vm.Alike.refl U.vm) q.2.2.2.1, q.2.2.2.2⟩, fun U hU hW => ⟨rfl, by rw [hU], by rw [hU]; exact hPc, va_K.moved hW.alike hKc, hDc.weaken (fun _ _ _ _ => trivial)⟩⟩ rfl rfl hl.1 rfl (lv_room (Nat.le_of_ble_eq_true rfl)) dX1_reverse_17 ⟨Nat.le_of_ble_eq_true rfl, Nat.le_of_ble_eq_true rfl⟩) hS (fun q _ h => hFc q h) hFc (fun u t H1 locs ht hvm hw1 hB hz1 hk1 hS => ?_)
  obtain ⟨hP1, hD1⟩ := hB
  rw [ht] at hP1
  obtain ⟨hP, hD⟩ := va_join (wr := [(o, .inr (0, [.ref r]))]) (w1 := [(r, .inl (d, 12, .inr (.inl (rv_f f (rn_v fi 13) (rn_v fi 13 + rn_v ti (13 - rn_v fi 13))))))]) hP hD [1] [0] rfl rfl (by decide) (by decide) hk1 hFc hP1 hD1
  clear hPc hDc hFc hP1 hD1
  generalize H1 = H at hP hS ⊢
  have hP : va_P (dC, dI) cl_d [(o, .inr (0, [.ref r])), (r, .inl (d, 12, .inr (.inl (rv_f f (rn_v fi 13) (rn_v fi 13 + rn_v ti (13 - rn_v fi 13))))))] H := hP
  have hD : va_D (va_A [(o, .inr (0, [.ref r])), (r, .inl (d, 12, .inr (.inl f)))] s.heap.size) [(o, .inr (0, [.ref r])), (r, .inl (d, 12, .inr (.inl (rv_f f (rn_v fi 13) (rn_v fi 13 + rn_v ti (13 - rn_v fi 13))))))] := hD
  exact W.vret hx hb hr (fun t ht hW => ⟨⟨(), rfl, trivial, by rw [ht]; exact hP, hD⟩, hS.F ht⟩) hS.2.2 dX1_reverse_20
set_option maxHeartbeats 4000000 in
set_option maxRecDepth 100000 in
/-- letter(i, k): a new array of bytes, one of them read -/
theorem mX1_letter (l : Launch) (dC : Nat → ClassId) (dI : Nat → Nat → Nat) (sz : Nat) (o r : Nat) (d : ClassId) (f : Nat → Int64) (i k : Int32) : Met l yX1_letter (ws_ yX1_letter cX1_letter 3 (some .int)) ({ frames := 1, cells := 1, slots := 8, locals := 23 }) (va_Pc [.ref o, .int i, .int k] (fun U => U.heap.size = sz ∧ va_P (dC, dI) cl_d [(o, .inr (0, [.ref r])), (r, .inl (d, 12, .inr (.inl f)))] U.heap ∧ va_K (dC, dI) cl_d [(d, .long)] U)) (va_Qi (fun (z : Int32) (_ : Unit) => z = lt_v (f (rn_v i 12)) (sv_n k)) (fun _ _ => True) (fun q : Nat => sz ≤ q)) 1 8 (fun q : Nat => sz ≤ q) := by
  refine Met.ofW (cc := cX1_letter) (maxL := 3) (ret := (some .int)) (by decide) rfl ?_
  intro p e s m args below meth c s₁ B hml hv
  obtain ⟨rfl, hsz, hP, hK⟩ := hv
  have hx := B.exec
  have hb := B.bytes
  have hr := B.returns
  have hts := atoms_spec (ws := (ws_ yX1_letter cX1_letter 3 (some .int))) B.pre
  have hts : ∀ w ∈ lw_all, w.before _ s = true := fun w h => hts w (List.mem_cons_of_mem _ h)
  have hown : s.vm.findClass RX1 = some m.cls := findClass_of_methodNamed B.named
  have hlocks := B.notSynchronized
  subst hsz
  have hS : va_S (fun q : Nat => s.heap.size ≤ q) s.heap s.heap [] := va_S.rf
  have hl := lv_entry ([.ref o, .int i, .int k]) (n := 3) (Nat.le_of_ble_eq_true rfl)
  rw [lg_entry_eq]
  generalize (lg_sl ([.ref o, .int i, .int k]) ++ List.replicate (3 - (lg_sl ([.ref o, .int i, .int k])).length) Slot.unset).toArray = ls at hl ⊢
  have hl : lv_has ls 3 [(0, .ref o), (1, .int i), (2, .int k)] := hl
  refine lv_aload_n hx hb dX1_letter_0 rfl (lv_at hl 0 rfl) ?_
  refine va_get (D := (dC, dI)) (ci := 0) (v := .ref r) (C := RX1) (T := TX1) (N := 1) hx hb hts in_X1 hown hK hP 0 rfl rfl 0 (by decide) (hts _ q21) (fun _ h9 => h9) rfl dX1_letter_1 ?_
  refine lv_iload_n hx hb dX1_letter_4 rfl (lv_at hl 1 rfl) ?_
  refine lv_ldc hx hb hown (hts _ q30) dX1_letter_5 ?_
  refine lv_iand hx hb dX1_letter_7 ?_
  refine lv_bipush (v := 12) hx hb dX1_letter_8 (by decide) ?_
  refine lv_irem hx hb dX1_letter_10 (by decide) ?_
  refine tp_i (y := nI (rn_v i 12)) (rn_12 i) ?_
  refine va_lald hx hb hK hP 1 0 rfl rfl (rn_in i) dX1_letter_11 ?_
  refine tp_l (y := f (rn_v i 12)) (by rw [rn_cl]) ?_
  have hKc := hK.sub (tys' := []) [] rfl
  refine va_callr (va_runS (As := [.long (f (rn_v i 12))]) (rest := []) ⟨hx, hb, hml, hown, hts⟩ (mX2_toByteArray l dC dI s.heap.size (f (rn_v i 12))) (va_cwS 1 hts (lw_S q222 q223 q5 q224) rfl rfl rfl (by decide +kernel) ⟨Nat.le_of_ble_eq_true rfl, Nat.le_of_ble_eq_true rfl⟩) ⟨fun a U g mk q => ⟨q.1, q.2.1, va_K.moved (u := U) (U := U.calling g mk a) (Vm.Alike.refl U.vm) q.2.2⟩, fun U hU hW => ⟨rfl, by rw [hU], va_K.moved hW.alike hKc⟩⟩ rfl rfl hl.1 rfl (lv_room (Nat.le_of_ble_eq_true rfl)) dX1_letter_12 ⟨Nat.le_of_ble_eq_true rfl, Nat.le_of_ble_eq_true rfl⟩) hS (fun q _ h => h) (fun q h => h) (fun u qb t H locs ht hvm hw hB hz1 hk1 hS => ?_)
  obtain ⟨cB, g⟩ := u
  obtain ⟨hP1, hK1, hD1⟩ := hB
  rw [ht] at hP1
  have hK := va_K.moved hvm.symm hK1
  have hP : va_P (dC, dI) cl_d [(qb, .inl (cB, 8, .inl g))] H := hP1
  have hK : va_K (dC, dI) cl_d [(cB, .byte)] s := hK
  have hw : ∀ j, j < 8 → g j &&& 255 = lt_v (f (rn_v i 12)) j := hw
  refine lv_iload_n hx hb dX1_letter_15 rfl (lv_at hl 2 rfl) ?_
  refine lv_bipush (v := 7) hx hb dX1_letter_16 (by decide) ?_
  refine lv_iand hx hb dX1_letter_18 ?_
  refine tp_i (y := nI (sv_n k)) (sv_eq k) ?_
  refine va_bald hx hb hK hP 0 0 rfl rfl (vp_in_nI (sv_lt k) (by decide)) dX1_letter_19 ?_
  refine lv_sipush (v := 255) hx hb dX1_letter_20 (by decide) ?_
  refine lv_iand hx hb dX1_letter_23 ?_
  refine tp_i (y := lt_v (f (rn_v i 12)) (sv_n k)) (by rw [nI_clamp (Nat.lt_trans (sv_lt k) (by decide))]; exact hw _ (sv_lt k)) ?_
  exact W.iret (v := lt_v (f (rn_v i 12)) (sv_n k)) hx hb hr (fun t ht hW => ⟨⟨_, (), rfl, rfl, trivial⟩, hS.F ht⟩) hS.2.2 dX1_letter_24
set_option maxHeartbeats 4000000 in
set_option maxRecDepth 100000 in
/-- LongRowDesk(): a row of twelve noughts -/
theorem mX1_init (l : Launch) (dC : Nat → ClassId) (dI : Nat → Nat → Nat) (sz o : Nat) : Met l yX1_init (ws_ yX1_init cX1_init 1 none) ({ frames := 1, cells := 1, slots := 12, locals := 12 }) (va_Pc [.ref o] (fun U => U.heap.size = sz ∧ va_P (dC, dI) cl_d [(o, .inr (0, [.null]))] U.heap ∧ va_K (dC, dI) cl_d [] U ∧ va_D (fun _ => True) [(o, .inr (0, [.null]))])) (va_Qv (fun _ : Nat × ClassId => True) (fun u t => va_P (dC, dI) cl_d [(o, .inr (0, [.ref u.1])), (u.1, .inl (u.2, 12, .inr (.inl (fun _ => 0))))] t.heap ∧ va_K (dC, dI) cl_d [(u.2, .long)] t ∧ va_D (va_A [(o, .inr (0, [.null]))] sz) [(o, .inr (0, [.ref u.1])), (u.1, .inl (u.2, 12, .inr (.inl (fun _ => 0))))]) (va_A [(o, .inr (0, [.null]))] sz)) 1 12 ((va_A [(o, .inr (0, [.null]))] sz)) := by
  refine Met.ofW (cc := cX1_init) (maxL := 1) (ret := none) (by decide) rfl ?_
  intro p e s m args below meth c s₁ B hml hv
  obtain ⟨rfl, hsz, hP, hK, hD0⟩ := hv
  have hx := B.exec
  have hb := B.bytes
  have hr := B.returns
  have hts := atoms_spec (ws := (ws_ yX1_init cX1_init 1 none)) B.pre
  have hts : ∀ w ∈ lw_all, w.before _ s = true := fun w h => hts w (List.mem_cons_of_mem _ h)
  have hown : s.vm.findClass RX1 = some m.cls := findClass_of_methodNamed B.named
  have hlocks := B.notSynchronized
  have hin : meth.name = "<init>" := (name_of_methodNamed B.named B.method).1
  subst hsz
  have hD := hD0.self (sz := s.heap.size)
  have hA : ∀ q : Nat, s.heap.size ≤ q → (va_A [(o, .inr (0, [.null]))] s.heap.size) q := fun q h => Or.inr h
  have hS : va_S (va_A [(o, .inr (0, [.null]))] s.heap.size) s.heap s.heap [] := va_S.rf
  have hP : va_P (dC, dI) cl_d [(o, .inr (0, [.null]))] s.heap := hP
  have hl := lv_entry ([.ref o]) (n := 1) (Nat.le_of_ble_eq_true rfl)
  rw [lg_entry_eq]
  generalize (lg_sl ([.ref o]) ++ List.replicate (1 - (lg_sl ([.ref o])).length) Slot.unset).toArray = ls at hl ⊢
  have hl : lv_has ls 1 [(0, .ref o)] := hl
  refine lv_aload_n hx hb dX1_init_0 rfl (lv_at hl 0 rfl) ?_
  refine W.objInit hx hb hown (hts _ q18) (hts _ q19) (hts _ q20) rfl (by rw [hml]; exact hl.1) rfl dX1_init_1 (Nat.le_of_ble_eq_true rfl) (Nat.le_of_ble_eq_true rfl) ?_
  refine W.eq (g2 := F0 m 4 ls []) rfl ?_
  refine lv_aload_n hx hb dX1_init_4 rfl (lv_at hl 0 rfl) ?_
  refine lv_bipush (v := 12) hx hb dX1_init_5 (by decide) ?_
  refine va_newa (atype := .long) hx hb (hts _ q25) (ty := .long) rfl hK hP hD hS hA (N' := 12) (a0 := (12, .inr (.inl (fun _ => 0)))) (fun _ => rfl) (by decide) (by decide) (by decide) (Nat.le_of_ble_eq_true rfl) (Nat.le_of_ble_eq_true rfl) dX1_init_7 (fun r cJ H hK hP hD hS => ?_)
  have hP : va_P (dC, dI) cl_d [(o, .inr (0, [.null])), (r, .inl (cJ, 12, .inr (.inl (fun _ => 0))))] H := hP
  have hD : va_D (va_A [(o, .inr (0, [.null]))] s.heap.size) [(o, .inr (0, [.null])), (r, .inl (cJ, 12, .inr (.inl (fun _ => 0))))] := hD
  have hK : va_K (dC, dI) cl_d [(cJ, .long)] s := hK
  refine W.widen (k := 1) (n := 12) (Nat.le_refl _) (Nat.le_refl _) ?_
  refine va_putF (D := (dC, dI)) (ci := 0) (v := .ref r) (ty := .array .long) (C := RX1) (T := TX1) (N := 1) hx hb hts in_X1 tyX1 tyX1_ok nmX1 hown hK hP hD hS 0 rfl rfl 0 (by decide) (hts _ q21) (fun _ h9 => h9) rfl hin rfl (by decide +kernel) rfl rfl (Nat.le_of_ble_eq_true rfl) dX1_init_9 (fun H locs hP hD hS => ?_)
  have hP : va_P (dC, dI) cl_d [(o, .inr (0, [.ref r])), (r, .inl (cJ, 12, .inr (.inl (fun _ => 0))))] H := hP
  have hD : va_D (va_A [(o, .inr (0, [.null]))] s.heap.size) [(o, .inr (0, [.ref r])), (r, .inl (cJ, 12, .inr (.inl (fun _ => 0))))] := hD
  exact W.vret hx hb hr (fun t ht hW => ⟨⟨(r, cJ), rfl, trivial, by rw [ht]; exact hP, va_K.moved hW.alike hK, hD⟩, hS.F ht⟩) hS.2.2 dX1_init_12
end
section
/-! the law's own methods: their contracts -/
set_option maxHeartbeats 4000000 in
set_option maxRecDepth 100000 in
/-- cell(s, k): some int -/
theorem mX0_cell (l : Launch) (dC : Nat → ClassId) (dI : Nat → Nat → Nat) (b L : Nat) (xs : Nat → Int32) (k : Nat) (hL : L ≤ 96) (hk : k < 2 ^ 31) : Met l yX0_cell (ws_ yX0_cell cX0_cell 2 (some .int)) ({ frames := 0, cells := 0, slots := 0, locals := 0 }) (va_Pc [.ref b, .int (nI k)] (fun U => va_X b L xs U U.heap)) (vp_Si (fun _ => True)) 0 0 (fun _ => False) := by
  refine Met.ofW (cc := cX0_cell) (maxL := 2) (ret := (some .int)) (by decide) rfl ?_
  intro p e s m args below meth c s₁ B hml hv
  obtain ⟨rfl, hX⟩ := hv
  have hx := B.exec
  have hb := B.bytes
  have hr := B.returns
  have hts := atoms_spec (ws := (ws_ yX0_cell cX0_cell 2 (some .int))) B.pre
  have hts : ∀ w ∈ lw_all, w.before _ s = true := fun w h => hts w (List.mem_cons_of_mem _ h)
  have hown : s.vm.findClass RX0 = some m.cls := findClass_of_methodNamed B.named
  have hlocks := B.notSynchronized
  have hbl : b < s.heap.size := (Array.getElem?_eq_some_iff.mp hX.choose_spec.1).1
  have hl := lv_entry ([.ref b, .int (nI k)]) (n := 2) (Nat.le_of_ble_eq_true rfl)
  rw [lg_entry_eq]
  generalize (lg_sl ([.ref b, .int (nI k)]) ++ List.replicate (2 - (lg_sl ([.ref b, .int (nI k)])).length) Slot.unset).toArray = ls at hl ⊢
  have hl : lv_has ls 2 [(0, .ref b), (1, .int (nI k))] := hl
  refine lv_iload_n hx hb dX0_cell_0 rfl (lv_at hl 1 rfl) ?_
  refine lv_aload_n hx hb dX0_cell_1 rfl (lv_at hl 0 rfl) ?_
  refine va_slen (A := fun _ => False) hx hb hX hbl (fun h => h) va_S.rf dX0_cell_2 ?_
  refine lv_icmp_ge (tgt := 12) hx hb dX0_cell_3 (by decide) (fun c_1 => ?_) (fun c_1 => ?_)
  · refine lv_iconst (v := 0) hx hb dX0_cell_12 (by decide) ?_
    exact W.iret (v := 0) hx hb hr (fun t ht hW => ⟨_, rfl, trivial, ht⟩) (fun _ h => absurd h List.not_mem_nil) dX0_cell_13
  · refine lv_aload_n hx hb dX0_cell_6 rfl (lv_at hl 0 rfl) ?_
    refine lv_iload_n hx hb dX0_cell_7 rfl (lv_at hl 1 rfl) ?_
    refine va_sld (A := fun _ => False) hx hb hX hbl (fun h => h) va_S.rf (ce_in hL c_1 hk) dX0_cell_8 ?_
    refine lv_topi (fun z _ => ?_)
    refine lv_goto (tgt := 13) hx hb dX0_cell_9 (by decide) ?_
    exact W.iret (v := z) hx hb hr (fun t ht hW => ⟨_, rfl, trivial, ht⟩) (fun _ h => absurd h List.not_mem_nil) dX0_cell_13
set_option maxHeartbeats 4000000 in
set_option maxRecDepth 100000 in
/-- rest(v, k) -/
theorem mX0_rest (l : Launch) (v : Int32) (k : Nat) (h0 : 0 < k) (hk : k < 2 ^ 31) : Met l yX0_rest (ws_ yX0_rest cX0_rest 2 (some .int)) ({ frames := 0, cells := 0, slots := 0, locals := 0 }) (va_Pc [.int v, .int (nI k)] (fun U => True)) (vp_Si (fun z => z = nI (rn_v v k))) 0 0 (fun _ => False) := by
  refine Met.ofW (cc := cX0_rest) (maxL := 2) (ret := (some .int)) (by decide) rfl ?_
  intro p e s m args below meth c s₁ B hml hv
  obtain ⟨rfl, -⟩ := hv
  have hx := B.exec
  have hb := B.bytes
  have hr := B.returns
  have hts := atoms_spec (ws := (ws_ yX0_rest cX0_rest 2 (some .int))) B.pre
  have hts : ∀ w ∈ lw_all, w.before _ s = true := fun w h => hts w (List.mem_cons_of_mem _ h)
  have hown : s.vm.findClass RX0 = some m.cls := findClass_of_methodNamed B.named
  have hlocks := B.notSynchronized
  have hl := lv_entry ([.int v, .int (nI k)]) (n := 2) (Nat.le_of_ble_eq_true rfl)
  rw [lg_entry_eq]
  generalize (lg_sl ([.int v, .int (nI k)]) ++ List.replicate (2 - (lg_sl ([.int v, .int (nI k)])).length) Slot.unset).toArray = ls at hl ⊢
  have hl : lv_has ls 2 [(0, .int v), (1, .int (nI k))] := hl
  refine lv_iload_n hx hb dX0_rest_0 rfl (lv_at hl 0 rfl) ?_
  refine lv_ldc hx hb hown (hts _ q129) dX0_rest_1 ?_
  refine lv_iand hx hb dX0_rest_3 ?_
  refine lv_iload_n hx hb dX0_rest_4 rfl (lv_at hl 1 rfl) ?_
  refine lv_irem hx hb dX0_rest_5 (rn_ne h0 hk) ?_
  refine tp_i (y := nI (rn_v v k)) (rn_eq v h0 hk) ?_
  exact W.iret (v := nI (rn_v v k)) hx hb hr (fun t ht hW => ⟨_, rfl, rfl, ht⟩) (fun _ h => absurd h List.not_mem_nil) dX0_rest_6
set_option maxHeartbeats 4000000 in
set_option maxRecDepth 100000 in
/-- of(h, w) -/
theorem mX0_of (l : Launch) (h w : Int32) : Met l yX0_of (ws_ yX0_of cX0_of 2 (some .long)) ({ frames := 0, cells := 0, slots := 0, locals := 0 }) (va_Pc [.int h, .int w] (fun U => True)) (vp_Sl (fun z => z = wd_v h w)) 0 0 (fun _ => False) := by
  refine Met.ofW (cc := cX0_of) (maxL := 2) (ret := (some .long)) (by decide) rfl ?_
  intro p e s m args below meth c s₁ B hml hv
  obtain ⟨rfl, -⟩ := hv
  have hx := B.exec
  have hb := B.bytes
  have hr := B.returns
  have hts := atoms_spec (ws := (ws_ yX0_of cX0_of 2 (some .long))) B.pre
  have hts : ∀ w ∈ lw_all, w.before _ s = true := fun w h => hts w (List.mem_cons_of_mem _ h)
  have hown : s.vm.findClass RX0 = some m.cls := findClass_of_methodNamed B.named
  have hlocks := B.notSynchronized
  have hl := lv_entry ([.int h, .int w]) (n := 2) (Nat.le_of_ble_eq_true rfl)
  rw [lg_entry_eq]
  generalize (lg_sl ([.int h, .int w]) ++ List.replicate (2 - (lg_sl ([.int h, .int w])).length) Slot.unset).toArray = ls at hl ⊢
  have hl : lv_has ls 2 [(0, .int h), (1, .int w)] := hl
  refine lv_iload_n hx hb dX0_of_0 rfl (lv_at hl 0 rfl) ?_
  refine lv_i2l (v := h.toInt64) hx hb dX0_of_1 rfl ?_
  refine lv_bipush (v := 32) hx hb dX0_of_2 (by decide) ?_
  refine lv_lshl (v := h.toInt64 <<< ((32 : Int32).toInt64 &&& 63)) hx hb dX0_of_4 rfl ?_
  refine lv_iload_n hx hb dX0_of_5 rfl (lv_at hl 1 rfl) ?_
  refine lv_i2l (v := w.toInt64) hx hb dX0_of_6 rfl ?_
  refine lv_ldc2 hx hb hown (hts _ q133) dX0_of_7 ?_
  refine lv_land hx hb dX0_of_10 ?_
  refine lv_lor hx hb dX0_of_11 ?_
  exact W.lret (v := (h.toInt64 <<< ((32 : Int32).toInt64 &&& 63)) ||| (w.toInt64 &&& 4294967295)) hx hb hr (fun t ht hW => ⟨_, rfl, rfl, ht⟩) (fun _ h => absurd h List.not_mem_nil) dX0_of_12
set_option maxHeartbeats 4000000 in
set_option maxRecDepth 100000 in
/-- high(v) -/
theorem mX0_high (l : Launch) (v : Int64) : Met l yX0_high (ws_ yX0_high cX0_high 2 (some .int)) ({ frames := 0, cells := 0, slots := 0, locals := 0 }) (va_Pc [.long v] (fun U => True)) (vp_Si (fun z => z = hi_v v)) 0 0 (fun _ => False) := by
  refine Met.ofW (cc := cX0_high) (maxL := 2) (ret := (some .int)) (by decide) rfl ?_
  intro p e s m args below meth c s₁ B hml hv
  obtain ⟨rfl, -⟩ := hv
  have hx := B.exec
  have hb := B.bytes
  have hr := B.returns
  have hts := atoms_spec (ws := (ws_ yX0_high cX0_high 2 (some .int))) B.pre
  have hts : ∀ w ∈ lw_all, w.before _ s = true := fun w h => hts w (List.mem_cons_of_mem _ h)
  have hown : s.vm.findClass RX0 = some m.cls := findClass_of_methodNamed B.named
  have hlocks := B.notSynchronized
  have hl := lv_entry ([.long v]) (n := 2) (Nat.le_of_ble_eq_true rfl)
  rw [lg_entry_eq]
  generalize (lg_sl ([.long v]) ++ List.replicate (2 - (lg_sl ([.long v])).length) Slot.unset).toArray = ls at hl ⊢
  have hl : lv_has ls 2 [(0, .long v)] := hl
  refine lv_lload_n hx hb dX0_high_0 rfl (lv_at hl 0 rfl) ?_
  refine lv_bipush (v := 32) hx hb dX0_high_1 (by decide) ?_
  refine lv_lshr (v := v >>> ((32 : Int32).toInt64 &&& 63)) hx hb dX0_high_3 rfl ?_
  refine lv_l2i (v := (v >>> ((32 : Int32).toInt64 &&& 63)).toInt32) hx hb dX0_high_4 rfl ?_
  exact W.iret (v := (v >>> ((32 : Int32).toInt64 &&& 63)).toInt32) hx hb hr (fun t ht hW => ⟨_, rfl, rfl, ht⟩) (fun _ h => absurd h List.not_mem_nil) dX0_high_5
set_option maxHeartbeats 4000000 in
set_option maxRecDepth 100000 in
/-- place(row, v, 0) -/
theorem mX0_placeF (l : Launch) (dC : Nat → ClassId) (dI : Nat → Nat → Nat) (a : Nat) (d : ClassId) (f : Nat → Int64) (v : Int64) : Met l yX0_place (ws_ yX0_place cX0_place 6 (some .int)) ({ frames := 0, cells := 0, slots := 0, locals := 0 }) (va_Pc [.ref a, .long v, .int 0] (fun U => va_P (dC, dI) cl_d [(a, .inl (d, 12, .inr (.inl f)))] U.heap ∧ va_K (dC, dI) cl_d [(d, .long)] U)) (vp_Si (fun z => fs_n f v 12 z)) 0 0 (fun _ => False) := by
  refine Met.ofW (cc := cX0_place) (maxL := 6) (ret := (some .int)) (by decide) rfl ?_
  intro p e s m args below meth c s₁ B hml hv
  obtain ⟨rfl, hP, hK⟩ := hv
  have hx := B.exec
  have hb := B.bytes
  have hr := B.returns
  have hts := atoms_spec (ws := (ws_ yX0_place cX0_place 6 (some .int))) B.pre
  have hts : ∀ w ∈ lw_all, w.before _ s = true := fun w h => hts w (List.mem_cons_of_mem _ h)
  have hown : s.vm.findClass RX0 = some m.cls := findClass_of_methodNamed B.named
  have hlocks := B.notSynchronized
  have K : ∀ (n i : Nat) (z : Int32), i ≤ 12 → 13 ≤ i + n → fs_n f v i z → ∀ ls : Array Slot, lv_has ls 6 [(0, .ref a), (1, .long v), (3, .int 0), (4, .int z), (5, .int (nI i))] → W p l e (headSpec (ws_ yX0_place cX0_place 6 (some .int)) ({ frames := 0, cells := 0, slots := 0, locals := 0 })).room s m ([.ref a, .long v, .int 0] : List Value).toArray below meth c s.heap [] 0 0 (MQ below (vp_Si (fun z => fs_n f v 12 z)) ([.ref a, .long v, .int 0] : List Value).toArray s 0 0 (fun _ => False)) (F0 m 6 ls []) := by
    intro n
    induction n with
    | zero =>
      intro i z hi hin
      omega
    | succ n ih =>
      intro i z hi hin hm ls hl
      refine lv_iload hx hb dX0_place_6 (lv_at hl 4 rfl) ?_
      refine lv_bipush (v := 12) hx hb dX0_place_8 (by decide) ?_
      refine lv_icmp_ge (tgt := 41) hx hb dX0_place_10 (by decide) (fun c_1 => ?_) (fun c_1 => ?_)
      · rw [lp_t12 hi c_1] at hm
        refine lv_iload hx hb dX0_place_41 (lv_at hl 3 rfl) ?_
        exact W.iret (v := z) hx hb hr (fun t ht hW => ⟨_, rfl, hm, ht⟩) (fun _ h => absurd h List.not_mem_nil) dX0_place_43
      · have hlt := lp_f12 hi c_1
        refine lv_aload_n hx hb dX0_place_13 rfl (lv_at hl 0 rfl) ?_
        refine lv_iload hx hb dX0_place_14 (lv_at hl 4 rfl) ?_
        refine va_lald hx hb hK hP 0 0 rfl rfl (ix_in hlt) dX0_place_16 ?_
        refine tp_l (y := f i) (by rw [ix_cl hlt]) ?_
        refine lv_lload_n hx hb dX0_place_17 rfl (lv_at hl 1 rfl) ?_
        refine W.lcmp hx hb dX0_place_18 ?_
        refine lv_if_ne (tgt := 35) hx hb dX0_place_19 (by decide) (fun c_2 => ?_) (fun c_2 => ?_)
        · refine lv_iinc (v := nI (i + 1)) (lv' := [(5, .int (nI (i + 1))), (0, .ref a), (1, .long v), (3, .int 0), (4, .int z)]) hx hb dX0_place_35 hl (k := 4) rfl (nI_1 i) (by decide) rfl (fun ls hl => ?_)
          refine lv_goto (tgt := 6) hx hb dX0_place_38 (by decide) ?_
          exact ih (i + 1) z hlt (by omega) (fs_keep hm (fun h => c_2 ((lg_cmp_eq _ _).2 h))) ls (lv_sub hl [1, 2, 3, 4, 0] rfl)
        · refine lv_iload hx hb dX0_place_22 (lv_at hl 3 rfl) ?_
          refine lv_if_lt (tgt := 31) hx hb dX0_place_24 (by decide) (fun c_3 => ?_) (fun c_3 => ?_)
          · refine lv_iload hx hb dX0_place_31 (lv_at hl 4 rfl) ?_
            refine lv_istore (lv' := [(4, .int (nI i)), (0, .ref a), (1, .long v), (3, .int 0), (5, .int (nI i))]) hx hb dX0_place_33 hl (by decide) rfl (fun ls hl => ?_)
            refine lv_iinc (v := nI (i + 1)) (lv' := [(5, .int (nI (i + 1))), (4, .int (nI i)), (0, .ref a), (1, .long v), (3, .int 0)]) hx hb dX0_place_35 hl (k := 4) rfl (nI_1 i) (by decide) rfl (fun ls hl => ?_)
            refine lv_goto (tgt := 6) hx hb dX0_place_38 (by decide) ?_
            exact ih (i + 1) (nI i) hlt (by omega) (fs_hit (by omega) hm c_3 ((lg_cmp_eq _ _).1 c_2)) ls (lv_sub hl [2, 3, 4, 1, 0] rfl)
          · refine lv_iload_n hx hb dX0_place_27 rfl (lv_at hl 2 rfl) ?_
            refine lv_if_eq (tgt := 35) hx hb dX0_place_28 (by decide) (fun c_4 => ?_) (fun c_4 => ?_)
            · refine lv_iinc (v := nI (i + 1)) (lv' := [(5, .int (nI (i + 1))), (0, .ref a), (1, .long v), (3, .int 0), (4, .int z)]) hx hb dX0_place_35 hl (k := 4) rfl (nI_1 i) (by decide) rfl (fun ls hl => ?_)
              refine lv_goto (tgt := 6) hx hb dX0_place_38 (by decide) ?_
              exact ih (i + 1) z hlt (by omega) (fs_keep2 hm c_3) ls (lv_sub hl [1, 2, 3, 4, 0] rfl)
            · exact absurd rfl c_4
  have hl := lv_entry ([.ref a, .long v, .int 0]) (n := 6) (Nat.le_of_ble_eq_true rfl)
  rw [lg_entry_eq]
  generalize (lg_sl ([.ref a, .long v, .int 0]) ++ List.replicate (6 - (lg_sl ([.ref a, .long v, .int 0])).length) Slot.unset).toArray = ls at hl ⊢
  have hl : lv_has ls 6 [(0, .ref a), (1, .long v), (3, .int 0)] := hl
  refine lv_iconst (v := -1) hx hb dX0_place_0 (by decide) ?_
  refine lv_istore (lv' := [(4, .int (-1)), (0, .ref a), (1, .long v), (3, .int 0)]) hx hb dX0_place_1 hl (by decide) rfl (fun ls hl => ?_)
  refine lv_iconst (v := 0) hx hb dX0_place_3 (by decide) ?_
  refine lv_istore (lv' := [(5, .int 0), (4, .int (-1)), (0, .ref a), (1, .long v), (3, .int 0)]) hx hb dX0_place_4 hl (by decide) rfl (fun ls hl => ?_)
  exact K 13 0 (-1) (by decide) (by decide) (fs_0 f v) ls (lv_sub hl [2, 3, 4, 1, 0] rfl)
set_option maxHeartbeats 4000000 in
set_option maxRecDepth 100000 in
/-- place(row, v, 1) -/
theorem mX0_placeL (l : Launch) (dC : Nat → ClassId) (dI : Nat → Nat → Nat) (a : Nat) (d : ClassId) (f : Nat → Int64) (v : Int64) : Met l yX0_place (ws_ yX0_place cX0_place 6 (some .int)) ({ frames := 0, cells := 0, slots := 0, locals := 0 }) (va_Pc [.ref a, .long v, .int 1] (fun U => va_P (dC, dI) cl_d [(a, .inl (d, 12, .inr (.inl f)))] U.heap ∧ va_K (dC, dI) cl_d [(d, .long)] U)) (vp_Si (fun z => ls_n f v 12 z)) 0 0 (fun _ => False) := by
  refine Met.ofW (cc := cX0_place) (maxL := 6) (ret := (some .int)) (by decide) rfl ?_
  intro p e s m args below meth c s₁ B hml hv
  obtain ⟨rfl, hP, hK⟩ := hv
  have hx := B.exec
  have hb := B.bytes
  have hr := B.returns
  have hts := atoms_spec (ws := (ws_ yX0_place cX0_place 6 (some .int))) B.pre
  have hts : ∀ w ∈ lw_all, w.before _ s = true := fun w h => hts w (List.mem_cons_of_mem _ h)
  have hown : s.vm.findClass RX0 = some m.cls := findClass_of_methodNamed B.named
  have hlocks := B.notSynchronized
  have K : ∀ (n i : Nat) (z : Int32), i ≤ 12 → 13 ≤ i + n → ls_n f v i z → ∀ ls : Array Slot, lv_has ls 6 [(0, .ref a), (1, .long v), (3, .int 1), (4, .int z), (5, .int (nI i))] → W p l e (headSpec (ws_ yX0_place cX0_place 6 (some .int)) ({ frames := 0, cells := 0, slots := 0, locals := 0 })).room s m ([.ref a, .long v, .int 1] : List Value).toArray below meth c s.heap [] 0 0 (MQ below (vp_Si (fun z => ls_n f v 12 z)) ([.ref a, .long v, .int 1] : List Value).toArray s 0 0 (fun _ => False)) (F0 m 6 ls []) := by
    intro n
    induction n with
    | zero =>
      intro i z hi hin
      omega
    | succ n ih =>
      intro i z hi hin hm ls hl
      refine lv_iload hx hb dX0_place_6 (lv_at hl 4 rfl) ?_
      refine lv_bipush (v := 12) hx hb dX0_place_8 (by decide) ?_
      refine lv_icmp_ge (tgt := 41) hx hb dX0_place_10 (by decide) (fun c_1 => ?_) (fun c_1 => ?_)
      · rw [lp_t12 hi c_1] at hm
        refine lv_iload hx hb dX0_place_41 (lv_at hl 3 rfl) ?_
        exact W.iret (v := z) hx hb hr (fun t ht hW => ⟨_, rfl, hm, ht⟩) (fun _ h => absurd h List.not_mem_nil) dX0_place_43
      · have hlt := lp_f12 hi c_1
        refine lv_aload_n hx hb dX0_place_13 rfl (lv_at hl 0 rfl) ?_
        refine lv_iload hx hb dX0_place_14 (lv_at hl 4 rfl) ?_
        refine va_lald hx hb hK hP 0 0 rfl rfl (ix_in hlt) dX0_place_16 ?_
        refine tp_l (y := f i) (by rw [ix_cl hlt]) ?_
        refine lv_lload_n hx hb dX0_place_17 rfl (lv_at hl 1 rfl) ?_
        refine W.lcmp hx hb dX0_place_18 ?_
        refine lv_if_ne (tgt := 35) hx hb dX0_place_19 (by decide) (fun c_2 => ?_) (fun c_2 => ?_)
        · refine lv_iinc (v := nI (i + 1)) (lv' := [(5, .int (nI (i + 1))), (0, .ref a), (1, .long v), (3, .int 1), (4, .int z)]) hx hb dX0_place_35 hl (k := 4) rfl (nI_1 i) (by decide) rfl (fun ls hl => ?_)
          refine lv_goto (tgt := 6) hx hb dX0_place_38 (by decide) ?_
          exact ih (i + 1) z hlt (by omega) (ls_keep hm (fun h => c_2 ((lg_cmp_eq _ _).2 h))) ls (lv_sub hl [1, 2, 3, 4, 0] rfl)
        · refine lv_iload hx hb dX0_place_22 (lv_at hl 3 rfl) ?_
          refine lv_if_lt (tgt := 31) hx hb dX0_place_24 (by decide) (fun c_3 => ?_) (fun c_3 => ?_)
          · refine lv_iload hx hb dX0_place_31 (lv_at hl 4 rfl) ?_
            refine lv_istore (lv' := [(4, .int (nI i)), (0, .ref a), (1, .long v), (3, .int 1), (5, .int (nI i))]) hx hb dX0_place_33 hl (by decide) rfl (fun ls hl => ?_)
            refine lv_iinc (v := nI (i + 1)) (lv' := [(5, .int (nI (i + 1))), (4, .int (nI i)), (0, .ref a), (1, .long v), (3, .int 1)]) hx hb dX0_place_35 hl (k := 4) rfl (nI_1 i) (by decide) rfl (fun ls hl => ?_)
            refine lv_goto (tgt := 6) hx hb dX0_place_38 (by decide) ?_
            exact ih (i + 1) (nI i) hlt (by omega) (ls_hit ((lg_cmp_eq _ _).1 c_2)) ls (lv_sub hl [2, 3, 4, 1, 0] rfl)
          · refine lv_iload_n hx hb dX0_place_27 rfl (lv_at hl 2 rfl) ?_
            refine lv_if_eq (tgt := 35) hx hb dX0_place_28 (by decide) (fun c_4 => ?_) (fun c_4 => ?_)
            · exact absurd c_4 (by decide)
            · refine lv_iload hx hb dX0_place_31 (lv_at hl 4 rfl) ?_
              refine lv_istore (lv' := [(4, .int (nI i)), (0, .ref a), (1, .long v), (3, .int 1), (5, .int (nI i))]) hx hb dX0_place_33 hl (by decide) rfl (fun ls hl => ?_)
              refine lv_iinc (v := nI (i + 1)) (lv' := [(5, .int (nI (i + 1))), (4, .int (nI i)), (0, .ref a), (1, .long v), (3, .int 1)]) hx hb dX0_place_35 hl (k := 4) rfl (nI_1 i) (by decide) rfl (fun ls hl => ?_)
              refine lv_goto (tgt := 6) hx hb dX0_place_38 (by decide) ?_
              exact ih (i + 1) (nI i) hlt (by omega) (ls_hit ((lg_cmp_eq _ _).1 c_2)) ls (lv_sub hl [2, 3, 4, 1, 0] rfl)
  have hl := lv_entry ([.ref a, .long v, .int 1]) (n := 6) (Nat.le_of_ble_eq_true rfl)
  rw [lg_entry_eq]
  generalize (lg_sl ([.ref a, .long v, .int 1]) ++ List.replicate (6 - (lg_sl ([.ref a, .long v, .int 1])).length) Slot.unset).toArray = ls at hl ⊢
  have hl : lv_has ls 6 [(0, .ref a), (1, .long v), (3, .int 1)] := hl
  refine lv_iconst (v := -1) hx hb dX0_place_0 (by decide) ?_
  refine lv_istore (lv' := [(4, .int (-1)), (0, .ref a), (1, .long v), (3, .int 1)]) hx hb dX0_place_1 hl (by decide) rfl (fun ls hl => ?_)
  refine lv_iconst (v := 0) hx hb dX0_place_3 (by decide) ?_
  refine lv_istore (lv' := [(5, .int 0), (4, .int (-1)), (0, .ref a), (1, .long v), (3, .int 1)]) hx hb dX0_place_4 hl (by decide) rfl (fun ls hl => ?_)
  exact K 13 0 (-1) (by decide) (by decide) (ls_0 f v) ls (lv_sub hl [2, 3, 4, 1, 0] rfl)
set_option maxHeartbeats 4000000 in
set_option maxRecDepth 100000 in
/-- isFound: true -/
theorem mX0_isFound (l : Launch) (dC : Nat → ClassId) (dI : Nat → Nat → Nat) (o r w : Nat) (d d2 : ClassId) (f : Nat → Int64) (v : Int64) : Met l yX0_isFound (ws_ yX0_isFound cX0_isFound 5 (some .boolean)) ({ frames := 3, cells := 0, slots := 0, locals := 69 }) (va_Pc [.ref o, .ref w, .long v] (fun U => va_P (dC, dI) cl_d [(o, .inr (0, [.ref r])), (r, .inl (d, 12, .inr (.inl f))), (w, .inl (d2, 12, .inr (.inl f)))] U.heap ∧ va_K (dC, dI) cl_d [(d, .long), (d2, .long)] U)) (vp_Si (fun z => z = 1)) 0 0 (fun _ => False) := by
  refine Met.ofW (cc := cX0_isFound) (maxL := 5) (ret := (some .boolean)) (by decide) rfl ?_
  intro p e s m args below meth c s₁ B hml hv
  obtain ⟨rfl, hP, hK⟩ := hv
  have hx := B.exec
  have hb := B.bytes
  have hr := B.returns
  have hts := atoms_spec (ws := (ws_ yX0_isFound cX0_isFound 5 (some .boolean))) B.pre
  have hts : ∀ w ∈ lw_all, w.before _ s = true := fun w h => hts w (List.mem_cons_of_mem _ h)
  have hown : s.vm.findClass RX0 = some m.cls := findClass_of_methodNamed B.named
  have hlocks := B.notSynchronized
  have hl := lv_entry ([.ref o, .ref w, .long v]) (n := 5) (Nat.le_of_ble_eq_true rfl)
  rw [lg_entry_eq]
  generalize (lg_sl ([.ref o, .ref w, .long v]) ++ List.replicate (5 - (lg_sl ([.ref o, .ref w, .long v])).length) Slot.unset).toArray = ls at hl ⊢
  have hl : lv_has ls 5 [(0, .ref o), (1, .ref w), (2, .long v)] := hl
  refine lv_aload_n hx hb dX0_isFound_0 rfl (lv_at hl 1 rfl) ?_
  refine lv_lload_n hx hb dX0_isFound_1 rfl (lv_at hl 2 rfl) ?_
  refine lv_iconst (v := 0) hx hb dX0_isFound_2 (by decide) ?_
  refine vp_callSi (W.runS (As := [.ref w, .long v, .int 0]) (rest := []) ⟨hx, hb, hml, hown, hts⟩ (mX0_placeF l dC dI w d2 f v) (va_cwS 3 hts (lw_S q140 q141 q3 q142) rfl rfl rfl (by decide +kernel) ⟨Nat.le_of_ble_eq_true rfl, Nat.le_of_ble_eq_true rfl⟩) ⟨fun a U g mk q => ⟨q.1, q.2.1, va_K.moved (u := U) (U := U.calling g mk a) (Vm.Alike.refl U.vm) q.2.2⟩, fun U hU hW => ⟨rfl, by rw [hU]; exact (hP.sub (ws' := [(w, .inl (d2, 12, .inr (.inl f)))]) [2] rfl), va_K.moved hW.alike (hK.sub (tys' := [(d2, .long)]) [1] rfl)⟩⟩ rfl rfl hl.1 rfl (lv_room (Nat.le_of_ble_eq_true rfl)) dX0_isFound_3 ⟨Nat.le_of_ble_eq_true rfl, Nat.le_of_ble_eq_true rfl⟩) (fun r_1 hr_1 => ?_)
  refine lv_istore (lv' := [(4, .int r_1), (0, .ref o), (1, .ref w), (2, .long v)]) hx hb dX0_isFound_6 hl (by decide) rfl (fun ls hl => ?_)
  refine lv_aload_n hx hb dX0_isFound_8 rfl (lv_at hl 1 rfl) ?_
  refine lv_lload_n hx hb dX0_isFound_9 rfl (lv_at hl 3 rfl) ?_
  refine vp_callSi (W.runS (As := [.long v]) (rest := [.ref o]) ⟨hx, hb, hml, hown, hts⟩ (mX0_high l v) (va_cwS 1 hts (lw_S q134 q135 q3 q136) rfl rfl rfl (by decide +kernel) ⟨Nat.le_of_ble_eq_true rfl, Nat.le_of_ble_eq_true rfl⟩) ⟨fun _ _ _ _ q => q, fun _ _ _ => ⟨rfl, trivial⟩⟩ rfl rfl hl.1 rfl (lv_room (Nat.le_of_ble_eq_true rfl)) dX0_isFound_10 ⟨Nat.le_of_ble_eq_true rfl, Nat.le_of_ble_eq_true rfl⟩) (fun r_2 hr_2 => ?_)
  subst hr_2
  refine lv_lload_n hx hb dX0_isFound_13 rfl (lv_at hl 3 rfl) ?_
  refine lv_l2i (v := v.toInt32) hx hb dX0_isFound_14 rfl ?_
  refine vp_callSi (W.runV (As := [.int (hi_v v), .int v.toInt32]) (rest := []) ⟨hx, hb, hml, hown, hts⟩ (mX1_find l dC dI o r d f (hi_v v) v.toInt32) (cwV 2 hts (lw_V q143 q144 q145 q4 q146) rfl rfl rfl (by decide +kernel) ⟨Nat.le_of_ble_eq_true rfl, Nat.le_of_ble_eq_true rfl⟩) ⟨fun a U g mk q => ⟨q.1, q.2.1, va_K.moved (u := U) (U := U.calling g mk a) (Vm.Alike.refl U.vm) q.2.2⟩, (va_recv hK hP (ci := 0) (q0 := 0) rfl rfl), fun U hU hW => ⟨rfl, by rw [hU]; exact (hP.sub (ws' := [(o, .inr (0, [.ref r])), (r, .inl (d, 12, .inr (.inl f)))]) [0, 1] rfl), va_K.moved hW.alike (hK.sub (tys' := [(d, .long)]) [0] rfl)⟩⟩ rfl rfl hl.1 rfl (lv_room (Nat.le_of_ble_eq_true rfl)) dX0_isFound_15 ⟨Nat.le_of_ble_eq_true rfl, Nat.le_of_ble_eq_true rfl⟩) (fun r_3 hr_3 => ?_)
  rw [wd_hi] at hr_3
  refine lv_iload hx hb dX0_isFound_18 (lv_at hl 0 rfl) ?_
  refine lv_icmp_ne (tgt := 69) hx hb dX0_isFound_20 (by decide) (fun c_4 => ?_) (fun c_4 => ?_)
  · exact absurd (fs_u hr_3 hr_1) c_4
  · refine lv_aload_n hx hb dX0_isFound_23 rfl (lv_at hl 1 rfl) ?_
    refine lv_lload_n hx hb dX0_isFound_24 rfl (lv_at hl 3 rfl) ?_
    refine vp_callSi (W.runS (As := [.long v]) (rest := [.ref o]) ⟨hx, hb, hml, hown, hts⟩ (mX0_high l v) (va_cwS 1 hts (lw_S q134 q135 q3 q136) rfl rfl rfl (by decide +kernel) ⟨Nat.le_of_ble_eq_true rfl, Nat.le_of_ble_eq_true rfl⟩) ⟨fun _ _ _ _ q => q, fun _ _ _ => ⟨rfl, trivial⟩⟩ rfl rfl hl.1 rfl (lv_room (Nat.le_of_ble_eq_true rfl)) dX0_isFound_25 ⟨Nat.le_of_ble_eq_true rfl, Nat.le_of_ble_eq_true rfl⟩) (fun r_5 hr_5 => ?_)
    subst hr_5
    refine lv_lload_n hx hb dX0_isFound_28 rfl (lv_at hl 3 rfl) ?_
    refine lv_l2i (v := v.toInt32) hx hb dX0_isFound_29 rfl ?_
    refine vp_callSi (W.runV (As := [.int (hi_v v), .int v.toInt32]) (rest := []) ⟨hx, hb, hml, hown, hts⟩ (mX1_findLast l dC dI o r d f (hi_v v) v.toInt32) (cwV 2 hts (lw_V q153 q154 q155 q4 q156) rfl rfl rfl (by decide +kernel) ⟨Nat.le_of_ble_eq_true rfl, Nat.le_of_ble_eq_true rfl⟩) ⟨fun a U g mk q => ⟨q.1, q.2.1, va_K.moved (u := U) (U := U.calling g mk a) (Vm.Alike.refl U.vm) q.2.2⟩, (va_recv hK hP (ci := 0) (q0 := 0) rfl rfl), fun U hU hW => ⟨rfl, by rw [hU]; exact (hP.sub (ws' := [(o, .inr (0, [.ref r])), (r, .inl (d, 12, .inr (.inl f)))]) [0, 1] rfl), va_K.moved hW.alike (hK.sub (tys' := [(d, .long)]) [0] rfl)⟩⟩ rfl rfl hl.1 rfl (lv_room (Nat.le_of_ble_eq_true rfl)) dX0_isFound_30 ⟨Nat.le_of_ble_eq_true rfl, Nat.le_of_ble_eq_true rfl⟩) (fun r_6 hr_6 => ?_)
    rw [wd_hi] at hr_6
    refine lv_aload_n hx hb dX0_isFound_33 rfl (lv_at hl 2 rfl) ?_
    refine lv_lload_n hx hb dX0_isFound_34 rfl (lv_at hl 3 rfl) ?_
    refine lv_iconst (v := 1) hx hb dX0_isFound_35 (by decide) ?_
    refine vp_callSi (W.runS (As := [.ref w, .long v, .int 1]) (rest := [.int r_6]) ⟨hx, hb, hml, hown, hts⟩ (mX0_placeL l dC dI w d2 f v) (va_cwS 3 hts (lw_S q140 q141 q3 q142) rfl rfl rfl (by decide +kernel) ⟨Nat.le_of_ble_eq_true rfl, Nat.le_of_ble_eq_true rfl⟩) ⟨fun a U g mk q => ⟨q.1, q.2.1, va_K.moved (u := U) (U := U.calling g mk a) (Vm.Alike.refl U.vm) q.2.2⟩, fun U hU hW => ⟨rfl, by rw [hU]; exact (hP.sub (ws' := [(w, .inl (d2, 12, .inr (.inl f)))]) [2] rfl), va_K.moved hW.alike (hK.sub (tys' := [(d2, .long)]) [1] rfl)⟩⟩ rfl rfl hl.1 rfl (lv_room (Nat.le_of_ble_eq_true rfl)) dX0_isFound_36 ⟨Nat.le_of_ble_eq_true rfl, Nat.le_of_ble_eq_true rfl⟩) (fun r_7 hr_7 => ?_)
    refine lv_icmp_ne (tgt := 69) hx hb dX0_isFound_39 (by decide) (fun c_8 => ?_) (fun c_8 => ?_)
    · exact absurd (ls_u hr_6 hr_7) c_8
    · refine lv_aload_n hx hb dX0_isFound_42 rfl (lv_at hl 1 rfl) ?_
      refine lv_lload_n hx hb dX0_isFound_43 rfl (lv_at hl 3 rfl) ?_
      refine vp_callSi (W.runS (As := [.long v]) (rest := [.ref o]) ⟨hx, hb, hml, hown, hts⟩ (mX0_high l v) (va_cwS 1 hts (lw_S q134 q135 q3 q136) rfl rfl rfl (by decide +kernel) ⟨Nat.le_of_ble_eq_true rfl, Nat.le_of_ble_eq_true rfl⟩) ⟨fun _ _ _ _ q => q, fun _ _ _ => ⟨rfl, trivial⟩⟩ rfl rfl hl.1 rfl (lv_room (Nat.le_of_ble_eq_true rfl)) dX0_isFound_44 ⟨Nat.le_of_ble_eq_true rfl, Nat.le_of_ble_eq_true rfl⟩) (fun r_9 hr_9 => ?_)
      subst hr_9
      refine lv_lload_n hx hb dX0_isFound_47 rfl (lv_at hl 3 rfl) ?_
      refine lv_l2i (v := v.toInt32) hx hb dX0_isFound_48 rfl ?_
      refine vp_callSi (W.runV (As := [.int (hi_v v), .int v.toInt32]) (rest := []) ⟨hx, hb, hml, hown, hts⟩ (mX1_has l dC dI o r d f (hi_v v) v.toInt32) (cwV 2 hts (lw_V q163 q164 q165 q4 q166) rfl rfl rfl (by decide +kernel) ⟨Nat.le_of_ble_eq_true rfl, Nat.le_of_ble_eq_true rfl⟩) ⟨fun a U g mk q => ⟨q.1, q.2.1, va_K.moved (u := U) (U := U.calling g mk a) (Vm.Alike.refl U.vm) q.2.2⟩, (va_recv hK hP (ci := 0) (q0 := 0) rfl rfl), fun U hU hW => ⟨rfl, by rw [hU]; exact (hP.sub (ws' := [(o, .inr (0, [.ref r])), (r, .inl (d, 12, .inr (.inl f)))]) [0, 1] rfl), va_K.moved hW.alike (hK.sub (tys' := [(d, .long)]) [0] rfl)⟩⟩ rfl rfl hl.1 rfl (lv_room (Nat.le_of_ble_eq_true rfl)) dX0_isFound_49 ⟨Nat.le_of_ble_eq_true rfl, Nat.le_of_ble_eq_true rfl⟩) (fun r_10 hr_10 => ?_)
      rw [wd_hi] at hr_10
      refine lv_iload hx hb dX0_isFound_52 (lv_at hl 0 rfl) ?_
      refine lv_if_lt (tgt := 61) hx hb dX0_isFound_54 (by decide) (fun c_11 => ?_) (fun c_11 => ?_)
      · refine lv_iconst (v := 0) hx hb dX0_isFound_61 (by decide) ?_
        refine lv_icmp_ne (tgt := 69) hx hb dX0_isFound_62 (by decide) (fun c_12 => ?_) (fun c_12 => ?_)
        · exact absurd (hs_neg hr_1 hr_10 c_11) c_12
        · refine lv_iconst (v := 1) hx hb dX0_isFound_65 (by decide) ?_
          refine lv_goto (tgt := 70) hx hb dX0_isFound_66 (by decide) ?_
          exact W.zret (v := 1) hx hb hr rfl (fun t ht hW => ⟨_, rfl, rfl, ht⟩) (fun _ h => absurd h List.not_mem_nil) dX0_isFound_70
      · refine lv_iconst (v := 1) hx hb dX0_isFound_57 (by decide) ?_
        refine lv_goto (tgt := 62) hx hb dX0_isFound_58 (by decide) ?_
        refine lv_icmp_ne (tgt := 69) hx hb dX0_isFound_62 (by decide) (fun c_13 => ?_) (fun c_13 => ?_)
        · exact absurd (hs_pos hr_1 hr_10 c_11) c_13
        · refine lv_iconst (v := 1) hx hb dX0_isFound_65 (by decide) ?_
          refine lv_goto (tgt := 70) hx hb dX0_isFound_66 (by decide) ?_
          exact W.zret (v := 1) hx hb hr rfl (fun t ht hW => ⟨_, rfl, rfl, ht⟩) (fun _ h => absurd h List.not_mem_nil) dX0_isFound_70
set_option maxHeartbeats 4000000 in
set_option maxRecDepth 100000 in
/-- same: true -/
theorem mX0_same (l : Launch) (dC : Nat → ClassId) (dI : Nat → Nat → Nat) (o r w : Nat) (d d2 : ClassId) (f : Nat → Int64) : Met l yX0_same (ws_ yX0_same cX0_same 7 (some .boolean)) ({ frames := 4, cells := 0, slots := 0, locals := 75 }) (va_Pc [.ref o, .ref w] (fun U => va_P (dC, dI) cl_d [(o, .inr (0, [.ref r])), (r, .inl (d, 12, .inr (.inl f))), (w, .inl (d2, 12, .inr (.inl f)))] U.heap ∧ va_K (dC, dI) cl_d [(d, .long), (d2, .long)] U)) (vp_Si (fun z => z = 1)) 0 0 (fun _ => False) := by
  refine Met.ofW (cc := cX0_same) (maxL := 7) (ret := (some .boolean)) (by decide) rfl ?_
  intro p e s m args below meth c s₁ B hml hv
  obtain ⟨rfl, hP, hK⟩ := hv
  have hx := B.exec
  have hb := B.bytes
  have hr := B.returns
  have hts := atoms_spec (ws := (ws_ yX0_same cX0_same 7 (some .boolean))) B.pre
  have hts : ∀ w ∈ lw_all, w.before _ s = true := fun w h => hts w (List.mem_cons_of_mem _ h)
  have hown : s.vm.findClass RX0 = some m.cls := findClass_of_methodNamed B.named
  have hlocks := B.notSynchronized
  have K : ∀ (n i : Nat) (m1 m2 : Int64), i ≤ 12 → 13 ≤ i + n → mx_n f i m1 → mn_n f i m2 → ∀ ls : Array Slot, lv_has ls 7 [(0, .ref o), (1, .ref w), (2, .long m1), (4, .long m2), (6, .int (nI i))] → W p l e (headSpec (ws_ yX0_same cX0_same 7 (some .boolean)) ({ frames := 4, cells := 0, slots := 0, locals := 75 })).room s m ([.ref o, .ref w] : List Value).toArray below meth c s.heap [] 0 0 (MQ below (vp_Si (fun z => z = 1)) ([.ref o, .ref w] : List Value).toArray s 0 0 (fun _ => False)) (F0 m 12 ls []) := by
    intro n
    induction n with
    | zero =>
      intro i m1 m2 hi hin
      omega
    | succ n ih =>
      intro i m1 m2 hi hin hm1 hm2 ls hl
      refine lv_iload hx hb dX0_same_12 (lv_at hl 4 rfl) ?_
      refine lv_bipush (v := 12) hx hb dX0_same_14 (by decide) ?_
      refine lv_icmp_ge (tgt := 80) hx hb dX0_same_16 (by decide) (fun c_1 => ?_) (fun c_1 => ?_)
      · rw [lp_t12 hi c_1] at hm1 hm2
        refine lv_aload_n hx hb dX0_same_80 rfl (lv_at hl 0 rfl) ?_
        refine vp_callSl (W.runV (As := []) (rest := []) ⟨hx, hb, hml, hown, hts⟩ (mX1_most l dC dI o r d f) (cwV 0 hts (lw_V q177 q178 q179 q4 q180) rfl rfl rfl (by decide +kernel) ⟨Nat.le_of_ble_eq_true rfl, Nat.le_of_ble_eq_true rfl⟩) ⟨fun a U g mk q => ⟨q.1, q.2.1, va_K.moved (u := U) (U := U.calling g mk a) (Vm.Alike.refl U.vm) q.2.2⟩, (va_recv hK hP (ci := 0) (q0 := 0) rfl rfl), fun U hU hW => ⟨rfl, by rw [hU]; exact (hP.sub (ws' := [(o, .inr (0, [.ref r])), (r, .inl (d, 12, .inr (.inl f)))]) [0, 1] rfl), va_K.moved hW.alike (hK.sub (tys' := [(d, .long)]) [0] rfl)⟩⟩ rfl rfl hl.1 rfl (lv_room (Nat.le_of_ble_eq_true rfl)) dX0_same_81 ⟨Nat.le_of_ble_eq_true rfl, Nat.le_of_ble_eq_true rfl⟩) (fun r_2 hr_2 => ?_)
        refine lv_lload_n hx hb dX0_same_84 rfl (lv_at hl 2 rfl) ?_
        refine W.lcmp hx hb dX0_same_85 ?_
        refine lv_if_ne (tgt := 103) hx hb dX0_same_86 (by decide) (fun c_3 => ?_) (fun c_3 => ?_)
        · exact absurd ((lg_cmp_eq _ _).2 (mx_u hr_2 hm1)) c_3
        · refine lv_aload_n hx hb dX0_same_89 rfl (lv_at hl 0 rfl) ?_
          refine vp_callSl (W.runV (As := []) (rest := []) ⟨hx, hb, hml, hown, hts⟩ (mX1_least l dC dI o r d f) (cwV 0 hts (lw_V q208 q209 q210 q4 q211) rfl rfl rfl (by decide +kernel) ⟨Nat.le_of_ble_eq_true rfl, Nat.le_of_ble_eq_true rfl⟩) ⟨fun a U g mk q => ⟨q.1, q.2.1, va_K.moved (u := U) (U := U.calling g mk a) (Vm.Alike.refl U.vm) q.2.2⟩, (va_recv hK hP (ci := 0) (q0 := 0) rfl rfl), fun U hU hW => ⟨rfl, by rw [hU]; exact (hP.sub (ws' := [(o, .inr (0, [.ref r])), (r, .inl (d, 12, .inr (.inl f)))]) [0, 1] rfl), va_K.moved hW.alike (hK.sub (tys' := [(d, .long)]) [0] rfl)⟩⟩ rfl rfl hl.1 rfl (lv_room (Nat.le_of_ble_eq_true rfl)) dX0_same_90 ⟨Nat.le_of_ble_eq_true rfl, Nat.le_of_ble_eq_true rfl⟩) (fun r_4 hr_4 => ?_)
          refine lv_lload hx hb dX0_same_93 (lv_at hl 3 rfl) ?_
          refine W.lcmp hx hb dX0_same_95 ?_
          refine lv_if_ne (tgt := 103) hx hb dX0_same_96 (by decide) (fun c_5 => ?_) (fun c_5 => ?_)
          · exact absurd ((lg_cmp_eq _ _).2 (mn_u hr_4 hm2)) c_5
          · refine lv_iconst (v := 1) hx hb dX0_same_99 (by decide) ?_
            refine lv_goto (tgt := 104) hx hb dX0_same_100 (by decide) ?_
            exact W.zret (v := 1) hx hb hr rfl (fun t ht hW => ⟨_, rfl, rfl, ht⟩) (fun _ h => absurd h List.not_mem_nil) dX0_same_104
      · have hlt := lp_f12 hi c_1
        refine lv_aload_n hx hb dX0_same_19 rfl (lv_at hl 0 rfl) ?_
        refine lv_iload hx hb dX0_same_20 (lv_at hl 4 rfl) ?_
        refine vp_callSl (W.runV (As := [.int (nI i)]) (rest := []) ⟨hx, hb, hml, hown, hts⟩ (mX1_get l dC dI o r d f (nI i)) (cwV 1 hts (lw_V q173 q174 q175 q4 q176) rfl rfl rfl (by decide +kernel) ⟨Nat.le_of_ble_eq_true rfl, Nat.le_of_ble_eq_true rfl⟩) ⟨fun a U g mk q => ⟨q.1, q.2.1, va_K.moved (u := U) (U := U.calling g mk a) (Vm.Alike.refl U.vm) q.2.2⟩, (va_recv hK hP (ci := 0) (q0 := 0) rfl rfl), fun U hU hW => ⟨rfl, by rw [hU]; exact (hP.sub (ws' := [(o, .inr (0, [.ref r])), (r, .inl (d, 12, .inr (.inl f)))]) [0, 1] rfl), va_K.moved hW.alike (hK.sub (tys' := [(d, .long)]) [0] rfl)⟩⟩ rfl rfl hl.1 rfl (lv_room (Nat.le_of_ble_eq_true rfl)) dX0_same_22 ⟨Nat.le_of_ble_eq_true rfl, Nat.le_of_ble_eq_true rfl⟩) (fun r_6 hr_6 => ?_)
        subst hr_6
        refine tp_l (y := f i) (by rw [rn_nI hlt (by decide)]) ?_
        refine lv_aload_n hx hb dX0_same_25 rfl (lv_at hl 1 rfl) ?_
        refine lv_iload hx hb dX0_same_26 (lv_at hl 4 rfl) ?_
        refine va_lald hx hb hK hP 2 1 rfl rfl (ix_in hlt) dX0_same_28 ?_
        refine tp_l (y := f i) (by rw [ix_cl hlt]) ?_
        refine W.lcmp hx hb dX0_same_29 ?_
        refine lv_if_eq (tgt := 35) hx hb dX0_same_30 (by decide) (fun c_7 => ?_) (fun c_7 => ?_)
        · refine lv_aload_n hx hb dX0_same_35 rfl (lv_at hl 1 rfl) ?_
          refine lv_iload hx hb dX0_same_36 (lv_at hl 4 rfl) ?_
          refine va_lald hx hb hK hP 2 1 rfl rfl (ix_in hlt) dX0_same_38 ?_
          refine tp_l (y := f i) (by rw [ix_cl hlt]) ?_
          refine lv_lload_n hx hb dX0_same_39 rfl (lv_at hl 2 rfl) ?_
          refine W.lcmp hx hb dX0_same_40 ?_
          refine lv_if_le (tgt := 51) hx hb dX0_same_41 (by decide) (fun c_8 => ?_) (fun c_8 => ?_)
          · refine lv_lload_n hx hb dX0_same_51 rfl (lv_at hl 2 rfl) ?_
            refine lv_lstore_n (lv' := [(2, .long m1), (0, .ref o), (1, .ref w), (4, .long m2), (6, .int (nI i))]) hx hb dX0_same_52 rfl hl (by decide) rfl (fun ls hl => ?_)
            refine lv_aload_n hx hb dX0_same_53 rfl (lv_at hl 2 rfl) ?_
            refine lv_iload hx hb dX0_same_54 (lv_at hl 4 rfl) ?_
            refine va_lald hx hb hK hP 2 1 rfl rfl (ix_in hlt) dX0_same_56 ?_
            refine tp_l (y := f i) (by rw [ix_cl hlt]) ?_
            refine lv_lload hx hb dX0_same_57 (lv_at hl 3 rfl) ?_
            refine W.lcmp hx hb dX0_same_59 ?_
            refine lv_if_ge (tgt := 70) hx hb dX0_same_60 (by decide) (fun c_9 => ?_) (fun c_9 => ?_)
            · refine lv_lload hx hb dX0_same_70 (lv_at hl 3 rfl) ?_
              refine lv_lstore (lv' := [(4, .long m2), (2, .long m1), (0, .ref o), (1, .ref w), (6, .int (nI i))]) hx hb dX0_same_72 hl (by decide) rfl (fun ls hl => ?_)
              refine lv_iinc (v := nI (i + 1)) (lv' := [(6, .int (nI (i + 1))), (4, .long m2), (2, .long m1), (0, .ref o), (1, .ref w)]) hx hb dX0_same_74 hl (k := 4) rfl (nI_1 i) (by decide) rfl (fun ls hl => ?_)
              refine lv_goto (tgt := 12) hx hb dX0_same_77 (by decide) ?_
              exact ih (i + 1) m1 m2 hlt (by omega) (mx_keep hm1 c_8) (mn_keep hm2 c_9) ls (lv_sub hl [3, 4, 2, 1, 0] rfl)
            · refine lv_aload_n hx hb dX0_same_63 rfl (lv_at hl 2 rfl) ?_
              refine lv_iload hx hb dX0_same_64 (lv_at hl 4 rfl) ?_
              refine va_lald hx hb hK hP 2 1 rfl rfl (ix_in hlt) dX0_same_66 ?_
              refine tp_l (y := f i) (by rw [ix_cl hlt]) ?_
              refine lv_goto (tgt := 72) hx hb dX0_same_67 (by decide) ?_
              refine lv_lstore (lv' := [(4, .long (f i)), (2, .long m1), (0, .ref o), (1, .ref w), (6, .int (nI i))]) hx hb dX0_same_72 hl (by decide) rfl (fun ls hl => ?_)
              refine lv_iinc (v := nI (i + 1)) (lv' := [(6, .int (nI (i + 1))), (4, .long (f i)), (2, .long m1), (0, .ref o), (1, .ref w)]) hx hb dX0_same_74 hl (k := 4) rfl (nI_1 i) (by decide) rfl (fun ls hl => ?_)
              refine lv_goto (tgt := 12) hx hb dX0_same_77 (by decide) ?_
              exact ih (i + 1) m1 (f i) hlt (by omega) (mx_keep hm1 c_8) (mn_hit hlt hm2 c_9) ls (lv_sub hl [3, 4, 2, 1, 0] rfl)
          · refine lv_aload_n hx hb dX0_same_44 rfl (lv_at hl 1 rfl) ?_
            refine lv_iload hx hb dX0_same_45 (lv_at hl 4 rfl) ?_
            refine va_lald hx hb hK hP 2 1 rfl rfl (ix_in hlt) dX0_same_47 ?_
            refine tp_l (y := f i) (by rw [ix_cl hlt]) ?_
            refine lv_goto (tgt := 52) hx hb dX0_same_48 (by decide) ?_
            refine lv_lstore_n (lv' := [(2, .long (f i)), (0, .ref o), (1, .ref w), (4, .long m2), (6, .int (nI i))]) hx hb dX0_same_52 rfl hl (by decide) rfl (fun ls hl => ?_)
            refine lv_aload_n hx hb dX0_same_53 rfl (lv_at hl 2 rfl) ?_
            refine lv_iload hx hb dX0_same_54 (lv_at hl 4 rfl) ?_
            refine va_lald hx hb hK hP 2 1 rfl rfl (ix_in hlt) dX0_same_56 ?_
            refine tp_l (y := f i) (by rw [ix_cl hlt]) ?_
            refine lv_lload hx hb dX0_same_57 (lv_at hl 3 rfl) ?_
            refine W.lcmp hx hb dX0_same_59 ?_
            refine lv_if_ge (tgt := 70) hx hb dX0_same_60 (by decide) (fun c_10 => ?_) (fun c_10 => ?_)
            · refine lv_lload hx hb dX0_same_70 (lv_at hl 3 rfl) ?_
              refine lv_lstore (lv' := [(4, .long m2), (2, .long (f i)), (0, .ref o), (1, .ref w), (6, .int (nI i))]) hx hb dX0_same_72 hl (by decide) rfl (fun ls hl => ?_)
              refine lv_iinc (v := nI (i + 1)) (lv' := [(6, .int (nI (i + 1))), (4, .long m2), (2, .long (f i)), (0, .ref o), (1, .ref w)]) hx hb dX0_same_74 hl (k := 4) rfl (nI_1 i) (by decide) rfl (fun ls hl => ?_)
              refine lv_goto (tgt := 12) hx hb dX0_same_77 (by decide) ?_
              exact ih (i + 1) (f i) m2 hlt (by omega) (mx_hit hlt hm1 c_8) (mn_keep hm2 c_10) ls (lv_sub hl [3, 4, 2, 1, 0] rfl)
            · refine lv_aload_n hx hb dX0_same_63 rfl (lv_at hl 2 rfl) ?_
              refine lv_iload hx hb dX0_same_64 (lv_at hl 4 rfl) ?_
              refine va_lald hx hb hK hP 2 1 rfl rfl (ix_in hlt) dX0_same_66 ?_
              refine tp_l (y := f i) (by rw [ix_cl hlt]) ?_
              refine lv_goto (tgt := 72) hx hb dX0_same_67 (by decide) ?_
              refine lv_lstore (lv' := [(4, .long (f i)), (2, .long (f i)), (0, .ref o), (1, .ref w), (6, .int (nI i))]) hx hb dX0_same_72 hl (by decide) rfl (fun ls hl => ?_)
              refine lv_iinc (v := nI (i + 1)) (lv' := [(6, .int (nI (i + 1))), (4, .long (f i)), (2, .long (f i)), (0, .ref o), (1, .ref w)]) hx hb dX0_same_74 hl (k := 4) rfl (nI_1 i) (by decide) rfl (fun ls hl => ?_)
              refine lv_goto (tgt := 12) hx hb dX0_same_77 (by decide) ?_
              exact ih (i + 1) (f i) (f i) hlt (by omega) (mx_hit hlt hm1 c_8) (mn_hit hlt hm2 c_10) ls (lv_sub hl [3, 4, 2, 1, 0] rfl)
        · exact absurd ((lg_cmp_eq _ _).2 rfl) c_7
  have hl := lv_entry ([.ref o, .ref w]) (n := 7) (Nat.le_of_ble_eq_true rfl)
  rw [lg_entry_eq]
  generalize (lg_sl ([.ref o, .ref w]) ++ List.replicate (7 - (lg_sl ([.ref o, .ref w])).length) Slot.unset).toArray = ls at hl ⊢
  have hl : lv_has ls 7 [(0, .ref o), (1, .ref w)] := hl
  refine lv_aload_n hx hb dX0_same_0 rfl (lv_at hl 1 rfl) ?_
  refine lv_iconst (v := 0) hx hb dX0_same_1 (by decide) ?_
  refine va_lald hx hb hK hP 2 1 rfl rfl (ix_in (i := 0) (by decide)) dX0_same_2 ?_
  refine tp_l (y := f 0) rfl ?_
  refine lv_lstore_n (lv' := [(2, .long (f 0)), (0, .ref o), (1, .ref w)]) hx hb dX0_same_3 rfl hl (by decide) rfl (fun ls hl => ?_)
  refine lv_aload_n hx hb dX0_same_4 rfl (lv_at hl 2 rfl) ?_
  refine lv_iconst (v := 0) hx hb dX0_same_5 (by decide) ?_
  refine va_lald hx hb hK hP 2 1 rfl rfl (ix_in (i := 0) (by decide)) dX0_same_6 ?_
  refine tp_l (y := f 0) rfl ?_
  refine lv_lstore (lv' := [(4, .long (f 0)), (2, .long (f 0)), (0, .ref o), (1, .ref w)]) hx hb dX0_same_7 hl (by decide) rfl (fun ls hl => ?_)
  refine lv_iconst (v := 0) hx hb dX0_same_9 (by decide) ?_
  refine lv_istore (lv' := [(6, .int 0), (4, .long (f 0)), (2, .long (f 0)), (0, .ref o), (1, .ref w)]) hx hb dX0_same_10 hl (by decide) rfl (fun ls hl => ?_)
  exact K 13 0 (f 0) (f 0) (by decide) (by decide) (mx_0 f) (mn_0 f) ls (lv_sub hl [3, 4, 2, 1, 0] rfl)
set_option maxHeartbeats 4000000 in
set_option maxRecDepth 100000 in
/-- isHeld: true -/
theorem mX0_isHeld (l : Launch) (dC : Nat → ClassId) (dI : Nat → Nat → Nat) (o r w : Nat) (d d2 : ClassId) (f : Nat → Int64) (aS : Nat) (i j k : Int32) : Met l yX0_isHeld (ws_ yX0_isHeld cX0_isHeld 11 (some .boolean)) ({ frames := 4, cells := 0, slots := 0, locals := 89 }) (va_Pc [.ref o, .ref w, .int i, .int j, .int k] (fun U => va_P (dC, dI) cl_d [(o, .inr (0, [.ref r])), (r, .inl (d, 12, .inr (.inl f))), (w, .inl (d2, 12, .inr (.inl f)))] U.heap ∧ va_K (dC, dI) cl_d [(d, .long), (d2, .long)] U ∧ vk_R RX2 16 "min (%s) must be less than or equal to max (%s)" aS U)) (vp_Si (fun z => z = 1)) 0 0 (fun _ => False) := by
  refine Met.ofW (cc := cX0_isHeld) (maxL := 11) (ret := (some .boolean)) (by decide) rfl ?_
  intro p e s m args below meth c s₁ B hml hv
  obtain ⟨rfl, hP, hK, hZ⟩ := hv
  have hx := B.exec
  have hb := B.bytes
  have hr := B.returns
  have hts := atoms_spec (ws := (ws_ yX0_isHeld cX0_isHeld 11 (some .boolean))) B.pre
  have hts : ∀ w ∈ lw_all, w.before _ s = true := fun w h => hts w (List.mem_cons_of_mem _ h)
  have hown : s.vm.findClass RX0 = some m.cls := findClass_of_methodNamed B.named
  have hlocks := B.notSynchronized
  have hl := lv_entry ([.ref o, .ref w, .int i, .int j, .int k]) (n := 11) (Nat.le_of_ble_eq_true rfl)
  rw [lg_entry_eq]
  generalize (lg_sl ([.ref o, .ref w, .int i, .int j, .int k]) ++ List.replicate (11 - (lg_sl ([.ref o, .ref w, .int i, .int j, .int k])).length) Slot.unset).toArray = ls at hl ⊢
  have hl : lv_has ls 11 [(0, .ref o), (1, .ref w), (2, .int i), (3, .int j), (4, .int k)] := hl
  refine lv_aload_n hx hb dX0_isHeld_0 rfl (lv_at hl 1 rfl) ?_
  refine lv_iload_n hx hb dX0_isHeld_1 rfl (lv_at hl 2 rfl) ?_
  refine lv_bipush (v := 12) hx hb dX0_isHeld_2 (by decide) ?_
  refine vp_callSi (W.runS (As := [.int i, .int 12]) (rest := [.ref w]) ⟨hx, hb, hml, hown, hts⟩ (mX0_rest l i 12 (by decide) (by decide)) (va_cwS 2 hts (lw_S q126 q127 q3 q128) rfl rfl rfl (by decide +kernel) ⟨Nat.le_of_ble_eq_true rfl, Nat.le_of_ble_eq_true rfl⟩) ⟨fun _ _ _ _ q => q, fun _ _ _ => ⟨rfl, trivial⟩⟩ rfl rfl hl.1 rfl (lv_room (Nat.le_of_ble_eq_true rfl)) dX0_isHeld_4 ⟨Nat.le_of_ble_eq_true rfl, Nat.le_of_ble_eq_true rfl⟩) (fun r_1 hr_1 => ?_)
  subst hr_1
  refine va_lald hx hb hK hP 2 1 rfl rfl (rn_in i) dX0_isHeld_7 ?_
  refine tp_l (y := f (rn_v i 12)) (by rw [rn_cl]) ?_
  refine lv_lstore (lv' := [(5, .long (f (rn_v i 12))), (0, .ref o), (1, .ref w), (2, .int i), (3, .int j), (4, .int k)]) hx hb dX0_isHeld_8 hl (by decide) rfl (fun ls hl => ?_)
  refine lv_aload_n hx hb dX0_isHeld_10 rfl (lv_at hl 2 rfl) ?_
  refine lv_iload_n hx hb dX0_isHeld_11 rfl (lv_at hl 4 rfl) ?_
  refine lv_bipush (v := 12) hx hb dX0_isHeld_12 (by decide) ?_
  refine vp_callSi (W.runS (As := [.int j, .int 12]) (rest := [.ref w]) ⟨hx, hb, hml, hown, hts⟩ (mX0_rest l j 12 (by decide) (by decide)) (va_cwS 2 hts (lw_S q126 q127 q3 q128) rfl rfl rfl (by decide +kernel) ⟨Nat.le_of_ble_eq_true rfl, Nat.le_of_ble_eq_true rfl⟩) ⟨fun _ _ _ _ q => q, fun _ _ _ => ⟨rfl, trivial⟩⟩ rfl rfl hl.1 rfl (lv_room (Nat.le_of_ble_eq_true rfl)) dX0_isHeld_14 ⟨Nat.le_of_ble_eq_true rfl, Nat.le_of_ble_eq_true rfl⟩) (fun r_2 hr_2 => ?_)
  subst hr_2
  refine va_lald hx hb hK hP 2 1 rfl rfl (rn_in j) dX0_isHeld_17 ?_
  refine tp_l (y := f (rn_v j 12)) (by rw [rn_cl]) ?_
  refine lv_aload_n hx hb dX0_isHeld_18 rfl (lv_at hl 2 rfl) ?_
  refine lv_iload hx hb dX0_isHeld_19 (lv_at hl 5 rfl) ?_
  refine lv_bipush (v := 12) hx hb dX0_isHeld_21 (by decide) ?_
  refine vp_callSi (W.runS (As := [.int k, .int 12]) (rest := [.ref w, .long (f (rn_v j 12))]) ⟨hx, hb, hml, hown, hts⟩ (mX0_rest l k 12 (by decide) (by decide)) (va_cwS 2 hts (lw_S q126 q127 q3 q128) rfl rfl rfl (by decide +kernel) ⟨Nat.le_of_ble_eq_true rfl, Nat.le_of_ble_eq_true rfl⟩) ⟨fun _ _ _ _ q => q, fun _ _ _ => ⟨rfl, trivial⟩⟩ rfl rfl hl.1 rfl (lv_room (Nat.le_of_ble_eq_true rfl)) dX0_isHeld_23 ⟨Nat.le_of_ble_eq_true rfl, Nat.le_of_ble_eq_true rfl⟩) (fun r_3 hr_3 => ?_)
  subst hr_3
  refine va_lald hx hb hK hP 2 1 rfl rfl (rn_in k) dX0_isHeld_26 ?_
  refine tp_l (y := f (rn_v k 12)) (by rw [rn_cl]) ?_
  refine va_mmin_long hx hb (hml.trans hl.1.symm) hown (hts _ q237) (hts _ q238) (hts _ q12) (hts _ q239) (Nat.le_of_ble_eq_true rfl) (Nat.le_of_ble_eq_true rfl) (Nat.le_of_ble_eq_true rfl) (Nat.le_of_ble_eq_true rfl) dX0_isHeld_27 ?_
  refine tp_l (y := mi_l (f (rn_v j 12)) (f (rn_v k 12))) rfl ?_
  refine lv_lstore (lv' := [(7, .long (mi_l (f (rn_v j 12)) (f (rn_v k 12)))), (5, .long (f (rn_v i 12))), (0, .ref o), (1, .ref w), (2, .int i), (3, .int j), (4, .int k)]) hx hb dX0_isHeld_30 hl (by decide) rfl (fun ls hl => ?_)
  refine lv_aload_n hx hb dX0_isHeld_32 rfl (lv_at hl 3 rfl) ?_
  refine lv_iload_n hx hb dX0_isHeld_33 rfl (lv_at hl 5 rfl) ?_
  refine lv_bipush (v := 12) hx hb dX0_isHeld_34 (by decide) ?_
  refine vp_callSi (W.runS (As := [.int j, .int 12]) (rest := [.ref w]) ⟨hx, hb, hml, hown, hts⟩ (mX0_rest l j 12 (by decide) (by decide)) (va_cwS 2 hts (lw_S q126 q127 q3 q128) rfl rfl rfl (by decide +kernel) ⟨Nat.le_of_ble_eq_true rfl, Nat.le_of_ble_eq_true rfl⟩) ⟨fun _ _ _ _ q => q, fun _ _ _ => ⟨rfl, trivial⟩⟩ rfl rfl hl.1 rfl (lv_room (Nat.le_of_ble_eq_true rfl)) dX0_isHeld_36 ⟨Nat.le_of_ble_eq_true rfl, Nat.le_of_ble_eq_true rfl⟩) (fun r_4 hr_4 => ?_)
  subst hr_4
  refine va_lald hx hb hK hP 2 1 rfl rfl (rn_in j) dX0_isHeld_39 ?_
  refine tp_l (y := f (rn_v j 12)) (by rw [rn_cl]) ?_
  refine lv_aload_n hx hb dX0_isHeld_40 rfl (lv_at hl 3 rfl) ?_
  refine lv_iload hx hb dX0_isHeld_41 (lv_at hl 6 rfl) ?_
  refine lv_bipush (v := 12) hx hb dX0_isHeld_43 (by decide) ?_
  refine vp_callSi (W.runS (As := [.int k, .int 12]) (rest := [.ref w, .long (f (rn_v j 12))]) ⟨hx, hb, hml, hown, hts⟩ (mX0_rest l k 12 (by decide) (by decide)) (va_cwS 2 hts (lw_S q126 q127 q3 q128) rfl rfl rfl (by decide +kernel) ⟨Nat.le_of_ble_eq_true rfl, Nat.le_of_ble_eq_true rfl⟩) ⟨fun _ _ _ _ q => q, fun _ _ _ => ⟨rfl, trivial⟩⟩ rfl rfl hl.1 rfl (lv_room (Nat.le_of_ble_eq_true rfl)) dX0_isHeld_45 ⟨Nat.le_of_ble_eq_true rfl, Nat.le_of_ble_eq_true rfl⟩) (fun r_5 hr_5 => ?_)
  subst hr_5
  refine va_lald hx hb hK hP 2 1 rfl rfl (rn_in k) dX0_isHeld_48 ?_
  refine tp_l (y := f (rn_v k 12)) (by rw [rn_cl]) ?_
  refine va_mmax_long hx hb (hml.trans hl.1.symm) hown (hts _ q240) (hts _ q241) (hts _ q12) (hts _ q242) (Nat.le_of_ble_eq_true rfl) (Nat.le_of_ble_eq_true rfl) (Nat.le_of_ble_eq_true rfl) (Nat.le_of_ble_eq_true rfl) dX0_isHeld_49 ?_
  refine tp_l (y := ma_l (f (rn_v j 12)) (f (rn_v k 12))) rfl ?_
  refine lv_lstore (lv' := [(9, .long (ma_l (f (rn_v j 12)) (f (rn_v k 12)))), (7, .long (mi_l (f (rn_v j 12)) (f (rn_v k 12)))), (5, .long (f (rn_v i 12))), (0, .ref o), (1, .ref w), (2, .int i), (3, .int j), (4, .int k)]) hx hb dX0_isHeld_52 hl (by decide) rfl (fun ls hl => ?_)
  refine lv_aload_n hx hb dX0_isHeld_54 rfl (lv_at hl 3 rfl) ?_
  refine lv_iload_n hx hb dX0_isHeld_55 rfl (lv_at hl 5 rfl) ?_
  refine lv_iload_n hx hb dX0_isHeld_56 rfl (lv_at hl 6 rfl) ?_
  refine lv_iload hx hb dX0_isHeld_57 (lv_at hl 7 rfl) ?_
  refine vp_callSl (W.runV (As := [.int i, .int j, .int k]) (rest := []) ⟨hx, hb, hml, hown, hts⟩ (mX1_within l dC dI o r d f aS i j k) (cwV 3 hts (lw_V q243 q244 q245 q4 q246) rfl rfl rfl (by decide +kernel) ⟨Nat.le_of_ble_eq_true rfl, Nat.le_of_ble_eq_true rfl⟩) ⟨fun a U g mk q => ⟨q.1, q.2.1, va_K.moved (u := U) (U := U.calling g mk a) (Vm.Alike.refl U.vm) q.2.2.1, vk_R.same rfl q.2.2.2⟩, (va_recv hK hP (ci := 0) (q0 := 0) rfl rfl), fun U hU hW => ⟨rfl, by rw [hU]; exact (hP.sub (ws' := [(o, .inr (0, [.ref r])), (r, .inl (d, 12, .inr (.inl f)))]) [0, 1] rfl), va_K.moved hW.alike (hK.sub (tys' := [(d, .long)]) [0] rfl), vk_R.warm hW hZ⟩⟩ rfl rfl hl.1 rfl (lv_room (Nat.le_of_ble_eq_true rfl)) dX0_isHeld_59 ⟨Nat.le_of_ble_eq_true rfl, Nat.le_of_ble_eq_true rfl⟩) (fun r_6 hr_6 => ?_)
  subst hr_6
  refine lv_lload hx hb dX0_isHeld_62 (lv_at hl 2 rfl) ?_
  refine lv_lload hx hb dX0_isHeld_64 (lv_at hl 1 rfl) ?_
  refine W.lcmp hx hb dX0_isHeld_66 ?_
  refine lv_if_ge (tgt := 75) hx hb dX0_isHeld_67 (by decide) (fun c_7 => ?_) (fun c_7 => ?_)
  · refine lv_lload hx hb dX0_isHeld_75 (lv_at hl 2 rfl) ?_
    refine lv_lload hx hb dX0_isHeld_77 (lv_at hl 0 rfl) ?_
    refine W.lcmp hx hb dX0_isHeld_79 ?_
    refine lv_if_le (tgt := 88) hx hb dX0_isHeld_80 (by decide) (fun c_8 => ?_) (fun c_8 => ?_)
    · refine lv_lload hx hb dX0_isHeld_88 (lv_at hl 2 rfl) ?_
      refine W.lcmp hx hb dX0_isHeld_90 ?_
      refine lv_if_ne (tgt := 98) hx hb dX0_isHeld_91 (by decide) (fun c_9 => ?_) (fun c_9 => ?_)
      · exact absurd ((lg_cmp_eq _ _).2 (hd_3 c_7 c_8)) c_9
      · refine lv_iconst (v := 1) hx hb dX0_isHeld_94 (by decide) ?_
        refine lv_goto (tgt := 99) hx hb dX0_isHeld_95 (by decide) ?_
        exact W.zret (v := 1) hx hb hr rfl (fun t ht hW => ⟨_, rfl, rfl, ht⟩) (fun _ h => absurd h List.not_mem_nil) dX0_isHeld_99
    · refine lv_lload hx hb dX0_isHeld_83 (lv_at hl 0 rfl) ?_
      refine lv_goto (tgt := 90) hx hb dX0_isHeld_85 (by decide) ?_
      refine W.lcmp hx hb dX0_isHeld_90 ?_
      refine lv_if_ne (tgt := 98) hx hb dX0_isHeld_91 (by decide) (fun c_10 => ?_) (fun c_10 => ?_)
      · exact absurd ((lg_cmp_eq _ _).2 (hd_2 c_7 c_8)) c_10
      · refine lv_iconst (v := 1) hx hb dX0_isHeld_94 (by decide) ?_
        refine lv_goto (tgt := 99) hx hb dX0_isHeld_95 (by decide) ?_
        exact W.zret (v := 1) hx hb hr rfl (fun t ht hW => ⟨_, rfl, rfl, ht⟩) (fun _ h => absurd h List.not_mem_nil) dX0_isHeld_99
  · refine lv_lload hx hb dX0_isHeld_70 (lv_at hl 1 rfl) ?_
    refine lv_goto (tgt := 90) hx hb dX0_isHeld_72 (by decide) ?_
    refine W.lcmp hx hb dX0_isHeld_90 ?_
    refine lv_if_ne (tgt := 98) hx hb dX0_isHeld_91 (by decide) (fun c_11 => ?_) (fun c_11 => ?_)
    · exact absurd ((lg_cmp_eq _ _).2 (hd_1 c_7)) c_11
    · refine lv_iconst (v := 1) hx hb dX0_isHeld_94 (by decide) ?_
      refine lv_goto (tgt := 99) hx hb dX0_isHeld_95 (by decide) ?_
      exact W.zret (v := 1) hx hb hr rfl (fun t ht hW => ⟨_, rfl, rfl, ht⟩) (fun _ h => absurd h List.not_mem_nil) dX0_isHeld_99
set_option maxHeartbeats 4000000 in
set_option maxRecDepth 100000 in
/-- isBytes: true -/
theorem mX0_isBytes (l : Launch) (dC : Nat → ClassId) (dI : Nat → Nat → Nat) (sz : Nat) (o r w : Nat) (d d2 : ClassId) (f : Nat → Int64) (x a b : Int32) : Met l yX0_isBytes (ws_ yX0_isBytes cX0_isBytes 6 (some .boolean)) ({ frames := 2, cells := 9, slots := 72, locals := 49 }) (va_Pc [.ref o, .ref w, .int x, .int a, .int b] (fun U => U.heap.size = sz ∧ va_P (dC, dI) cl_d [(o, .inr (0, [.ref r])), (r, .inl (d, 12, .inr (.inl f))), (w, .inl (d2, 12, .inr (.inl f)))] U.heap ∧ va_K (dC, dI) cl_d [(d, .long), (d2, .long)] U)) (va_Qi (fun (z : Int32) (_ : Unit) => z = 1) (fun _ _ => True) (fun q : Nat => sz ≤ q)) 9 72 (fun q : Nat => sz ≤ q) := by
  refine Met.ofW (cc := cX0_isBytes) (maxL := 6) (ret := (some .boolean)) (by decide) rfl ?_
  intro p e s m args below meth c s₁ B hml hv
  obtain ⟨rfl, hsz, hP, hK⟩ := hv
  have hx := B.exec
  have hb := B.bytes
  have hr := B.returns
  have hts := atoms_spec (ws := (ws_ yX0_isBytes cX0_isBytes 6 (some .boolean))) B.pre
  have hts : ∀ w ∈ lw_all, w.before _ s = true := fun w h => hts w (List.mem_cons_of_mem _ h)
  have hown : s.vm.findClass RX0 = some m.cls := findClass_of_methodNamed B.named
  have hlocks := B.notSynchronized
  subst hsz
  have hS : va_S (fun q : Nat => s.heap.size ≤ q) s.heap s.heap [] := va_S.rf
  have K : ∀ (n i : Nat), i ≤ 8 → 9 ≤ i + n → ∀ (H : Heap) (locs : List Loc), va_P (dC, dI) cl_d [(o, .inr (0, [.ref r])), (r, .inl (d, 12, .inr (.inl f))), (w, .inl (d2, 12, .inr (.inl f)))] H → va_S (fun q : Nat => s.heap.size ≤ q) s.heap H locs → ∀ ls : Array Slot, lv_has ls 6 [(0, .ref o), (1, .ref w), (2, .int x), (3, .int a), (4, .int b), (5, .int (nI i))] → W p l e (headSpec (ws_ yX0_isBytes cX0_isBytes 6 (some .boolean)) ({ frames := 2, cells := 9, slots := 72, locals := 49 })).room s m ([.ref o, .ref w, .int x, .int a, .int b] : List Value).toArray below meth c H locs i (8 * i) (MQ below (va_Qi (fun (z : Int32) (_ : Unit) => z = 1) (fun _ _ => True) (fun q : Nat => s.heap.size ≤ q)) ([.ref o, .ref w, .int x, .int a, .int b] : List Value).toArray s 9 72 (fun q : Nat => s.heap.size ≤ q)) (F0 m 3 ls []) := by
    intro n
    induction n with
    | zero =>
      intro i hi hin
      omega
    | succ n ih =>
      intro i hi hin H locs hP hS ls hl
      refine lv_iload hx hb dX0_isBytes_3 (lv_at hl 5 rfl) ?_
      refine lv_bipush (v := 8) hx hb dX0_isBytes_5 (by decide) ?_
      refine lv_icmp_ge (tgt := 50) hx hb dX0_isBytes_7 (by decide) (fun c_1 => ?_) (fun c_1 => ?_)
      · have e8 := lp_t8 hi c_1
        subst e8
        refine W.widen (k := 8) (n := 64) (Nat.le_refl _) (Nat.le_refl _) ?_
        refine lv_aload_n hx hb dX0_isBytes_50 rfl (lv_at hl 0 rfl) ?_
        refine lv_iload_n hx hb dX0_isBytes_51 rfl (lv_at hl 3 rfl) ?_
        refine lv_iload hx hb dX0_isBytes_52 (lv_at hl 4 rfl) ?_
        refine vp_callSl (W.runV (As := [.int a, .int b]) (rest := []) ⟨hx, hb, hml, hown, hts⟩ (mX1_ofBytes l o a b) (cwV 2 hts (lw_V q227 q228 q229 q4 q230) rfl rfl rfl (by decide +kernel) ⟨Nat.le_of_ble_eq_true rfl, Nat.le_of_ble_eq_true rfl⟩) ⟨fun _ _ _ _ q => q, (va_recv hK hP (ci := 0) (q0 := 0) rfl rfl), fun _ _ _ => ⟨rfl, trivial⟩⟩ rfl rfl hl.1 rfl (lv_room (Nat.le_of_ble_eq_true rfl)) dX0_isBytes_54 ⟨Nat.le_of_ble_eq_true rfl, Nat.le_of_ble_eq_true rfl⟩) (fun r_2 hr_2 => ?_)
        subst hr_2
        refine lv_iload_n hx hb dX0_isBytes_57 rfl (lv_at hl 3 rfl) ?_
        refine lv_iload hx hb dX0_isBytes_58 (lv_at hl 4 rfl) ?_
        refine vp_callSl (W.runS (As := [.int a, .int b]) (rest := [.long (wd_v a b)]) ⟨hx, hb, hml, hown, hts⟩ (mX0_of l a b) (va_cwS 2 hts (lw_S q130 q131 q3 q132) rfl rfl rfl (by decide +kernel) ⟨Nat.le_of_ble_eq_true rfl, Nat.le_of_ble_eq_true rfl⟩) ⟨fun _ _ _ _ q => q, fun _ _ _ => ⟨rfl, trivial⟩⟩ rfl rfl hl.1 rfl (lv_room (Nat.le_of_ble_eq_true rfl)) dX0_isBytes_60 ⟨Nat.le_of_ble_eq_true rfl, Nat.le_of_ble_eq_true rfl⟩) (fun r_3 hr_3 => ?_)
        subst hr_3
        refine W.lcmp hx hb dX0_isBytes_63 ?_
        refine lv_if_ne (tgt := 104) hx hb dX0_isBytes_64 (by decide) (fun c_4 => ?_) (fun c_4 => ?_)
        · exact absurd ((lg_cmp_eq _ _).2 rfl) c_4
        · refine lv_aload_n hx hb dX0_isBytes_67 rfl (lv_at hl 0 rfl) ?_
          refine lv_iload_n hx hb dX0_isBytes_68 rfl (lv_at hl 2 rfl) ?_
          refine lv_iload_n hx hb dX0_isBytes_69 rfl (lv_at hl 3 rfl) ?_
          have hPc := hP.sub (ws' := [(o, .inr (0, [.ref r])), (r, .inl (d, 12, .inr (.inl f)))]) [0, 1] rfl
          have hKc := hK.sub (tys' := [(d, .long)]) [0] rfl
          refine va_calli (va_runV (As := [.int x, .int a]) (rest := []) ⟨hx, hb, hml, hown, hts⟩ (mX1_letter l dC dI H.size o r d f x a) (cwV 2 hts (lw_V q218 q219 q220 q4 q221) rfl rfl rfl (by decide +kernel) ⟨Nat.le_of_ble_eq_true rfl, Nat.le_of_ble_eq_true rfl⟩) ⟨fun a U g mk q => ⟨q.1, q.2.1, q.2.2.1, va_K.moved (u := U) (U := U.calling g mk a) (Vm.Alike.refl U.vm) q.2.2.2⟩, (va_recv hK hP (ci := 0) (q0 := 0) rfl rfl), fun U hU hW => ⟨rfl, by rw [hU], by rw [hU]; exact hPc, va_K.moved hW.alike hKc⟩⟩ rfl rfl hl.1 rfl (lv_room (Nat.le_of_ble_eq_true rfl)) dX0_isBytes_70 ⟨Nat.le_of_ble_eq_true rfl, Nat.le_of_ble_eq_true rfl⟩) hS (fun q _ h => Nat.le_trans hS.1 h) (fun q h => Nat.le_trans hS.1 h) (fun r_5 u t H1 locs ht hvm hw hB hz1 hk1 hS => ?_)
          clear hPc hKc hB hvm
          have hP := hP.kept (H1 := H1) (fun k q hk => hk1 q.1 (hP k q hk).lt (Nat.not_le.mpr (hP k q hk).lt))
          clear hk1 hz1 ht
          generalize H1 = H at hP hS ⊢
          have hw : r_5 = lt_v (f (rn_v x 12)) (sv_n a) := hw
          subst hw
          refine W.widen (k := 9) (n := 72) (Nat.le_refl _) (Nat.le_refl _) ?_
          refine lv_aload_n hx hb dX0_isBytes_73 rfl (lv_at hl 1 rfl) ?_
          refine lv_iload_n hx hb dX0_isBytes_74 rfl (lv_at hl 2 rfl) ?_
          refine lv_bipush (v := 12) hx hb dX0_isBytes_75 (by decide) ?_
          refine vp_callSi (W.runS (As := [.int x, .int 12]) (rest := [.ref w, .int (lt_v (f (rn_v x 12)) (sv_n a))]) ⟨hx, hb, hml, hown, hts⟩ (mX0_rest l x 12 (by decide) (by decide)) (va_cwS 2 hts (lw_S q126 q127 q3 q128) rfl rfl rfl (by decide +kernel) ⟨Nat.le_of_ble_eq_true rfl, Nat.le_of_ble_eq_true rfl⟩) ⟨fun _ _ _ _ q => q, fun _ _ _ => ⟨rfl, trivial⟩⟩ rfl rfl hl.1 rfl (lv_room (Nat.le_of_ble_eq_true rfl)) dX0_isBytes_77 ⟨Nat.le_of_ble_eq_true rfl, Nat.le_of_ble_eq_true rfl⟩) (fun r_6 hr_6 => ?_)
          subst hr_6
          refine va_lald hx hb hK hP 2 1 rfl rfl (rn_in x) dX0_isBytes_80 ?_
          refine tp_l (y := f (rn_v x 12)) (by rw [rn_cl]) ?_
          refine lv_bipush (v := 8) hx hb dX0_isBytes_81 (by decide) ?_
          refine lv_bipush (v := 7) hx hb dX0_isBytes_83 (by decide) ?_
          refine lv_iload_n hx hb dX0_isBytes_85 rfl (lv_at hl 3 rfl) ?_
          refine lv_bipush (v := 7) hx hb dX0_isBytes_86 (by decide) ?_
          refine lv_iand hx hb dX0_isBytes_88 ?_
          refine tp_i (y := nI (sv_n a)) (sv_eq a) ?_
          refine lv_isub hx hb dX0_isBytes_89 ?_
          refine tp_i (y := nI (7 - sv_n a)) (pk_sub (a := 7) (Nat.le_of_lt_succ (sv_lt a))) ?_
          refine lv_imul hx hb dX0_isBytes_90 ?_
          refine tp_i (y := nI (8 * (7 - sv_n a))) (pk_mul 8 (7 - sv_n a)) ?_
          refine lv_lushr (v := ((f (rn_v x 12)).toUInt64 >>> ((nI (8 * (7 - sv_n a))).toInt64.toUInt64 &&& Int64.toUInt64 63)).toInt64) hx hb dX0_isBytes_91 rfl ?_
          refine lv_ldc2 hx hb hown (hts _ q226) dX0_isBytes_92 ?_
          refine lv_land hx hb dX0_isBytes_95 ?_
          refine lv_l2i (v := ((((f (rn_v x 12)).toUInt64 >>> ((nI (8 * (7 - sv_n a))).toInt64.toUInt64 &&& Int64.toUInt64 63)).toInt64) &&& 255).toInt32) hx hb dX0_isBytes_96 rfl ?_
          refine tp_i (y := lt_v (f (rn_v x 12)) (sv_n a)) rfl ?_
          refine lv_icmp_ne (tgt := 104) hx hb dX0_isBytes_97 (by decide) (fun c_7 => ?_) (fun c_7 => ?_)
          · exact absurd rfl c_7
          · refine lv_iconst (v := 1) hx hb dX0_isBytes_100 (by decide) ?_
            refine lv_goto (tgt := 105) hx hb dX0_isBytes_101 (by decide) ?_
            exact W.zret (v := 1) hx hb hr rfl (fun t ht hW => ⟨⟨_, (), rfl, rfl, trivial⟩, hS.F ht⟩) hS.2.2 dX0_isBytes_105
      · have hlt := lp_f8 hi c_1
        refine lv_aload_n hx hb dX0_isBytes_10 rfl (lv_at hl 0 rfl) ?_
        refine lv_iload_n hx hb dX0_isBytes_11 rfl (lv_at hl 2 rfl) ?_
        refine lv_iload hx hb dX0_isBytes_12 (lv_at hl 5 rfl) ?_
        have hPc := hP.sub (ws' := [(o, .inr (0, [.ref r])), (r, .inl (d, 12, .inr (.inl f)))]) [0, 1] rfl
        have hKc := hK.sub (tys' := [(d, .long)]) [0] rfl
        refine va_calli (va_runV (As := [.int x, .int (nI i)]) (rest := []) ⟨hx, hb, hml, hown, hts⟩ (mX1_letter l dC dI H.size o r d f x (nI i)) (cwV 2 hts (lw_V q218 q219 q220 q4 q221) rfl rfl rfl (by decide +kernel) ⟨Nat.le_of_ble_eq_true rfl, Nat.le_of_ble_eq_true rfl⟩) ⟨fun a U g mk q => ⟨q.1, q.2.1, q.2.2.1, va_K.moved (u := U) (U := U.calling g mk a) (Vm.Alike.refl U.vm) q.2.2.2⟩, (va_recv hK hP (ci := 0) (q0 := 0) rfl rfl), fun U hU hW => ⟨rfl, by rw [hU], by rw [hU]; exact hPc, va_K.moved hW.alike hKc⟩⟩ rfl rfl hl.1 rfl (lv_room (Nat.le_of_ble_eq_true rfl)) dX0_isBytes_14 ⟨(by show i + 1 ≤ 9; omega), (by show 8 * i + 8 ≤ 72; omega)⟩) hS (fun q _ h => Nat.le_trans hS.1 h) (fun q h => Nat.le_trans hS.1 h) (fun r_8 u t H1 locs ht hvm hw hB hz1 hk1 hS => ?_)
        clear hPc hKc hB hvm
        have hP := hP.kept (H1 := H1) (fun k q hk => hk1 q.1 (hP k q hk).lt (Nat.not_le.mpr (hP k q hk).lt))
        clear hk1 hz1 ht
        generalize H1 = H at hP hS ⊢
        have hw : r_8 = lt_v (f (rn_v x 12)) (sv_n (nI i)) := hw
        rw [sv_nI hlt] at hw
        subst hw
        refine lv_aload_n hx hb dX0_isBytes_17 rfl (lv_at hl 1 rfl) ?_
        refine lv_iload_n hx hb dX0_isBytes_18 rfl (lv_at hl 2 rfl) ?_
        refine lv_bipush (v := 12) hx hb dX0_isBytes_19 (by decide) ?_
        refine vp_callSi (W.runS (As := [.int x, .int 12]) (rest := [.ref w, .int (lt_v (f (rn_v x 12)) i)]) ⟨hx, hb, hml, hown, hts⟩ (mX0_rest l x 12 (by decide) (by decide)) (va_cwS 2 hts (lw_S q126 q127 q3 q128) rfl rfl rfl (by decide +kernel) ⟨Nat.le_of_ble_eq_true rfl, Nat.le_of_ble_eq_true rfl⟩) ⟨fun _ _ _ _ q => q, fun _ _ _ => ⟨rfl, trivial⟩⟩ rfl rfl hl.1 rfl (lv_room (Nat.le_of_ble_eq_true rfl)) dX0_isBytes_21 ⟨(by show i + 1 + 0 ≤ 9; omega), (by show 8 * i + 8 + 0 ≤ 72; omega)⟩) (fun r_9 hr_9 => ?_)
        subst hr_9
        refine va_lald hx hb hK hP 2 1 rfl rfl (rn_in x) dX0_isBytes_24 ?_
        refine tp_l (y := f (rn_v x 12)) (by rw [rn_cl]) ?_
        refine lv_bipush (v := 8) hx hb dX0_isBytes_25 (by decide) ?_
        refine lv_bipush (v := 7) hx hb dX0_isBytes_27 (by decide) ?_
        refine lv_iload hx hb dX0_isBytes_29 (lv_at hl 5 rfl) ?_
        refine lv_isub hx hb dX0_isBytes_31 ?_
        refine tp_i (y := nI (7 - i)) (pk_sub (a := 7) (by omega)) ?_
        refine lv_imul hx hb dX0_isBytes_32 ?_
        refine tp_i (y := nI (8 * (7 - i))) (pk_mul 8 (7 - i)) ?_
        refine lv_lushr (v := ((f (rn_v x 12)).toUInt64 >>> ((nI (8 * (7 - i))).toInt64.toUInt64 &&& Int64.toUInt64 63)).toInt64) hx hb dX0_isBytes_33 rfl ?_
        refine lv_ldc2 hx hb hown (hts _ q226) dX0_isBytes_34 ?_
        refine lv_land hx hb dX0_isBytes_37 ?_
        refine lv_l2i (v := ((((f (rn_v x 12)).toUInt64 >>> ((nI (8 * (7 - i))).toInt64.toUInt64 &&& Int64.toUInt64 63)).toInt64) &&& 255).toInt32) hx hb dX0_isBytes_38 rfl ?_
        refine tp_i (y := lt_v (f (rn_v x 12)) i) rfl ?_
        refine lv_icmp_eq (tgt := 44) hx hb dX0_isBytes_39 (by decide) (fun c_10 => ?_) (fun c_10 => ?_)
        · refine lv_iinc (v := nI (i + 1)) (lv' := [(5, .int (nI (i + 1))), (0, .ref o), (1, .ref w), (2, .int x), (3, .int a), (4, .int b)]) hx hb dX0_isBytes_44 hl (k := 5) rfl (nI_1 i) (by decide) rfl (fun ls hl => ?_)
          refine lv_goto (tgt := 3) hx hb dX0_isBytes_47 (by decide) ?_
          refine W.widen (k := i + 1) (n := 8 * (i + 1)) (by omega) (by omega) ?_
          exact ih (i + 1) hlt (by omega) H locs hP hS ls (lv_sub hl [1, 2, 3, 4, 5, 0] rfl)
        · exact absurd rfl c_10
  have hl := lv_entry ([.ref o, .ref w, .int x, .int a, .int b]) (n := 6) (Nat.le_of_ble_eq_true rfl)
  rw [lg_entry_eq]
  generalize (lg_sl ([.ref o, .ref w, .int x, .int a, .int b]) ++ List.replicate (6 - (lg_sl ([.ref o, .ref w, .int x, .int a, .int b])).length) Slot.unset).toArray = ls at hl ⊢
  have hl : lv_has ls 6 [(0, .ref o), (1, .ref w), (2, .int x), (3, .int a), (4, .int b)] := hl
  refine lv_iconst (v := 0) hx hb dX0_isBytes_0 (by decide) ?_
  refine lv_istore (lv' := [(5, .int 0), (0, .ref o), (1, .ref w), (2, .int x), (3, .int a), (4, .int b)]) hx hb dX0_isBytes_1 hl (by decide) rfl (fun ls hl => ?_)
  exact K 9 0 (by decide) (by decide) s.heap [] hP hS ls (lv_sub hl [1, 2, 3, 4, 5, 0] rfl)
end
section
/-! THE CLAIM OUT OF ONE WALK OF THE LAW'S BODY. Your part is whole_start (and what it stands on); all else here is the same for every law, but numbers. -/
def R_law : String := "LongRowDeskLaw"
def lw_P (b : Addr) (xs : List Int32) (args : Array Value) (s : State) : Prop := args = #[.ref b] ∧ s.IntsAt b xs ∧ xs.length ≤ 96 ∧ (Jvm.Cond.and given_1 narrow_1).before args s = true
def lw_Q (_ : Array Value) (s : State) (o : Outcome) (t : State) : Prop := o = .returned (some (.int 1)) ∧ Framed s o t [] 1200192 5500522
def lw_Z (below : List Frame) (a : Array Value) (s : State) : State → Prop := fun t => ∃ o, t.status = .running ∧ Ended t below o ∧ lw_Q a s o t
/-- the law's own end, with 1 on the stack, nothing written that was there before, its room as the claim has it -/
theorem lw_ret {p : Program} {l : Launch} {e : Env} {s : State} {m : MethodId} {below : List Frame} {meth : Method} {c : Code} {b : Nat} (hx : p.tables.exec = Jvm.exec) (hb : c.code = code) (hr : meth.sig.returnType = ret) (hlocks : meth.locks = false) {pc : Nat} {H : Heap} {ls : Array Slot} (hdg : decode code pc = .ok (.ireturn, 1)) : W p l e room_1 s m #[Value.ref b] below meth c H [] 1200192 5500522 (lw_Z below #[Value.ref b] s) (F0 m pc ls [.int 1]) := by
  intro T hT X
  obtain ⟨fs, hret, hrun, hended, hW, hframe⟩ := X.leave (v := some (.int 1)) (hlocks := hlocks) (fun h => by rw [hr] at h; cases h)
  have hmeth' : T.vm.method? m = some meth := X.method'
  refine ⟨T.setFrames fs, ?_, .returned (some (.int 1)), hrun, hended, rfl, ⟨_, rfl⟩, hW, hframe⟩
  jvm_step X.here [X.here.top, hx, hb, hdg, hmeth', hr, ret, narrow_b1]
  (try refine ⟨rfl, ?_⟩); (try refine ⟨rfl, ?_⟩)
  first | (intro acts; rw [hret _ acts rfl rfl rfl]) | rw [hret _ _ rfl rfl rfl]
  exact Steps.refl _
/-- what holds at the law's entry: the machine, the code, the tables' words (any of lw_tbl by 'hts w (by decide +kernel)'), the script of L ints xs at the cell b, what the Statement gives of the start (any of its parts by flat_of_before) -/
def lw_At (p : Program) (s : State) (m : MethodId) (meth : Method) (c : Code) (b L : Nat) (xs : Nat → Int32) : Prop :=
  p.tables.exec = Jvm.exec ∧ c.code = code ∧ meth.sig.returnType = ret ∧ c.maxLocals = 13 ∧ s.vm.findClass R_law = some m.cls ∧ (∀ w ∈ lw_tbl, w.before #[Value.ref b] s = true) ∧ va_X b L xs s s.heap ∧ b < s.heap.size ∧ meth.locks = false ∧ (Jvm.Cond.and given_1 narrow_1).before #[Value.ref b] s = true
-- ===== YOUR PART BEGINS =====
set_option maxHeartbeats 4000000 in
set_option maxRecDepth 100000 in
/-- behind a turn: the checks all hold, and the next turn begins -/
theorem law_tail {p : Program} {e : Env} {s : State} {m : MethodId} {below : List Frame} {meth : Method} {c : Code} (l : Launch) {b L : Nat} {xs : Nat → Int32} (hL : L ≤ 96) (C0 : lw_At p s m meth c b L xs) {dC : Nat → ClassId} {dI : Nat → Nat → Nat} {aS : Nat} (hZ : vk_R RX2 16 "min (%s) must be less than or equal to max (%s)" aS s) {o r w : Nat} {d1 d2 : ClassId} (hK : va_K (dC, dI) cl_d [(d1, .long), (d2, .long)] s) {i : Nat} (hi : i < 24) (hn : ∀ (f : Nat → Int64) (H : Heap) (locs : List Loc) (kc ks : Nat), kc ≤ 3 + 9 * (i + 1) → ks ≤ 25 + 72 * (i + 1) → va_P (dC, dI) cl_d [(o, .inr (0, [.ref r])), (r, .inl (d1, 12, .inr (.inl f))), (w, .inl (d2, 12, .inr (.inl f)))] H → va_D (fun q : Nat => s.heap.size ≤ q) [(o, .inr (0, [.ref r])), (r, .inl (d1, 12, .inr (.inl f))), (w, .inl (d2, 12, .inr (.inl f)))] → va_S (fun q : Nat => s.heap.size ≤ q) s.heap H locs → ∀ ls : Array Slot, lv_has ls 13 [(0, .ref b), (1, .ref o), (2, .ref w), (3, .int (nI (i + 1)))] → W p l e room_1 s m #[Value.ref b] below meth c H locs kc ks (lw_Z below #[Value.ref b] s) (F0 m 25 ls [])) : ∀ (f : Nat → Int64) (H : Heap) (locs : List Loc) (kc ks : Nat), kc ≤ 3 + 9 * i → ks ≤ 25 + 72 * i → va_P (dC, dI) cl_d [(o, .inr (0, [.ref r])), (r, .inl (d1, 12, .inr (.inl f))), (w, .inl (d2, 12, .inr (.inl f)))] H → va_D (fun q : Nat => s.heap.size ≤ q) [(o, .inr (0, [.ref r])), (r, .inl (d1, 12, .inr (.inl f))), (w, .inl (d2, 12, .inr (.inl f)))] → va_S (fun q : Nat => s.heap.size ≤ q) s.heap H locs → ∀ (x a g h : Int32) (ls : Array Slot), lv_has ls 13 [(0, .ref b), (1, .ref o), (2, .ref w), (3, .int (nI i)), (4, .int x), (5, .int a), (6, .int g), (7, .int h)] → W p l e room_1 s m #[Value.ref b] below meth c H locs kc ks (lw_Z below #[Value.ref b] s) (F0 m 230 ls []) := by
  obtain ⟨hx, hb, hr, hml, hown, hts0, hX, hbl, hlocks, hgv⟩ := id C0
  have hts : ∀ w ∈ lw_all, w.before #[Value.ref b] s = true := fun w h => hts0 w (lw_all_tbl h)
  have hA : ∀ q : Nat, s.heap.size ≤ q → (fun q : Nat => s.heap.size ≤ q) q := fun _ h => h
  intro f H locs kc ks hkc hks hP hD hS x a g h ls hl
  refine lv_aload_n hx hb dL_law_230 rfl (lv_at hl 1 rfl) ?_
  refine lv_aload_n hx hb dL_law_231 rfl (lv_at hl 2 rfl) ?_
  refine vp_callSi (W.runS (As := [.ref o, .ref w]) (rest := []) ⟨hx, hb, hml, hown, hts⟩ (mX0_same l dC dI o r w d1 d2 f) (va_cwS 2 hts (lw_S q170 q171 q3 q172) rfl rfl rfl (by decide +kernel) ⟨Nat.le_of_ble_eq_true rfl, Nat.le_of_ble_eq_true rfl⟩) ⟨fun a U g mk q => ⟨q.1, q.2.1, va_K.moved (u := U) (U := U.calling g mk a) (Vm.Alike.refl U.vm) q.2.2⟩, fun U hU hW => ⟨rfl, by rw [hU]; exact (hP.sub (ws' := [(o, .inr (0, [.ref r])), (r, .inl (d1, 12, .inr (.inl f))), (w, .inl (d2, 12, .inr (.inl f)))]) [0, 1, 2] rfl), va_K.moved hW.alike (hK.sub (tys' := [(d1, .long), (d2, .long)]) [0, 1] rfl)⟩⟩ rfl rfl hl.1 rfl (lv_room (Nat.le_of_ble_eq_true rfl)) dL_law_232 ⟨(by show kc + 0 ≤ 1200192; omega), (by show ks + 0 ≤ 5500522; omega)⟩) (fun r_1 hr_1 => ?_)
  subst hr_1
  refine lv_if_eq (tgt := 327) hx hb dL_law_235 (by decide) (fun c_2 => ?_) (fun c_2 => ?_)
  · exact absurd c_2 (by decide)
  · refine lv_aload_n hx hb dL_law_238 rfl (lv_at hl 1 rfl) ?_
    refine lv_aload_n hx hb dL_law_239 rfl (lv_at hl 2 rfl) ?_
    refine lv_iload hx hb dL_law_240 (lv_at hl 6 rfl) ?_
    refine lv_iload hx hb dL_law_242 (lv_at hl 7 rfl) ?_
    refine vp_callSl (W.runS (As := [.int g, .int h]) (rest := [.ref w, .ref o]) ⟨hx, hb, hml, hown, hts⟩ (mX0_of l g h) (va_cwS 2 hts (lw_S q130 q131 q3 q132) rfl rfl rfl (by decide +kernel) ⟨Nat.le_of_ble_eq_true rfl, Nat.le_of_ble_eq_true rfl⟩) ⟨fun _ _ _ _ q => q, fun _ _ _ => ⟨rfl, trivial⟩⟩ rfl rfl hl.1 rfl (lv_room (Nat.le_of_ble_eq_true rfl)) dL_law_244 ⟨(by show kc + 0 ≤ 1200192; omega), (by show ks + 0 ≤ 5500522; omega)⟩) (fun r_3 hr_3 => ?_)
    subst hr_3
    refine vp_callSi (W.runS (As := [.ref o, .ref w, .long (wd_v g h)]) (rest := []) ⟨hx, hb, hml, hown, hts⟩ (mX0_isFound l dC dI o r w d1 d2 f (wd_v g h)) (va_cwS 3 hts (lw_S q137 q138 q3 q139) rfl rfl rfl (by decide +kernel) ⟨Nat.le_of_ble_eq_true rfl, Nat.le_of_ble_eq_true rfl⟩) ⟨fun a U g mk q => ⟨q.1, q.2.1, va_K.moved (u := U) (U := U.calling g mk a) (Vm.Alike.refl U.vm) q.2.2⟩, fun U hU hW => ⟨rfl, by rw [hU]; exact (hP.sub (ws' := [(o, .inr (0, [.ref r])), (r, .inl (d1, 12, .inr (.inl f))), (w, .inl (d2, 12, .inr (.inl f)))]) [0, 1, 2] rfl), va_K.moved hW.alike (hK.sub (tys' := [(d1, .long), (d2, .long)]) [0, 1] rfl)⟩⟩ rfl rfl hl.1 rfl (lv_room (Nat.le_of_ble_eq_true rfl)) dL_law_247 ⟨(by show kc + 0 ≤ 1200192; omega), (by show ks + 0 ≤ 5500522; omega)⟩) (fun r_4 hr_4 => ?_)
    subst hr_4
    refine lv_if_eq (tgt := 327) hx hb dL_law_250 (by decide) (fun c_5 => ?_) (fun c_5 => ?_)
    · exact absurd c_5 (by decide)
    · refine lv_aload_n hx hb dL_law_253 rfl (lv_at hl 1 rfl) ?_
      refine lv_aload_n hx hb dL_law_254 rfl (lv_at hl 2 rfl) ?_
      refine lv_aload_n hx hb dL_law_255 rfl (lv_at hl 2 rfl) ?_
      refine lv_iload hx hb dL_law_256 (lv_at hl 7 rfl) ?_
      refine lv_bipush (v := 12) hx hb dL_law_258 (by decide) ?_
      refine vp_callSi (W.runS (As := [.int h, .int 12]) (rest := [.ref w, .ref w, .ref o]) ⟨hx, hb, hml, hown, hts⟩ (mX0_rest l h 12 (by decide) (by decide)) (va_cwS 2 hts (lw_S q126 q127 q3 q128) rfl rfl rfl (by decide +kernel) ⟨Nat.le_of_ble_eq_true rfl, Nat.le_of_ble_eq_true rfl⟩) ⟨fun _ _ _ _ q => q, fun _ _ _ => ⟨rfl, trivial⟩⟩ rfl rfl hl.1 rfl (lv_room (Nat.le_of_ble_eq_true rfl)) dL_law_260 ⟨(by show kc + 0 ≤ 1200192; omega), (by show ks + 0 ≤ 5500522; omega)⟩) (fun r_6 hr_6 => ?_)
      subst hr_6
      refine va_lald hx hb hK hP 2 1 rfl rfl (rn_in h) dL_law_263 ?_
      refine tp_l (y := f (rn_v h 12)) (by rw [rn_cl]) ?_
      refine vp_callSi (W.runS (As := [.ref o, .ref w, .long (f (rn_v h 12))]) (rest := []) ⟨hx, hb, hml, hown, hts⟩ (mX0_isFound l dC dI o r w d1 d2 f (f (rn_v h 12))) (va_cwS 3 hts (lw_S q137 q138 q3 q139) rfl rfl rfl (by decide +kernel) ⟨Nat.le_of_ble_eq_true rfl, Nat.le_of_ble_eq_true rfl⟩) ⟨fun a U g mk q => ⟨q.1, q.2.1, va_K.moved (u := U) (U := U.calling g mk a) (Vm.Alike.refl U.vm) q.2.2⟩, fun U hU hW => ⟨rfl, by rw [hU]; exact (hP.sub (ws' := [(o, .inr (0, [.ref r])), (r, .inl (d1, 12, .inr (.inl f))), (w, .inl (d2, 12, .inr (.inl f)))]) [0, 1, 2] rfl), va_K.moved hW.alike (hK.sub (tys' := [(d1, .long), (d2, .long)]) [0, 1] rfl)⟩⟩ rfl rfl hl.1 rfl (lv_room (Nat.le_of_ble_eq_true rfl)) dL_law_264 ⟨(by show kc + 0 ≤ 1200192; omega), (by show ks + 0 ≤ 5500522; omega)⟩) (fun r_7 hr_7 => ?_)
      subst hr_7
      refine lv_if_eq (tgt := 327) hx hb dL_law_267 (by decide) (fun c_8 => ?_) (fun c_8 => ?_)
      · exact absurd c_8 (by decide)
      · refine lv_aload_n hx hb dL_law_270 rfl (lv_at hl 1 rfl) ?_
        refine lv_aload_n hx hb dL_law_271 rfl (lv_at hl 2 rfl) ?_
        refine lv_iload hx hb dL_law_272 (lv_at hl 7 rfl) ?_
        refine lv_iload hx hb dL_law_274 (lv_at hl 6 rfl) ?_
        refine vp_callSl (W.runS (As := [.int h, .int g]) (rest := [.ref w, .ref o]) ⟨hx, hb, hml, hown, hts⟩ (mX0_of l h g) (va_cwS 2 hts (lw_S q130 q131 q3 q132) rfl rfl rfl (by decide +kernel) ⟨Nat.le_of_ble_eq_true rfl, Nat.le_of_ble_eq_true rfl⟩) ⟨fun _ _ _ _ q => q, fun _ _ _ => ⟨rfl, trivial⟩⟩ rfl rfl hl.1 rfl (lv_room (Nat.le_of_ble_eq_true rfl)) dL_law_276 ⟨(by show kc + 0 ≤ 1200192; omega), (by show ks + 0 ≤ 5500522; omega)⟩) (fun r_9 hr_9 => ?_)
        subst hr_9
        refine vp_callSi (W.runS (As := [.ref o, .ref w, .long (wd_v h g)]) (rest := []) ⟨hx, hb, hml, hown, hts⟩ (mX0_isFound l dC dI o r w d1 d2 f (wd_v h g)) (va_cwS 3 hts (lw_S q137 q138 q3 q139) rfl rfl rfl (by decide +kernel) ⟨Nat.le_of_ble_eq_true rfl, Nat.le_of_ble_eq_true rfl⟩) ⟨fun a U g mk q => ⟨q.1, q.2.1, va_K.moved (u := U) (U := U.calling g mk a) (Vm.Alike.refl U.vm) q.2.2⟩, fun U hU hW => ⟨rfl, by rw [hU]; exact (hP.sub (ws' := [(o, .inr (0, [.ref r])), (r, .inl (d1, 12, .inr (.inl f))), (w, .inl (d2, 12, .inr (.inl f)))]) [0, 1, 2] rfl), va_K.moved hW.alike (hK.sub (tys' := [(d1, .long), (d2, .long)]) [0, 1] rfl)⟩⟩ rfl rfl hl.1 rfl (lv_room (Nat.le_of_ble_eq_true rfl)) dL_law_279 ⟨(by show kc + 0 ≤ 1200192; omega), (by show ks + 0 ≤ 5500522; omega)⟩) (fun r_10 hr_10 => ?_)
        subst hr_10
        refine lv_if_eq (tgt := 327) hx hb dL_law_282 (by decide) (fun c_11 => ?_) (fun c_11 => ?_)
        · exact absurd c_11 (by decide)
        · refine lv_aload_n hx hb dL_law_285 rfl (lv_at hl 1 rfl) ?_
          refine lv_aload_n hx hb dL_law_286 rfl (lv_at hl 2 rfl) ?_
          refine lv_iload hx hb dL_law_287 (lv_at hl 6 rfl) ?_
          refine lv_iload hx hb dL_law_289 (lv_at hl 5 rfl) ?_
          refine lv_iload hx hb dL_law_291 (lv_at hl 7 rfl) ?_
          have hPc := hP.sub (ws' := [(o, .inr (0, [.ref r])), (r, .inl (d1, 12, .inr (.inl f))), (w, .inl (d2, 12, .inr (.inl f)))]) [0, 1, 2] rfl
          have hKc := hK.sub (tys' := [(d1, .long), (d2, .long)]) [0, 1] rfl
          refine va_calli (va_runS (As := [.ref o, .ref w, .int g, .int a, .int h]) (rest := []) ⟨hx, hb, hml, hown, hts⟩ (mX0_isBytes l dC dI H.size o r w d1 d2 f g a h) (va_cwS 5 hts (lw_S q215 q216 q3 q217) rfl rfl rfl (by decide +kernel) ⟨Nat.le_of_ble_eq_true rfl, Nat.le_of_ble_eq_true rfl⟩) ⟨fun a U g mk q => ⟨q.1, q.2.1, q.2.2.1, va_K.moved (u := U) (U := U.calling g mk a) (Vm.Alike.refl U.vm) q.2.2.2⟩, fun U hU hW => ⟨rfl, by rw [hU], by rw [hU]; exact hPc, va_K.moved hW.alike hKc⟩⟩ rfl rfl hl.1 rfl (lv_room (Nat.le_of_ble_eq_true rfl)) dL_law_293 ⟨(by show kc + 9 ≤ 1200192; omega), (by show ks + 72 ≤ 5500522; omega)⟩) hS (fun q _ h => Nat.le_trans hS.1 h) (fun q h => Nat.le_trans hS.1 h) (fun r_12 u t H1 locs ht hvm hw hB hz1 hk1 hS => ?_)
          clear hPc hKc hB hvm
          have hP := hP.kept (H1 := H1) (fun k q hk => hk1 q.1 (hP k q hk).lt (Nat.not_le.mpr (hP k q hk).lt))
          clear hk1 hz1 ht
          generalize H1 = H at hP hS ⊢
          have hw : r_12 = 1 := hw
          subst hw
          refine lv_if_eq (tgt := 327) hx hb dL_law_296 (by decide) (fun c_13 => ?_) (fun c_13 => ?_)
          · exact absurd c_13 (by decide)
          · refine lv_aload_n hx hb dL_law_299 rfl (lv_at hl 1 rfl) ?_
            refine lv_aload_n hx hb dL_law_300 rfl (lv_at hl 2 rfl) ?_
            refine lv_iload hx hb dL_law_301 (lv_at hl 5 rfl) ?_
            refine lv_iload hx hb dL_law_303 (lv_at hl 6 rfl) ?_
            refine lv_iload hx hb dL_law_305 (lv_at hl 7 rfl) ?_
            refine vp_callSi (W.runS (As := [.ref o, .ref w, .int a, .int g, .int h]) (rest := []) ⟨hx, hb, hml, hown, hts⟩ (mX0_isHeld l dC dI o r w d1 d2 f aS a g h) (va_cwS 5 hts (lw_S q234 q235 q3 q236) rfl rfl rfl (by decide +kernel) ⟨Nat.le_of_ble_eq_true rfl, Nat.le_of_ble_eq_true rfl⟩) ⟨fun a U g mk q => ⟨q.1, q.2.1, va_K.moved (u := U) (U := U.calling g mk a) (Vm.Alike.refl U.vm) q.2.2.1, vk_R.same rfl q.2.2.2⟩, fun U hU hW => ⟨rfl, by rw [hU]; exact (hP.sub (ws' := [(o, .inr (0, [.ref r])), (r, .inl (d1, 12, .inr (.inl f))), (w, .inl (d2, 12, .inr (.inl f)))]) [0, 1, 2] rfl), va_K.moved hW.alike (hK.sub (tys' := [(d1, .long), (d2, .long)]) [0, 1] rfl), vk_R.warm hW hZ⟩⟩ rfl rfl hl.1 rfl (lv_room (Nat.le_of_ble_eq_true rfl)) dL_law_307 ⟨(by show kc + 9 + 0 ≤ 1200192; omega), (by show ks + 72 + 0 ≤ 5500522; omega)⟩) (fun r_14 hr_14 => ?_)
            subst hr_14
            refine lv_if_eq (tgt := 327) hx hb dL_law_310 (by decide) (fun c_15 => ?_) (fun c_15 => ?_)
            · exact absurd c_15 (by decide)
            · refine lv_aload_n hx hb dL_law_313 rfl (lv_at hl 1 rfl) ?_
              refine lv_aload_n hx hb dL_law_314 rfl (lv_at hl 2 rfl) ?_
              refine lv_iload hx hb dL_law_315 (lv_at hl 7 rfl) ?_
              refine lv_iload hx hb dL_law_317 (lv_at hl 5 rfl) ?_
              refine lv_iload hx hb dL_law_319 (lv_at hl 4 rfl) ?_
              refine vp_callSi (W.runS (As := [.ref o, .ref w, .int h, .int a, .int x]) (rest := []) ⟨hx, hb, hml, hown, hts⟩ (mX0_isHeld l dC dI o r w d1 d2 f aS h a x) (va_cwS 5 hts (lw_S q234 q235 q3 q236) rfl rfl rfl (by decide +kernel) ⟨Nat.le_of_ble_eq_true rfl, Nat.le_of_ble_eq_true rfl⟩) ⟨fun a U g mk q => ⟨q.1, q.2.1, va_K.moved (u := U) (U := U.calling g mk a) (Vm.Alike.refl U.vm) q.2.2.1, vk_R.same rfl q.2.2.2⟩, fun U hU hW => ⟨rfl, by rw [hU]; exact (hP.sub (ws' := [(o, .inr (0, [.ref r])), (r, .inl (d1, 12, .inr (.inl f))), (w, .inl (d2, 12, .inr (.inl f)))]) [0, 1, 2] rfl), va_K.moved hW.alike (hK.sub (tys' := [(d1, .long), (d2, .long)]) [0, 1] rfl), vk_R.warm hW hZ⟩⟩ rfl rfl hl.1 rfl (lv_room (Nat.le_of_ble_eq_true rfl)) dL_law_321 ⟨(by show kc + 9 + 0 ≤ 1200192; omega), (by show ks + 72 + 0 ≤ 5500522; omega)⟩) (fun r_16 hr_16 => ?_)
              subst hr_16
              refine lv_if_ne (tgt := 329) hx hb dL_law_324 (by decide) (fun c_17 => ?_) (fun c_17 => ?_)
              · refine lv_iinc (v := nI (i + 1)) (lv' := [(3, .int (nI (i + 1))), (0, .ref b), (1, .ref o), (2, .ref w), (4, .int x), (5, .int a), (6, .int g), (7, .int h)]) hx hb dL_law_329 hl (k := 3) rfl (nI_1 i) (by decide) rfl (fun ls hl => ?_)
                refine lv_goto (tgt := 25) hx hb dL_law_332 (by decide) ?_
                exact hn f H locs (kc + 9) (ks + 72) (by omega) (by omega) hP hD hS ls (lv_sub hl [1, 2, 3, 0] rfl)
              · exact absurd c_17 (by decide)
set_option maxHeartbeats 4000000 in
set_option maxRecDepth 100000 in
/-- the law's own loop that turns the plain row round: the same swaps -/
theorem law_swap {p : Program} {e : Env} {s : State} {m : MethodId} {below : List Frame} {meth : Method} {c : Code} (l : Launch) {b L : Nat} {xs : Nat → Int32} (hL : L ≤ 96) (C0 : lw_At p s m meth c b L xs) {dC : Nat → ClassId} {dI : Nat → Nat → Nat} {aS : Nat} (hZ : vk_R RX2 16 "min (%s) must be less than or equal to max (%s)" aS s) {o r w : Nat} {d1 d2 : ClassId} (hK : va_K (dC, dI) cl_d [(d1, .long), (d2, .long)] s) {i : Nat} {kc ks : Nat} {f : Nat → Int64} {x a g h : Int32} {lo hi : Nat} (h1 : lo ≤ hi) (h2 : hi ≤ 12) (hj : ∀ (H : Heap) (locs : List Loc), va_P (dC, dI) cl_d [(o, .inr (0, [.ref r])), (r, .inl (d1, 12, .inr (.inl (rv_f f lo hi)))), (w, .inl (d2, 12, .inr (.inl (rv_f f lo hi))))] H → va_D (fun q : Nat => s.heap.size ≤ q) [(o, .inr (0, [.ref r])), (r, .inl (d1, 12, .inr (.inl (rv_f f lo hi)))), (w, .inl (d2, 12, .inr (.inl (rv_f f lo hi))))] → va_S (fun q : Nat => s.heap.size ≤ q) s.heap H locs → ∀ ls : Array Slot, lv_has ls 13 [(0, .ref b), (1, .ref o), (2, .ref w), (3, .int (nI i)), (4, .int x), (5, .int a), (6, .int g), (7, .int h)] → W p l e room_1 s m #[Value.ref b] below meth c H locs kc ks (lw_Z below #[Value.ref b] s) (F0 m 230 ls [])) : ∀ n k : Nat, k ≤ (hi - lo) / 2 → (hi - lo) / 2 + 1 ≤ k + n → ∀ (H : Heap) (locs : List Loc), va_P (dC, dI) cl_d [(o, .inr (0, [.ref r])), (r, .inl (d1, 12, .inr (.inl (rv_f f lo hi)))), (w, .inl (d2, 12, .inr (.inl (sw_n f lo hi k))))] H → va_D (fun q : Nat => s.heap.size ≤ q) [(o, .inr (0, [.ref r])), (r, .inl (d1, 12, .inr (.inl (rv_f f lo hi)))), (w, .inl (d2, 12, .inr (.inl (sw_n f lo hi k))))] → va_S (fun q : Nat => s.heap.size ≤ q) s.heap H locs → ∀ ls : Array Slot, lv_has ls 13 [(0, .ref b), (1, .ref o), (2, .ref w), (3, .int (nI i)), (4, .int x), (5, .int a), (6, .int g), (7, .int h), (8, .int (nI lo)), (9, .int (nI hi)), (10, .int (nI k))] → W p l e room_1 s m #[Value.ref b] below meth c H locs kc ks (lw_Z below #[Value.ref b] s) (F0 m 116 ls []) := by
  obtain ⟨hx, hb, hr, hml, hown, hts0, hX, hbl, hlocks, hgv⟩ := id C0
  have hts : ∀ w ∈ lw_all, w.before #[Value.ref b] s = true := fun w h => hts0 w (lw_all_tbl h)
  have hA : ∀ q : Nat, s.heap.size ≤ q → (fun q : Nat => s.heap.size ≤ q) q := fun _ h => h
  intro n
  induction n with
  | zero =>
    intro k hk hkn
    omega
  | succ n ih =>
    intro k hk hkn H locs hP hD hS ls hl
    refine lv_iload hx hb dL_law_116 (lv_at hl 8 rfl) ?_
    refine lv_iload hx hb dL_law_118 (lv_at hl 10 rfl) ?_
    refine lv_iadd hx hb dL_law_120 ?_
    refine tp_i (y := nI (lo + k)) (nI_add lo k) ?_
    refine lv_iload hx hb dL_law_121 (lv_at hl 9 rfl) ?_
    refine lv_iconst (v := 1) hx hb dL_law_123 (by decide) ?_
    refine lv_isub hx hb dL_law_124 ?_
    refine lv_iload hx hb dL_law_125 (lv_at hl 10 rfl) ?_
    refine lv_isub hx hb dL_law_127 ?_
    refine tp_i (y := jx_n hi k) (jx_e hi k) ?_
    refine lv_icmp_ge (tgt := 173) hx hb dL_law_128 (by decide) (fun c_1 => ?_) (fun c_1 => ?_)
    · have ek := jx_out h2 h1 hk c_1
      rw [ek] at hP hD
      refine lv_goto (tgt := 230) hx hb dL_law_173 (by decide) ?_
      exact hj H locs hP hD hS ls (lv_sub hl [0, 1, 2, 3, 4, 5, 6, 7] rfl)
    · obtain ⟨i1, i2, i3⟩ := jx_in h2 h1 hk c_1
      refine lv_aload_n hx hb dL_law_131 rfl (lv_at hl 2 rfl) ?_
      refine lv_iload hx hb dL_law_132 (lv_at hl 8 rfl) ?_
      refine lv_iload hx hb dL_law_134 (lv_at hl 10 rfl) ?_
      refine lv_iadd hx hb dL_law_136 ?_
      refine tp_i (y := nI (lo + k)) (nI_add lo k) ?_
      refine va_lald hx hb hK hP 2 1 rfl rfl (vp_in_nI (by omega) (by decide)) dL_law_137 ?_
      refine tp_l (y := sw_n f lo hi k (lo + k)) (by rw [nI_clamp (by omega)]) ?_
      refine lv_lstore (lv' := [(11, .long (sw_n f lo hi k (lo + k))), (0, .ref b), (1, .ref o), (2, .ref w), (3, .int (nI i)), (4, .int x), (5, .int a), (6, .int g), (7, .int h), (8, .int (nI lo)), (9, .int (nI hi)), (10, .int (nI k))]) hx hb dL_law_138 hl (by decide) rfl (fun ls hl => ?_)
      refine lv_aload_n hx hb dL_law_140 rfl (lv_at hl 3 rfl) ?_
      refine lv_iload hx hb dL_law_141 (lv_at hl 9 rfl) ?_
      refine lv_iload hx hb dL_law_143 (lv_at hl 11 rfl) ?_
      refine lv_iadd hx hb dL_law_145 ?_
      refine tp_i (y := nI (lo + k)) (nI_add lo k) ?_
      refine lv_aload_n hx hb dL_law_146 rfl (lv_at hl 3 rfl) ?_
      refine lv_iload hx hb dL_law_147 (lv_at hl 10 rfl) ?_
      refine lv_iconst (v := 1) hx hb dL_law_149 (by decide) ?_
      refine lv_isub hx hb dL_law_150 ?_
      refine lv_iload hx hb dL_law_151 (lv_at hl 11 rfl) ?_
      refine lv_isub hx hb dL_law_153 ?_
      refine tp_i (y := nI (hi - 1 - k)) ((jx_e hi k).trans i3) ?_
      refine va_lald hx hb hK hP 2 1 rfl rfl (vp_in_nI (by omega) (by decide)) dL_law_154 ?_
      refine tp_l (y := sw_n f lo hi k (hi - 1 - k)) (by rw [nI_clamp (by omega)]) ?_
      refine va_last hx hb hK hP hD hS 2 1 rfl rfl (vp_in_nI (by omega) (by decide)) dL_law_155 (fun H locs hP hD hS => ?_)
      have hP : va_P (dC, dI) cl_d [(o, .inr (0, [.ref r])), (r, .inl (d1, 12, .inr (.inl (rv_f f lo hi)))), (w, .inl (d2, 12, .inr (.inl (vp_updL (sw_n f lo hi k) (nI (lo + k)).toNatClampNeg (sw_n f lo hi k (hi - 1 - k))))))] H := hP
      have hD : va_D (fun q : Nat => s.heap.size ≤ q) [(o, .inr (0, [.ref r])), (r, .inl (d1, 12, .inr (.inl (rv_f f lo hi)))), (w, .inl (d2, 12, .inr (.inl (vp_updL (sw_n f lo hi k) (nI (lo + k)).toNatClampNeg (sw_n f lo hi k (hi - 1 - k))))))] := hD
      refine lv_aload_n hx hb dL_law_156 rfl (lv_at hl 3 rfl) ?_
      refine lv_iload hx hb dL_law_157 (lv_at hl 10 rfl) ?_
      refine lv_iconst (v := 1) hx hb dL_law_159 (by decide) ?_
      refine lv_isub hx hb dL_law_160 ?_
      refine lv_iload hx hb dL_law_161 (lv_at hl 11 rfl) ?_
      refine lv_isub hx hb dL_law_163 ?_
      refine tp_i (y := nI (hi - 1 - k)) ((jx_e hi k).trans i3) ?_
      refine lv_lload hx hb dL_law_164 (lv_at hl 0 rfl) ?_
      refine va_last hx hb hK hP hD hS 2 1 rfl rfl (vp_in_nI (by omega) (by decide)) dL_law_166 (fun H locs hP hD hS => ?_)
      have hP : va_P (dC, dI) cl_d [(o, .inr (0, [.ref r])), (r, .inl (d1, 12, .inr (.inl (rv_f f lo hi)))), (w, .inl (d2, 12, .inr (.inl (vp_updL (vp_updL (sw_n f lo hi k) (nI (lo + k)).toNatClampNeg (sw_n f lo hi k (hi - 1 - k))) (nI (hi - 1 - k)).toNatClampNeg (sw_n f lo hi k (lo + k))))))] H := hP
      have hD : va_D (fun q : Nat => s.heap.size ≤ q) [(o, .inr (0, [.ref r])), (r, .inl (d1, 12, .inr (.inl (rv_f f lo hi)))), (w, .inl (d2, 12, .inr (.inl (vp_updL (vp_updL (sw_n f lo hi k) (nI (lo + k)).toNatClampNeg (sw_n f lo hi k (hi - 1 - k))) (nI (hi - 1 - k)).toNatClampNeg (sw_n f lo hi k (lo + k))))))] := hD
      rw [sw_s (by omega) (by omega)] at hP hD
      refine lv_iinc (v := nI (k + 1)) (lv' := [(10, .int (nI (k + 1))), (11, .long (sw_n f lo hi k (lo + k))), (0, .ref b), (1, .ref o), (2, .ref w), (3, .int (nI i)), (4, .int x), (5, .int a), (6, .int g), (7, .int h), (8, .int (nI lo)), (9, .int (nI hi))]) hx hb dL_law_167 hl (k := 11) rfl (nI_1 k) (by decide) rfl (fun ls hl => ?_)
      refine lv_goto (tgt := 116) hx hb dL_law_170 (by decide) ?_
      exact ih (k + 1) i2 (by omega) H locs hP hD hS ls (lv_sub hl [2, 3, 4, 5, 6, 7, 8, 9, 10, 11, 0] rfl)
set_option maxHeartbeats 4000000 in
set_option maxRecDepth 100000 in
/-- the law from the head of its loop: i turns done, desk and plain row hold the same longs f -/
theorem law_loop {p : Program} {e : Env} {s : State} {m : MethodId} {below : List Frame} {meth : Method} {c : Code} (l : Launch) {b L : Nat} {xs : Nat → Int32} (hL : L ≤ 96) (C0 : lw_At p s m meth c b L xs) {dC : Nat → ClassId} {dI : Nat → Nat → Nat} {aS : Nat} (hZ : vk_R RX2 16 "min (%s) must be less than or equal to max (%s)" aS s) {o r w : Nat} {d1 d2 : ClassId} (hK : va_K (dC, dI) cl_d [(d1, .long), (d2, .long)] s) : ∀ n i : Nat, i ≤ 24 → 25 ≤ i + n → ∀ (f : Nat → Int64) (H : Heap) (locs : List Loc) (kc ks : Nat), kc ≤ 3 + 9 * i → ks ≤ 25 + 72 * i → va_P (dC, dI) cl_d [(o, .inr (0, [.ref r])), (r, .inl (d1, 12, .inr (.inl f))), (w, .inl (d2, 12, .inr (.inl f)))] H → va_D (fun q : Nat => s.heap.size ≤ q) [(o, .inr (0, [.ref r])), (r, .inl (d1, 12, .inr (.inl f))), (w, .inl (d2, 12, .inr (.inl f)))] → va_S (fun q : Nat => s.heap.size ≤ q) s.heap H locs → ∀ ls : Array Slot, lv_has ls 13 [(0, .ref b), (1, .ref o), (2, .ref w), (3, .int (nI i))] → W p l e room_1 s m #[Value.ref b] below meth c H locs kc ks (lw_Z below #[Value.ref b] s) (F0 m 25 ls []) := by
  obtain ⟨hx, hb, hr, hml, hown, hts0, hX, hbl, hlocks, hgv⟩ := id C0
  have hts : ∀ w ∈ lw_all, w.before #[Value.ref b] s = true := fun w h => hts0 w (lw_all_tbl h)
  have hA : ∀ q : Nat, s.heap.size ≤ q → (fun q : Nat => s.heap.size ≤ q) q := fun _ h => h
  have hbA : ¬ (fun q : Nat => s.heap.size ≤ q) b := Nat.not_le.mpr hbl
  intro n
  induction n with
  | zero =>
    intro i hi hin
    omega
  | succ n ih =>
    intro i hi hin f H locs kc ks hkc hks hP hD hS ls hl
    refine lv_iload_n hx hb dL_law_25 rfl (lv_at hl 3 rfl) ?_
    refine lv_bipush (v := 24) hx hb dL_law_26 (by decide) ?_
    refine lv_icmp_ge (tgt := 335) hx hb dL_law_28 (by decide) (fun c_1 => ?_) (fun c_1 => ?_)
    · refine lv_iconst (v := 1) hx hb dL_law_335 (by decide) ?_
      refine W.widen (k := 1200192) (n := 5500522) (by omega) (by omega) ?_
      refine va_forget hS.2.2 ?_
      exact lw_ret hx hb hr hlocks dL_law_336
    · have hlt := lp_f24 hi c_1
      refine lv_aload_n hx hb dL_law_31 rfl (lv_at hl 0 rfl) ?_
      refine lv_iconst (v := 4) hx hb dL_law_32 (by decide) ?_
      refine lv_iload_n hx hb dL_law_33 rfl (lv_at hl 3 rfl) ?_
      refine lv_imul hx hb dL_law_34 ?_
      refine tp_i (y := nI (4 * i)) (pk_mul 4 i) ?_
      refine vp_callSi (W.runS (As := [.ref b, .int (nI (4 * i))]) (rest := []) ⟨hx, hb, hml, hown, hts⟩ (mX0_cell l dC dI b L xs (4 * i) hL (by omega)) (va_cwS 2 hts (lw_S q123 q124 q3 q125) rfl rfl rfl (by decide +kernel) ⟨Nat.le_of_ble_eq_true rfl, Nat.le_of_ble_eq_true rfl⟩) ⟨fun a U g mk q => ⟨q.1, va_X.moved (u := U) (U := U.calling g mk a) (Vm.Alike.refl U.vm) q.2⟩, fun U hU hW => ⟨rfl, by show va_X b L xs U U.heap; rw [hU]; exact va_X.moved hW.alike (hX.kept (hS.2.1 b hbl hbA))⟩⟩ rfl rfl hl.1 rfl (lv_room (Nat.le_of_ble_eq_true rfl)) dL_law_35 ⟨(by show kc + 0 ≤ 1200192; omega), (by show ks + 0 ≤ 5500522; omega)⟩) (fun x _ => ?_)
      refine lv_istore (lv' := [(4, .int x), (0, .ref b), (1, .ref o), (2, .ref w), (3, .int (nI i))]) hx hb dL_law_38 hl (by decide) rfl (fun ls hl => ?_)
      refine lv_aload_n hx hb dL_law_40 rfl (lv_at hl 1 rfl) ?_
      refine lv_iconst (v := 4) hx hb dL_law_41 (by decide) ?_
      refine lv_iload_n hx hb dL_law_42 rfl (lv_at hl 4 rfl) ?_
      refine lv_imul hx hb dL_law_43 ?_
      refine tp_i (y := nI (4 * i)) (pk_mul 4 i) ?_
      refine lv_iconst (v := 1) hx hb dL_law_44 (by decide) ?_
      refine lv_iadd hx hb dL_law_45 ?_
      refine tp_i (y := nI (4 * i + 1)) (nI_add (4 * i) 1) ?_
      refine vp_callSi (W.runS (As := [.ref b, .int (nI (4 * i + 1))]) (rest := []) ⟨hx, hb, hml, hown, hts⟩ (mX0_cell l dC dI b L xs (4 * i + 1) hL (by omega)) (va_cwS 2 hts (lw_S q123 q124 q3 q125) rfl rfl rfl (by decide +kernel) ⟨Nat.le_of_ble_eq_true rfl, Nat.le_of_ble_eq_true rfl⟩) ⟨fun a U g mk q => ⟨q.1, va_X.moved (u := U) (U := U.calling g mk a) (Vm.Alike.refl U.vm) q.2⟩, fun U hU hW => ⟨rfl, by show va_X b L xs U U.heap; rw [hU]; exact va_X.moved hW.alike (hX.kept (hS.2.1 b hbl hbA))⟩⟩ rfl rfl hl.1 rfl (lv_room (Nat.le_of_ble_eq_true rfl)) dL_law_46 ⟨(by show kc + 0 ≤ 1200192; omega), (by show ks + 0 ≤ 5500522; omega)⟩) (fun a _ => ?_)
      refine lv_istore (lv' := [(5, .int a), (4, .int x), (0, .ref b), (1, .ref o), (2, .ref w), (3, .int (nI i))]) hx hb dL_law_49 hl (by decide) rfl (fun ls hl => ?_)
      refine lv_aload_n hx hb dL_law_51 rfl (lv_at hl 2 rfl) ?_
      refine lv_iconst (v := 4) hx hb dL_law_52 (by decide) ?_
      refine lv_iload_n hx hb dL_law_53 rfl (lv_at hl 5 rfl) ?_
      refine lv_imul hx hb dL_law_54 ?_
      refine tp_i (y := nI (4 * i)) (pk_mul 4 i) ?_
      refine lv_iconst (v := 2) hx hb dL_law_55 (by decide) ?_
      refine lv_iadd hx hb dL_law_56 ?_
      refine tp_i (y := nI (4 * i + 2)) (nI_add (4 * i) 2) ?_
      refine vp_callSi (W.runS (As := [.ref b, .int (nI (4 * i + 2))]) (rest := []) ⟨hx, hb, hml, hown, hts⟩ (mX0_cell l dC dI b L xs (4 * i + 2) hL (by omega)) (va_cwS 2 hts (lw_S q123 q124 q3 q125) rfl rfl rfl (by decide +kernel) ⟨Nat.le_of_ble_eq_true rfl, Nat.le_of_ble_eq_true rfl⟩) ⟨fun a U g mk q => ⟨q.1, va_X.moved (u := U) (U := U.calling g mk a) (Vm.Alike.refl U.vm) q.2⟩, fun U hU hW => ⟨rfl, by show va_X b L xs U U.heap; rw [hU]; exact va_X.moved hW.alike (hX.kept (hS.2.1 b hbl hbA))⟩⟩ rfl rfl hl.1 rfl (lv_room (Nat.le_of_ble_eq_true rfl)) dL_law_57 ⟨(by show kc + 0 ≤ 1200192; omega), (by show ks + 0 ≤ 5500522; omega)⟩) (fun g _ => ?_)
      refine lv_istore (lv' := [(6, .int g), (5, .int a), (4, .int x), (0, .ref b), (1, .ref o), (2, .ref w), (3, .int (nI i))]) hx hb dL_law_60 hl (by decide) rfl (fun ls hl => ?_)
      refine lv_aload_n hx hb dL_law_62 rfl (lv_at hl 3 rfl) ?_
      refine lv_iconst (v := 4) hx hb dL_law_63 (by decide) ?_
      refine lv_iload_n hx hb dL_law_64 rfl (lv_at hl 6 rfl) ?_
      refine lv_imul hx hb dL_law_65 ?_
      refine tp_i (y := nI (4 * i)) (pk_mul 4 i) ?_
      refine lv_iconst (v := 3) hx hb dL_law_66 (by decide) ?_
      refine lv_iadd hx hb dL_law_67 ?_
      refine tp_i (y := nI (4 * i + 3)) (nI_add (4 * i) 3) ?_
      refine vp_callSi (W.runS (As := [.ref b, .int (nI (4 * i + 3))]) (rest := []) ⟨hx, hb, hml, hown, hts⟩ (mX0_cell l dC dI b L xs (4 * i + 3) hL (by omega)) (va_cwS 2 hts (lw_S q123 q124 q3 q125) rfl rfl rfl (by decide +kernel) ⟨Nat.le_of_ble_eq_true rfl, Nat.le_of_ble_eq_true rfl⟩) ⟨fun a U g mk q => ⟨q.1, va_X.moved (u := U) (U := U.calling g mk a) (Vm.Alike.refl U.vm) q.2⟩, fun U hU hW => ⟨rfl, by show va_X b L xs U U.heap; rw [hU]; exact va_X.moved hW.alike (hX.kept (hS.2.1 b hbl hbA))⟩⟩ rfl rfl hl.1 rfl (lv_room (Nat.le_of_ble_eq_true rfl)) dL_law_68 ⟨(by show kc + 0 ≤ 1200192; omega), (by show ks + 0 ≤ 5500522; omega)⟩) (fun h _ => ?_)
      refine lv_istore (lv' := [(7, .int h), (6, .int g), (5, .int a), (4, .int x), (0, .ref b), (1, .ref o), (2, .ref w), (3, .int (nI i))]) hx hb dL_law_71 hl (by decide) rfl (fun ls hl => ?_)
      refine lv_iload hx hb dL_law_73 (lv_at hl 3 rfl) ?_
      refine lv_iconst (v := 3) hx hb dL_law_75 (by decide) ?_
      refine lv_iand hx hb dL_law_76 ?_
      refine lv_iconst (v := 3) hx hb dL_law_77 (by decide) ?_
      refine lv_icmp_ne (tgt := 176) hx hb dL_law_78 (by decide) (fun c_2 => ?_) (fun c_2 => ?_)
      · refine lv_iload hx hb dL_law_176 (lv_at hl 3 rfl) ?_
        refine lv_iconst (v := 3) hx hb dL_law_178 (by decide) ?_
        refine lv_iand hx hb dL_law_179 ?_
        refine lv_iconst (v := 2) hx hb dL_law_180 (by decide) ?_
        refine lv_icmp_ne (tgt := 196) hx hb dL_law_181 (by decide) (fun c_3 => ?_) (fun c_3 => ?_)
        · refine lv_iload hx hb dL_law_196 (lv_at hl 1 rfl) ?_
          refine lv_iload hx hb dL_law_198 (lv_at hl 0 rfl) ?_
          refine vp_callSl (W.runS (As := [.int g, .int h]) (rest := []) ⟨hx, hb, hml, hown, hts⟩ (mX0_of l g h) (va_cwS 2 hts (lw_S q130 q131 q3 q132) rfl rfl rfl (by decide +kernel) ⟨Nat.le_of_ble_eq_true rfl, Nat.le_of_ble_eq_true rfl⟩) ⟨fun _ _ _ _ q => q, fun _ _ _ => ⟨rfl, trivial⟩⟩ rfl rfl hl.1 rfl (lv_room (Nat.le_of_ble_eq_true rfl)) dL_law_200 ⟨(by show kc + 0 ≤ 1200192; omega), (by show ks + 0 ≤ 5500522; omega)⟩) (fun r_4 hr_4 => ?_)
          subst hr_4
          refine lv_lstore (lv' := [(8, .long (wd_v g h)), (7, .int h), (6, .int g), (5, .int a), (4, .int x), (0, .ref b), (1, .ref o), (2, .ref w), (3, .int (nI i))]) hx hb dL_law_203 hl (by decide) rfl (fun ls hl => ?_)
          refine lv_aload_n hx hb dL_law_205 rfl (lv_at hl 6 rfl) ?_
          refine lv_iload hx hb dL_law_206 (lv_at hl 3 rfl) ?_
          refine lv_lload hx hb dL_law_208 (lv_at hl 0 rfl) ?_
          refine vp_callSi (W.runS (As := [.long (wd_v g h)]) (rest := [.int a, .ref o]) ⟨hx, hb, hml, hown, hts⟩ (mX0_high l (wd_v g h)) (va_cwS 1 hts (lw_S q134 q135 q3 q136) rfl rfl rfl (by decide +kernel) ⟨Nat.le_of_ble_eq_true rfl, Nat.le_of_ble_eq_true rfl⟩) ⟨fun _ _ _ _ q => q, fun _ _ _ => ⟨rfl, trivial⟩⟩ rfl rfl hl.1 rfl (lv_room (Nat.le_of_ble_eq_true rfl)) dL_law_210 ⟨(by show kc + 0 ≤ 1200192; omega), (by show ks + 0 ≤ 5500522; omega)⟩) (fun r_5 hr_5 => ?_)
          subst hr_5
          refine lv_lload hx hb dL_law_213 (lv_at hl 0 rfl) ?_
          refine lv_l2i (v := (wd_v g h).toInt32) hx hb dL_law_215 rfl ?_
          have hPc := hP.sub (ws' := [(o, .inr (0, [.ref r])), (r, .inl (d1, 12, .inr (.inl f)))]) [0, 1] rfl
          have hDc := hD.sub (ws' := [(o, .inr (0, [.ref r])), (r, .inl (d1, 12, .inr (.inl f)))]) [0, 1] (by decide) rfl
          have hKc := hK.sub (tys' := [(d1, .long)]) [0] rfl
          have hFc := va_free (wc := [(o, .inr (0, [.ref r])), (r, .inl (d1, 12, .inr (.inl f)))]) hD hS hA [0, 1] rfl
          refine va_callv (va_runV (As := [.int a, .int (hi_v (wd_v g h)), .int ((wd_v g h).toInt32)]) (rest := []) ⟨hx, hb, hml, hown, hts⟩ (mX1_set l dC dI H.size o r d1 f a (hi_v (wd_v g h)) (wd_v g h).toInt32) (cwV 3 hts (lw_V q26 q27 q28 q4 q29) rfl rfl rfl (by decide +kernel) ⟨Nat.le_of_ble_eq_true rfl, Nat.le_of_ble_eq_true rfl⟩) ⟨fun a U g mk q => ⟨q.1, q.2.1, q.2.2.1, va_K.moved (u := U) (U := U.calling g mk a) (Vm.Alike.refl U.vm) q.2.2.2.1, q.2.2.2.2⟩, (va_recv hK hP (ci := 0) (q0 := 0) rfl rfl), fun U hU hW => ⟨rfl, by rw [hU], by rw [hU]; exact hPc, va_K.moved hW.alike hKc, hDc.weaken (fun _ _ _ _ => trivial)⟩⟩ rfl rfl hl.1 rfl (lv_room (Nat.le_of_ble_eq_true rfl)) dL_law_216 ⟨(by show kc + 0 ≤ 1200192; omega), (by show ks + 0 ≤ 5500522; omega)⟩) hS (fun q _ h => hFc q h) hFc (fun u t H1 locs ht hvm hw1 hB hz1 hk1 hS => ?_)
          obtain ⟨hP1, hD1⟩ := hB
          rw [ht] at hP1
          obtain ⟨hP, hD⟩ := va_join (wr := [(w, .inl (d2, 12, .inr (.inl f)))]) (w1 := [(o, .inr (0, [.ref r])), (r, .inl (d1, 12, .inr (.inl (vp_updL f (rn_v a 12) (wd_v (hi_v (wd_v g h)) (wd_v g h).toInt32)))))]) hP hD [0, 1] [2] rfl rfl (by decide) (by decide) hk1 hFc hP1 hD1
          clear hPc hDc hFc hP1 hD1
          generalize H1 = H at hP hS ⊢
          have hP : va_P (dC, dI) cl_d [(w, .inl (d2, 12, .inr (.inl f))), (o, .inr (0, [.ref r])), (r, .inl (d1, 12, .inr (.inl (vp_updL f (rn_v a 12) (wd_v (hi_v (wd_v g h)) (wd_v g h).toInt32)))))] H := hP
          have hD : va_D (fun q : Nat => s.heap.size ≤ q) [(w, .inl (d2, 12, .inr (.inl f))), (o, .inr (0, [.ref r])), (r, .inl (d1, 12, .inr (.inl (vp_updL f (rn_v a 12) (wd_v (hi_v (wd_v g h)) (wd_v g h).toInt32)))))] := hD
          rw [wd_hi] at hP hD
          have hP := hP.sub (ws' := [(o, .inr (0, [.ref r])), (r, .inl (d1, 12, .inr (.inl (vp_updL f (rn_v a 12) (wd_v g h))))), (w, .inl (d2, 12, .inr (.inl f)))]) [1, 2, 0] rfl
          have hD := hD.sub (ws' := [(o, .inr (0, [.ref r])), (r, .inl (d1, 12, .inr (.inl (vp_updL f (rn_v a 12) (wd_v g h))))), (w, .inl (d2, 12, .inr (.inl f)))]) [1, 2, 0] (by decide) rfl
          refine lv_aload_n hx hb dL_law_219 rfl (lv_at hl 7 rfl) ?_
          refine lv_iload hx hb dL_law_220 (lv_at hl 3 rfl) ?_
          refine lv_bipush (v := 12) hx hb dL_law_222 (by decide) ?_
          refine vp_callSi (W.runS (As := [.int a, .int 12]) (rest := [.ref w]) ⟨hx, hb, hml, hown, hts⟩ (mX0_rest l a 12 (by decide) (by decide)) (va_cwS 2 hts (lw_S q126 q127 q3 q128) rfl rfl rfl (by decide +kernel) ⟨Nat.le_of_ble_eq_true rfl, Nat.le_of_ble_eq_true rfl⟩) ⟨fun _ _ _ _ q => q, fun _ _ _ => ⟨rfl, trivial⟩⟩ rfl rfl hl.1 rfl (lv_room (Nat.le_of_ble_eq_true rfl)) dL_law_224 ⟨(by show kc + 0 ≤ 1200192; omega), (by show ks + 0 ≤ 5500522; omega)⟩) (fun r_6 hr_6 => ?_)
          subst hr_6
          refine lv_lload hx hb dL_law_227 (lv_at hl 0 rfl) ?_
          refine va_last hx hb hK hP hD hS 2 1 rfl rfl (rn_in a) dL_law_229 (fun H locs hP hD hS => ?_)
          have hP : va_P (dC, dI) cl_d [(o, .inr (0, [.ref r])), (r, .inl (d1, 12, .inr (.inl (vp_updL f (rn_v a 12) (wd_v g h))))), (w, .inl (d2, 12, .inr (.inl (vp_updL f (nI (rn_v a 12)).toNatClampNeg (wd_v g h)))))] H := hP
          have hD : va_D (fun q : Nat => s.heap.size ≤ q) [(o, .inr (0, [.ref r])), (r, .inl (d1, 12, .inr (.inl (vp_updL f (rn_v a 12) (wd_v g h))))), (w, .inl (d2, 12, .inr (.inl (vp_updL f (nI (rn_v a 12)).toNatClampNeg (wd_v g h)))))] := hD
          rw [rn_cl] at hP hD
          exact law_tail l hL C0 hZ hK hlt (fun f H locs kc ks => ih (i + 1) hlt (by omega) f H locs kc ks) _ H locs _ _ hkc hks hP hD hS x a g h ls (lv_sub hl [5, 6, 7, 8, 4, 3, 2, 1] rfl)
        · refine lv_aload_n hx hb dL_law_184 rfl (lv_at hl 6 rfl) ?_
          refine lv_iload hx hb dL_law_185 (lv_at hl 1 rfl) ?_
          refine lv_bipush (v := 12) hx hb dL_law_187 (by decide) ?_
          refine vp_callSi (W.runS (As := [.int g, .int 12]) (rest := [.ref w]) ⟨hx, hb, hml, hown, hts⟩ (mX0_rest l g 12 (by decide) (by decide)) (va_cwS 2 hts (lw_S q126 q127 q3 q128) rfl rfl rfl (by decide +kernel) ⟨Nat.le_of_ble_eq_true rfl, Nat.le_of_ble_eq_true rfl⟩) ⟨fun _ _ _ _ q => q, fun _ _ _ => ⟨rfl, trivial⟩⟩ rfl rfl hl.1 rfl (lv_room (Nat.le_of_ble_eq_true rfl)) dL_law_189 ⟨(by show kc + 0 ≤ 1200192; omega), (by show ks + 0 ≤ 5500522; omega)⟩) (fun r_7 hr_7 => ?_)
          subst hr_7
          refine va_lald hx hb hK hP 2 1 rfl rfl (rn_in g) dL_law_192 ?_
          refine tp_l (y := f (rn_v g 12)) (by rw [rn_cl]) ?_
          refine lv_goto (tgt := 203) hx hb dL_law_193 (by decide) ?_
          refine lv_lstore (lv' := [(8, .long (f (rn_v g 12))), (7, .int h), (6, .int g), (5, .int a), (4, .int x), (0, .ref b), (1, .ref o), (2, .ref w), (3, .int (nI i))]) hx hb dL_law_203 hl (by decide) rfl (fun ls hl => ?_)
          refine lv_aload_n hx hb dL_law_205 rfl (lv_at hl 6 rfl) ?_
          refine lv_iload hx hb dL_law_206 (lv_at hl 3 rfl) ?_
          refine lv_lload hx hb dL_law_208 (lv_at hl 0 rfl) ?_
          refine vp_callSi (W.runS (As := [.long (f (rn_v g 12))]) (rest := [.int a, .ref o]) ⟨hx, hb, hml, hown, hts⟩ (mX0_high l (f (rn_v g 12))) (va_cwS 1 hts (lw_S q134 q135 q3 q136) rfl rfl rfl (by decide +kernel) ⟨Nat.le_of_ble_eq_true rfl, Nat.le_of_ble_eq_true rfl⟩) ⟨fun _ _ _ _ q => q, fun _ _ _ => ⟨rfl, trivial⟩⟩ rfl rfl hl.1 rfl (lv_room (Nat.le_of_ble_eq_true rfl)) dL_law_210 ⟨(by show kc + 0 ≤ 1200192; omega), (by show ks + 0 ≤ 5500522; omega)⟩) (fun r_8 hr_8 => ?_)
          subst hr_8
          refine lv_lload hx hb dL_law_213 (lv_at hl 0 rfl) ?_
          refine lv_l2i (v := (f (rn_v g 12)).toInt32) hx hb dL_law_215 rfl ?_
          have hPc := hP.sub (ws' := [(o, .inr (0, [.ref r])), (r, .inl (d1, 12, .inr (.inl f)))]) [0, 1] rfl
          have hDc := hD.sub (ws' := [(o, .inr (0, [.ref r])), (r, .inl (d1, 12, .inr (.inl f)))]) [0, 1] (by decide) rfl
          have hKc := hK.sub (tys' := [(d1, .long)]) [0] rfl
          have hFc := va_free (wc := [(o, .inr (0, [.ref r])), (r, .inl (d1, 12, .inr (.inl f)))]) hD hS hA [0, 1] rfl
          refine va_callv (va_runV (As := [.int a, .int (hi_v (f (rn_v g 12))), .int ((f (rn_v g 12)).toInt32)]) (rest := []) ⟨hx, hb, hml, hown, hts⟩ (mX1_set l dC dI H.size o r d1 f a (hi_v (f (rn_v g 12))) (f (rn_v g 12)).toInt32) (cwV 3 hts (lw_V q26 q27 q28 q4 q29) rfl rfl rfl (by decide +kernel) ⟨Nat.le_of_ble_eq_true rfl, Nat.le_of_ble_eq_true rfl⟩) ⟨fun a U g mk q => ⟨q.1, q.2.1, q.2.2.1, va_K.moved (u := U) (U := U.calling g mk a) (Vm.Alike.refl U.vm) q.2.2.2.1, q.2.2.2.2⟩, (va_recv hK hP (ci := 0) (q0 := 0) rfl rfl), fun U hU hW => ⟨rfl, by rw [hU], by rw [hU]; exact hPc, va_K.moved hW.alike hKc, hDc.weaken (fun _ _ _ _ => trivial)⟩⟩ rfl rfl hl.1 rfl (lv_room (Nat.le_of_ble_eq_true rfl)) dL_law_216 ⟨(by show kc + 0 ≤ 1200192; omega), (by show ks + 0 ≤ 5500522; omega)⟩) hS (fun q _ h => hFc q h) hFc (fun u t H1 locs ht hvm hw1 hB hz1 hk1 hS => ?_)
          obtain ⟨hP1, hD1⟩ := hB
          rw [ht] at hP1
          obtain ⟨hP, hD⟩ := va_join (wr := [(w, .inl (d2, 12, .inr (.inl f)))]) (w1 := [(o, .inr (0, [.ref r])), (r, .inl (d1, 12, .inr (.inl (vp_updL f (rn_v a 12) (wd_v (hi_v (f (rn_v g 12))) (f (rn_v g 12)).toInt32)))))]) hP hD [0, 1] [2] rfl rfl (by decide) (by decide) hk1 hFc hP1 hD1
          clear hPc hDc hFc hP1 hD1
          generalize H1 = H at hP hS ⊢
          have hP : va_P (dC, dI) cl_d [(w, .inl (d2, 12, .inr (.inl f))), (o, .inr (0, [.ref r])), (r, .inl (d1, 12, .inr (.inl (vp_updL f (rn_v a 12) (wd_v (hi_v (f (rn_v g 12))) (f (rn_v g 12)).toInt32)))))] H := hP
          have hD : va_D (fun q : Nat => s.heap.size ≤ q) [(w, .inl (d2, 12, .inr (.inl f))), (o, .inr (0, [.ref r])), (r, .inl (d1, 12, .inr (.inl (vp_updL f (rn_v a 12) (wd_v (hi_v (f (rn_v g 12))) (f (rn_v g 12)).toInt32)))))] := hD
          rw [wd_hi] at hP hD
          have hP := hP.sub (ws' := [(o, .inr (0, [.ref r])), (r, .inl (d1, 12, .inr (.inl (vp_updL f (rn_v a 12) (f (rn_v g 12)))))), (w, .inl (d2, 12, .inr (.inl f)))]) [1, 2, 0] rfl
          have hD := hD.sub (ws' := [(o, .inr (0, [.ref r])), (r, .inl (d1, 12, .inr (.inl (vp_updL f (rn_v a 12) (f (rn_v g 12)))))), (w, .inl (d2, 12, .inr (.inl f)))]) [1, 2, 0] (by decide) rfl
          refine lv_aload_n hx hb dL_law_219 rfl (lv_at hl 7 rfl) ?_
          refine lv_iload hx hb dL_law_220 (lv_at hl 3 rfl) ?_
          refine lv_bipush (v := 12) hx hb dL_law_222 (by decide) ?_
          refine vp_callSi (W.runS (As := [.int a, .int 12]) (rest := [.ref w]) ⟨hx, hb, hml, hown, hts⟩ (mX0_rest l a 12 (by decide) (by decide)) (va_cwS 2 hts (lw_S q126 q127 q3 q128) rfl rfl rfl (by decide +kernel) ⟨Nat.le_of_ble_eq_true rfl, Nat.le_of_ble_eq_true rfl⟩) ⟨fun _ _ _ _ q => q, fun _ _ _ => ⟨rfl, trivial⟩⟩ rfl rfl hl.1 rfl (lv_room (Nat.le_of_ble_eq_true rfl)) dL_law_224 ⟨(by show kc + 0 ≤ 1200192; omega), (by show ks + 0 ≤ 5500522; omega)⟩) (fun r_9 hr_9 => ?_)
          subst hr_9
          refine lv_lload hx hb dL_law_227 (lv_at hl 0 rfl) ?_
          refine va_last hx hb hK hP hD hS 2 1 rfl rfl (rn_in a) dL_law_229 (fun H locs hP hD hS => ?_)
          have hP : va_P (dC, dI) cl_d [(o, .inr (0, [.ref r])), (r, .inl (d1, 12, .inr (.inl (vp_updL f (rn_v a 12) (f (rn_v g 12)))))), (w, .inl (d2, 12, .inr (.inl (vp_updL f (nI (rn_v a 12)).toNatClampNeg (f (rn_v g 12))))))] H := hP
          have hD : va_D (fun q : Nat => s.heap.size ≤ q) [(o, .inr (0, [.ref r])), (r, .inl (d1, 12, .inr (.inl (vp_updL f (rn_v a 12) (f (rn_v g 12)))))), (w, .inl (d2, 12, .inr (.inl (vp_updL f (nI (rn_v a 12)).toNatClampNeg (f (rn_v g 12))))))] := hD
          rw [rn_cl] at hP hD
          exact law_tail l hL C0 hZ hK hlt (fun f H locs kc ks => ih (i + 1) hlt (by omega) f H locs kc ks) _ H locs _ _ hkc hks hP hD hS x a g h ls (lv_sub hl [5, 6, 7, 8, 4, 3, 2, 1] rfl)
      · refine lv_iload hx hb dL_law_81 (lv_at hl 2 rfl) ?_
        refine lv_bipush (v := 13) hx hb dL_law_83 (by decide) ?_
        refine vp_callSi (W.runS (As := [.int a, .int 13]) (rest := []) ⟨hx, hb, hml, hown, hts⟩ (mX0_rest l a 13 (by decide) (by decide)) (va_cwS 2 hts (lw_S q126 q127 q3 q128) rfl rfl rfl (by decide +kernel) ⟨Nat.le_of_ble_eq_true rfl, Nat.le_of_ble_eq_true rfl⟩) ⟨fun _ _ _ _ q => q, fun _ _ _ => ⟨rfl, trivial⟩⟩ rfl rfl hl.1 rfl (lv_room (Nat.le_of_ble_eq_true rfl)) dL_law_85 ⟨(by show kc + 0 ≤ 1200192; omega), (by show ks + 0 ≤ 5500522; omega)⟩) (fun r_10 hr_10 => ?_)
        subst hr_10
        refine lv_istore (lv' := [(8, .int (nI (rn_v a 13))), (7, .int h), (6, .int g), (5, .int a), (4, .int x), (0, .ref b), (1, .ref o), (2, .ref w), (3, .int (nI i))]) hx hb dL_law_88 hl (by decide) rfl (fun ls hl => ?_)
        refine lv_iload hx hb dL_law_90 (lv_at hl 0 rfl) ?_
        refine lv_iload hx hb dL_law_92 (lv_at hl 2 rfl) ?_
        refine lv_bipush (v := 13) hx hb dL_law_94 (by decide) ?_
        refine lv_iload hx hb dL_law_96 (lv_at hl 0 rfl) ?_
        refine lv_isub hx hb dL_law_98 ?_
        refine tp_i (y := nI (13 - rn_v a 13)) (pk_sub (a := 13) (Nat.le_of_lt (rn_lt13 a))) ?_
        refine vp_callSi (W.runS (As := [.int g, .int (nI (13 - rn_v a 13))]) (rest := [.int (nI (rn_v a 13))]) ⟨hx, hb, hml, hown, hts⟩ (mX0_rest l g (13 - rn_v a 13) (Nat.sub_pos_of_lt (rn_lt13 a)) (Nat.lt_of_le_of_lt (Nat.sub_le _ _) (by decide))) (va_cwS 2 hts (lw_S q126 q127 q3 q128) rfl rfl rfl (by decide +kernel) ⟨Nat.le_of_ble_eq_true rfl, Nat.le_of_ble_eq_true rfl⟩) ⟨fun _ _ _ _ q => q, fun _ _ _ => ⟨rfl, trivial⟩⟩ rfl rfl hl.1 rfl (lv_room (Nat.le_of_ble_eq_true rfl)) dL_law_99 ⟨(by show kc + 0 ≤ 1200192; omega), (by show ks + 0 ≤ 5500522; omega)⟩) (fun r_11 hr_11 => ?_)
        subst hr_11
        refine lv_iadd hx hb dL_law_102 ?_
        refine tp_i (y := nI (rn_v a 13 + rn_v g (13 - rn_v a 13))) (nI_add _ _) ?_
        refine lv_istore (lv' := [(9, .int (nI (rn_v a 13 + rn_v g (13 - rn_v a 13)))), (8, .int (nI (rn_v a 13))), (7, .int h), (6, .int g), (5, .int a), (4, .int x), (0, .ref b), (1, .ref o), (2, .ref w), (3, .int (nI i))]) hx hb dL_law_103 hl (by decide) rfl (fun ls hl => ?_)
        refine lv_aload_n hx hb dL_law_105 rfl (lv_at hl 7 rfl) ?_
        refine lv_iload hx hb dL_law_106 (lv_at hl 4 rfl) ?_
        refine lv_iload hx hb dL_law_108 (lv_at hl 3 rfl) ?_
        have hPc := hP.sub (ws' := [(o, .inr (0, [.ref r])), (r, .inl (d1, 12, .inr (.inl f)))]) [0, 1] rfl
        have hDc := hD.sub (ws' := [(o, .inr (0, [.ref r])), (r, .inl (d1, 12, .inr (.inl f)))]) [0, 1] (by decide) rfl
        have hKc := hK.sub (tys' := [(d1, .long)]) [0] rfl
        have hFc := va_free (wc := [(o, .inr (0, [.ref r])), (r, .inl (d1, 12, .inr (.inl f)))]) hD hS hA [0, 1] rfl
        refine va_callv (va_runV (As := [.int a, .int g]) (rest := []) ⟨hx, hb, hml, hown, hts⟩ (mX1_reverse l dC dI H.size o r d1 f a g) (cwV 2 hts (lw_V q35 q36 q37 q4 q38) rfl rfl rfl (by decide +kernel) ⟨Nat.le_of_ble_eq_true rfl, Nat.le_of_ble_eq_true rfl⟩) ⟨fun a U g mk q => ⟨q.1, q.2.1, q.2.2.1, va_K.moved (u := U) (U := U.calling g mk a) (Vm.Alike.refl U.vm) q.2.2.2.1, q.2.2.2.2⟩, (va_recv hK hP (ci := 0) (q0 := 0) rfl rfl), fun U hU hW => ⟨rfl, by rw [hU], by rw [hU]; exact hPc, va_K.moved hW.alike hKc, hDc.weaken (fun _ _ _ _ => trivial)⟩⟩ rfl rfl hl.1 rfl (lv_room (Nat.le_of_ble_eq_true rfl)) dL_law_110 ⟨(by show kc + 0 ≤ 1200192; omega), (by show ks + 0 ≤ 5500522; omega)⟩) hS (fun q _ h => hFc q h) hFc (fun u t H1 locs ht hvm hw1 hB hz1 hk1 hS => ?_)
        obtain ⟨hP1, hD1⟩ := hB
        rw [ht] at hP1
        obtain ⟨hP, hD⟩ := va_join (wr := [(w, .inl (d2, 12, .inr (.inl f)))]) (w1 := [(o, .inr (0, [.ref r])), (r, .inl (d1, 12, .inr (.inl (rv_f f (rn_v a 13) (rn_v a 13 + rn_v g (13 - rn_v a 13))))))]) hP hD [0, 1] [2] rfl rfl (by decide) (by decide) hk1 hFc hP1 hD1
        clear hPc hDc hFc hP1 hD1
        generalize H1 = H at hP hS ⊢
        have hP : va_P (dC, dI) cl_d [(w, .inl (d2, 12, .inr (.inl f))), (o, .inr (0, [.ref r])), (r, .inl (d1, 12, .inr (.inl (rv_f f (rn_v a 13) (rn_v a 13 + rn_v g (13 - rn_v a 13))))))] H := hP
        have hD : va_D (fun q : Nat => s.heap.size ≤ q) [(w, .inl (d2, 12, .inr (.inl f))), (o, .inr (0, [.ref r])), (r, .inl (d1, 12, .inr (.inl (rv_f f (rn_v a 13) (rn_v a 13 + rn_v g (13 - rn_v a 13))))))] := hD
        have hP := hP.sub (ws' := [(o, .inr (0, [.ref r])), (r, .inl (d1, 12, .inr (.inl (rv_f f (rn_v a 13) (rn_v a 13 + rn_v g (13 - rn_v a 13)))))), (w, .inl (d2, 12, .inr (.inl f)))]) [1, 2, 0] rfl
        have hD := hD.sub (ws' := [(o, .inr (0, [.ref r])), (r, .inl (d1, 12, .inr (.inl (rv_f f (rn_v a 13) (rn_v a 13 + rn_v g (13 - rn_v a 13)))))), (w, .inl (d2, 12, .inr (.inl f)))]) [1, 2, 0] (by decide) rfl
        refine lv_iconst (v := 0) hx hb dL_law_113 (by decide) ?_
        refine lv_istore (lv' := [(10, .int 0), (9, .int (nI (rn_v a 13 + rn_v g (13 - rn_v a 13)))), (8, .int (nI (rn_v a 13))), (7, .int h), (6, .int g), (5, .int a), (4, .int x), (0, .ref b), (1, .ref o), (2, .ref w), (3, .int (nI i))]) hx hb dL_law_114 hl (by decide) rfl (fun ls hl => ?_)
        refine law_swap l hL C0 hZ hK (i := i) (f := f) (lo := rn_v a 13) (hi := rn_v a 13 + rn_v g (13 - rn_v a 13)) (Nat.le_add_right _ _) (lo_13 a g) (fun H locs hP hD hS ls hl => ?_) ((rn_v a 13 + rn_v g (13 - rn_v a 13) - rn_v a 13) / 2 + 1) 0 (Nat.zero_le _) (by omega) H locs hP hD hS ls (lv_sub hl [7, 8, 9, 10, 6, 5, 4, 3, 2, 1, 0] rfl)
        exact law_tail l hL C0 hZ hK hlt (fun f H locs kc ks => ih (i + 1) hlt (by omega) f H locs kc ks) _ H locs _ _ hkc hks hP hD hS x a g h ls hl
end
section
set_option maxHeartbeats 4000000 in
set_option maxRecDepth 100000 in
/-- THE LAW, from its entry -/
theorem whole_start {p : Program} {e : Env} {s : State} {m : MethodId} {below : List Frame} {meth : Method} {c : Code} (l : Launch) (hflags : l.flags = flags0) {b L : Nat} {xs : Nat → Int32} (hL : L ≤ 96) (C0 : lw_At p s m meth c b L xs) : W p l e room_1 s m #[Value.ref b] below meth c s.heap [] 0 0 (lw_Z below #[Value.ref b] s) (entryFrame m ([Value.ref b] : List Value).toArray 13) := by
  obtain ⟨hx, hb, hr, hml, hown, hts0, hX, hbl, hlocks, hgv⟩ := id C0
  have hts : ∀ w ∈ lw_all, w.before #[Value.ref b] s = true := fun w h => hts0 w (lw_all_tbl h)
  have hA : ∀ q : Nat, s.heap.size ≤ q → (fun q : Nat => s.heap.size ≤ q) q := fun _ h => h
  have hbA : ¬ (fun q : Nat => s.heap.size ≤ q) b := Nat.not_le.mpr hbl
  obtain ⟨c0_, iS0, hKn0⟩ := u_known (C := RX1) (T := TX1) (N := 1) (n := 1) hts0 (fun w h => lw_all_tbl (in_X1 w h)) (hts0 _ (lw_all_tbl q14))
  obtain ⟨dC, dI, hKc⟩ : ∃ (dC : Nat → ClassId) (dI : Nat → Nat → Nat), ∀ (k : Nat) (q : vw_C), cl_d[k]? = some q → u_Kn s q.1 q.2.1 q.2.2 (dC k) (dI k) := by
    refine ⟨fun _ => c0_, fun _ => iS0, ?_⟩
    intro k q hq
    match k, hq with
    | 0, hq => cases hq; exact hKn0
    | k + 1, hq => simp [cl_d] at hq
  obtain ⟨aS, hZ⟩ : ∃ aS, vk_R RX2 16 "min (%s) must be less than or equal to max (%s)" aS s := by
    have hs := flat_of_before _ hgv
    have h1 : (Cond.exactly (Term.string "Longs" 16) "java/lang/String").before #[Value.ref b] s = true := hs _ (by decide +kernel)
    obtain ⟨a, c1, cA, kA, q1, -⟩ := Cond.exactly_spec (args := #[Value.ref b]) (first := s) (o := none) (s := s) (idx := []) (t := Term.string "Longs" 16) (cls := "java/lang/String") h1
    exact ⟨a, vk_R.of (hts0 _ q250) q1⟩
  have hS : va_S (fun q : Nat => s.heap.size ≤ q) s.heap s.heap [] := va_S.rf
  have hK : va_K (dC, dI) cl_d [] s := ⟨hKc, fun k q h => by simp at h⟩
  have hP : va_P (dC, dI) cl_d [] s.heap := fun k q h => by simp at h
  have hD : va_D (fun q : Nat => s.heap.size ≤ q) [] := ⟨fun i j p q h => by simp at h, fun k q h => by simp at h⟩
  have hl := lv_entry ([.ref b]) (n := 13) (Nat.le_of_ble_eq_true rfl)
  rw [lg_entry_eq]
  generalize (lg_sl ([.ref b]) ++ List.replicate (13 - (lg_sl ([.ref b])).length) Slot.unset).toArray = ls at hl ⊢
  have hl : lv_has ls 13 [(0, .ref b)] := hl
  refine va_new (ci := 0) (fs := [.null]) (C := RX1) (T := TX1) (N := 1) hx hb hts in_X1 tyX1 tyX1_ok hown (hts _ q13) (hts _ q14) (hts _ q4) hK hP hD hS hA rfl (fun j hj => by rcases (show j = 0 by omega) with rfl; rfl) (Nat.le_of_ble_eq_true rfl) (Nat.le_of_ble_eq_true rfl) dL_law_0 (fun o H hP hD hS => ?_)
  have hP : va_P (dC, dI) cl_d [(o, .inr (0, [.null]))] H := hP
  have hD : va_D (fun q : Nat => s.heap.size ≤ q) [(o, .inr (0, [.null]))] := hD
  refine W.widen (k := 1) (n := 1) (Nat.le_refl _) (Nat.le_refl _) ?_
  refine lv_dup hx hb dL_law_3 rfl ?_
  have hPc := hP.sub (ws' := [(o, .inr (0, [.null]))]) [0] rfl
  have hDc := hD.sub (ws' := [(o, .inr (0, [.null]))]) [0] (by decide) rfl
  have hKc2 := hK.sub (tys' := []) [] rfl
  have hFc := va_free (wc := [(o, .inr (0, [.null]))]) hD hS hA [0] rfl
  refine va_callv (va_runI (As := []) (rest := [.ref o]) ⟨hx, hb, hml, hown, hts⟩ (mX1_init l dC dI H.size o) (cwI 0 hts (lw_meth q17) rfl rfl rfl (hts _ q4) (hts _ q15) (hts _ q16) rfl (by decide +kernel) ⟨Nat.le_of_ble_eq_true rfl, Nat.le_of_ble_eq_true rfl⟩) ⟨fun a U g mk q => ⟨q.1, q.2.1, q.2.2.1, va_K.moved (u := U) (U := U.calling g mk a) (Vm.Alike.refl U.vm) q.2.2.2.1, q.2.2.2.2⟩, fun U hU hW => ⟨rfl, by rw [hU], by rw [hU]; exact hPc, va_K.moved hW.alike hKc2, hDc.weaken (fun _ _ _ _ => trivial)⟩⟩ rfl rfl hl.1 rfl (lv_room (Nat.le_of_ble_eq_true rfl)) dL_law_4 ⟨Nat.le_of_ble_eq_true rfl, Nat.le_of_ble_eq_true rfl⟩) hS (fun q _ h => hFc q h) hFc (fun u t H1 locs ht hvm hw1 hB hz1 hk1 hS => ?_)
  obtain ⟨r, d1⟩ := u
  obtain ⟨hP1, hK1, hD1⟩ := hB
  rw [ht] at hP1
  have hK := va_K.moved hvm.symm hK1
  obtain ⟨hP, hD⟩ := va_join (wr := []) (w1 := [(o, .inr (0, [.ref r])), (r, .inl (d1, 12, .inr (.inl (fun _ => 0))))]) hP hD [0] [] rfl rfl (by decide) (by decide) hk1 hFc hP1 hD1
  clear hPc hDc hFc hP1 hD1
  generalize H1 = H at hP hS ⊢
  have hP : va_P (dC, dI) cl_d [(o, .inr (0, [.ref r])), (r, .inl (d1, 12, .inr (.inl (fun _ => 0))))] H := hP
  have hD : va_D (fun q : Nat => s.heap.size ≤ q) [(o, .inr (0, [.ref r])), (r, .inl (d1, 12, .inr (.inl (fun _ => 0))))] := hD
  have hK : va_K (dC, dI) cl_d [(d1, .long)] s := hK
  refine W.widen (k := 2) (n := 13) (Nat.le_refl _) (Nat.le_refl _) ?_
  refine lv_astore_n (lv' := [(1, .ref o), (0, .ref b)]) hx hb dL_law_7 rfl hl (by decide) rfl (fun ls hl => ?_)
  refine lv_bipush (v := 12) hx hb dL_law_8 (by decide) ?_
  refine va_newa (atype := .long) hx hb (hts _ q25) (ty := .long) rfl hK hP hD hS hA (N' := 12) (a0 := (12, .inr (.inl (fun _ => 0)))) (fun _ => rfl) (by decide) (by decide) (by decide) (Nat.le_of_ble_eq_true rfl) (Nat.le_of_ble_eq_true rfl) dL_law_10 (fun w d2 H hK hP hD hS => ?_)
  have hP : va_P (dC, dI) cl_d [(o, .inr (0, [.ref r])), (r, .inl (d1, 12, .inr (.inl (fun _ => 0)))), (w, .inl (d2, 12, .inr (.inl (fun _ => 0))))] H := hP
  have hD : va_D (fun q : Nat => s.heap.size ≤ q) [(o, .inr (0, [.ref r])), (r, .inl (d1, 12, .inr (.inl (fun _ => 0)))), (w, .inl (d2, 12, .inr (.inl (fun _ => 0))))] := hD
  have hK : va_K (dC, dI) cl_d [(d1, .long), (d2, .long)] s := hK
  refine W.widen (k := 3) (n := 25) (Nat.le_refl _) (Nat.le_refl _) ?_
  refine lv_astore_n (lv' := [(2, .ref w), (1, .ref o), (0, .ref b)]) hx hb dL_law_12 rfl hl (by decide) rfl (fun ls hl => ?_)
  refine lv_aload_n hx hb dL_law_13 rfl (lv_at hl 1 rfl) ?_
  refine lv_aload_n hx hb dL_law_14 rfl (lv_at hl 0 rfl) ?_
  refine vp_callSi (W.runS (As := [.ref o, .ref w]) (rest := []) ⟨hx, hb, hml, hown, hts⟩ (mX0_same l dC dI o r w d1 d2 (fun _ => 0)) (va_cwS 2 hts (lw_S q170 q171 q3 q172) rfl rfl rfl (by decide +kernel) ⟨Nat.le_of_ble_eq_true rfl, Nat.le_of_ble_eq_true rfl⟩) ⟨fun a U g mk q => ⟨q.1, q.2.1, va_K.moved (u := U) (U := U.calling g mk a) (Vm.Alike.refl U.vm) q.2.2⟩, fun U hU hW => ⟨rfl, by rw [hU]; exact (hP.sub (ws' := [(o, .inr (0, [.ref r])), (r, .inl (d1, 12, .inr (.inl (fun _ => 0)))), (w, .inl (d2, 12, .inr (.inl (fun _ => 0))))]) [0, 1, 2] rfl), va_K.moved hW.alike (hK.sub (tys' := [(d1, .long), (d2, .long)]) [0, 1] rfl)⟩⟩ rfl rfl hl.1 rfl (lv_room (Nat.le_of_ble_eq_true rfl)) dL_law_15 ⟨Nat.le_of_ble_eq_true rfl, Nat.le_of_ble_eq_true rfl⟩) (fun r_1 hr_1 => ?_)
  subst hr_1
  refine lv_if_ne (tgt := 23) hx hb dL_law_18 (by decide) (fun c_2 => ?_) (fun c_2 => ?_)
  · refine lv_iconst (v := 0) hx hb dL_law_23 (by decide) ?_
    refine lv_istore_n (lv' := [(3, .int 0), (2, .ref w), (1, .ref o), (0, .ref b)]) hx hb dL_law_24 rfl hl (by decide) rfl (fun ls hl => ?_)
    exact law_loop l hL C0 hZ hK 25 0 (by decide) (by decide) _ H _ 3 25 (by decide) (by decide) hP hD hS ls (lv_sub hl [3, 2, 1, 0] rfl)
  · exact absurd c_2 (by decide)
-- ===== YOUR PART ENDS =====
set_option maxHeartbeats 4000000 in
theorem lw_walk (l : Launch) (hflags : l.flags = flags0) (b : Addr) (xs : List Int32) : MetFree l x (headSpec (Jvm.Cond.code x code maxLocals ret :: tables_1) room_1) (lw_P b xs) (fun _ _ _ _ _ => True) lw_Q := by
  refine MetFree.of_bodyS (code := code) (maxLocals := maxLocals) (ret := ret) (by decide) ?_ ?_
  · intro args s m h hn
    obtain ⟨meth, c, h1, h2, h3, h4, h5, h6, -, -⟩ := Cond.code_spec hn (atoms_spec (ws := Jvm.Cond.code x code maxLocals ret :: tables_1) h _ List.mem_cons_self)
    exact ⟨meth, c, h1, h2, h3, h4, h5, h6⟩
  · intro p e s m args below meth c s₁ B hml0 hP _
    obtain ⟨rfl, hx, hbd, hgv⟩ := hP
    obtain ⟨scr, harrAt, hlist, hof, hsmall⟩ := hx
    obtain ⟨hcb, hkn, -, -⟩ := State.arrayAt?_spec harrAt
    have hown : s.vm.findClass R_law = some m.cls := findClass_of_methodNamed B.named
    have hts0 : ∀ c ∈ (Jvm.Cond.code x code maxLocals ret :: tables_1), c.before #[Value.ref b] s = true := atoms_spec (ws := Jvm.Cond.code x code maxLocals ret :: tables_1) B.pre
    have hts : ∀ w ∈ lw_tbl, w.before #[Value.ref b] s = true := k2_hts_sels lw_privs (fun w hw => hts0 w (List.mem_cons_of_mem _ hw)) lw_privs_ok
    have hml : c.maxLocals = 13 := B.maxLocals_eq (hts0 _ List.mem_cons_self)
    have X₀ : Stand p l e room_1 s m #[Value.ref b] below meth c s₁ [] 0 0 := Stand.of_body B
    have hh0 : s₁.heap = s.heap := by rw [B.state]; rfl
    have hsz : scr.slots.size = xs.length := by rw [← Array.length_toList, hlist, List.length_map]
    have hval : ∀ j : Nat, j < xs.length → scr.slots[j]? = some (.int (xs.getD j 0)) := fun j hj => by
      rw [← Array.getElem?_toList, hlist]
      simp [hj]
    have hbl : b < s.heap.size := (Array.getElem?_eq_some_iff.mp hcb).1
    have hX : va_X b xs.length (fun j => xs.getD j 0) s s.heap := ⟨scr, hcb, hof, hkn, hsz, hval⟩
    have K : W p l e room_1 s m #[Value.ref b] below meth c s₁.heap [] 0 0 (lw_Z below #[Value.ref b] s) (entryFrame m ([Value.ref b] : List Value).toArray 13) := by
      rw [hh0]
      exact whole_start l hflags hbd ⟨B.exec, B.bytes, B.returns, hml, hown, hts, hX, hbl, B.notSynchronized, hgv⟩
    obtain ⟨t, a1, o, b1, b2, b3⟩ := K s₁ rfl X₀
    exact ⟨t, o, a1, b1, b2, b3⟩
theorem lw_pre_spec {args : Array Value} {s : State} (h : (Jvm.Cond.and given_1 narrow_1).before args s = true) (hr : rest_1_c.before args s = true) : ∃ (b : Addr) (xs : List Int32), lw_P b xs args s := by
  have hs := flat_of_before _ h
  have hq := flat_of_before _ hr
  have hc : (Cond.count 1).before args s = true := hs _ (by decide +kernel)
  have harr : (Cond.arrayOf (.arg 0) .int).before args s = true := hs _ (by decide +kernel)
  have hle : (Cond.le (.length (.arg 0)) (.int 96)).before args s = true := hs _ (by decide +kernel)
  have hlen : (Cond.isInt (.length (.arg 0))).before args s = true := hq _ (by decide +kernel)
  have hall : (Cond.all (.arg 0) (.isInt (.elem (.arg 0) (.index 0)))).before args s = true := hq _ (by decide +kernel)
  obtain ⟨b, xs, hb, hx⟩ := State.ints_of_pre rfl harr hlen hall
  have hsm : xs.length < 2 ^ 31 := hx.choose_spec.2.2.2
  have hev : (Term.length (.arg 0)).eval args s none [] s = some (.int xs.length.toInt32) := hx.length_eval hb
  have hv := Cond.le_ints hev (show (Term.int 96).eval args s none [] s = some (.int 96) from rfl)
  have hd : xs.length.toInt32 ≤ 96 := by
    simpa [Cond.before, Cond.holds, hv] using hle
  have hN : xs.length ≤ 96 := (Int32.ofNat_le_ofNat hsm (by decide)).mp (show Int32.ofNat xs.length ≤ Int32.ofNat 96 from hd)
  exact ⟨b, xs, Cond.one_arg hc (show args[0]? = some (.ref b) from hb), hx, hN, h⟩
theorem lw_comes (l : Launch) (hflags : l.flags = flags0) : Comes l x (Jvm.Cond.code x code maxLocals ret :: tables_1) room_1 (fun tb e args s => Calls_1 tb e args s ∧ rest_1 tb e args s ∧ Pre_1 tb e args s)
    (fun _ _ args s o t => lw_Q args s o t) := by
  intro p e ha hc hk s m args below hf hfit hheap happ hpre
  obtain ⟨b, xs, hP⟩ := lw_pre_spec hpre.2.2 hpre.2.1
  obtain ⟨k, o, h1, h2, h3, hQ⟩ := lw_walk l hflags b xs p e ha hc hk s m args below hf ((Spec.applies_iff_loose hf).mp happ).1 hP trivial
  exact ⟨k, o, h1, h2, h3, hQ⟩
theorem lw_frame {s t : State} {o : Outcome} {args : Array Value} (h : Framed s o t [] 1200192 5500522) :
    Framed s o t (fieldLocs frame_1_writes args s ++ arrayLocs frame_1_arrays args s ++ staticLocs frame_1_statics s) 1200192 5500522 := h
theorem lw_limb (L : Cond) (hL : ∀ (args : Array Value) (s t : State), L.after args s (.returned (some (.int 1))) t = true) :
    ArmFor flags0 classFile x code maxLocals ret World_1 tables_1 room_1 Calls_1 rest_1 Pre_1
      (fun tb e a s o t => postC L tb e a s o t ∧ Framed s o t (fieldLocs frame_1_writes a s ++ arrayLocs frame_1_arrays a s ++ staticLocs frame_1_statics s) 1200192 5500522) := by
  intro l hflags _ _ p e ha hc hk s m args below hf hfit hheap happ hpre
  obtain ⟨k, o, h1, h2, h3, rfl, hF⟩ := lw_comes l hflags p e ha hc hk s m args below hf hfit hheap happ hpre
  exact ⟨k, _, h1, h2, h3, hL args s _, lw_frame hF⟩
theorem i_vc : Claimed_1_1 ∧ Claimed_1_2 := ⟨lw_limb limb_1_1 (fun args s t => by simp [limb_1_1, Cond.after, Cond.holds, Cond.value]), lw_limb limb_1_2 (fun args s t => Cond.after_iff.mpr (by
  first | (rw [show limb_1_2 = Cond.eq .result (.int 1) from rfl, Cond.eq_ints (x := 1) (y := 1) rfl rfl]; simp; done) | (simp [limb_1_2, Cond.value, Term.eval]; done)))⟩
end
