section
-- ===== PART A: goes FIRST, ahead of the names: the tables' words, and 'selects' of the private methods out of them =====
/-- a private method of a class that the tables say can be made, by its rows of tables_1 -/
def lw_okq (q : MethodName × Nat) : Prop := (q.1.cls ≠ "java/lang/invoke/MethodHandle" ∧ q.1.cls ≠ "java/lang/invoke/VarHandle") ∧ Cond.instantiable q.1.cls q.2 ∈ tables_1 ∧ Cond.privateMethod q.1 ∈ tables_1 ∧ Cond.instanceMethod q.1 ∈ tables_1
set_option maxRecDepth 100000
theorem lw_t1 {w : Cond} (h : w ∈ tables_1_1) : w ∈ tables_1 := List.mem_append_left _ h
theorem lw_t2 {w : Cond} (h : w ∈ tables_1_2) : w ∈ tables_1 := List.mem_append_right _ h
theorem lw_p0 : lw_okq (⟨"GostDesk", "run", "(ZI)V"⟩, 3) := ⟨⟨by decide +kernel, by decide +kernel⟩, lw_t1 (List.mem_of_getElem? (i := 15) rfl), lw_t1 (List.mem_of_getElem? (i := 38) rfl), lw_t1 (List.mem_of_getElem? (i := 39) rfl)⟩
theorem lw_p1 : lw_okq (⟨"java/lang/Throwable", "fillInStackTrace", "(I)Ljava/lang/Throwable;"⟩, 6) := ⟨⟨by decide +kernel, by decide +kernel⟩, lw_t1 (List.mem_of_getElem? (i := 136) rfl), lw_t1 (List.mem_of_getElem? (i := 134) rfl), lw_t1 (List.mem_of_getElem? (i := 135) rfl)⟩
theorem lw_p2 : lw_okq (⟨"GOST28147Engine", "generateWorkingKey", "(Z[B)[I"⟩, 3) := ⟨⟨by decide +kernel, by decide +kernel⟩, lw_t1 (List.mem_of_getElem? (i := 45) rfl), lw_t1 (List.mem_of_getElem? (i := 200) rfl), lw_t1 (List.mem_of_getElem? (i := 201) rfl)⟩
theorem lw_p3 : lw_okq (⟨"GOST28147Engine", "bytesToint", "([BI)I"⟩, 3) := ⟨⟨by decide +kernel, by decide +kernel⟩, lw_t1 (List.mem_of_getElem? (i := 45) rfl), lw_t1 (List.mem_of_getElem? (i := 205) rfl), lw_t1 (List.mem_of_getElem? (i := 206) rfl)⟩
theorem lw_p4 : lw_okq (⟨"GOST28147Engine", "GOST28147Func", "([I[BI[BI)V"⟩, 3) := ⟨⟨by decide +kernel, by decide +kernel⟩, lw_t1 (List.mem_of_getElem? (i := 45) rfl), lw_t2 (List.mem_of_getElem? (i := 23) rfl), lw_t2 (List.mem_of_getElem? (i := 24) rfl)⟩
theorem lw_p5 : lw_okq (⟨"GOST28147Engine", "GOST28147_mainStep", "(II)I"⟩, 3) := ⟨⟨by decide +kernel, by decide +kernel⟩, lw_t1 (List.mem_of_getElem? (i := 45) rfl), lw_t2 (List.mem_of_getElem? (i := 27) rfl), lw_t2 (List.mem_of_getElem? (i := 28) rfl)⟩
theorem lw_p6 : lw_okq (⟨"GOST28147Engine", "intTobytes", "(I[BI)V"⟩, 3) := ⟨⟨by decide +kernel, by decide +kernel⟩, lw_t1 (List.mem_of_getElem? (i := 45) rfl), lw_t2 (List.mem_of_getElem? (i := 31) rfl), lw_t2 (List.mem_of_getElem? (i := 32) rfl)⟩
def lw_privs_1 : List (MethodName × Nat) := [(⟨"GostDesk", "run", "(ZI)V"⟩, 3), (⟨"java/lang/Throwable", "fillInStackTrace", "(I)Ljava/lang/Throwable;"⟩, 6), (⟨"GOST28147Engine", "generateWorkingKey", "(Z[B)[I"⟩, 3), (⟨"GOST28147Engine", "bytesToint", "([BI)I"⟩, 3), (⟨"GOST28147Engine", "GOST28147Func", "([I[BI[BI)V"⟩, 3), (⟨"GOST28147Engine", "GOST28147_mainStep", "(II)I"⟩, 3), (⟨"GOST28147Engine", "intTobytes", "(I[BI)V"⟩, 3)]
theorem lw_r1 : ∀ q ∈ lw_privs_1, lw_okq q := List.forall_mem_cons.mpr ⟨lw_p0, List.forall_mem_cons.mpr ⟨lw_p1, List.forall_mem_cons.mpr ⟨lw_p2, List.forall_mem_cons.mpr ⟨lw_p3, List.forall_mem_cons.mpr ⟨lw_p4, List.forall_mem_cons.mpr ⟨lw_p5, List.forall_mem_cons.mpr ⟨lw_p6, fun _ h => absurd h List.not_mem_nil⟩⟩⟩⟩⟩⟩⟩
def lw_privs : List (MethodName × Nat) := lw_privs_1
def lw_tbl : List Cond := k2_sels lw_privs ++ tables_1
theorem lw_privs_ok : ∀ q ∈ lw_privs, lw_okq q := lw_r1
-- ===== ONE list of words for every method: the tables' words that hold all through a run =====
def lw_all : List Cond := lw_tbl.filter goodWord
/-- a word of the tables by its place: claim/WORDS.tsv -/
theorem lw_w {w : Cond} (i : Nat) (h : lw_tbl[i]? = some w) (g : goodWord w = true) : w ∈ lw_all := List.mem_filter.mpr ⟨List.mem_of_getElem? h, g⟩
theorem lw_all_tbl {w : Cond} (h : w ∈ lw_all) : w ∈ lw_tbl := (List.mem_filter.mp h).1
theorem lw_self : GoodIn lw_all lw_all := fun w h => ⟨h, good_of_word (List.mem_filter.mp h).2⟩
/-- a class's field words, by their places -/
theorem lw_in (ws : List Cond) (ps : List Nat) (hp : ws = ps.filterMap (fun i => lw_tbl[i]?)) (hg : ws.all goodWord = true) : ∀ w ∈ ws, w ∈ lw_all := by
  intro w h
  have h1 := List.all_eq_true.mp hg w h
  rw [hp] at h
  obtain ⟨i, -, hi⟩ := List.mem_filterMap.mp h
  exact lw_w i hi h1
/-- the words of a contract for the method y with code b, L locals, answer r -/
abbrev ws_ (y : MethodName) (b : ByteArray) (L : Nat) (r : Option FieldType) : List Cond := Cond.code y b L r :: lw_all
theorem lw_meth {y : MethodName} {b : ByteArray} {L : Nat} {r : Option FieldType} (h : Cond.code y b L r ∈ lw_all) : GoodIn lw_all (ws_ y b L r) := by
  intro w hw
  rcases List.mem_cons.mp hw with e | e
  · rw [e]
    exact lw_self _ h
  · exact lw_self _ e
theorem lw_app {a c : List Cond} (ha : ∀ w ∈ a, w ∈ lw_all) (hc : GoodIn lw_all c) : GoodIn lw_all (a ++ c) := by
  intro w hw
  rcases List.mem_append.mp hw with e | e
  · exact lw_self w (ha w e)
  · exact hc w e
/-- what a call through an object asks: cwV n hts (lw_V ..) -/
theorem lw_V {own : String} {idx : Nat} {C : String} {y : MethodName} {b : ByteArray} {L : Nat} {r : Option FieldType} (h1 : Cond.methodLink own idx y ∈ lw_all) (h2 : Cond.instanceMethod y ∈ lw_all) (h3 : Cond.selects C y y ∈ lw_all) (h4 : Cond.initialized C ∈ lw_all) (h5 : Cond.code y b L r ∈ lw_all) : GoodIn lw_all (wsV own idx C y (ws_ y b L r)) := by
  refine lw_app ?_ (lw_meth h5)
  intro w hw
  simp only [List.mem_cons, List.not_mem_nil, or_false] at hw
  rcases hw with e | e | e | e
  · rw [e]; exact h1
  · rw [e]; exact h2
  · rw [e]; exact h3
  · rw [e]; exact h4
/-- what a static call asks: va_cwS n hts (lw_S ..) -/
theorem lw_S {own : String} {idx : Nat} {y : MethodName} {b : ByteArray} {L : Nat} {r : Option FieldType} (h1 : Cond.methodLink own idx y ∈ lw_all) (h2 : Cond.static y ∈ lw_all) (h3 : Cond.initialized y.cls ∈ lw_all) (h4 : Cond.code y b L r ∈ lw_all) : GoodIn lw_all (va_wsS own idx y (ws_ y b L r)) := by
  refine lw_app ?_ (lw_meth h4)
  intro w hw
  simp only [List.mem_cons, List.not_mem_nil, or_false] at hw
  rcases hw with e | e | e
  · rw [e]; exact h1
  · rw [e]; exact h2
  · rw [e]; exact h3
/-- the words of a contract for a method WITH HANDLERS (hh: its table) -/
abbrev wsW_ (y : MethodName) (b : ByteArray) (L : Nat) (r : Option FieldType) (hh : List (Nat × Nat × Nat × Nat)) : List Cond := Cond.codeWith y b L r hh :: lw_all
theorem lw_methW {y : MethodName} {b : ByteArray} {L : Nat} {r : Option FieldType} {hh : List (Nat × Nat × Nat × Nat)} (h : Cond.codeWith y b L r hh ∈ lw_all) : GoodIn lw_all (wsW_ y b L r hh) := by
  intro w hw
  rcases List.mem_cons.mp hw with e | e
  · rw [e]
    exact lw_self _ h
  · exact lw_self _ e
/-- any list of words by their places (lw_in), good -/
theorem lw_good {ws : List Cond} (h : ∀ w ∈ ws, w ∈ lw_all) : GoodIn lw_all ws := fun w hw => lw_self w (h w hw)
/-- what a call of a method with handlers asks: vx_cwVW n hts (lw_VW ..), vx_cwSW n hts (lw_SW ..) -/
theorem lw_VW {own : String} {idx : Nat} {C : String} {y : MethodName} {b : ByteArray} {L : Nat} {r : Option FieldType} {hh : List (Nat × Nat × Nat × Nat)} (h1 : Cond.methodLink own idx y ∈ lw_all) (h2 : Cond.instanceMethod y ∈ lw_all) (h3 : Cond.selects C y y ∈ lw_all) (h4 : Cond.initialized C ∈ lw_all) (h5 : Cond.codeWith y b L r hh ∈ lw_all) : GoodIn lw_all (wsV own idx C y (wsW_ y b L r hh)) := by
  refine lw_app ?_ (lw_methW h5)
  intro w hw
  simp only [List.mem_cons, List.not_mem_nil, or_false] at hw
  rcases hw with e | e | e | e
  · rw [e]; exact h1
  · rw [e]; exact h2
  · rw [e]; exact h3
  · rw [e]; exact h4
theorem lw_SW {own : String} {idx : Nat} {y : MethodName} {b : ByteArray} {L : Nat} {r : Option FieldType} {hh : List (Nat × Nat × Nat × Nat)} (h1 : Cond.methodLink own idx y ∈ lw_all) (h2 : Cond.static y ∈ lw_all) (h3 : Cond.initialized y.cls ∈ lw_all) (h4 : Cond.codeWith y b L r hh ∈ lw_all) : GoodIn lw_all (va_wsS own idx y (wsW_ y b L r hh)) := by
  refine lw_app ?_ (lw_methW h4)
  intro w hw
  simp only [List.mem_cons, List.not_mem_nil, or_false] at hw
  rcases hw with e | e | e
  · rw [e]; exact h1
  · rw [e]; exact h2
  · rw [e]; exact h3
/-- a word by its place in its run of the tables -/
theorem lw_at {r : List Cond} (hr : ∀ w ∈ r, w ∈ lw_tbl) {w : Cond} (i : Nat) (h : r[i]? = some w) : w ∈ lw_tbl := hr w (List.mem_of_getElem? h)
theorem lw_g {w : Cond} (h : w ∈ lw_tbl) (g : goodWord w = true) : w ∈ lw_all := List.mem_filter.mpr ⟨h, g⟩
theorem lw_ms : ∀ w ∈ k2_sels lw_privs, w ∈ lw_tbl := fun w h => show w ∈ k2_sels lw_privs ++ tables_1 from List.mem_append_left _ h
theorem lw_m1 : ∀ w ∈ tables_1_1, w ∈ lw_tbl := fun w h => show w ∈ k2_sels lw_privs ++ tables_1 from List.mem_append_right (k2_sels lw_privs) (show w ∈ tables_1 from List.mem_append_left _ h)
theorem lw_m2 : ∀ w ∈ tables_1_2, w ∈ lw_tbl := fun w h => show w ∈ k2_sels lw_privs ++ tables_1 from List.mem_append_right (k2_sels lw_privs) (show w ∈ tables_1 from List.mem_append_right _ h)
theorem qs0 : (Cond.selects "GostDesk" ⟨"GostDesk", "run", "(ZI)V"⟩ ⟨"GostDesk", "run", "(ZI)V"⟩) ∈ lw_all := lw_g (lw_at lw_ms 0 rfl) rfl
theorem qs1 : (Cond.selects "java/lang/Throwable" ⟨"java/lang/Throwable", "fillInStackTrace", "(I)Ljava/lang/Throwable;"⟩ ⟨"java/lang/Throwable", "fillInStackTrace", "(I)Ljava/lang/Throwable;"⟩) ∈ lw_all := lw_g (lw_at lw_ms 1 rfl) rfl
theorem qs2 : (Cond.selects "GOST28147Engine" ⟨"GOST28147Engine", "generateWorkingKey", "(Z[B)[I"⟩ ⟨"GOST28147Engine", "generateWorkingKey", "(Z[B)[I"⟩) ∈ lw_all := lw_g (lw_at lw_ms 2 rfl) rfl
theorem qs3 : (Cond.selects "GOST28147Engine" ⟨"GOST28147Engine", "bytesToint", "([BI)I"⟩ ⟨"GOST28147Engine", "bytesToint", "([BI)I"⟩) ∈ lw_all := lw_g (lw_at lw_ms 3 rfl) rfl
theorem qs4 : (Cond.selects "GOST28147Engine" ⟨"GOST28147Engine", "GOST28147Func", "([I[BI[BI)V"⟩ ⟨"GOST28147Engine", "GOST28147Func", "([I[BI[BI)V"⟩) ∈ lw_all := lw_g (lw_at lw_ms 4 rfl) rfl
theorem qs5 : (Cond.selects "GOST28147Engine" ⟨"GOST28147Engine", "GOST28147_mainStep", "(II)I"⟩ ⟨"GOST28147Engine", "GOST28147_mainStep", "(II)I"⟩) ∈ lw_all := lw_g (lw_at lw_ms 5 rfl) rfl
theorem qs6 : (Cond.selects "GOST28147Engine" ⟨"GOST28147Engine", "intTobytes", "(I[BI)V"⟩ ⟨"GOST28147Engine", "intTobytes", "(I[BI)V"⟩) ∈ lw_all := lw_g (lw_at lw_ms 6 rfl) rfl
end
section
/-! DECODE ROWS BY BYTES: one lemma an opcode; a method's code is cut into short pieces once, and a row reads its own piece alone. -/
set_option maxRecDepth 100000
/-- the code has just these bytes from pc on -/
def DkAt (code : ByteArray) (pc : Nat) (bs : List UInt8) : Prop := ∀ (j : Nat) (b : UInt8), bs[j]? = some b → code.data.toList[pc + j]? = some b
/-- the piece W has the bytes bs from its place j on -/
def dkIn (W : List UInt8) (j : Nat) (bs : List UInt8) : Bool := decide ((W.drop j).take bs.length = bs)
theorem dk_seg {l W T : List UInt8} {o o2 : Nat} (h : l.drop o = W ++ T) (n : Nat) (hn : W.length = n) (ho : o + n = o2) : l.drop o2 = T := by
  subst ho
  rw [← List.drop_drop, h, List.drop_left' hn]
theorem dk_at {code : ByteArray} {W T bs : List UInt8} {o pc : Nat} (h : code.data.toList.drop o = W ++ T) (j : Nat) (hp : o + j = pc) (hw : dkIn W j bs = true) : DkAt code pc bs := by
  subst hp
  intro i b e
  have h1 := of_decide_eq_true hw
  have h2 : i < bs.length := (List.getElem?_eq_some_iff.mp e).1
  have h3 : W[j + i]? = some b := by
    rw [← h1, List.getElem?_take, if_pos h2, List.getElem?_drop] at e
    exact e
  have h4 : j + i < W.length := (List.getElem?_eq_some_iff.mp h3).1
  have h5 : (code.data.toList.drop o)[j + i]? = some b := by
    rw [h, List.getElem?_append_left h4]
    exact h3
  rw [List.getElem?_drop, ← Nat.add_assoc] at h5
  exact h5
theorem dk_u1 {A : ByteArray} {p : Nat} {b : UInt8} (h : A.data.toList[p]? = some b) : (Reader.u1 : Reader DecodeError Nat) A p = .ok (b.toNat, p + 1) := by
  obtain ⟨h1, h2⟩ := List.getElem?_eq_some_iff.mp h
  have h3 : p < A.size := by simpa using h1
  have h4 : A[p]'h3 = b := h2
  have e : (Reader.u1 : Reader DecodeError Nat) A p = (if h : p < A.size then .ok (A[p].toNat, p + 1) else .error (HasTruncated.truncated p)) := by
    show (do if h : p < A.size then do set (p + 1); Pure.pure A[p].toNat else MonadExcept.throw (HasTruncated.truncated p) : Reader DecodeError Nat) A p = _
    by_cases hi : p < A.size
    · rw [dif_pos hi, dif_pos hi]; rfl
    · rw [dif_neg hi, dif_neg hi]; rfl
  rw [e, dif_pos h3, h4]
theorem dk_bind {α β : Type} {r : Reader DecodeError α} {f : α → Reader DecodeError β} {A : ByteArray} {p s : Nat} {a : α} (h : r A p = .ok (a, s)) : (r >>= f) A p = f a A s := by
  show (do let (a, s) ← r A p; f a A s : Except DecodeError (β × Nat)) = _
  rw [h]
  rfl
theorem dk_map {α β : Type} {r : Reader DecodeError α} {g : α → β} {A : ByteArray} {p s : Nat} {a : α} (h : r A p = .ok (a, s)) : (g <$> r) A p = .ok (g a, s) := by
  show (do let (a, s) ← r A p; .ok (g a, s) : Except DecodeError (β × Nat)) = _
  rw [h]
  rfl
theorem dk_u2 {A : ByteArray} {p : Nat} {a b : UInt8} (h : A.data.toList[p]? = some a) (h2 : A.data.toList[p + 1]? = some b) : (Reader.u2 : Reader DecodeError Nat) A p = .ok (a.toNat * 256 + b.toNat, p + 2) := by
  show (Reader.u1 >>= fun hi => Reader.u1 >>= fun lo => Pure.pure (hi * 256 + lo) : Reader DecodeError Nat) A p = _
  rw [dk_bind (dk_u1 h), dk_bind (dk_u1 h2)]
  rfl
theorem dk_of {code : ByteArray} {pc n : Nat} {i : Instr} (h : Decoder.instr pc code pc = .ok (i, pc + n)) : decode code pc = .ok (i, n) := by
  have e : decode code pc = (match Decoder.instr pc code pc with | .error x => .error x | .ok (j, s) => .ok (j, s - pc)) := by
    show (do let (j, s) ← Decoder.instr pc code pc; Pure.pure (j, s - pc) : Except DecodeError (Instr × Nat)) = _
    cases Decoder.instr pc code pc <;> rfl
  rw [e, h]
  show Except.ok (i, pc + n - pc) = _
  rw [Nat.add_sub_cancel_left]
theorem dk_1 {code : ByteArray} {pc : Nat} (h : DkAt code pc [1]) : decode code pc = .ok (.aconst_null, 1) := dk_of ((dk_bind (dk_u1 (h 0 _ rfl))).trans rfl)
theorem dk_3 {code : ByteArray} {pc : Nat} (h : DkAt code pc [3]) : decode code pc = .ok (.iconst 0, 1) := dk_of ((dk_bind (dk_u1 (h 0 _ rfl))).trans rfl)
theorem dk_4 {code : ByteArray} {pc : Nat} (h : DkAt code pc [4]) : decode code pc = .ok (.iconst 1, 1) := dk_of ((dk_bind (dk_u1 (h 0 _ rfl))).trans rfl)
theorem dk_5 {code : ByteArray} {pc : Nat} (h : DkAt code pc [5]) : decode code pc = .ok (.iconst 2, 1) := dk_of ((dk_bind (dk_u1 (h 0 _ rfl))).trans rfl)
theorem dk_6 {code : ByteArray} {pc : Nat} (h : DkAt code pc [6]) : decode code pc = .ok (.iconst 3, 1) := dk_of ((dk_bind (dk_u1 (h 0 _ rfl))).trans rfl)
theorem dk_7 {code : ByteArray} {pc : Nat} (h : DkAt code pc [7]) : decode code pc = .ok (.iconst 4, 1) := dk_of ((dk_bind (dk_u1 (h 0 _ rfl))).trans rfl)
theorem dk_8 {code : ByteArray} {pc : Nat} (h : DkAt code pc [8]) : decode code pc = .ok (.iconst 5, 1) := dk_of ((dk_bind (dk_u1 (h 0 _ rfl))).trans rfl)
theorem dk_16 {code : ByteArray} {pc : Nat} (a : UInt8) (h : DkAt code pc [16, a]) : decode code pc = .ok (.bipush (Reader.signed 8 a.toNat), 2) := dk_of ((dk_bind (dk_u1 (h 0 _ rfl))).trans ((dk_bind (dk_map (dk_u1 (h 1 _ rfl)))).trans rfl))
theorem dk_17 {code : ByteArray} {pc : Nat} (a b : UInt8) (h : DkAt code pc [17, a, b]) : decode code pc = .ok (.sipush (Reader.signed 16 (a.toNat * 256 + b.toNat)), 3) := dk_of ((dk_bind (dk_u1 (h 0 _ rfl))).trans ((dk_bind (dk_map (dk_u2 (h 1 _ rfl) (h 2 _ rfl)))).trans rfl))
theorem dk_18 {code : ByteArray} {pc : Nat} (a : UInt8) (h : DkAt code pc [18, a]) : decode code pc = .ok (.ldc a.toNat, 2) := dk_of ((dk_bind (dk_u1 (h 0 _ rfl))).trans ((dk_bind (dk_u1 (h 1 _ rfl))).trans rfl))
theorem dk_20 {code : ByteArray} {pc : Nat} (a b : UInt8) (h : DkAt code pc [20, a, b]) : decode code pc = .ok (.ldc2_w (a.toNat * 256 + b.toNat), 3) := dk_of ((dk_bind (dk_u1 (h 0 _ rfl))).trans ((dk_bind (dk_u2 (h 1 _ rfl) (h 2 _ rfl))).trans rfl))
theorem dk_21 {code : ByteArray} {pc : Nat} (a : UInt8) (h : DkAt code pc [21, a]) : decode code pc = .ok (.iload a.toNat, 2) := dk_of ((dk_bind (dk_u1 (h 0 _ rfl))).trans ((dk_bind (dk_u1 (h 1 _ rfl))).trans rfl))
theorem dk_25 {code : ByteArray} {pc : Nat} (a : UInt8) (h : DkAt code pc [25, a]) : decode code pc = .ok (.aload a.toNat, 2) := dk_of ((dk_bind (dk_u1 (h 0 _ rfl))).trans ((dk_bind (dk_u1 (h 1 _ rfl))).trans rfl))
theorem dk_26 {code : ByteArray} {pc : Nat} (h : DkAt code pc [26]) : decode code pc = .ok (.iload_n 0, 1) := dk_of ((dk_bind (dk_u1 (h 0 _ rfl))).trans rfl)
theorem dk_27 {code : ByteArray} {pc : Nat} (h : DkAt code pc [27]) : decode code pc = .ok (.iload_n 1, 1) := dk_of ((dk_bind (dk_u1 (h 0 _ rfl))).trans rfl)
theorem dk_28 {code : ByteArray} {pc : Nat} (h : DkAt code pc [28]) : decode code pc = .ok (.iload_n 2, 1) := dk_of ((dk_bind (dk_u1 (h 0 _ rfl))).trans rfl)
theorem dk_29 {code : ByteArray} {pc : Nat} (h : DkAt code pc [29]) : decode code pc = .ok (.iload_n 3, 1) := dk_of ((dk_bind (dk_u1 (h 0 _ rfl))).trans rfl)
theorem dk_42 {code : ByteArray} {pc : Nat} (h : DkAt code pc [42]) : decode code pc = .ok (.aload_n 0, 1) := dk_of ((dk_bind (dk_u1 (h 0 _ rfl))).trans rfl)
theorem dk_43 {code : ByteArray} {pc : Nat} (h : DkAt code pc [43]) : decode code pc = .ok (.aload_n 1, 1) := dk_of ((dk_bind (dk_u1 (h 0 _ rfl))).trans rfl)
theorem dk_44 {code : ByteArray} {pc : Nat} (h : DkAt code pc [44]) : decode code pc = .ok (.aload_n 2, 1) := dk_of ((dk_bind (dk_u1 (h 0 _ rfl))).trans rfl)
theorem dk_45 {code : ByteArray} {pc : Nat} (h : DkAt code pc [45]) : decode code pc = .ok (.aload_n 3, 1) := dk_of ((dk_bind (dk_u1 (h 0 _ rfl))).trans rfl)
theorem dk_46 {code : ByteArray} {pc : Nat} (h : DkAt code pc [46]) : decode code pc = .ok (.iaload, 1) := dk_of ((dk_bind (dk_u1 (h 0 _ rfl))).trans rfl)
theorem dk_47 {code : ByteArray} {pc : Nat} (h : DkAt code pc [47]) : decode code pc = .ok (.laload, 1) := dk_of ((dk_bind (dk_u1 (h 0 _ rfl))).trans rfl)
theorem dk_51 {code : ByteArray} {pc : Nat} (h : DkAt code pc [51]) : decode code pc = .ok (.baload, 1) := dk_of ((dk_bind (dk_u1 (h 0 _ rfl))).trans rfl)
theorem dk_54 {code : ByteArray} {pc : Nat} (a : UInt8) (h : DkAt code pc [54, a]) : decode code pc = .ok (.istore a.toNat, 2) := dk_of ((dk_bind (dk_u1 (h 0 _ rfl))).trans ((dk_bind (dk_u1 (h 1 _ rfl))).trans rfl))
theorem dk_58 {code : ByteArray} {pc : Nat} (a : UInt8) (h : DkAt code pc [58, a]) : decode code pc = .ok (.astore a.toNat, 2) := dk_of ((dk_bind (dk_u1 (h 0 _ rfl))).trans ((dk_bind (dk_u1 (h 1 _ rfl))).trans rfl))
theorem dk_60 {code : ByteArray} {pc : Nat} (h : DkAt code pc [60]) : decode code pc = .ok (.istore_n 1, 1) := dk_of ((dk_bind (dk_u1 (h 0 _ rfl))).trans rfl)
theorem dk_61 {code : ByteArray} {pc : Nat} (h : DkAt code pc [61]) : decode code pc = .ok (.istore_n 2, 1) := dk_of ((dk_bind (dk_u1 (h 0 _ rfl))).trans rfl)
theorem dk_62 {code : ByteArray} {pc : Nat} (h : DkAt code pc [62]) : decode code pc = .ok (.istore_n 3, 1) := dk_of ((dk_bind (dk_u1 (h 0 _ rfl))).trans rfl)
theorem dk_76 {code : ByteArray} {pc : Nat} (h : DkAt code pc [76]) : decode code pc = .ok (.astore_n 1, 1) := dk_of ((dk_bind (dk_u1 (h 0 _ rfl))).trans rfl)
theorem dk_77 {code : ByteArray} {pc : Nat} (h : DkAt code pc [77]) : decode code pc = .ok (.astore_n 2, 1) := dk_of ((dk_bind (dk_u1 (h 0 _ rfl))).trans rfl)
theorem dk_78 {code : ByteArray} {pc : Nat} (h : DkAt code pc [78]) : decode code pc = .ok (.astore_n 3, 1) := dk_of ((dk_bind (dk_u1 (h 0 _ rfl))).trans rfl)
theorem dk_79 {code : ByteArray} {pc : Nat} (h : DkAt code pc [79]) : decode code pc = .ok (.iastore, 1) := dk_of ((dk_bind (dk_u1 (h 0 _ rfl))).trans rfl)
theorem dk_80 {code : ByteArray} {pc : Nat} (h : DkAt code pc [80]) : decode code pc = .ok (.lastore, 1) := dk_of ((dk_bind (dk_u1 (h 0 _ rfl))).trans rfl)
theorem dk_84 {code : ByteArray} {pc : Nat} (h : DkAt code pc [84]) : decode code pc = .ok (.bastore, 1) := dk_of ((dk_bind (dk_u1 (h 0 _ rfl))).trans rfl)
theorem dk_87 {code : ByteArray} {pc : Nat} (h : DkAt code pc [87]) : decode code pc = .ok (.pop, 1) := dk_of ((dk_bind (dk_u1 (h 0 _ rfl))).trans rfl)
theorem dk_89 {code : ByteArray} {pc : Nat} (h : DkAt code pc [89]) : decode code pc = .ok (.dup, 1) := dk_of ((dk_bind (dk_u1 (h 0 _ rfl))).trans rfl)
theorem dk_96 {code : ByteArray} {pc : Nat} (h : DkAt code pc [96]) : decode code pc = .ok (.iadd, 1) := dk_of ((dk_bind (dk_u1 (h 0 _ rfl))).trans rfl)
theorem dk_100 {code : ByteArray} {pc : Nat} (h : DkAt code pc [100]) : decode code pc = .ok (.isub, 1) := dk_of ((dk_bind (dk_u1 (h 0 _ rfl))).trans rfl)
theorem dk_104 {code : ByteArray} {pc : Nat} (h : DkAt code pc [104]) : decode code pc = .ok (.imul, 1) := dk_of ((dk_bind (dk_u1 (h 0 _ rfl))).trans rfl)
theorem dk_112 {code : ByteArray} {pc : Nat} (h : DkAt code pc [112]) : decode code pc = .ok (.irem, 1) := dk_of ((dk_bind (dk_u1 (h 0 _ rfl))).trans rfl)
theorem dk_120 {code : ByteArray} {pc : Nat} (h : DkAt code pc [120]) : decode code pc = .ok (.ishl, 1) := dk_of ((dk_bind (dk_u1 (h 0 _ rfl))).trans rfl)
theorem dk_122 {code : ByteArray} {pc : Nat} (h : DkAt code pc [122]) : decode code pc = .ok (.ishr, 1) := dk_of ((dk_bind (dk_u1 (h 0 _ rfl))).trans rfl)
theorem dk_124 {code : ByteArray} {pc : Nat} (h : DkAt code pc [124]) : decode code pc = .ok (.iushr, 1) := dk_of ((dk_bind (dk_u1 (h 0 _ rfl))).trans rfl)
theorem dk_125 {code : ByteArray} {pc : Nat} (h : DkAt code pc [125]) : decode code pc = .ok (.lushr, 1) := dk_of ((dk_bind (dk_u1 (h 0 _ rfl))).trans rfl)
theorem dk_126 {code : ByteArray} {pc : Nat} (h : DkAt code pc [126]) : decode code pc = .ok (.iand, 1) := dk_of ((dk_bind (dk_u1 (h 0 _ rfl))).trans rfl)
theorem dk_127 {code : ByteArray} {pc : Nat} (h : DkAt code pc [127]) : decode code pc = .ok (.land, 1) := dk_of ((dk_bind (dk_u1 (h 0 _ rfl))).trans rfl)
theorem dk_128 {code : ByteArray} {pc : Nat} (h : DkAt code pc [128]) : decode code pc = .ok (.ior, 1) := dk_of ((dk_bind (dk_u1 (h 0 _ rfl))).trans rfl)
theorem dk_130 {code : ByteArray} {pc : Nat} (h : DkAt code pc [130]) : decode code pc = .ok (.ixor, 1) := dk_of ((dk_bind (dk_u1 (h 0 _ rfl))).trans rfl)
theorem dk_132 {code : ByteArray} {pc : Nat} (a b : UInt8) (h : DkAt code pc [132, a, b]) : decode code pc = .ok (.iinc a.toNat (Reader.signed 8 b.toNat), 3) := dk_of ((dk_bind (dk_u1 (h 0 _ rfl))).trans ((dk_bind (dk_u1 (h 1 _ rfl))).trans ((dk_bind (dk_map (dk_u1 (h 2 _ rfl)))).trans rfl)))
theorem dk_136 {code : ByteArray} {pc : Nat} (h : DkAt code pc [136]) : decode code pc = .ok (.l2i, 1) := dk_of ((dk_bind (dk_u1 (h 0 _ rfl))).trans rfl)
theorem dk_145 {code : ByteArray} {pc : Nat} (h : DkAt code pc [145]) : decode code pc = .ok (.i2b, 1) := dk_of ((dk_bind (dk_u1 (h 0 _ rfl))).trans rfl)
theorem dk_153 {code : ByteArray} {pc : Nat} (a b : UInt8) (h : DkAt code pc [153, a, b]) : decode code pc = .ok (.ifCond .eq (Reader.signed 16 (a.toNat * 256 + b.toNat)), 3) := dk_of ((dk_bind (dk_u1 (h 0 _ rfl))).trans ((dk_bind (dk_map (dk_u2 (h 1 _ rfl) (h 2 _ rfl)))).trans rfl))
theorem dk_154 {code : ByteArray} {pc : Nat} (a b : UInt8) (h : DkAt code pc [154, a, b]) : decode code pc = .ok (.ifCond .ne (Reader.signed 16 (a.toNat * 256 + b.toNat)), 3) := dk_of ((dk_bind (dk_u1 (h 0 _ rfl))).trans ((dk_bind (dk_map (dk_u2 (h 1 _ rfl) (h 2 _ rfl)))).trans rfl))
theorem dk_155 {code : ByteArray} {pc : Nat} (a b : UInt8) (h : DkAt code pc [155, a, b]) : decode code pc = .ok (.ifCond .lt (Reader.signed 16 (a.toNat * 256 + b.toNat)), 3) := dk_of ((dk_bind (dk_u1 (h 0 _ rfl))).trans ((dk_bind (dk_map (dk_u2 (h 1 _ rfl) (h 2 _ rfl)))).trans rfl))
theorem dk_158 {code : ByteArray} {pc : Nat} (a b : UInt8) (h : DkAt code pc [158, a, b]) : decode code pc = .ok (.ifCond .le (Reader.signed 16 (a.toNat * 256 + b.toNat)), 3) := dk_of ((dk_bind (dk_u1 (h 0 _ rfl))).trans ((dk_bind (dk_map (dk_u2 (h 1 _ rfl) (h 2 _ rfl)))).trans rfl))
theorem dk_159 {code : ByteArray} {pc : Nat} (a b : UInt8) (h : DkAt code pc [159, a, b]) : decode code pc = .ok (.if_icmp .eq (Reader.signed 16 (a.toNat * 256 + b.toNat)), 3) := dk_of ((dk_bind (dk_u1 (h 0 _ rfl))).trans ((dk_bind (dk_map (dk_u2 (h 1 _ rfl) (h 2 _ rfl)))).trans rfl))
theorem dk_160 {code : ByteArray} {pc : Nat} (a b : UInt8) (h : DkAt code pc [160, a, b]) : decode code pc = .ok (.if_icmp .ne (Reader.signed 16 (a.toNat * 256 + b.toNat)), 3) := dk_of ((dk_bind (dk_u1 (h 0 _ rfl))).trans ((dk_bind (dk_map (dk_u2 (h 1 _ rfl) (h 2 _ rfl)))).trans rfl))
theorem dk_162 {code : ByteArray} {pc : Nat} (a b : UInt8) (h : DkAt code pc [162, a, b]) : decode code pc = .ok (.if_icmp .ge (Reader.signed 16 (a.toNat * 256 + b.toNat)), 3) := dk_of ((dk_bind (dk_u1 (h 0 _ rfl))).trans ((dk_bind (dk_map (dk_u2 (h 1 _ rfl) (h 2 _ rfl)))).trans rfl))
theorem dk_164 {code : ByteArray} {pc : Nat} (a b : UInt8) (h : DkAt code pc [164, a, b]) : decode code pc = .ok (.if_icmp .le (Reader.signed 16 (a.toNat * 256 + b.toNat)), 3) := dk_of ((dk_bind (dk_u1 (h 0 _ rfl))).trans ((dk_bind (dk_map (dk_u2 (h 1 _ rfl) (h 2 _ rfl)))).trans rfl))
theorem dk_166 {code : ByteArray} {pc : Nat} (a b : UInt8) (h : DkAt code pc [166, a, b]) : decode code pc = .ok (.if_acmp .ne (Reader.signed 16 (a.toNat * 256 + b.toNat)), 3) := dk_of ((dk_bind (dk_u1 (h 0 _ rfl))).trans ((dk_bind (dk_map (dk_u2 (h 1 _ rfl) (h 2 _ rfl)))).trans rfl))
theorem dk_167 {code : ByteArray} {pc : Nat} (a b : UInt8) (h : DkAt code pc [167, a, b]) : decode code pc = .ok (.goto (Reader.signed 16 (a.toNat * 256 + b.toNat)), 3) := dk_of ((dk_bind (dk_u1 (h 0 _ rfl))).trans ((dk_bind (dk_map (dk_u2 (h 1 _ rfl) (h 2 _ rfl)))).trans rfl))
theorem dk_172 {code : ByteArray} {pc : Nat} (h : DkAt code pc [172]) : decode code pc = .ok (.ireturn, 1) := dk_of ((dk_bind (dk_u1 (h 0 _ rfl))).trans rfl)
theorem dk_176 {code : ByteArray} {pc : Nat} (h : DkAt code pc [176]) : decode code pc = .ok (.areturn, 1) := dk_of ((dk_bind (dk_u1 (h 0 _ rfl))).trans rfl)
theorem dk_177 {code : ByteArray} {pc : Nat} (h : DkAt code pc [177]) : decode code pc = .ok (.return_, 1) := dk_of ((dk_bind (dk_u1 (h 0 _ rfl))).trans rfl)
theorem dk_178 {code : ByteArray} {pc : Nat} (a b : UInt8) (h : DkAt code pc [178, a, b]) : decode code pc = .ok (.getstatic (a.toNat * 256 + b.toNat), 3) := dk_of ((dk_bind (dk_u1 (h 0 _ rfl))).trans ((dk_bind (dk_u2 (h 1 _ rfl) (h 2 _ rfl))).trans rfl))
theorem dk_180 {code : ByteArray} {pc : Nat} (a b : UInt8) (h : DkAt code pc [180, a, b]) : decode code pc = .ok (.getfield (a.toNat * 256 + b.toNat), 3) := dk_of ((dk_bind (dk_u1 (h 0 _ rfl))).trans ((dk_bind (dk_u2 (h 1 _ rfl) (h 2 _ rfl))).trans rfl))
theorem dk_181 {code : ByteArray} {pc : Nat} (a b : UInt8) (h : DkAt code pc [181, a, b]) : decode code pc = .ok (.putfield (a.toNat * 256 + b.toNat), 3) := dk_of ((dk_bind (dk_u1 (h 0 _ rfl))).trans ((dk_bind (dk_u2 (h 1 _ rfl) (h 2 _ rfl))).trans rfl))
theorem dk_182 {code : ByteArray} {pc : Nat} (a b : UInt8) (h : DkAt code pc [182, a, b]) : decode code pc = .ok (.invokevirtual (a.toNat * 256 + b.toNat), 3) := dk_of ((dk_bind (dk_u1 (h 0 _ rfl))).trans ((dk_bind (dk_u2 (h 1 _ rfl) (h 2 _ rfl))).trans rfl))
theorem dk_183 {code : ByteArray} {pc : Nat} (a b : UInt8) (h : DkAt code pc [183, a, b]) : decode code pc = .ok (.invokespecial (a.toNat * 256 + b.toNat), 3) := dk_of ((dk_bind (dk_u1 (h 0 _ rfl))).trans ((dk_bind (dk_u2 (h 1 _ rfl) (h 2 _ rfl))).trans rfl))
theorem dk_184 {code : ByteArray} {pc : Nat} (a b : UInt8) (h : DkAt code pc [184, a, b]) : decode code pc = .ok (.invokestatic (a.toNat * 256 + b.toNat), 3) := dk_of ((dk_bind (dk_u1 (h 0 _ rfl))).trans ((dk_bind (dk_u2 (h 1 _ rfl) (h 2 _ rfl))).trans rfl))
theorem dk_187 {code : ByteArray} {pc : Nat} (a b : UInt8) (h : DkAt code pc [187, a, b]) : decode code pc = .ok (.new (a.toNat * 256 + b.toNat), 3) := dk_of ((dk_bind (dk_u1 (h 0 _ rfl))).trans ((dk_bind (dk_u2 (h 1 _ rfl) (h 2 _ rfl))).trans rfl))
theorem dk_188_8 {code : ByteArray} {pc : Nat} (h : DkAt code pc [188, 8]) : decode code pc = .ok (.newarray .byte, 2) := dk_of ((dk_bind (dk_u1 (h 0 _ rfl))).trans ((dk_bind (dk_u1 (h 1 _ rfl))).trans rfl))
theorem dk_188_10 {code : ByteArray} {pc : Nat} (h : DkAt code pc [188, 10]) : decode code pc = .ok (.newarray .int, 2) := dk_of ((dk_bind (dk_u1 (h 0 _ rfl))).trans ((dk_bind (dk_u1 (h 1 _ rfl))).trans rfl))
theorem dk_188_11 {code : ByteArray} {pc : Nat} (h : DkAt code pc [188, 11]) : decode code pc = .ok (.newarray .long, 2) := dk_of ((dk_bind (dk_u1 (h 0 _ rfl))).trans ((dk_bind (dk_u1 (h 1 _ rfl))).trans rfl))
theorem dk_190 {code : ByteArray} {pc : Nat} (h : DkAt code pc [190]) : decode code pc = .ok (.arraylength, 1) := dk_of ((dk_bind (dk_u1 (h 0 _ rfl))).trans rfl)
theorem dk_191 {code : ByteArray} {pc : Nat} (h : DkAt code pc [191]) : decode code pc = .ok (.athrow, 1) := dk_of ((dk_bind (dk_u1 (h 0 _ rfl))).trans rfl)
theorem dk_192 {code : ByteArray} {pc : Nat} (a b : UInt8) (h : DkAt code pc [192, a, b]) : decode code pc = .ok (.checkcast (a.toNat * 256 + b.toNat), 3) := dk_of ((dk_bind (dk_u1 (h 0 _ rfl))).trans ((dk_bind (dk_u2 (h 1 _ rfl) (h 2 _ rfl))).trans rfl))
theorem dk_193 {code : ByteArray} {pc : Nat} (a b : UInt8) (h : DkAt code pc [193, a, b]) : decode code pc = .ok (.instanceof (a.toNat * 256 + b.toNat), 3) := dk_of ((dk_bind (dk_u1 (h 0 _ rfl))).trans ((dk_bind (dk_u2 (h 1 _ rfl) (h 2 _ rfl))).trans rfl))
theorem dk_198 {code : ByteArray} {pc : Nat} (a b : UInt8) (h : DkAt code pc [198, a, b]) : decode code pc = .ok (.ifnull (Reader.signed 16 (a.toNat * 256 + b.toNat)), 3) := dk_of ((dk_bind (dk_u1 (h 0 _ rfl))).trans ((dk_bind (dk_map (dk_u2 (h 1 _ rfl) (h 2 _ rfl)))).trans rfl))
theorem dk_199 {code : ByteArray} {pc : Nat} (a b : UInt8) (h : DkAt code pc [199, a, b]) : decode code pc = .ok (.ifnonnull (Reader.signed 16 (a.toNat * 256 + b.toNat)), 3) := dk_of ((dk_bind (dk_u1 (h 0 _ rfl))).trans ((dk_bind (dk_map (dk_u2 (h 1 _ rfl) (h 2 _ rfl)))).trans rfl))
/-! java/lang/Object -/
set_option maxRecDepth 100000
def RJ5 : String := "java/lang/Object"
abbrev cJ5_init : ByteArray := object_method_1_code
def yJ5_init : MethodName := ⟨RJ5, "<init>", "()V"⟩
theorem dJ5_init_0 : decode cJ5_init 0 = .ok (.return_, 1) := by decide +kernel
theorem q27 : (Jvm.Cond.instanceMethod ({ cls := "java/lang/Object", name := "<init>", desc := "()V" } : Jvm.MethodName)) ∈ lw_all := lw_g (lw_at lw_m1 20 rfl) rfl
theorem q28 : (Jvm.Cond.code ({ cls := "java/lang/Object", name := "<init>", desc := "()V" } : Jvm.MethodName) object_method_1_code (1 : Nat) (Option.none : Option Jvm.ClassFile.FieldType)) ∈ lw_all := lw_g (lw_at lw_m1 21 rfl) rfl
theorem q192 : (Jvm.Cond.native ({ cls := "java/lang/Object", name := "clone", desc := "()Ljava/lang/Object;" } : Jvm.MethodName)) ∈ lw_all := lw_g (lw_at lw_m1 185 rfl) rfl
theorem q193 : (Jvm.Cond.instanceMethod ({ cls := "java/lang/Object", name := "clone", desc := "()Ljava/lang/Object;" } : Jvm.MethodName)) ∈ lw_all := lw_g (lw_at lw_m1 186 rfl) rfl
theorem q352 : (Jvm.Cond.initialized "java/lang/Object") ∈ lw_all := lw_g (lw_at lw_m2 105 rfl) rfl
theorem q90 : (Jvm.Cond.interfaceMethod "BlockCipher" "BlockCipher" "init" "(ZLCipherParameters;)V") ∈ lw_tbl := lw_at lw_m1 83 rfl
set_option maxRecDepth 100000
theorem q91 : (Jvm.Cond.declares ({ cls := "BlockCipher", name := "init", desc := "(ZLCipherParameters;)V" } : Jvm.MethodName)) ∈ lw_tbl := lw_at lw_m1 84 rfl
theorem q221 : (Jvm.Cond.interfaceMethod "BlockCipher" "BlockCipher" "processBlock" "([BI[BI)I") ∈ lw_tbl := lw_at lw_m1 214 rfl
theorem q222 : (Jvm.Cond.declares ({ cls := "BlockCipher", name := "processBlock", desc := "([BI[BI)I" } : Jvm.MethodName)) ∈ lw_tbl := lw_at lw_m1 215 rfl
theorem q11 : (Jvm.Cond.initialized "java/lang/System") ∈ lw_all := lw_g (lw_at lw_m1 4 rfl) rfl
set_option maxRecDepth 100000
theorem q86 : (Jvm.Cond.static ({ cls := "java/lang/System", name := "arraycopy", desc := "(Ljava/lang/Object;ILjava/lang/Object;II)V" } : Jvm.MethodName)) ∈ lw_all := lw_g (lw_at lw_m1 79 rfl) rfl
theorem q87 : (Jvm.Cond.native ({ cls := "java/lang/System", name := "arraycopy", desc := "(Ljava/lang/Object;ILjava/lang/Object;II)V" } : Jvm.MethodName)) ∈ lw_all := lw_g (lw_at lw_m1 80 rfl) rfl
theorem q39 : (Jvm.Cond.arrayClass Jvm.ClassFile.FieldType.byte) ∈ lw_all := lw_g (lw_at lw_m1 32 rfl) rfl
set_option maxRecDepth 100000
theorem q251 : (Jvm.Cond.arrayClass Jvm.ClassFile.FieldType.int) ∈ lw_all := lw_g (lw_at lw_m2 4 rfl) rfl
theorem q314 : (Jvm.Cond.arrayClass Jvm.ClassFile.FieldType.long) ∈ lw_all := lw_g (lw_at lw_m2 67 rfl) rfl
/-! KeyParameter -/
set_option maxRecDepth 100000
def RX3 : String := "KeyParameter"
def TX3 : u_T := fun k => match k with
  | _ => ("KeyParameter", "key", "[B", false)
def tyX3 : Nat → FieldType := fun k => match k with
  | _ => .array .byte
abbrev wsX30 : List Cond := u_ws RX3 TX3 1
theorem nmX3 : ∀ a, a < 1 → ∀ b, b < 1 → a ≠ b → (TX3 a).2.1 ≠ (TX3 b).2.1 := by decide +kernel
theorem tyX3_ok : ∀ k, k < 1 → parseFieldDescriptor (TX3 k).2.2.1 = some (tyX3 k) := by decide +kernel
abbrev cX3_init : ByteArray := prog_7_method_1_code
def yX3_init : MethodName := ⟨RX3, "<init>", "([B)V"⟩
def dkwX3_init_0 : List UInt8 := [42, 43, 3, 43, 190, 183, 0, 1, 177]
abbrev dktX3_init_0 : List UInt8 := dkwX3_init_0 ++ []
theorem dksX3_init_0 : cX3_init.data.toList.drop 0 = dktX3_init_0 := by decide +kernel
theorem dX3_init_0 : decode cX3_init 0 = .ok (.aload_n 0, 1) := dk_42 (dk_at dksX3_init_0 0 rfl rfl)
theorem dX3_init_1 : decode cX3_init 1 = .ok (.aload_n 1, 1) := dk_43 (dk_at dksX3_init_0 1 rfl rfl)
theorem dX3_init_2 : decode cX3_init 2 = .ok (.iconst 0, 1) := dk_3 (dk_at dksX3_init_0 2 rfl rfl)
theorem dX3_init_3 : decode cX3_init 3 = .ok (.aload_n 1, 1) := dk_43 (dk_at dksX3_init_0 3 rfl rfl)
theorem dX3_init_4 : decode cX3_init 4 = .ok (.arraylength, 1) := dk_190 (dk_at dksX3_init_0 4 rfl rfl)
theorem dX3_init_5 : decode cX3_init 5 = .ok (.invokespecial 1, 3) := dk_183 0 1 (dk_at dksX3_init_0 5 rfl rfl)
theorem dX3_init_8 : decode cX3_init 8 = .ok (.return_, 1) := dk_177 (dk_at dksX3_init_0 8 rfl rfl)
abbrev cX3_init_2 : ByteArray := prog_7_method_2_code
def yX3_init_2 : MethodName := ⟨RX3, "<init>", "([BII)V"⟩
def dkwX3_init_2_0 : List UInt8 := [42, 29, 183, 0, 7, 43, 28, 42, 180, 0, 10, 3, 29, 184, 0, 14, 177]
abbrev dktX3_init_2_0 : List UInt8 := dkwX3_init_2_0 ++ []
theorem dksX3_init_2_0 : cX3_init_2.data.toList.drop 0 = dktX3_init_2_0 := by decide +kernel
theorem dX3_init_2_0 : decode cX3_init_2 0 = .ok (.aload_n 0, 1) := dk_42 (dk_at dksX3_init_2_0 0 rfl rfl)
theorem dX3_init_2_1 : decode cX3_init_2 1 = .ok (.iload_n 3, 1) := dk_29 (dk_at dksX3_init_2_0 1 rfl rfl)
theorem dX3_init_2_2 : decode cX3_init_2 2 = .ok (.invokespecial 7, 3) := dk_183 0 7 (dk_at dksX3_init_2_0 2 rfl rfl)
theorem dX3_init_2_5 : decode cX3_init_2 5 = .ok (.aload_n 1, 1) := dk_43 (dk_at dksX3_init_2_0 5 rfl rfl)
theorem dX3_init_2_6 : decode cX3_init_2 6 = .ok (.iload_n 2, 1) := dk_28 (dk_at dksX3_init_2_0 6 rfl rfl)
theorem dX3_init_2_7 : decode cX3_init_2 7 = .ok (.aload_n 0, 1) := dk_42 (dk_at dksX3_init_2_0 7 rfl rfl)
theorem dX3_init_2_8 : decode cX3_init_2 8 = .ok (.getfield 10, 3) := dk_180 0 10 (dk_at dksX3_init_2_0 8 rfl rfl)
theorem dX3_init_2_11 : decode cX3_init_2 11 = .ok (.iconst 0, 1) := dk_3 (dk_at dksX3_init_2_0 11 rfl rfl)
theorem dX3_init_2_12 : decode cX3_init_2 12 = .ok (.iload_n 3, 1) := dk_29 (dk_at dksX3_init_2_0 12 rfl rfl)
theorem dX3_init_2_13 : decode cX3_init_2 13 = .ok (.invokestatic 14, 3) := dk_184 0 14 (dk_at dksX3_init_2_0 13 rfl rfl)
theorem dX3_init_2_16 : decode cX3_init_2 16 = .ok (.return_, 1) := dk_177 (dk_at dksX3_init_2_0 16 rfl rfl)
abbrev cX3_init_3 : ByteArray := prog_7_method_3_code
def yX3_init_3 : MethodName := ⟨RX3, "<init>", "(I)V"⟩
def dkwX3_init_3_0 : List UInt8 := [42, 183, 0, 20, 42, 27, 188, 8, 181, 0, 10, 177]
abbrev dktX3_init_3_0 : List UInt8 := dkwX3_init_3_0 ++ []
theorem dksX3_init_3_0 : cX3_init_3.data.toList.drop 0 = dktX3_init_3_0 := by decide +kernel
theorem dX3_init_3_0 : decode cX3_init_3 0 = .ok (.aload_n 0, 1) := dk_42 (dk_at dksX3_init_3_0 0 rfl rfl)
theorem dX3_init_3_1 : decode cX3_init_3 1 = .ok (.invokespecial 20, 3) := dk_183 0 20 (dk_at dksX3_init_3_0 1 rfl rfl)
theorem dX3_init_3_4 : decode cX3_init_3 4 = .ok (.aload_n 0, 1) := dk_42 (dk_at dksX3_init_3_0 4 rfl rfl)
theorem dX3_init_3_5 : decode cX3_init_3 5 = .ok (.iload_n 1, 1) := dk_27 (dk_at dksX3_init_3_0 5 rfl rfl)
theorem dX3_init_3_6 : decode cX3_init_3 6 = .ok (.newarray .byte, 2) := dk_188_8 (dk_at dksX3_init_3_0 6 rfl rfl)
theorem dX3_init_3_8 : decode cX3_init_3 8 = .ok (.putfield 10, 3) := dk_181 0 10 (dk_at dksX3_init_3_0 8 rfl rfl)
theorem dX3_init_3_11 : decode cX3_init_3 11 = .ok (.return_, 1) := dk_177 (dk_at dksX3_init_3_0 11 rfl rfl)
abbrev cX3_getKey : ByteArray := prog_7_method_4_code
def yX3_getKey : MethodName := ⟨RX3, "getKey", "()[B"⟩
theorem dX3_getKey_0 : decode cX3_getKey 0 = .ok (.aload_n 0, 1) := by decide +kernel
theorem dX3_getKey_1 : decode cX3_getKey 1 = .ok (.getfield 10, 3) := by decide +kernel
theorem dX3_getKey_4 : decode cX3_getKey 4 = .ok (.areturn, 1) := by decide +kernel
theorem q10 : (Jvm.Cond.initialized "KeyParameter") ∈ lw_all := lw_g (lw_at lw_m1 3 rfl) rfl
theorem q70 : (Jvm.Cond.instantiable "KeyParameter" (1 : Nat)) ∈ lw_all := lw_g (lw_at lw_m1 63 rfl) rfl
theorem q72 : (Jvm.Cond.instanceMethod ({ cls := "KeyParameter", name := "<init>", desc := "([B)V" } : Jvm.MethodName)) ∈ lw_all := lw_g (lw_at lw_m1 65 rfl) rfl
theorem q73 : (Jvm.Cond.code ({ cls := "KeyParameter", name := "<init>", desc := "([B)V" } : Jvm.MethodName) prog_7_method_1_code (2 : Nat) (Option.none : Option Jvm.ClassFile.FieldType)) ∈ lw_all := lw_g (lw_at lw_m1 66 rfl) rfl
theorem q74 : (Jvm.Cond.methodLink "KeyParameter" (1 : Nat) ({ cls := "KeyParameter", name := "<init>", desc := "([BII)V" } : Jvm.MethodName)) ∈ lw_all := lw_g (lw_at lw_m1 67 rfl) rfl
theorem q75 : (Jvm.Cond.instanceMethod ({ cls := "KeyParameter", name := "<init>", desc := "([BII)V" } : Jvm.MethodName)) ∈ lw_all := lw_g (lw_at lw_m1 68 rfl) rfl
theorem q76 : (Jvm.Cond.code ({ cls := "KeyParameter", name := "<init>", desc := "([BII)V" } : Jvm.MethodName) prog_7_method_2_code (4 : Nat) (Option.none : Option Jvm.ClassFile.FieldType)) ∈ lw_all := lw_g (lw_at lw_m1 69 rfl) rfl
theorem q77 : (Jvm.Cond.methodLink "KeyParameter" (7 : Nat) ({ cls := "KeyParameter", name := "<init>", desc := "(I)V" } : Jvm.MethodName)) ∈ lw_all := lw_g (lw_at lw_m1 70 rfl) rfl
theorem q78 : (Jvm.Cond.instanceMethod ({ cls := "KeyParameter", name := "<init>", desc := "(I)V" } : Jvm.MethodName)) ∈ lw_all := lw_g (lw_at lw_m1 71 rfl) rfl
theorem q79 : (Jvm.Cond.code ({ cls := "KeyParameter", name := "<init>", desc := "(I)V" } : Jvm.MethodName) prog_7_method_3_code (2 : Nat) (Option.none : Option Jvm.ClassFile.FieldType)) ∈ lw_all := lw_g (lw_at lw_m1 72 rfl) rfl
theorem q80 : (Jvm.Cond.methodLink "KeyParameter" (20 : Nat) ({ cls := "java/lang/Object", name := "<init>", desc := "()V" } : Jvm.MethodName)) ∈ lw_all := lw_g (lw_at lw_m1 73 rfl) rfl
theorem q81 : (Jvm.Cond.fieldLink "KeyParameter" (10 : Nat) "KeyParameter" "key" "[B") ∈ lw_all := lw_g (lw_at lw_m1 74 rfl) rfl
theorem q82 : (Jvm.Cond.lays "KeyParameter" "KeyParameter" "key" "[B") ∈ lw_all := lw_g (lw_at lw_m1 75 rfl) rfl
theorem q83 : (Jvm.Cond.soleField "KeyParameter" "key") ∈ lw_all := lw_g (lw_at lw_m1 76 rfl) rfl
theorem q84 : (Jvm.Cond.superclass "KeyParameter" "java/lang/Object") ∈ lw_all := lw_g (lw_at lw_m1 77 rfl) rfl
theorem q85 : (Jvm.Cond.methodLink "KeyParameter" (14 : Nat) ({ cls := "java/lang/System", name := "arraycopy", desc := "(Ljava/lang/Object;ILjava/lang/Object;II)V" } : Jvm.MethodName)) ∈ lw_all := lw_g (lw_at lw_m1 78 rfl) rfl
theorem q203 : (Jvm.Cond.instanceMethod ({ cls := "KeyParameter", name := "getKey", desc := "()[B" } : Jvm.MethodName)) ∈ lw_all := lw_g (lw_at lw_m1 196 rfl) rfl
theorem q204 : (Jvm.Cond.selects "KeyParameter" ({ cls := "KeyParameter", name := "getKey", desc := "()[B" } : Jvm.MethodName) ({ cls := "KeyParameter", name := "getKey", desc := "()[B" } : Jvm.MethodName)) ∈ lw_all := lw_g (lw_at lw_m1 197 rfl) rfl
theorem q205 : (Jvm.Cond.code ({ cls := "KeyParameter", name := "getKey", desc := "()[B" } : Jvm.MethodName) prog_7_method_4_code (1 : Nat) (Option.some (Jvm.ClassFile.FieldType.array Jvm.ClassFile.FieldType.byte))) ∈ lw_all := lw_g (lw_at lw_m1 198 rfl) rfl
theorem in_X3 : ∀ w ∈ wsX30, w ∈ lw_all := lw_in wsX30 [82] (by decide +kernel) (by decide +kernel)
/-! GOST28147Engine -/
set_option maxRecDepth 100000
def RX2 : String := "GOST28147Engine"
def TX2 : u_T := fun k => match k with
  | 0 => ("GOST28147Engine", "workingKey", "[I", false)
  | 1 => ("GOST28147Engine", "forEncryption", "Z", false)
  | _ => ("GOST28147Engine", "S", "[B", false)
def tyX2 : Nat → FieldType := fun k => match k with
  | 0 => .array .int
  | 1 => .boolean
  | _ => .array .byte
abbrev wsX20 : List Cond := u_ws RX2 TX2 3
theorem nmX2 : ∀ a, a < 3 → ∀ b, b < 3 → a ≠ b → (TX2 a).2.1 ≠ (TX2 b).2.1 := by decide +kernel
theorem tyX2_ok : ∀ k, k < 3 → parseFieldDescriptor (TX2 k).2.2.1 = some (tyX2 k) := by decide +kernel
abbrev cX2_init : ByteArray := prog_4_method_2_code
def yX2_init : MethodName := ⟨RX2, "<init>", "()V"⟩
def dkwX2_init_0 : List UInt8 := [42, 183, 0, 19, 42, 1, 181, 0, 25, 42, 178, 0, 29, 181, 0, 33, 177]
abbrev dktX2_init_0 : List UInt8 := dkwX2_init_0 ++ []
theorem dksX2_init_0 : cX2_init.data.toList.drop 0 = dktX2_init_0 := by decide +kernel
theorem dX2_init_0 : decode cX2_init 0 = .ok (.aload_n 0, 1) := dk_42 (dk_at dksX2_init_0 0 rfl rfl)
theorem dX2_init_1 : decode cX2_init 1 = .ok (.invokespecial 19, 3) := dk_183 0 19 (dk_at dksX2_init_0 1 rfl rfl)
theorem dX2_init_4 : decode cX2_init 4 = .ok (.aload_n 0, 1) := dk_42 (dk_at dksX2_init_0 4 rfl rfl)
theorem dX2_init_5 : decode cX2_init 5 = .ok (.aconst_null, 1) := dk_1 (dk_at dksX2_init_0 5 rfl rfl)
theorem dX2_init_6 : decode cX2_init 6 = .ok (.putfield 25, 3) := dk_181 0 25 (dk_at dksX2_init_0 6 rfl rfl)
theorem dX2_init_9 : decode cX2_init 9 = .ok (.aload_n 0, 1) := dk_42 (dk_at dksX2_init_0 9 rfl rfl)
theorem dX2_init_10 : decode cX2_init 10 = .ok (.getstatic 29, 3) := dk_178 0 29 (dk_at dksX2_init_0 10 rfl rfl)
theorem dX2_init_13 : decode cX2_init 13 = .ok (.putfield 33, 3) := dk_181 0 33 (dk_at dksX2_init_0 13 rfl rfl)
theorem dX2_init_16 : decode cX2_init 16 = .ok (.return_, 1) := dk_177 (dk_at dksX2_init_0 16 rfl rfl)
abbrev cX2_init_2 : ByteArray := prog_4_method_3_code
def yX2_init_2 : MethodName := ⟨RX2, "init", "(ZLCipherParameters;)V"⟩
def dkwX2_init_2_4 : List UInt8 := [182, 0, 64, 181, 0, 25, 167, 0, 17, 44, 198, 0, 13, 187, 0, 42, 89, 18, 68, 183, 0, 46, 191, 177]
abbrev dktX2_init_2_4 : List UInt8 := dkwX2_init_2_4 ++ []
def dkwX2_init_2_3 : List UInt8 := [181, 0, 25, 167, 0, 43, 44, 193, 0, 59, 153, 0, 22, 42, 42, 27, 44, 192, 0, 59, 182, 0, 61]
abbrev dktX2_init_2_3 : List UInt8 := dkwX2_init_2_3 ++ dktX2_init_2_4
def dkwX2_init_2_2 : List UInt8 := [182, 0, 55, 198, 0, 22, 42, 42, 27, 45, 182, 0, 55, 192, 0, 59, 182, 0, 61, 182, 0, 64]
abbrev dktX2_init_2_2 : List UInt8 := dkwX2_init_2_2 ++ dktX2_init_2_3
def dkwX2_init_2_1 : List UInt8 := [190, 159, 0, 13, 187, 0, 42, 89, 18, 44, 183, 0, 46, 191, 42, 25, 4, 184, 0, 49, 181, 0, 33, 45]
abbrev dktX2_init_2_1 : List UInt8 := dkwX2_init_2_1 ++ dktX2_init_2_2
def dkwX2_init_2_0 : List UInt8 := [44, 193, 0, 36, 153, 0, 72, 44, 192, 0, 36, 78, 45, 182, 0, 38, 58, 4, 25, 4, 190, 178, 0, 29]
abbrev dktX2_init_2_0 : List UInt8 := dkwX2_init_2_0 ++ dktX2_init_2_1
theorem dksX2_init_2_0 : cX2_init_2.data.toList.drop 0 = dktX2_init_2_0 := by decide +kernel
theorem dksX2_init_2_1 : cX2_init_2.data.toList.drop 24 = dktX2_init_2_1 := dk_seg dksX2_init_2_0 24 rfl rfl
theorem dksX2_init_2_2 : cX2_init_2.data.toList.drop 48 = dktX2_init_2_2 := dk_seg dksX2_init_2_1 24 rfl rfl
theorem dksX2_init_2_3 : cX2_init_2.data.toList.drop 70 = dktX2_init_2_3 := dk_seg dksX2_init_2_2 22 rfl rfl
theorem dksX2_init_2_4 : cX2_init_2.data.toList.drop 93 = dktX2_init_2_4 := dk_seg dksX2_init_2_3 23 rfl rfl
theorem dX2_init_2_0 : decode cX2_init_2 0 = .ok (.aload_n 2, 1) := dk_44 (dk_at dksX2_init_2_0 0 rfl rfl)
theorem dX2_init_2_1 : decode cX2_init_2 1 = .ok (.instanceof 36, 3) := dk_193 0 36 (dk_at dksX2_init_2_0 1 rfl rfl)
theorem dX2_init_2_4 : decode cX2_init_2 4 = .ok (.ifCond .eq 72, 3) := dk_153 0 72 (dk_at dksX2_init_2_0 4 rfl rfl)
theorem dX2_init_2_7 : decode cX2_init_2 7 = .ok (.aload_n 2, 1) := dk_44 (dk_at dksX2_init_2_0 7 rfl rfl)
theorem dX2_init_2_8 : decode cX2_init_2 8 = .ok (.checkcast 36, 3) := dk_192 0 36 (dk_at dksX2_init_2_0 8 rfl rfl)
theorem dX2_init_2_11 : decode cX2_init_2 11 = .ok (.astore_n 3, 1) := dk_78 (dk_at dksX2_init_2_0 11 rfl rfl)
theorem dX2_init_2_12 : decode cX2_init_2 12 = .ok (.aload_n 3, 1) := dk_45 (dk_at dksX2_init_2_0 12 rfl rfl)
theorem dX2_init_2_13 : decode cX2_init_2 13 = .ok (.invokevirtual 38, 3) := dk_182 0 38 (dk_at dksX2_init_2_0 13 rfl rfl)
theorem dX2_init_2_16 : decode cX2_init_2 16 = .ok (.astore 4, 2) := dk_58 4 (dk_at dksX2_init_2_0 16 rfl rfl)
theorem dX2_init_2_18 : decode cX2_init_2 18 = .ok (.aload 4, 2) := dk_25 4 (dk_at dksX2_init_2_0 18 rfl rfl)
theorem dX2_init_2_20 : decode cX2_init_2 20 = .ok (.arraylength, 1) := dk_190 (dk_at dksX2_init_2_0 20 rfl rfl)
theorem dX2_init_2_21 : decode cX2_init_2 21 = .ok (.getstatic 29, 3) := dk_178 0 29 (dk_at dksX2_init_2_0 21 rfl rfl)
theorem dX2_init_2_24 : decode cX2_init_2 24 = .ok (.arraylength, 1) := dk_190 (dk_at dksX2_init_2_1 0 rfl rfl)
theorem dX2_init_2_25 : decode cX2_init_2 25 = .ok (.if_icmp .eq 13, 3) := dk_159 0 13 (dk_at dksX2_init_2_1 1 rfl rfl)
theorem dX2_init_2_28 : decode cX2_init_2 28 = .ok (.new 42, 3) := dk_187 0 42 (dk_at dksX2_init_2_1 4 rfl rfl)
theorem dX2_init_2_31 : decode cX2_init_2 31 = .ok (.dup, 1) := dk_89 (dk_at dksX2_init_2_1 7 rfl rfl)
theorem dX2_init_2_32 : decode cX2_init_2 32 = .ok (.ldc 44, 2) := dk_18 44 (dk_at dksX2_init_2_1 8 rfl rfl)
theorem dX2_init_2_34 : decode cX2_init_2 34 = .ok (.invokespecial 46, 3) := dk_183 0 46 (dk_at dksX2_init_2_1 10 rfl rfl)
theorem dX2_init_2_37 : decode cX2_init_2 37 = .ok (.athrow, 1) := dk_191 (dk_at dksX2_init_2_1 13 rfl rfl)
theorem dX2_init_2_38 : decode cX2_init_2 38 = .ok (.aload_n 0, 1) := dk_42 (dk_at dksX2_init_2_1 14 rfl rfl)
theorem dX2_init_2_39 : decode cX2_init_2 39 = .ok (.aload 4, 2) := dk_25 4 (dk_at dksX2_init_2_1 15 rfl rfl)
theorem dX2_init_2_41 : decode cX2_init_2 41 = .ok (.invokestatic 49, 3) := dk_184 0 49 (dk_at dksX2_init_2_1 17 rfl rfl)
theorem dX2_init_2_44 : decode cX2_init_2 44 = .ok (.putfield 33, 3) := dk_181 0 33 (dk_at dksX2_init_2_1 20 rfl rfl)
theorem dX2_init_2_47 : decode cX2_init_2 47 = .ok (.aload_n 3, 1) := dk_45 (dk_at dksX2_init_2_1 23 rfl rfl)
theorem dX2_init_2_48 : decode cX2_init_2 48 = .ok (.invokevirtual 55, 3) := dk_182 0 55 (dk_at dksX2_init_2_2 0 rfl rfl)
theorem dX2_init_2_51 : decode cX2_init_2 51 = .ok (.ifnull 22, 3) := dk_198 0 22 (dk_at dksX2_init_2_2 3 rfl rfl)
theorem dX2_init_2_54 : decode cX2_init_2 54 = .ok (.aload_n 0, 1) := dk_42 (dk_at dksX2_init_2_2 6 rfl rfl)
theorem dX2_init_2_55 : decode cX2_init_2 55 = .ok (.aload_n 0, 1) := dk_42 (dk_at dksX2_init_2_2 7 rfl rfl)
theorem dX2_init_2_56 : decode cX2_init_2 56 = .ok (.iload_n 1, 1) := dk_27 (dk_at dksX2_init_2_2 8 rfl rfl)
theorem dX2_init_2_57 : decode cX2_init_2 57 = .ok (.aload_n 3, 1) := dk_45 (dk_at dksX2_init_2_2 9 rfl rfl)
theorem dX2_init_2_58 : decode cX2_init_2 58 = .ok (.invokevirtual 55, 3) := dk_182 0 55 (dk_at dksX2_init_2_2 10 rfl rfl)
theorem dX2_init_2_61 : decode cX2_init_2 61 = .ok (.checkcast 59, 3) := dk_192 0 59 (dk_at dksX2_init_2_2 13 rfl rfl)
theorem dX2_init_2_64 : decode cX2_init_2 64 = .ok (.invokevirtual 61, 3) := dk_182 0 61 (dk_at dksX2_init_2_2 16 rfl rfl)
theorem dX2_init_2_67 : decode cX2_init_2 67 = .ok (.invokevirtual 64, 3) := dk_182 0 64 (dk_at dksX2_init_2_2 19 rfl rfl)
theorem dX2_init_2_70 : decode cX2_init_2 70 = .ok (.putfield 25, 3) := dk_181 0 25 (dk_at dksX2_init_2_3 0 rfl rfl)
theorem dX2_init_2_73 : decode cX2_init_2 73 = .ok (.goto 43, 3) := dk_167 0 43 (dk_at dksX2_init_2_3 3 rfl rfl)
theorem dX2_init_2_76 : decode cX2_init_2 76 = .ok (.aload_n 2, 1) := dk_44 (dk_at dksX2_init_2_3 6 rfl rfl)
theorem dX2_init_2_77 : decode cX2_init_2 77 = .ok (.instanceof 59, 3) := dk_193 0 59 (dk_at dksX2_init_2_3 7 rfl rfl)
theorem dX2_init_2_80 : decode cX2_init_2 80 = .ok (.ifCond .eq 22, 3) := dk_153 0 22 (dk_at dksX2_init_2_3 10 rfl rfl)
theorem dX2_init_2_83 : decode cX2_init_2 83 = .ok (.aload_n 0, 1) := dk_42 (dk_at dksX2_init_2_3 13 rfl rfl)
theorem dX2_init_2_84 : decode cX2_init_2 84 = .ok (.aload_n 0, 1) := dk_42 (dk_at dksX2_init_2_3 14 rfl rfl)
theorem dX2_init_2_85 : decode cX2_init_2 85 = .ok (.iload_n 1, 1) := dk_27 (dk_at dksX2_init_2_3 15 rfl rfl)
theorem dX2_init_2_86 : decode cX2_init_2 86 = .ok (.aload_n 2, 1) := dk_44 (dk_at dksX2_init_2_3 16 rfl rfl)
theorem dX2_init_2_87 : decode cX2_init_2 87 = .ok (.checkcast 59, 3) := dk_192 0 59 (dk_at dksX2_init_2_3 17 rfl rfl)
theorem dX2_init_2_90 : decode cX2_init_2 90 = .ok (.invokevirtual 61, 3) := dk_182 0 61 (dk_at dksX2_init_2_3 20 rfl rfl)
theorem dX2_init_2_93 : decode cX2_init_2 93 = .ok (.invokevirtual 64, 3) := dk_182 0 64 (dk_at dksX2_init_2_4 0 rfl rfl)
theorem dX2_init_2_96 : decode cX2_init_2 96 = .ok (.putfield 25, 3) := dk_181 0 25 (dk_at dksX2_init_2_4 3 rfl rfl)
theorem dX2_init_2_99 : decode cX2_init_2 99 = .ok (.goto 17, 3) := dk_167 0 17 (dk_at dksX2_init_2_4 6 rfl rfl)
theorem dX2_init_2_102 : decode cX2_init_2 102 = .ok (.aload_n 2, 1) := dk_44 (dk_at dksX2_init_2_4 9 rfl rfl)
theorem dX2_init_2_103 : decode cX2_init_2 103 = .ok (.ifnull 13, 3) := dk_198 0 13 (dk_at dksX2_init_2_4 10 rfl rfl)
theorem dX2_init_2_106 : decode cX2_init_2 106 = .ok (.new 42, 3) := dk_187 0 42 (dk_at dksX2_init_2_4 13 rfl rfl)
theorem dX2_init_2_109 : decode cX2_init_2 109 = .ok (.dup, 1) := dk_89 (dk_at dksX2_init_2_4 16 rfl rfl)
theorem dX2_init_2_110 : decode cX2_init_2 110 = .ok (.ldc 68, 2) := dk_18 68 (dk_at dksX2_init_2_4 17 rfl rfl)
theorem dX2_init_2_112 : decode cX2_init_2 112 = .ok (.invokespecial 46, 3) := dk_183 0 46 (dk_at dksX2_init_2_4 19 rfl rfl)
theorem dX2_init_2_115 : decode cX2_init_2 115 = .ok (.athrow, 1) := dk_191 (dk_at dksX2_init_2_4 22 rfl rfl)
theorem dX2_init_2_116 : decode cX2_init_2 116 = .ok (.return_, 1) := dk_177 (dk_at dksX2_init_2_4 23 rfl rfl)
abbrev cX2_generateWorkingKey : ByteArray := prog_4_method_5_code
def yX2_generateWorkingKey : MethodName := ⟨RX2, "generateWorkingKey", "(Z[B)[I"⟩
def dkwX2_generateWorkingKey_2 : List UInt8 := [182, 0, 95, 79, 132, 4, 1, 167, 255, 233, 45, 176]
abbrev dktX2_generateWorkingKey_2 : List UInt8 := dkwX2_generateWorkingKey_2 ++ []
def dkwX2_generateWorkingKey_1 : List UInt8 := [188, 10, 78, 3, 54, 4, 21, 4, 16, 8, 159, 0, 22, 45, 21, 4, 42, 44, 21, 4, 7, 104]
abbrev dktX2_generateWorkingKey_1 : List UInt8 := dkwX2_generateWorkingKey_1 ++ dktX2_generateWorkingKey_2
def dkwX2_generateWorkingKey_0 : List UInt8 := [42, 27, 181, 0, 89, 44, 190, 16, 32, 159, 0, 13, 187, 0, 42, 89, 18, 93, 183, 0, 46, 191, 16, 8]
abbrev dktX2_generateWorkingKey_0 : List UInt8 := dkwX2_generateWorkingKey_0 ++ dktX2_generateWorkingKey_1
theorem dksX2_generateWorkingKey_0 : cX2_generateWorkingKey.data.toList.drop 0 = dktX2_generateWorkingKey_0 := by decide +kernel
theorem dksX2_generateWorkingKey_1 : cX2_generateWorkingKey.data.toList.drop 24 = dktX2_generateWorkingKey_1 := dk_seg dksX2_generateWorkingKey_0 24 rfl rfl
theorem dksX2_generateWorkingKey_2 : cX2_generateWorkingKey.data.toList.drop 46 = dktX2_generateWorkingKey_2 := dk_seg dksX2_generateWorkingKey_1 22 rfl rfl
theorem dX2_generateWorkingKey_0 : decode cX2_generateWorkingKey 0 = .ok (.aload_n 0, 1) := dk_42 (dk_at dksX2_generateWorkingKey_0 0 rfl rfl)
theorem dX2_generateWorkingKey_1 : decode cX2_generateWorkingKey 1 = .ok (.iload_n 1, 1) := dk_27 (dk_at dksX2_generateWorkingKey_0 1 rfl rfl)
theorem dX2_generateWorkingKey_2 : decode cX2_generateWorkingKey 2 = .ok (.putfield 89, 3) := dk_181 0 89 (dk_at dksX2_generateWorkingKey_0 2 rfl rfl)
theorem dX2_generateWorkingKey_5 : decode cX2_generateWorkingKey 5 = .ok (.aload_n 2, 1) := dk_44 (dk_at dksX2_generateWorkingKey_0 5 rfl rfl)
theorem dX2_generateWorkingKey_6 : decode cX2_generateWorkingKey 6 = .ok (.arraylength, 1) := dk_190 (dk_at dksX2_generateWorkingKey_0 6 rfl rfl)
theorem dX2_generateWorkingKey_7 : decode cX2_generateWorkingKey 7 = .ok (.bipush 32, 2) := dk_16 32 (dk_at dksX2_generateWorkingKey_0 7 rfl rfl)
theorem dX2_generateWorkingKey_9 : decode cX2_generateWorkingKey 9 = .ok (.if_icmp .eq 13, 3) := dk_159 0 13 (dk_at dksX2_generateWorkingKey_0 9 rfl rfl)
theorem dX2_generateWorkingKey_12 : decode cX2_generateWorkingKey 12 = .ok (.new 42, 3) := dk_187 0 42 (dk_at dksX2_generateWorkingKey_0 12 rfl rfl)
theorem dX2_generateWorkingKey_15 : decode cX2_generateWorkingKey 15 = .ok (.dup, 1) := dk_89 (dk_at dksX2_generateWorkingKey_0 15 rfl rfl)
theorem dX2_generateWorkingKey_16 : decode cX2_generateWorkingKey 16 = .ok (.ldc 93, 2) := dk_18 93 (dk_at dksX2_generateWorkingKey_0 16 rfl rfl)
theorem dX2_generateWorkingKey_18 : decode cX2_generateWorkingKey 18 = .ok (.invokespecial 46, 3) := dk_183 0 46 (dk_at dksX2_generateWorkingKey_0 18 rfl rfl)
theorem dX2_generateWorkingKey_21 : decode cX2_generateWorkingKey 21 = .ok (.athrow, 1) := dk_191 (dk_at dksX2_generateWorkingKey_0 21 rfl rfl)
theorem dX2_generateWorkingKey_22 : decode cX2_generateWorkingKey 22 = .ok (.bipush 8, 2) := dk_16 8 (dk_at dksX2_generateWorkingKey_0 22 rfl rfl)
theorem dX2_generateWorkingKey_24 : decode cX2_generateWorkingKey 24 = .ok (.newarray .int, 2) := dk_188_10 (dk_at dksX2_generateWorkingKey_1 0 rfl rfl)
theorem dX2_generateWorkingKey_26 : decode cX2_generateWorkingKey 26 = .ok (.astore_n 3, 1) := dk_78 (dk_at dksX2_generateWorkingKey_1 2 rfl rfl)
theorem dX2_generateWorkingKey_27 : decode cX2_generateWorkingKey 27 = .ok (.iconst 0, 1) := dk_3 (dk_at dksX2_generateWorkingKey_1 3 rfl rfl)
theorem dX2_generateWorkingKey_28 : decode cX2_generateWorkingKey 28 = .ok (.istore 4, 2) := dk_54 4 (dk_at dksX2_generateWorkingKey_1 4 rfl rfl)
theorem dX2_generateWorkingKey_30 : decode cX2_generateWorkingKey 30 = .ok (.iload 4, 2) := dk_21 4 (dk_at dksX2_generateWorkingKey_1 6 rfl rfl)
theorem dX2_generateWorkingKey_32 : decode cX2_generateWorkingKey 32 = .ok (.bipush 8, 2) := dk_16 8 (dk_at dksX2_generateWorkingKey_1 8 rfl rfl)
theorem dX2_generateWorkingKey_34 : decode cX2_generateWorkingKey 34 = .ok (.if_icmp .eq 22, 3) := dk_159 0 22 (dk_at dksX2_generateWorkingKey_1 10 rfl rfl)
theorem dX2_generateWorkingKey_37 : decode cX2_generateWorkingKey 37 = .ok (.aload_n 3, 1) := dk_45 (dk_at dksX2_generateWorkingKey_1 13 rfl rfl)
theorem dX2_generateWorkingKey_38 : decode cX2_generateWorkingKey 38 = .ok (.iload 4, 2) := dk_21 4 (dk_at dksX2_generateWorkingKey_1 14 rfl rfl)
theorem dX2_generateWorkingKey_40 : decode cX2_generateWorkingKey 40 = .ok (.aload_n 0, 1) := dk_42 (dk_at dksX2_generateWorkingKey_1 16 rfl rfl)
theorem dX2_generateWorkingKey_41 : decode cX2_generateWorkingKey 41 = .ok (.aload_n 2, 1) := dk_44 (dk_at dksX2_generateWorkingKey_1 17 rfl rfl)
theorem dX2_generateWorkingKey_42 : decode cX2_generateWorkingKey 42 = .ok (.iload 4, 2) := dk_21 4 (dk_at dksX2_generateWorkingKey_1 18 rfl rfl)
theorem dX2_generateWorkingKey_44 : decode cX2_generateWorkingKey 44 = .ok (.iconst 4, 1) := dk_7 (dk_at dksX2_generateWorkingKey_1 20 rfl rfl)
theorem dX2_generateWorkingKey_45 : decode cX2_generateWorkingKey 45 = .ok (.imul, 1) := dk_104 (dk_at dksX2_generateWorkingKey_1 21 rfl rfl)
theorem dX2_generateWorkingKey_46 : decode cX2_generateWorkingKey 46 = .ok (.invokevirtual 95, 3) := dk_182 0 95 (dk_at dksX2_generateWorkingKey_2 0 rfl rfl)
theorem dX2_generateWorkingKey_49 : decode cX2_generateWorkingKey 49 = .ok (.iastore, 1) := dk_79 (dk_at dksX2_generateWorkingKey_2 3 rfl rfl)
theorem dX2_generateWorkingKey_50 : decode cX2_generateWorkingKey 50 = .ok (.iinc 4 1, 3) := dk_132 4 1 (dk_at dksX2_generateWorkingKey_2 4 rfl rfl)
theorem dX2_generateWorkingKey_53 : decode cX2_generateWorkingKey 53 = .ok (.goto (-23), 3) := dk_167 255 233 (dk_at dksX2_generateWorkingKey_2 7 rfl rfl)
theorem dX2_generateWorkingKey_56 : decode cX2_generateWorkingKey 56 = .ok (.aload_n 3, 1) := dk_45 (dk_at dksX2_generateWorkingKey_2 10 rfl rfl)
theorem dX2_generateWorkingKey_57 : decode cX2_generateWorkingKey 57 = .ok (.areturn, 1) := dk_176 (dk_at dksX2_generateWorkingKey_2 11 rfl rfl)
abbrev cX2_bytesToint : ByteArray := prog_4_method_8_code
def yX2_bytesToint : MethodName := ⟨RX2, "bytesToint", "([BI)I"⟩
def dkwX2_bytesToint_1 : List UInt8 := [28, 4, 96, 51, 16, 8, 120, 18, 109, 126, 96, 43, 28, 51, 17, 0, 255, 126, 96, 172]
abbrev dktX2_bytesToint_1 : List UInt8 := dkwX2_bytesToint_1 ++ []
def dkwX2_bytesToint_0 : List UInt8 := [43, 28, 6, 96, 51, 16, 24, 120, 18, 107, 126, 43, 28, 5, 96, 51, 16, 16, 120, 18, 108, 126, 96, 43]
abbrev dktX2_bytesToint_0 : List UInt8 := dkwX2_bytesToint_0 ++ dktX2_bytesToint_1
theorem dksX2_bytesToint_0 : cX2_bytesToint.data.toList.drop 0 = dktX2_bytesToint_0 := by decide +kernel
theorem dksX2_bytesToint_1 : cX2_bytesToint.data.toList.drop 24 = dktX2_bytesToint_1 := dk_seg dksX2_bytesToint_0 24 rfl rfl
theorem dX2_bytesToint_0 : decode cX2_bytesToint 0 = .ok (.aload_n 1, 1) := dk_43 (dk_at dksX2_bytesToint_0 0 rfl rfl)
theorem dX2_bytesToint_1 : decode cX2_bytesToint 1 = .ok (.iload_n 2, 1) := dk_28 (dk_at dksX2_bytesToint_0 1 rfl rfl)
theorem dX2_bytesToint_2 : decode cX2_bytesToint 2 = .ok (.iconst 3, 1) := dk_6 (dk_at dksX2_bytesToint_0 2 rfl rfl)
theorem dX2_bytesToint_3 : decode cX2_bytesToint 3 = .ok (.iadd, 1) := dk_96 (dk_at dksX2_bytesToint_0 3 rfl rfl)
theorem dX2_bytesToint_4 : decode cX2_bytesToint 4 = .ok (.baload, 1) := dk_51 (dk_at dksX2_bytesToint_0 4 rfl rfl)
theorem dX2_bytesToint_5 : decode cX2_bytesToint 5 = .ok (.bipush 24, 2) := dk_16 24 (dk_at dksX2_bytesToint_0 5 rfl rfl)
theorem dX2_bytesToint_7 : decode cX2_bytesToint 7 = .ok (.ishl, 1) := dk_120 (dk_at dksX2_bytesToint_0 7 rfl rfl)
theorem dX2_bytesToint_8 : decode cX2_bytesToint 8 = .ok (.ldc 107, 2) := dk_18 107 (dk_at dksX2_bytesToint_0 8 rfl rfl)
theorem dX2_bytesToint_10 : decode cX2_bytesToint 10 = .ok (.iand, 1) := dk_126 (dk_at dksX2_bytesToint_0 10 rfl rfl)
theorem dX2_bytesToint_11 : decode cX2_bytesToint 11 = .ok (.aload_n 1, 1) := dk_43 (dk_at dksX2_bytesToint_0 11 rfl rfl)
theorem dX2_bytesToint_12 : decode cX2_bytesToint 12 = .ok (.iload_n 2, 1) := dk_28 (dk_at dksX2_bytesToint_0 12 rfl rfl)
theorem dX2_bytesToint_13 : decode cX2_bytesToint 13 = .ok (.iconst 2, 1) := dk_5 (dk_at dksX2_bytesToint_0 13 rfl rfl)
theorem dX2_bytesToint_14 : decode cX2_bytesToint 14 = .ok (.iadd, 1) := dk_96 (dk_at dksX2_bytesToint_0 14 rfl rfl)
theorem dX2_bytesToint_15 : decode cX2_bytesToint 15 = .ok (.baload, 1) := dk_51 (dk_at dksX2_bytesToint_0 15 rfl rfl)
theorem dX2_bytesToint_16 : decode cX2_bytesToint 16 = .ok (.bipush 16, 2) := dk_16 16 (dk_at dksX2_bytesToint_0 16 rfl rfl)
theorem dX2_bytesToint_18 : decode cX2_bytesToint 18 = .ok (.ishl, 1) := dk_120 (dk_at dksX2_bytesToint_0 18 rfl rfl)
theorem dX2_bytesToint_19 : decode cX2_bytesToint 19 = .ok (.ldc 108, 2) := dk_18 108 (dk_at dksX2_bytesToint_0 19 rfl rfl)
theorem dX2_bytesToint_21 : decode cX2_bytesToint 21 = .ok (.iand, 1) := dk_126 (dk_at dksX2_bytesToint_0 21 rfl rfl)
theorem dX2_bytesToint_22 : decode cX2_bytesToint 22 = .ok (.iadd, 1) := dk_96 (dk_at dksX2_bytesToint_0 22 rfl rfl)
theorem dX2_bytesToint_23 : decode cX2_bytesToint 23 = .ok (.aload_n 1, 1) := dk_43 (dk_at dksX2_bytesToint_0 23 rfl rfl)
theorem dX2_bytesToint_24 : decode cX2_bytesToint 24 = .ok (.iload_n 2, 1) := dk_28 (dk_at dksX2_bytesToint_1 0 rfl rfl)
theorem dX2_bytesToint_25 : decode cX2_bytesToint 25 = .ok (.iconst 1, 1) := dk_4 (dk_at dksX2_bytesToint_1 1 rfl rfl)
theorem dX2_bytesToint_26 : decode cX2_bytesToint 26 = .ok (.iadd, 1) := dk_96 (dk_at dksX2_bytesToint_1 2 rfl rfl)
theorem dX2_bytesToint_27 : decode cX2_bytesToint 27 = .ok (.baload, 1) := dk_51 (dk_at dksX2_bytesToint_1 3 rfl rfl)
theorem dX2_bytesToint_28 : decode cX2_bytesToint 28 = .ok (.bipush 8, 2) := dk_16 8 (dk_at dksX2_bytesToint_1 4 rfl rfl)
theorem dX2_bytesToint_30 : decode cX2_bytesToint 30 = .ok (.ishl, 1) := dk_120 (dk_at dksX2_bytesToint_1 6 rfl rfl)
theorem dX2_bytesToint_31 : decode cX2_bytesToint 31 = .ok (.ldc 109, 2) := dk_18 109 (dk_at dksX2_bytesToint_1 7 rfl rfl)
theorem dX2_bytesToint_33 : decode cX2_bytesToint 33 = .ok (.iand, 1) := dk_126 (dk_at dksX2_bytesToint_1 9 rfl rfl)
theorem dX2_bytesToint_34 : decode cX2_bytesToint 34 = .ok (.iadd, 1) := dk_96 (dk_at dksX2_bytesToint_1 10 rfl rfl)
theorem dX2_bytesToint_35 : decode cX2_bytesToint 35 = .ok (.aload_n 1, 1) := dk_43 (dk_at dksX2_bytesToint_1 11 rfl rfl)
theorem dX2_bytesToint_36 : decode cX2_bytesToint 36 = .ok (.iload_n 2, 1) := dk_28 (dk_at dksX2_bytesToint_1 12 rfl rfl)
theorem dX2_bytesToint_37 : decode cX2_bytesToint 37 = .ok (.baload, 1) := dk_51 (dk_at dksX2_bytesToint_1 13 rfl rfl)
theorem dX2_bytesToint_38 : decode cX2_bytesToint 38 = .ok (.sipush 255, 3) := dk_17 0 255 (dk_at dksX2_bytesToint_1 14 rfl rfl)
theorem dX2_bytesToint_41 : decode cX2_bytesToint 41 = .ok (.iand, 1) := dk_126 (dk_at dksX2_bytesToint_1 17 rfl rfl)
theorem dX2_bytesToint_42 : decode cX2_bytesToint 42 = .ok (.iadd, 1) := dk_96 (dk_at dksX2_bytesToint_1 18 rfl rfl)
theorem dX2_bytesToint_43 : decode cX2_bytesToint 43 = .ok (.ireturn, 1) := dk_172 (dk_at dksX2_bytesToint_1 19 rfl rfl)
abbrev cX2_processBlock : ByteArray := prog_4_method_4_code
def yX2_processBlock : MethodName := ⟨RX2, "processBlock", "([BI[BI)I"⟩
def dkwX2_processBlock_3 : List UInt8 := [16, 8, 172]
abbrev dktX2_processBlock_3 : List UInt8 := dkwX2_processBlock_3 ++ []
def dkwX2_processBlock_2 : List UInt8 := [187, 0, 80, 89, 18, 82, 183, 0, 84, 191, 42, 42, 180, 0, 25, 43, 28, 45, 21, 4, 182, 0, 85]
abbrev dktX2_processBlock_2 : List UInt8 := dkwX2_processBlock_2 ++ dktX2_processBlock_3
def dkwX2_processBlock_1 : List UInt8 := [164, 0, 13, 187, 0, 75, 89, 18, 77, 183, 0, 79, 191, 21, 4, 16, 8, 96, 45, 190, 164, 0, 13]
abbrev dktX2_processBlock_1 : List UInt8 := dkwX2_processBlock_1 ++ dktX2_processBlock_2
def dkwX2_processBlock_0 : List UInt8 := [42, 180, 0, 25, 199, 0, 13, 187, 0, 70, 89, 18, 72, 183, 0, 74, 191, 28, 16, 8, 96, 43, 190]
abbrev dktX2_processBlock_0 : List UInt8 := dkwX2_processBlock_0 ++ dktX2_processBlock_1
theorem dksX2_processBlock_0 : cX2_processBlock.data.toList.drop 0 = dktX2_processBlock_0 := by decide +kernel
theorem dksX2_processBlock_1 : cX2_processBlock.data.toList.drop 23 = dktX2_processBlock_1 := dk_seg dksX2_processBlock_0 23 rfl rfl
theorem dksX2_processBlock_2 : cX2_processBlock.data.toList.drop 46 = dktX2_processBlock_2 := dk_seg dksX2_processBlock_1 23 rfl rfl
theorem dksX2_processBlock_3 : cX2_processBlock.data.toList.drop 69 = dktX2_processBlock_3 := dk_seg dksX2_processBlock_2 23 rfl rfl
theorem dX2_processBlock_0 : decode cX2_processBlock 0 = .ok (.aload_n 0, 1) := dk_42 (dk_at dksX2_processBlock_0 0 rfl rfl)
theorem dX2_processBlock_1 : decode cX2_processBlock 1 = .ok (.getfield 25, 3) := dk_180 0 25 (dk_at dksX2_processBlock_0 1 rfl rfl)
theorem dX2_processBlock_4 : decode cX2_processBlock 4 = .ok (.ifnonnull 13, 3) := dk_199 0 13 (dk_at dksX2_processBlock_0 4 rfl rfl)
theorem dX2_processBlock_7 : decode cX2_processBlock 7 = .ok (.new 70, 3) := dk_187 0 70 (dk_at dksX2_processBlock_0 7 rfl rfl)
theorem dX2_processBlock_10 : decode cX2_processBlock 10 = .ok (.dup, 1) := dk_89 (dk_at dksX2_processBlock_0 10 rfl rfl)
theorem dX2_processBlock_11 : decode cX2_processBlock 11 = .ok (.ldc 72, 2) := dk_18 72 (dk_at dksX2_processBlock_0 11 rfl rfl)
theorem dX2_processBlock_13 : decode cX2_processBlock 13 = .ok (.invokespecial 74, 3) := dk_183 0 74 (dk_at dksX2_processBlock_0 13 rfl rfl)
theorem dX2_processBlock_16 : decode cX2_processBlock 16 = .ok (.athrow, 1) := dk_191 (dk_at dksX2_processBlock_0 16 rfl rfl)
theorem dX2_processBlock_17 : decode cX2_processBlock 17 = .ok (.iload_n 2, 1) := dk_28 (dk_at dksX2_processBlock_0 17 rfl rfl)
theorem dX2_processBlock_18 : decode cX2_processBlock 18 = .ok (.bipush 8, 2) := dk_16 8 (dk_at dksX2_processBlock_0 18 rfl rfl)
theorem dX2_processBlock_20 : decode cX2_processBlock 20 = .ok (.iadd, 1) := dk_96 (dk_at dksX2_processBlock_0 20 rfl rfl)
theorem dX2_processBlock_21 : decode cX2_processBlock 21 = .ok (.aload_n 1, 1) := dk_43 (dk_at dksX2_processBlock_0 21 rfl rfl)
theorem dX2_processBlock_22 : decode cX2_processBlock 22 = .ok (.arraylength, 1) := dk_190 (dk_at dksX2_processBlock_0 22 rfl rfl)
theorem dX2_processBlock_23 : decode cX2_processBlock 23 = .ok (.if_icmp .le 13, 3) := dk_164 0 13 (dk_at dksX2_processBlock_1 0 rfl rfl)
theorem dX2_processBlock_26 : decode cX2_processBlock 26 = .ok (.new 75, 3) := dk_187 0 75 (dk_at dksX2_processBlock_1 3 rfl rfl)
theorem dX2_processBlock_29 : decode cX2_processBlock 29 = .ok (.dup, 1) := dk_89 (dk_at dksX2_processBlock_1 6 rfl rfl)
theorem dX2_processBlock_30 : decode cX2_processBlock 30 = .ok (.ldc 77, 2) := dk_18 77 (dk_at dksX2_processBlock_1 7 rfl rfl)
theorem dX2_processBlock_32 : decode cX2_processBlock 32 = .ok (.invokespecial 79, 3) := dk_183 0 79 (dk_at dksX2_processBlock_1 9 rfl rfl)
theorem dX2_processBlock_35 : decode cX2_processBlock 35 = .ok (.athrow, 1) := dk_191 (dk_at dksX2_processBlock_1 12 rfl rfl)
theorem dX2_processBlock_36 : decode cX2_processBlock 36 = .ok (.iload 4, 2) := dk_21 4 (dk_at dksX2_processBlock_1 13 rfl rfl)
theorem dX2_processBlock_38 : decode cX2_processBlock 38 = .ok (.bipush 8, 2) := dk_16 8 (dk_at dksX2_processBlock_1 15 rfl rfl)
theorem dX2_processBlock_40 : decode cX2_processBlock 40 = .ok (.iadd, 1) := dk_96 (dk_at dksX2_processBlock_1 17 rfl rfl)
theorem dX2_processBlock_41 : decode cX2_processBlock 41 = .ok (.aload_n 3, 1) := dk_45 (dk_at dksX2_processBlock_1 18 rfl rfl)
theorem dX2_processBlock_42 : decode cX2_processBlock 42 = .ok (.arraylength, 1) := dk_190 (dk_at dksX2_processBlock_1 19 rfl rfl)
theorem dX2_processBlock_43 : decode cX2_processBlock 43 = .ok (.if_icmp .le 13, 3) := dk_164 0 13 (dk_at dksX2_processBlock_1 20 rfl rfl)
theorem dX2_processBlock_46 : decode cX2_processBlock 46 = .ok (.new 80, 3) := dk_187 0 80 (dk_at dksX2_processBlock_2 0 rfl rfl)
theorem dX2_processBlock_49 : decode cX2_processBlock 49 = .ok (.dup, 1) := dk_89 (dk_at dksX2_processBlock_2 3 rfl rfl)
theorem dX2_processBlock_50 : decode cX2_processBlock 50 = .ok (.ldc 82, 2) := dk_18 82 (dk_at dksX2_processBlock_2 4 rfl rfl)
theorem dX2_processBlock_52 : decode cX2_processBlock 52 = .ok (.invokespecial 84, 3) := dk_183 0 84 (dk_at dksX2_processBlock_2 6 rfl rfl)
theorem dX2_processBlock_55 : decode cX2_processBlock 55 = .ok (.athrow, 1) := dk_191 (dk_at dksX2_processBlock_2 9 rfl rfl)
theorem dX2_processBlock_56 : decode cX2_processBlock 56 = .ok (.aload_n 0, 1) := dk_42 (dk_at dksX2_processBlock_2 10 rfl rfl)
theorem dX2_processBlock_57 : decode cX2_processBlock 57 = .ok (.aload_n 0, 1) := dk_42 (dk_at dksX2_processBlock_2 11 rfl rfl)
theorem dX2_processBlock_58 : decode cX2_processBlock 58 = .ok (.getfield 25, 3) := dk_180 0 25 (dk_at dksX2_processBlock_2 12 rfl rfl)
theorem dX2_processBlock_61 : decode cX2_processBlock 61 = .ok (.aload_n 1, 1) := dk_43 (dk_at dksX2_processBlock_2 15 rfl rfl)
theorem dX2_processBlock_62 : decode cX2_processBlock 62 = .ok (.iload_n 2, 1) := dk_28 (dk_at dksX2_processBlock_2 16 rfl rfl)
theorem dX2_processBlock_63 : decode cX2_processBlock 63 = .ok (.aload_n 3, 1) := dk_45 (dk_at dksX2_processBlock_2 17 rfl rfl)
theorem dX2_processBlock_64 : decode cX2_processBlock 64 = .ok (.iload 4, 2) := dk_21 4 (dk_at dksX2_processBlock_2 18 rfl rfl)
theorem dX2_processBlock_66 : decode cX2_processBlock 66 = .ok (.invokevirtual 85, 3) := dk_182 0 85 (dk_at dksX2_processBlock_2 20 rfl rfl)
theorem dX2_processBlock_69 : decode cX2_processBlock 69 = .ok (.bipush 8, 2) := dk_16 8 (dk_at dksX2_processBlock_3 0 rfl rfl)
theorem dX2_processBlock_71 : decode cX2_processBlock 71 = .ok (.ireturn, 1) := dk_172 (dk_at dksX2_processBlock_3 2 rfl rfl)
abbrev cX2_GOST28147Func : ByteArray := prog_4_method_7_code
def yX2_GOST28147Func : MethodName := ⟨RX2, "GOST28147Func", "([I[BI[BI)V"⟩
def dkwX2_GOST28147Func_11 : List UInt8 := [96, 182, 0, 103, 177]
abbrev dktX2_GOST28147Func_11 : List UInt8 := dkwX2_GOST28147Func_11 ++ []
def dkwX2_GOST28147Func_10 : List UInt8 := [182, 0, 99, 130, 54, 7, 42, 21, 6, 25, 4, 21, 5, 182, 0, 103, 42, 21, 7, 25, 4, 21, 5, 7]
abbrev dktX2_GOST28147Func_10 : List UInt8 := dkwX2_GOST28147Func_10 ++ dktX2_GOST28147Func_11
def dkwX2_GOST28147Func_9 : List UInt8 := [54, 7, 132, 10, 255, 167, 255, 211, 132, 9, 1, 167, 255, 195, 21, 7, 42, 21, 6, 43, 3, 46]
abbrev dktX2_GOST28147Func_9 : List UInt8 := dkwX2_GOST28147Func_9 ++ dktX2_GOST28147Func_10
def dkwX2_GOST28147Func_8 : List UInt8 := [167, 0, 32, 21, 6, 54, 8, 21, 7, 42, 21, 6, 43, 21, 10, 46, 182, 0, 99, 130, 54, 6, 21, 8]
abbrev dktX2_GOST28147Func_8 : List UInt8 := dkwX2_GOST28147Func_8 ++ dktX2_GOST28147Func_9
def dkwX2_GOST28147Func_7 : List UInt8 := [6, 162, 0, 61, 16, 7, 54, 10, 21, 10, 155, 0, 46, 21, 9, 5, 160, 0, 11, 21, 10, 154, 0, 6]
abbrev dktX2_GOST28147Func_7 : List UInt8 := dkwX2_GOST28147Func_7 ++ dktX2_GOST28147Func_8
def dkwX2_GOST28147Func_6 : List UInt8 := [21, 9, 46, 182, 0, 99, 130, 54, 6, 21, 8, 54, 7, 132, 9, 1, 167, 255, 223, 3, 54, 9, 21, 9]
abbrev dktX2_GOST28147Func_6 : List UInt8 := dkwX2_GOST28147Func_6 ++ dktX2_GOST28147Func_7
def dkwX2_GOST28147Func_5 : List UInt8 := [167, 0, 109, 3, 54, 9, 21, 9, 16, 8, 162, 0, 32, 21, 6, 54, 8, 21, 7, 42, 21, 6, 43]
abbrev dktX2_GOST28147Func_5 : List UInt8 := dkwX2_GOST28147Func_5 ++ dktX2_GOST28147Func_6
def dkwX2_GOST28147Func_4 : List UInt8 := [42, 21, 6, 43, 21, 9, 46, 182, 0, 99, 130, 54, 6, 21, 8, 54, 7, 132, 9, 255, 167, 255, 225]
abbrev dktX2_GOST28147Func_4 : List UInt8 := dkwX2_GOST28147Func_4 ++ dktX2_GOST28147Func_5
def dkwX2_GOST28147Func_3 : List UInt8 := [167, 255, 223, 132, 9, 1, 167, 255, 208, 16, 7, 54, 9, 21, 9, 158, 0, 32, 21, 6, 54, 8, 21, 7]
abbrev dktX2_GOST28147Func_3 : List UInt8 := dkwX2_GOST28147Func_3 ++ dktX2_GOST28147Func_4
def dkwX2_GOST28147Func_2 : List UInt8 := [54, 8, 21, 7, 42, 21, 6, 43, 21, 10, 46, 182, 0, 99, 130, 54, 6, 21, 8, 54, 7, 132, 10, 1]
abbrev dktX2_GOST28147Func_2 : List UInt8 := dkwX2_GOST28147Func_2 ++ dktX2_GOST28147Func_3
def dkwX2_GOST28147Func_1 : List UInt8 := [153, 0, 98, 3, 54, 9, 21, 9, 6, 162, 0, 48, 3, 54, 10, 21, 10, 16, 8, 162, 0, 32, 21, 6]
abbrev dktX2_GOST28147Func_1 : List UInt8 := dkwX2_GOST28147Func_1 ++ dktX2_GOST28147Func_2
def dkwX2_GOST28147Func_0 : List UInt8 := [42, 44, 29, 182, 0, 95, 54, 6, 42, 44, 29, 7, 96, 182, 0, 95, 54, 7, 42, 180, 0, 89]
abbrev dktX2_GOST28147Func_0 : List UInt8 := dkwX2_GOST28147Func_0 ++ dktX2_GOST28147Func_1
theorem dksX2_GOST28147Func_0 : cX2_GOST28147Func.data.toList.drop 0 = dktX2_GOST28147Func_0 := by decide +kernel
theorem dksX2_GOST28147Func_1 : cX2_GOST28147Func.data.toList.drop 22 = dktX2_GOST28147Func_1 := dk_seg dksX2_GOST28147Func_0 22 rfl rfl
theorem dksX2_GOST28147Func_2 : cX2_GOST28147Func.data.toList.drop 46 = dktX2_GOST28147Func_2 := dk_seg dksX2_GOST28147Func_1 24 rfl rfl
theorem dksX2_GOST28147Func_3 : cX2_GOST28147Func.data.toList.drop 70 = dktX2_GOST28147Func_3 := dk_seg dksX2_GOST28147Func_2 24 rfl rfl
theorem dksX2_GOST28147Func_4 : cX2_GOST28147Func.data.toList.drop 94 = dktX2_GOST28147Func_4 := dk_seg dksX2_GOST28147Func_3 24 rfl rfl
theorem dksX2_GOST28147Func_5 : cX2_GOST28147Func.data.toList.drop 117 = dktX2_GOST28147Func_5 := dk_seg dksX2_GOST28147Func_4 23 rfl rfl
theorem dksX2_GOST28147Func_6 : cX2_GOST28147Func.data.toList.drop 140 = dktX2_GOST28147Func_6 := dk_seg dksX2_GOST28147Func_5 23 rfl rfl
theorem dksX2_GOST28147Func_7 : cX2_GOST28147Func.data.toList.drop 164 = dktX2_GOST28147Func_7 := dk_seg dksX2_GOST28147Func_6 24 rfl rfl
theorem dksX2_GOST28147Func_8 : cX2_GOST28147Func.data.toList.drop 188 = dktX2_GOST28147Func_8 := dk_seg dksX2_GOST28147Func_7 24 rfl rfl
theorem dksX2_GOST28147Func_9 : cX2_GOST28147Func.data.toList.drop 212 = dktX2_GOST28147Func_9 := dk_seg dksX2_GOST28147Func_8 24 rfl rfl
theorem dksX2_GOST28147Func_10 : cX2_GOST28147Func.data.toList.drop 234 = dktX2_GOST28147Func_10 := dk_seg dksX2_GOST28147Func_9 22 rfl rfl
theorem dksX2_GOST28147Func_11 : cX2_GOST28147Func.data.toList.drop 258 = dktX2_GOST28147Func_11 := dk_seg dksX2_GOST28147Func_10 24 rfl rfl
theorem dX2_GOST28147Func_0 : decode cX2_GOST28147Func 0 = .ok (.aload_n 0, 1) := dk_42 (dk_at dksX2_GOST28147Func_0 0 rfl rfl)
theorem dX2_GOST28147Func_1 : decode cX2_GOST28147Func 1 = .ok (.aload_n 2, 1) := dk_44 (dk_at dksX2_GOST28147Func_0 1 rfl rfl)
theorem dX2_GOST28147Func_2 : decode cX2_GOST28147Func 2 = .ok (.iload_n 3, 1) := dk_29 (dk_at dksX2_GOST28147Func_0 2 rfl rfl)
theorem dX2_GOST28147Func_3 : decode cX2_GOST28147Func 3 = .ok (.invokevirtual 95, 3) := dk_182 0 95 (dk_at dksX2_GOST28147Func_0 3 rfl rfl)
theorem dX2_GOST28147Func_6 : decode cX2_GOST28147Func 6 = .ok (.istore 6, 2) := dk_54 6 (dk_at dksX2_GOST28147Func_0 6 rfl rfl)
theorem dX2_GOST28147Func_8 : decode cX2_GOST28147Func 8 = .ok (.aload_n 0, 1) := dk_42 (dk_at dksX2_GOST28147Func_0 8 rfl rfl)
theorem dX2_GOST28147Func_9 : decode cX2_GOST28147Func 9 = .ok (.aload_n 2, 1) := dk_44 (dk_at dksX2_GOST28147Func_0 9 rfl rfl)
theorem dX2_GOST28147Func_10 : decode cX2_GOST28147Func 10 = .ok (.iload_n 3, 1) := dk_29 (dk_at dksX2_GOST28147Func_0 10 rfl rfl)
theorem dX2_GOST28147Func_11 : decode cX2_GOST28147Func 11 = .ok (.iconst 4, 1) := dk_7 (dk_at dksX2_GOST28147Func_0 11 rfl rfl)
theorem dX2_GOST28147Func_12 : decode cX2_GOST28147Func 12 = .ok (.iadd, 1) := dk_96 (dk_at dksX2_GOST28147Func_0 12 rfl rfl)
theorem dX2_GOST28147Func_13 : decode cX2_GOST28147Func 13 = .ok (.invokevirtual 95, 3) := dk_182 0 95 (dk_at dksX2_GOST28147Func_0 13 rfl rfl)
theorem dX2_GOST28147Func_16 : decode cX2_GOST28147Func 16 = .ok (.istore 7, 2) := dk_54 7 (dk_at dksX2_GOST28147Func_0 16 rfl rfl)
theorem dX2_GOST28147Func_18 : decode cX2_GOST28147Func 18 = .ok (.aload_n 0, 1) := dk_42 (dk_at dksX2_GOST28147Func_0 18 rfl rfl)
theorem dX2_GOST28147Func_19 : decode cX2_GOST28147Func 19 = .ok (.getfield 89, 3) := dk_180 0 89 (dk_at dksX2_GOST28147Func_0 19 rfl rfl)
theorem dX2_GOST28147Func_22 : decode cX2_GOST28147Func 22 = .ok (.ifCond .eq 98, 3) := dk_153 0 98 (dk_at dksX2_GOST28147Func_1 0 rfl rfl)
theorem dX2_GOST28147Func_25 : decode cX2_GOST28147Func 25 = .ok (.iconst 0, 1) := dk_3 (dk_at dksX2_GOST28147Func_1 3 rfl rfl)
theorem dX2_GOST28147Func_26 : decode cX2_GOST28147Func 26 = .ok (.istore 9, 2) := dk_54 9 (dk_at dksX2_GOST28147Func_1 4 rfl rfl)
theorem dX2_GOST28147Func_28 : decode cX2_GOST28147Func 28 = .ok (.iload 9, 2) := dk_21 9 (dk_at dksX2_GOST28147Func_1 6 rfl rfl)
theorem dX2_GOST28147Func_30 : decode cX2_GOST28147Func 30 = .ok (.iconst 3, 1) := dk_6 (dk_at dksX2_GOST28147Func_1 8 rfl rfl)
theorem dX2_GOST28147Func_31 : decode cX2_GOST28147Func 31 = .ok (.if_icmp .ge 48, 3) := dk_162 0 48 (dk_at dksX2_GOST28147Func_1 9 rfl rfl)
theorem dX2_GOST28147Func_34 : decode cX2_GOST28147Func 34 = .ok (.iconst 0, 1) := dk_3 (dk_at dksX2_GOST28147Func_1 12 rfl rfl)
theorem dX2_GOST28147Func_35 : decode cX2_GOST28147Func 35 = .ok (.istore 10, 2) := dk_54 10 (dk_at dksX2_GOST28147Func_1 13 rfl rfl)
theorem dX2_GOST28147Func_37 : decode cX2_GOST28147Func 37 = .ok (.iload 10, 2) := dk_21 10 (dk_at dksX2_GOST28147Func_1 15 rfl rfl)
theorem dX2_GOST28147Func_39 : decode cX2_GOST28147Func 39 = .ok (.bipush 8, 2) := dk_16 8 (dk_at dksX2_GOST28147Func_1 17 rfl rfl)
theorem dX2_GOST28147Func_41 : decode cX2_GOST28147Func 41 = .ok (.if_icmp .ge 32, 3) := dk_162 0 32 (dk_at dksX2_GOST28147Func_1 19 rfl rfl)
theorem dX2_GOST28147Func_44 : decode cX2_GOST28147Func 44 = .ok (.iload 6, 2) := dk_21 6 (dk_at dksX2_GOST28147Func_1 22 rfl rfl)
theorem dX2_GOST28147Func_46 : decode cX2_GOST28147Func 46 = .ok (.istore 8, 2) := dk_54 8 (dk_at dksX2_GOST28147Func_2 0 rfl rfl)
theorem dX2_GOST28147Func_48 : decode cX2_GOST28147Func 48 = .ok (.iload 7, 2) := dk_21 7 (dk_at dksX2_GOST28147Func_2 2 rfl rfl)
theorem dX2_GOST28147Func_50 : decode cX2_GOST28147Func 50 = .ok (.aload_n 0, 1) := dk_42 (dk_at dksX2_GOST28147Func_2 4 rfl rfl)
theorem dX2_GOST28147Func_51 : decode cX2_GOST28147Func 51 = .ok (.iload 6, 2) := dk_21 6 (dk_at dksX2_GOST28147Func_2 5 rfl rfl)
theorem dX2_GOST28147Func_53 : decode cX2_GOST28147Func 53 = .ok (.aload_n 1, 1) := dk_43 (dk_at dksX2_GOST28147Func_2 7 rfl rfl)
theorem dX2_GOST28147Func_54 : decode cX2_GOST28147Func 54 = .ok (.iload 10, 2) := dk_21 10 (dk_at dksX2_GOST28147Func_2 8 rfl rfl)
theorem dX2_GOST28147Func_56 : decode cX2_GOST28147Func 56 = .ok (.iaload, 1) := dk_46 (dk_at dksX2_GOST28147Func_2 10 rfl rfl)
theorem dX2_GOST28147Func_57 : decode cX2_GOST28147Func 57 = .ok (.invokevirtual 99, 3) := dk_182 0 99 (dk_at dksX2_GOST28147Func_2 11 rfl rfl)
theorem dX2_GOST28147Func_60 : decode cX2_GOST28147Func 60 = .ok (.ixor, 1) := dk_130 (dk_at dksX2_GOST28147Func_2 14 rfl rfl)
theorem dX2_GOST28147Func_61 : decode cX2_GOST28147Func 61 = .ok (.istore 6, 2) := dk_54 6 (dk_at dksX2_GOST28147Func_2 15 rfl rfl)
theorem dX2_GOST28147Func_63 : decode cX2_GOST28147Func 63 = .ok (.iload 8, 2) := dk_21 8 (dk_at dksX2_GOST28147Func_2 17 rfl rfl)
theorem dX2_GOST28147Func_65 : decode cX2_GOST28147Func 65 = .ok (.istore 7, 2) := dk_54 7 (dk_at dksX2_GOST28147Func_2 19 rfl rfl)
theorem dX2_GOST28147Func_67 : decode cX2_GOST28147Func 67 = .ok (.iinc 10 1, 3) := dk_132 10 1 (dk_at dksX2_GOST28147Func_2 21 rfl rfl)
theorem dX2_GOST28147Func_70 : decode cX2_GOST28147Func 70 = .ok (.goto (-33), 3) := dk_167 255 223 (dk_at dksX2_GOST28147Func_3 0 rfl rfl)
theorem dX2_GOST28147Func_73 : decode cX2_GOST28147Func 73 = .ok (.iinc 9 1, 3) := dk_132 9 1 (dk_at dksX2_GOST28147Func_3 3 rfl rfl)
theorem dX2_GOST28147Func_76 : decode cX2_GOST28147Func 76 = .ok (.goto (-48), 3) := dk_167 255 208 (dk_at dksX2_GOST28147Func_3 6 rfl rfl)
theorem dX2_GOST28147Func_79 : decode cX2_GOST28147Func 79 = .ok (.bipush 7, 2) := dk_16 7 (dk_at dksX2_GOST28147Func_3 9 rfl rfl)
theorem dX2_GOST28147Func_81 : decode cX2_GOST28147Func 81 = .ok (.istore 9, 2) := dk_54 9 (dk_at dksX2_GOST28147Func_3 11 rfl rfl)
theorem dX2_GOST28147Func_83 : decode cX2_GOST28147Func 83 = .ok (.iload 9, 2) := dk_21 9 (dk_at dksX2_GOST28147Func_3 13 rfl rfl)
theorem dX2_GOST28147Func_85 : decode cX2_GOST28147Func 85 = .ok (.ifCond .le 32, 3) := dk_158 0 32 (dk_at dksX2_GOST28147Func_3 15 rfl rfl)
theorem dX2_GOST28147Func_88 : decode cX2_GOST28147Func 88 = .ok (.iload 6, 2) := dk_21 6 (dk_at dksX2_GOST28147Func_3 18 rfl rfl)
theorem dX2_GOST28147Func_90 : decode cX2_GOST28147Func 90 = .ok (.istore 8, 2) := dk_54 8 (dk_at dksX2_GOST28147Func_3 20 rfl rfl)
theorem dX2_GOST28147Func_92 : decode cX2_GOST28147Func 92 = .ok (.iload 7, 2) := dk_21 7 (dk_at dksX2_GOST28147Func_3 22 rfl rfl)
theorem dX2_GOST28147Func_94 : decode cX2_GOST28147Func 94 = .ok (.aload_n 0, 1) := dk_42 (dk_at dksX2_GOST28147Func_4 0 rfl rfl)
theorem dX2_GOST28147Func_95 : decode cX2_GOST28147Func 95 = .ok (.iload 6, 2) := dk_21 6 (dk_at dksX2_GOST28147Func_4 1 rfl rfl)
theorem dX2_GOST28147Func_97 : decode cX2_GOST28147Func 97 = .ok (.aload_n 1, 1) := dk_43 (dk_at dksX2_GOST28147Func_4 3 rfl rfl)
theorem dX2_GOST28147Func_98 : decode cX2_GOST28147Func 98 = .ok (.iload 9, 2) := dk_21 9 (dk_at dksX2_GOST28147Func_4 4 rfl rfl)
theorem dX2_GOST28147Func_100 : decode cX2_GOST28147Func 100 = .ok (.iaload, 1) := dk_46 (dk_at dksX2_GOST28147Func_4 6 rfl rfl)
theorem dX2_GOST28147Func_101 : decode cX2_GOST28147Func 101 = .ok (.invokevirtual 99, 3) := dk_182 0 99 (dk_at dksX2_GOST28147Func_4 7 rfl rfl)
theorem dX2_GOST28147Func_104 : decode cX2_GOST28147Func 104 = .ok (.ixor, 1) := dk_130 (dk_at dksX2_GOST28147Func_4 10 rfl rfl)
theorem dX2_GOST28147Func_105 : decode cX2_GOST28147Func 105 = .ok (.istore 6, 2) := dk_54 6 (dk_at dksX2_GOST28147Func_4 11 rfl rfl)
theorem dX2_GOST28147Func_107 : decode cX2_GOST28147Func 107 = .ok (.iload 8, 2) := dk_21 8 (dk_at dksX2_GOST28147Func_4 13 rfl rfl)
theorem dX2_GOST28147Func_109 : decode cX2_GOST28147Func 109 = .ok (.istore 7, 2) := dk_54 7 (dk_at dksX2_GOST28147Func_4 15 rfl rfl)
theorem dX2_GOST28147Func_111 : decode cX2_GOST28147Func 111 = .ok (.iinc 9 (-1), 3) := dk_132 9 255 (dk_at dksX2_GOST28147Func_4 17 rfl rfl)
theorem dX2_GOST28147Func_114 : decode cX2_GOST28147Func 114 = .ok (.goto (-31), 3) := dk_167 255 225 (dk_at dksX2_GOST28147Func_4 20 rfl rfl)
theorem dX2_GOST28147Func_117 : decode cX2_GOST28147Func 117 = .ok (.goto 109, 3) := dk_167 0 109 (dk_at dksX2_GOST28147Func_5 0 rfl rfl)
theorem dX2_GOST28147Func_120 : decode cX2_GOST28147Func 120 = .ok (.iconst 0, 1) := dk_3 (dk_at dksX2_GOST28147Func_5 3 rfl rfl)
theorem dX2_GOST28147Func_121 : decode cX2_GOST28147Func 121 = .ok (.istore 9, 2) := dk_54 9 (dk_at dksX2_GOST28147Func_5 4 rfl rfl)
theorem dX2_GOST28147Func_123 : decode cX2_GOST28147Func 123 = .ok (.iload 9, 2) := dk_21 9 (dk_at dksX2_GOST28147Func_5 6 rfl rfl)
theorem dX2_GOST28147Func_125 : decode cX2_GOST28147Func 125 = .ok (.bipush 8, 2) := dk_16 8 (dk_at dksX2_GOST28147Func_5 8 rfl rfl)
theorem dX2_GOST28147Func_127 : decode cX2_GOST28147Func 127 = .ok (.if_icmp .ge 32, 3) := dk_162 0 32 (dk_at dksX2_GOST28147Func_5 10 rfl rfl)
theorem dX2_GOST28147Func_130 : decode cX2_GOST28147Func 130 = .ok (.iload 6, 2) := dk_21 6 (dk_at dksX2_GOST28147Func_5 13 rfl rfl)
theorem dX2_GOST28147Func_132 : decode cX2_GOST28147Func 132 = .ok (.istore 8, 2) := dk_54 8 (dk_at dksX2_GOST28147Func_5 15 rfl rfl)
theorem dX2_GOST28147Func_134 : decode cX2_GOST28147Func 134 = .ok (.iload 7, 2) := dk_21 7 (dk_at dksX2_GOST28147Func_5 17 rfl rfl)
theorem dX2_GOST28147Func_136 : decode cX2_GOST28147Func 136 = .ok (.aload_n 0, 1) := dk_42 (dk_at dksX2_GOST28147Func_5 19 rfl rfl)
theorem dX2_GOST28147Func_137 : decode cX2_GOST28147Func 137 = .ok (.iload 6, 2) := dk_21 6 (dk_at dksX2_GOST28147Func_5 20 rfl rfl)
theorem dX2_GOST28147Func_139 : decode cX2_GOST28147Func 139 = .ok (.aload_n 1, 1) := dk_43 (dk_at dksX2_GOST28147Func_5 22 rfl rfl)
theorem dX2_GOST28147Func_140 : decode cX2_GOST28147Func 140 = .ok (.iload 9, 2) := dk_21 9 (dk_at dksX2_GOST28147Func_6 0 rfl rfl)
theorem dX2_GOST28147Func_142 : decode cX2_GOST28147Func 142 = .ok (.iaload, 1) := dk_46 (dk_at dksX2_GOST28147Func_6 2 rfl rfl)
theorem dX2_GOST28147Func_143 : decode cX2_GOST28147Func 143 = .ok (.invokevirtual 99, 3) := dk_182 0 99 (dk_at dksX2_GOST28147Func_6 3 rfl rfl)
theorem dX2_GOST28147Func_146 : decode cX2_GOST28147Func 146 = .ok (.ixor, 1) := dk_130 (dk_at dksX2_GOST28147Func_6 6 rfl rfl)
theorem dX2_GOST28147Func_147 : decode cX2_GOST28147Func 147 = .ok (.istore 6, 2) := dk_54 6 (dk_at dksX2_GOST28147Func_6 7 rfl rfl)
theorem dX2_GOST28147Func_149 : decode cX2_GOST28147Func 149 = .ok (.iload 8, 2) := dk_21 8 (dk_at dksX2_GOST28147Func_6 9 rfl rfl)
theorem dX2_GOST28147Func_151 : decode cX2_GOST28147Func 151 = .ok (.istore 7, 2) := dk_54 7 (dk_at dksX2_GOST28147Func_6 11 rfl rfl)
theorem dX2_GOST28147Func_153 : decode cX2_GOST28147Func 153 = .ok (.iinc 9 1, 3) := dk_132 9 1 (dk_at dksX2_GOST28147Func_6 13 rfl rfl)
theorem dX2_GOST28147Func_156 : decode cX2_GOST28147Func 156 = .ok (.goto (-33), 3) := dk_167 255 223 (dk_at dksX2_GOST28147Func_6 16 rfl rfl)
theorem dX2_GOST28147Func_159 : decode cX2_GOST28147Func 159 = .ok (.iconst 0, 1) := dk_3 (dk_at dksX2_GOST28147Func_6 19 rfl rfl)
theorem dX2_GOST28147Func_160 : decode cX2_GOST28147Func 160 = .ok (.istore 9, 2) := dk_54 9 (dk_at dksX2_GOST28147Func_6 20 rfl rfl)
theorem dX2_GOST28147Func_162 : decode cX2_GOST28147Func 162 = .ok (.iload 9, 2) := dk_21 9 (dk_at dksX2_GOST28147Func_6 22 rfl rfl)
theorem dX2_GOST28147Func_164 : decode cX2_GOST28147Func 164 = .ok (.iconst 3, 1) := dk_6 (dk_at dksX2_GOST28147Func_7 0 rfl rfl)
theorem dX2_GOST28147Func_165 : decode cX2_GOST28147Func 165 = .ok (.if_icmp .ge 61, 3) := dk_162 0 61 (dk_at dksX2_GOST28147Func_7 1 rfl rfl)
theorem dX2_GOST28147Func_168 : decode cX2_GOST28147Func 168 = .ok (.bipush 7, 2) := dk_16 7 (dk_at dksX2_GOST28147Func_7 4 rfl rfl)
theorem dX2_GOST28147Func_170 : decode cX2_GOST28147Func 170 = .ok (.istore 10, 2) := dk_54 10 (dk_at dksX2_GOST28147Func_7 6 rfl rfl)
theorem dX2_GOST28147Func_172 : decode cX2_GOST28147Func 172 = .ok (.iload 10, 2) := dk_21 10 (dk_at dksX2_GOST28147Func_7 8 rfl rfl)
theorem dX2_GOST28147Func_174 : decode cX2_GOST28147Func 174 = .ok (.ifCond .lt 46, 3) := dk_155 0 46 (dk_at dksX2_GOST28147Func_7 10 rfl rfl)
theorem dX2_GOST28147Func_177 : decode cX2_GOST28147Func 177 = .ok (.iload 9, 2) := dk_21 9 (dk_at dksX2_GOST28147Func_7 13 rfl rfl)
theorem dX2_GOST28147Func_179 : decode cX2_GOST28147Func 179 = .ok (.iconst 2, 1) := dk_5 (dk_at dksX2_GOST28147Func_7 15 rfl rfl)
theorem dX2_GOST28147Func_180 : decode cX2_GOST28147Func 180 = .ok (.if_icmp .ne 11, 3) := dk_160 0 11 (dk_at dksX2_GOST28147Func_7 16 rfl rfl)
theorem dX2_GOST28147Func_183 : decode cX2_GOST28147Func 183 = .ok (.iload 10, 2) := dk_21 10 (dk_at dksX2_GOST28147Func_7 19 rfl rfl)
theorem dX2_GOST28147Func_185 : decode cX2_GOST28147Func 185 = .ok (.ifCond .ne 6, 3) := dk_154 0 6 (dk_at dksX2_GOST28147Func_7 21 rfl rfl)
theorem dX2_GOST28147Func_188 : decode cX2_GOST28147Func 188 = .ok (.goto 32, 3) := dk_167 0 32 (dk_at dksX2_GOST28147Func_8 0 rfl rfl)
theorem dX2_GOST28147Func_191 : decode cX2_GOST28147Func 191 = .ok (.iload 6, 2) := dk_21 6 (dk_at dksX2_GOST28147Func_8 3 rfl rfl)
theorem dX2_GOST28147Func_193 : decode cX2_GOST28147Func 193 = .ok (.istore 8, 2) := dk_54 8 (dk_at dksX2_GOST28147Func_8 5 rfl rfl)
theorem dX2_GOST28147Func_195 : decode cX2_GOST28147Func 195 = .ok (.iload 7, 2) := dk_21 7 (dk_at dksX2_GOST28147Func_8 7 rfl rfl)
theorem dX2_GOST28147Func_197 : decode cX2_GOST28147Func 197 = .ok (.aload_n 0, 1) := dk_42 (dk_at dksX2_GOST28147Func_8 9 rfl rfl)
theorem dX2_GOST28147Func_198 : decode cX2_GOST28147Func 198 = .ok (.iload 6, 2) := dk_21 6 (dk_at dksX2_GOST28147Func_8 10 rfl rfl)
theorem dX2_GOST28147Func_200 : decode cX2_GOST28147Func 200 = .ok (.aload_n 1, 1) := dk_43 (dk_at dksX2_GOST28147Func_8 12 rfl rfl)
theorem dX2_GOST28147Func_201 : decode cX2_GOST28147Func 201 = .ok (.iload 10, 2) := dk_21 10 (dk_at dksX2_GOST28147Func_8 13 rfl rfl)
theorem dX2_GOST28147Func_203 : decode cX2_GOST28147Func 203 = .ok (.iaload, 1) := dk_46 (dk_at dksX2_GOST28147Func_8 15 rfl rfl)
theorem dX2_GOST28147Func_204 : decode cX2_GOST28147Func 204 = .ok (.invokevirtual 99, 3) := dk_182 0 99 (dk_at dksX2_GOST28147Func_8 16 rfl rfl)
theorem dX2_GOST28147Func_207 : decode cX2_GOST28147Func 207 = .ok (.ixor, 1) := dk_130 (dk_at dksX2_GOST28147Func_8 19 rfl rfl)
theorem dX2_GOST28147Func_208 : decode cX2_GOST28147Func 208 = .ok (.istore 6, 2) := dk_54 6 (dk_at dksX2_GOST28147Func_8 20 rfl rfl)
theorem dX2_GOST28147Func_210 : decode cX2_GOST28147Func 210 = .ok (.iload 8, 2) := dk_21 8 (dk_at dksX2_GOST28147Func_8 22 rfl rfl)
theorem dX2_GOST28147Func_212 : decode cX2_GOST28147Func 212 = .ok (.istore 7, 2) := dk_54 7 (dk_at dksX2_GOST28147Func_9 0 rfl rfl)
theorem dX2_GOST28147Func_214 : decode cX2_GOST28147Func 214 = .ok (.iinc 10 (-1), 3) := dk_132 10 255 (dk_at dksX2_GOST28147Func_9 2 rfl rfl)
theorem dX2_GOST28147Func_217 : decode cX2_GOST28147Func 217 = .ok (.goto (-45), 3) := dk_167 255 211 (dk_at dksX2_GOST28147Func_9 5 rfl rfl)
theorem dX2_GOST28147Func_220 : decode cX2_GOST28147Func 220 = .ok (.iinc 9 1, 3) := dk_132 9 1 (dk_at dksX2_GOST28147Func_9 8 rfl rfl)
theorem dX2_GOST28147Func_223 : decode cX2_GOST28147Func 223 = .ok (.goto (-61), 3) := dk_167 255 195 (dk_at dksX2_GOST28147Func_9 11 rfl rfl)
theorem dX2_GOST28147Func_226 : decode cX2_GOST28147Func 226 = .ok (.iload 7, 2) := dk_21 7 (dk_at dksX2_GOST28147Func_9 14 rfl rfl)
theorem dX2_GOST28147Func_228 : decode cX2_GOST28147Func 228 = .ok (.aload_n 0, 1) := dk_42 (dk_at dksX2_GOST28147Func_9 16 rfl rfl)
theorem dX2_GOST28147Func_229 : decode cX2_GOST28147Func 229 = .ok (.iload 6, 2) := dk_21 6 (dk_at dksX2_GOST28147Func_9 17 rfl rfl)
theorem dX2_GOST28147Func_231 : decode cX2_GOST28147Func 231 = .ok (.aload_n 1, 1) := dk_43 (dk_at dksX2_GOST28147Func_9 19 rfl rfl)
theorem dX2_GOST28147Func_232 : decode cX2_GOST28147Func 232 = .ok (.iconst 0, 1) := dk_3 (dk_at dksX2_GOST28147Func_9 20 rfl rfl)
theorem dX2_GOST28147Func_233 : decode cX2_GOST28147Func 233 = .ok (.iaload, 1) := dk_46 (dk_at dksX2_GOST28147Func_9 21 rfl rfl)
theorem dX2_GOST28147Func_234 : decode cX2_GOST28147Func 234 = .ok (.invokevirtual 99, 3) := dk_182 0 99 (dk_at dksX2_GOST28147Func_10 0 rfl rfl)
theorem dX2_GOST28147Func_237 : decode cX2_GOST28147Func 237 = .ok (.ixor, 1) := dk_130 (dk_at dksX2_GOST28147Func_10 3 rfl rfl)
theorem dX2_GOST28147Func_238 : decode cX2_GOST28147Func 238 = .ok (.istore 7, 2) := dk_54 7 (dk_at dksX2_GOST28147Func_10 4 rfl rfl)
theorem dX2_GOST28147Func_240 : decode cX2_GOST28147Func 240 = .ok (.aload_n 0, 1) := dk_42 (dk_at dksX2_GOST28147Func_10 6 rfl rfl)
theorem dX2_GOST28147Func_241 : decode cX2_GOST28147Func 241 = .ok (.iload 6, 2) := dk_21 6 (dk_at dksX2_GOST28147Func_10 7 rfl rfl)
theorem dX2_GOST28147Func_243 : decode cX2_GOST28147Func 243 = .ok (.aload 4, 2) := dk_25 4 (dk_at dksX2_GOST28147Func_10 9 rfl rfl)
theorem dX2_GOST28147Func_245 : decode cX2_GOST28147Func 245 = .ok (.iload 5, 2) := dk_21 5 (dk_at dksX2_GOST28147Func_10 11 rfl rfl)
theorem dX2_GOST28147Func_247 : decode cX2_GOST28147Func 247 = .ok (.invokevirtual 103, 3) := dk_182 0 103 (dk_at dksX2_GOST28147Func_10 13 rfl rfl)
theorem dX2_GOST28147Func_250 : decode cX2_GOST28147Func 250 = .ok (.aload_n 0, 1) := dk_42 (dk_at dksX2_GOST28147Func_10 16 rfl rfl)
theorem dX2_GOST28147Func_251 : decode cX2_GOST28147Func 251 = .ok (.iload 7, 2) := dk_21 7 (dk_at dksX2_GOST28147Func_10 17 rfl rfl)
theorem dX2_GOST28147Func_253 : decode cX2_GOST28147Func 253 = .ok (.aload 4, 2) := dk_25 4 (dk_at dksX2_GOST28147Func_10 19 rfl rfl)
theorem dX2_GOST28147Func_255 : decode cX2_GOST28147Func 255 = .ok (.iload 5, 2) := dk_21 5 (dk_at dksX2_GOST28147Func_10 21 rfl rfl)
theorem dX2_GOST28147Func_257 : decode cX2_GOST28147Func 257 = .ok (.iconst 4, 1) := dk_7 (dk_at dksX2_GOST28147Func_10 23 rfl rfl)
theorem dX2_GOST28147Func_258 : decode cX2_GOST28147Func 258 = .ok (.iadd, 1) := dk_96 (dk_at dksX2_GOST28147Func_11 0 rfl rfl)
theorem dX2_GOST28147Func_259 : decode cX2_GOST28147Func 259 = .ok (.invokevirtual 103, 3) := dk_182 0 103 (dk_at dksX2_GOST28147Func_11 1 rfl rfl)
theorem dX2_GOST28147Func_262 : decode cX2_GOST28147Func 262 = .ok (.return_, 1) := dk_177 (dk_at dksX2_GOST28147Func_11 4 rfl rfl)
abbrev cX2_GOST28147_mainStep : ByteArray := prog_4_method_6_code
def yX2_GOST28147_mainStep : MethodName := ⟨RX2, "GOST28147_mainStep", "(II)I"⟩
def dkwX2_GOST28147_mainStep_8 : List UInt8 := [16, 21, 124, 128, 172]
abbrev dktX2_GOST28147_mainStep_8 : List UInt8 := dkwX2_GOST28147_mainStep_8 ++ []
def dkwX2_GOST28147_mainStep_7 : List UInt8 := [16, 112, 29, 16, 28, 122, 16, 15, 126, 96, 51, 16, 28, 120, 96, 54, 4, 21, 4, 16, 11, 120, 21, 4]
abbrev dktX2_GOST28147_mainStep_7 : List UInt8 := dkwX2_GOST28147_mainStep_7 ++ dktX2_GOST28147_mainStep_8
def dkwX2_GOST28147_mainStep_6 : List UInt8 := [16, 96, 29, 16, 24, 122, 16, 15, 126, 96, 51, 16, 24, 120, 96, 54, 4, 21, 4, 42, 180, 0, 33]
abbrev dktX2_GOST28147_mainStep_6 : List UInt8 := dkwX2_GOST28147_mainStep_6 ++ dktX2_GOST28147_mainStep_7
def dkwX2_GOST28147_mainStep_5 : List UInt8 := [16, 80, 29, 16, 20, 122, 16, 15, 126, 96, 51, 16, 20, 120, 96, 54, 4, 21, 4, 42, 180, 0, 33]
abbrev dktX2_GOST28147_mainStep_5 : List UInt8 := dkwX2_GOST28147_mainStep_5 ++ dktX2_GOST28147_mainStep_6
def dkwX2_GOST28147_mainStep_4 : List UInt8 := [16, 64, 29, 16, 16, 122, 16, 15, 126, 96, 51, 16, 16, 120, 96, 54, 4, 21, 4, 42, 180, 0, 33]
abbrev dktX2_GOST28147_mainStep_4 : List UInt8 := dkwX2_GOST28147_mainStep_4 ++ dktX2_GOST28147_mainStep_5
def dkwX2_GOST28147_mainStep_3 : List UInt8 := [16, 48, 29, 16, 12, 122, 16, 15, 126, 96, 51, 16, 12, 120, 96, 54, 4, 21, 4, 42, 180, 0, 33]
abbrev dktX2_GOST28147_mainStep_3 : List UInt8 := dkwX2_GOST28147_mainStep_3 ++ dktX2_GOST28147_mainStep_4
def dkwX2_GOST28147_mainStep_2 : List UInt8 := [16, 32, 29, 16, 8, 122, 16, 15, 126, 96, 51, 16, 8, 120, 96, 54, 4, 21, 4, 42, 180, 0, 33]
abbrev dktX2_GOST28147_mainStep_2 : List UInt8 := dkwX2_GOST28147_mainStep_2 ++ dktX2_GOST28147_mainStep_3
def dkwX2_GOST28147_mainStep_1 : List UInt8 := [180, 0, 33, 16, 16, 29, 7, 122, 16, 15, 126, 96, 51, 7, 120, 96, 54, 4, 21, 4, 42, 180, 0, 33]
abbrev dktX2_GOST28147_mainStep_1 : List UInt8 := dkwX2_GOST28147_mainStep_1 ++ dktX2_GOST28147_mainStep_2
def dkwX2_GOST28147_mainStep_0 : List UInt8 := [28, 27, 96, 62, 42, 180, 0, 33, 3, 29, 3, 122, 16, 15, 126, 96, 51, 3, 120, 54, 4, 21, 4, 42]
abbrev dktX2_GOST28147_mainStep_0 : List UInt8 := dkwX2_GOST28147_mainStep_0 ++ dktX2_GOST28147_mainStep_1
theorem dksX2_GOST28147_mainStep_0 : cX2_GOST28147_mainStep.data.toList.drop 0 = dktX2_GOST28147_mainStep_0 := by decide +kernel
theorem dksX2_GOST28147_mainStep_1 : cX2_GOST28147_mainStep.data.toList.drop 24 = dktX2_GOST28147_mainStep_1 := dk_seg dksX2_GOST28147_mainStep_0 24 rfl rfl
theorem dksX2_GOST28147_mainStep_2 : cX2_GOST28147_mainStep.data.toList.drop 48 = dktX2_GOST28147_mainStep_2 := dk_seg dksX2_GOST28147_mainStep_1 24 rfl rfl
theorem dksX2_GOST28147_mainStep_3 : cX2_GOST28147_mainStep.data.toList.drop 71 = dktX2_GOST28147_mainStep_3 := dk_seg dksX2_GOST28147_mainStep_2 23 rfl rfl
theorem dksX2_GOST28147_mainStep_4 : cX2_GOST28147_mainStep.data.toList.drop 94 = dktX2_GOST28147_mainStep_4 := dk_seg dksX2_GOST28147_mainStep_3 23 rfl rfl
theorem dksX2_GOST28147_mainStep_5 : cX2_GOST28147_mainStep.data.toList.drop 117 = dktX2_GOST28147_mainStep_5 := dk_seg dksX2_GOST28147_mainStep_4 23 rfl rfl
theorem dksX2_GOST28147_mainStep_6 : cX2_GOST28147_mainStep.data.toList.drop 140 = dktX2_GOST28147_mainStep_6 := dk_seg dksX2_GOST28147_mainStep_5 23 rfl rfl
theorem dksX2_GOST28147_mainStep_7 : cX2_GOST28147_mainStep.data.toList.drop 163 = dktX2_GOST28147_mainStep_7 := dk_seg dksX2_GOST28147_mainStep_6 23 rfl rfl
theorem dksX2_GOST28147_mainStep_8 : cX2_GOST28147_mainStep.data.toList.drop 187 = dktX2_GOST28147_mainStep_8 := dk_seg dksX2_GOST28147_mainStep_7 24 rfl rfl
theorem dX2_GOST28147_mainStep_0 : decode cX2_GOST28147_mainStep 0 = .ok (.iload_n 2, 1) := dk_28 (dk_at dksX2_GOST28147_mainStep_0 0 rfl rfl)
theorem dX2_GOST28147_mainStep_1 : decode cX2_GOST28147_mainStep 1 = .ok (.iload_n 1, 1) := dk_27 (dk_at dksX2_GOST28147_mainStep_0 1 rfl rfl)
theorem dX2_GOST28147_mainStep_2 : decode cX2_GOST28147_mainStep 2 = .ok (.iadd, 1) := dk_96 (dk_at dksX2_GOST28147_mainStep_0 2 rfl rfl)
theorem dX2_GOST28147_mainStep_3 : decode cX2_GOST28147_mainStep 3 = .ok (.istore_n 3, 1) := dk_62 (dk_at dksX2_GOST28147_mainStep_0 3 rfl rfl)
theorem dX2_GOST28147_mainStep_4 : decode cX2_GOST28147_mainStep 4 = .ok (.aload_n 0, 1) := dk_42 (dk_at dksX2_GOST28147_mainStep_0 4 rfl rfl)
theorem dX2_GOST28147_mainStep_5 : decode cX2_GOST28147_mainStep 5 = .ok (.getfield 33, 3) := dk_180 0 33 (dk_at dksX2_GOST28147_mainStep_0 5 rfl rfl)
theorem dX2_GOST28147_mainStep_8 : decode cX2_GOST28147_mainStep 8 = .ok (.iconst 0, 1) := dk_3 (dk_at dksX2_GOST28147_mainStep_0 8 rfl rfl)
theorem dX2_GOST28147_mainStep_9 : decode cX2_GOST28147_mainStep 9 = .ok (.iload_n 3, 1) := dk_29 (dk_at dksX2_GOST28147_mainStep_0 9 rfl rfl)
theorem dX2_GOST28147_mainStep_10 : decode cX2_GOST28147_mainStep 10 = .ok (.iconst 0, 1) := dk_3 (dk_at dksX2_GOST28147_mainStep_0 10 rfl rfl)
theorem dX2_GOST28147_mainStep_11 : decode cX2_GOST28147_mainStep 11 = .ok (.ishr, 1) := dk_122 (dk_at dksX2_GOST28147_mainStep_0 11 rfl rfl)
theorem dX2_GOST28147_mainStep_12 : decode cX2_GOST28147_mainStep 12 = .ok (.bipush 15, 2) := dk_16 15 (dk_at dksX2_GOST28147_mainStep_0 12 rfl rfl)
theorem dX2_GOST28147_mainStep_14 : decode cX2_GOST28147_mainStep 14 = .ok (.iand, 1) := dk_126 (dk_at dksX2_GOST28147_mainStep_0 14 rfl rfl)
theorem dX2_GOST28147_mainStep_15 : decode cX2_GOST28147_mainStep 15 = .ok (.iadd, 1) := dk_96 (dk_at dksX2_GOST28147_mainStep_0 15 rfl rfl)
theorem dX2_GOST28147_mainStep_16 : decode cX2_GOST28147_mainStep 16 = .ok (.baload, 1) := dk_51 (dk_at dksX2_GOST28147_mainStep_0 16 rfl rfl)
theorem dX2_GOST28147_mainStep_17 : decode cX2_GOST28147_mainStep 17 = .ok (.iconst 0, 1) := dk_3 (dk_at dksX2_GOST28147_mainStep_0 17 rfl rfl)
theorem dX2_GOST28147_mainStep_18 : decode cX2_GOST28147_mainStep 18 = .ok (.ishl, 1) := dk_120 (dk_at dksX2_GOST28147_mainStep_0 18 rfl rfl)
theorem dX2_GOST28147_mainStep_19 : decode cX2_GOST28147_mainStep 19 = .ok (.istore 4, 2) := dk_54 4 (dk_at dksX2_GOST28147_mainStep_0 19 rfl rfl)
theorem dX2_GOST28147_mainStep_21 : decode cX2_GOST28147_mainStep 21 = .ok (.iload 4, 2) := dk_21 4 (dk_at dksX2_GOST28147_mainStep_0 21 rfl rfl)
theorem dX2_GOST28147_mainStep_23 : decode cX2_GOST28147_mainStep 23 = .ok (.aload_n 0, 1) := dk_42 (dk_at dksX2_GOST28147_mainStep_0 23 rfl rfl)
theorem dX2_GOST28147_mainStep_24 : decode cX2_GOST28147_mainStep 24 = .ok (.getfield 33, 3) := dk_180 0 33 (dk_at dksX2_GOST28147_mainStep_1 0 rfl rfl)
theorem dX2_GOST28147_mainStep_27 : decode cX2_GOST28147_mainStep 27 = .ok (.bipush 16, 2) := dk_16 16 (dk_at dksX2_GOST28147_mainStep_1 3 rfl rfl)
theorem dX2_GOST28147_mainStep_29 : decode cX2_GOST28147_mainStep 29 = .ok (.iload_n 3, 1) := dk_29 (dk_at dksX2_GOST28147_mainStep_1 5 rfl rfl)
theorem dX2_GOST28147_mainStep_30 : decode cX2_GOST28147_mainStep 30 = .ok (.iconst 4, 1) := dk_7 (dk_at dksX2_GOST28147_mainStep_1 6 rfl rfl)
theorem dX2_GOST28147_mainStep_31 : decode cX2_GOST28147_mainStep 31 = .ok (.ishr, 1) := dk_122 (dk_at dksX2_GOST28147_mainStep_1 7 rfl rfl)
theorem dX2_GOST28147_mainStep_32 : decode cX2_GOST28147_mainStep 32 = .ok (.bipush 15, 2) := dk_16 15 (dk_at dksX2_GOST28147_mainStep_1 8 rfl rfl)
theorem dX2_GOST28147_mainStep_34 : decode cX2_GOST28147_mainStep 34 = .ok (.iand, 1) := dk_126 (dk_at dksX2_GOST28147_mainStep_1 10 rfl rfl)
theorem dX2_GOST28147_mainStep_35 : decode cX2_GOST28147_mainStep 35 = .ok (.iadd, 1) := dk_96 (dk_at dksX2_GOST28147_mainStep_1 11 rfl rfl)
theorem dX2_GOST28147_mainStep_36 : decode cX2_GOST28147_mainStep 36 = .ok (.baload, 1) := dk_51 (dk_at dksX2_GOST28147_mainStep_1 12 rfl rfl)
theorem dX2_GOST28147_mainStep_37 : decode cX2_GOST28147_mainStep 37 = .ok (.iconst 4, 1) := dk_7 (dk_at dksX2_GOST28147_mainStep_1 13 rfl rfl)
theorem dX2_GOST28147_mainStep_38 : decode cX2_GOST28147_mainStep 38 = .ok (.ishl, 1) := dk_120 (dk_at dksX2_GOST28147_mainStep_1 14 rfl rfl)
theorem dX2_GOST28147_mainStep_39 : decode cX2_GOST28147_mainStep 39 = .ok (.iadd, 1) := dk_96 (dk_at dksX2_GOST28147_mainStep_1 15 rfl rfl)
theorem dX2_GOST28147_mainStep_40 : decode cX2_GOST28147_mainStep 40 = .ok (.istore 4, 2) := dk_54 4 (dk_at dksX2_GOST28147_mainStep_1 16 rfl rfl)
theorem dX2_GOST28147_mainStep_42 : decode cX2_GOST28147_mainStep 42 = .ok (.iload 4, 2) := dk_21 4 (dk_at dksX2_GOST28147_mainStep_1 18 rfl rfl)
theorem dX2_GOST28147_mainStep_44 : decode cX2_GOST28147_mainStep 44 = .ok (.aload_n 0, 1) := dk_42 (dk_at dksX2_GOST28147_mainStep_1 20 rfl rfl)
theorem dX2_GOST28147_mainStep_45 : decode cX2_GOST28147_mainStep 45 = .ok (.getfield 33, 3) := dk_180 0 33 (dk_at dksX2_GOST28147_mainStep_1 21 rfl rfl)
theorem dX2_GOST28147_mainStep_48 : decode cX2_GOST28147_mainStep 48 = .ok (.bipush 32, 2) := dk_16 32 (dk_at dksX2_GOST28147_mainStep_2 0 rfl rfl)
theorem dX2_GOST28147_mainStep_50 : decode cX2_GOST28147_mainStep 50 = .ok (.iload_n 3, 1) := dk_29 (dk_at dksX2_GOST28147_mainStep_2 2 rfl rfl)
theorem dX2_GOST28147_mainStep_51 : decode cX2_GOST28147_mainStep 51 = .ok (.bipush 8, 2) := dk_16 8 (dk_at dksX2_GOST28147_mainStep_2 3 rfl rfl)
theorem dX2_GOST28147_mainStep_53 : decode cX2_GOST28147_mainStep 53 = .ok (.ishr, 1) := dk_122 (dk_at dksX2_GOST28147_mainStep_2 5 rfl rfl)
theorem dX2_GOST28147_mainStep_54 : decode cX2_GOST28147_mainStep 54 = .ok (.bipush 15, 2) := dk_16 15 (dk_at dksX2_GOST28147_mainStep_2 6 rfl rfl)
theorem dX2_GOST28147_mainStep_56 : decode cX2_GOST28147_mainStep 56 = .ok (.iand, 1) := dk_126 (dk_at dksX2_GOST28147_mainStep_2 8 rfl rfl)
theorem dX2_GOST28147_mainStep_57 : decode cX2_GOST28147_mainStep 57 = .ok (.iadd, 1) := dk_96 (dk_at dksX2_GOST28147_mainStep_2 9 rfl rfl)
theorem dX2_GOST28147_mainStep_58 : decode cX2_GOST28147_mainStep 58 = .ok (.baload, 1) := dk_51 (dk_at dksX2_GOST28147_mainStep_2 10 rfl rfl)
theorem dX2_GOST28147_mainStep_59 : decode cX2_GOST28147_mainStep 59 = .ok (.bipush 8, 2) := dk_16 8 (dk_at dksX2_GOST28147_mainStep_2 11 rfl rfl)
theorem dX2_GOST28147_mainStep_61 : decode cX2_GOST28147_mainStep 61 = .ok (.ishl, 1) := dk_120 (dk_at dksX2_GOST28147_mainStep_2 13 rfl rfl)
theorem dX2_GOST28147_mainStep_62 : decode cX2_GOST28147_mainStep 62 = .ok (.iadd, 1) := dk_96 (dk_at dksX2_GOST28147_mainStep_2 14 rfl rfl)
theorem dX2_GOST28147_mainStep_63 : decode cX2_GOST28147_mainStep 63 = .ok (.istore 4, 2) := dk_54 4 (dk_at dksX2_GOST28147_mainStep_2 15 rfl rfl)
theorem dX2_GOST28147_mainStep_65 : decode cX2_GOST28147_mainStep 65 = .ok (.iload 4, 2) := dk_21 4 (dk_at dksX2_GOST28147_mainStep_2 17 rfl rfl)
theorem dX2_GOST28147_mainStep_67 : decode cX2_GOST28147_mainStep 67 = .ok (.aload_n 0, 1) := dk_42 (dk_at dksX2_GOST28147_mainStep_2 19 rfl rfl)
theorem dX2_GOST28147_mainStep_68 : decode cX2_GOST28147_mainStep 68 = .ok (.getfield 33, 3) := dk_180 0 33 (dk_at dksX2_GOST28147_mainStep_2 20 rfl rfl)
theorem dX2_GOST28147_mainStep_71 : decode cX2_GOST28147_mainStep 71 = .ok (.bipush 48, 2) := dk_16 48 (dk_at dksX2_GOST28147_mainStep_3 0 rfl rfl)
theorem dX2_GOST28147_mainStep_73 : decode cX2_GOST28147_mainStep 73 = .ok (.iload_n 3, 1) := dk_29 (dk_at dksX2_GOST28147_mainStep_3 2 rfl rfl)
theorem dX2_GOST28147_mainStep_74 : decode cX2_GOST28147_mainStep 74 = .ok (.bipush 12, 2) := dk_16 12 (dk_at dksX2_GOST28147_mainStep_3 3 rfl rfl)
theorem dX2_GOST28147_mainStep_76 : decode cX2_GOST28147_mainStep 76 = .ok (.ishr, 1) := dk_122 (dk_at dksX2_GOST28147_mainStep_3 5 rfl rfl)
theorem dX2_GOST28147_mainStep_77 : decode cX2_GOST28147_mainStep 77 = .ok (.bipush 15, 2) := dk_16 15 (dk_at dksX2_GOST28147_mainStep_3 6 rfl rfl)
theorem dX2_GOST28147_mainStep_79 : decode cX2_GOST28147_mainStep 79 = .ok (.iand, 1) := dk_126 (dk_at dksX2_GOST28147_mainStep_3 8 rfl rfl)
theorem dX2_GOST28147_mainStep_80 : decode cX2_GOST28147_mainStep 80 = .ok (.iadd, 1) := dk_96 (dk_at dksX2_GOST28147_mainStep_3 9 rfl rfl)
theorem dX2_GOST28147_mainStep_81 : decode cX2_GOST28147_mainStep 81 = .ok (.baload, 1) := dk_51 (dk_at dksX2_GOST28147_mainStep_3 10 rfl rfl)
theorem dX2_GOST28147_mainStep_82 : decode cX2_GOST28147_mainStep 82 = .ok (.bipush 12, 2) := dk_16 12 (dk_at dksX2_GOST28147_mainStep_3 11 rfl rfl)
theorem dX2_GOST28147_mainStep_84 : decode cX2_GOST28147_mainStep 84 = .ok (.ishl, 1) := dk_120 (dk_at dksX2_GOST28147_mainStep_3 13 rfl rfl)
theorem dX2_GOST28147_mainStep_85 : decode cX2_GOST28147_mainStep 85 = .ok (.iadd, 1) := dk_96 (dk_at dksX2_GOST28147_mainStep_3 14 rfl rfl)
theorem dX2_GOST28147_mainStep_86 : decode cX2_GOST28147_mainStep 86 = .ok (.istore 4, 2) := dk_54 4 (dk_at dksX2_GOST28147_mainStep_3 15 rfl rfl)
theorem dX2_GOST28147_mainStep_88 : decode cX2_GOST28147_mainStep 88 = .ok (.iload 4, 2) := dk_21 4 (dk_at dksX2_GOST28147_mainStep_3 17 rfl rfl)
theorem dX2_GOST28147_mainStep_90 : decode cX2_GOST28147_mainStep 90 = .ok (.aload_n 0, 1) := dk_42 (dk_at dksX2_GOST28147_mainStep_3 19 rfl rfl)
theorem dX2_GOST28147_mainStep_91 : decode cX2_GOST28147_mainStep 91 = .ok (.getfield 33, 3) := dk_180 0 33 (dk_at dksX2_GOST28147_mainStep_3 20 rfl rfl)
theorem dX2_GOST28147_mainStep_94 : decode cX2_GOST28147_mainStep 94 = .ok (.bipush 64, 2) := dk_16 64 (dk_at dksX2_GOST28147_mainStep_4 0 rfl rfl)
theorem dX2_GOST28147_mainStep_96 : decode cX2_GOST28147_mainStep 96 = .ok (.iload_n 3, 1) := dk_29 (dk_at dksX2_GOST28147_mainStep_4 2 rfl rfl)
theorem dX2_GOST28147_mainStep_97 : decode cX2_GOST28147_mainStep 97 = .ok (.bipush 16, 2) := dk_16 16 (dk_at dksX2_GOST28147_mainStep_4 3 rfl rfl)
theorem dX2_GOST28147_mainStep_99 : decode cX2_GOST28147_mainStep 99 = .ok (.ishr, 1) := dk_122 (dk_at dksX2_GOST28147_mainStep_4 5 rfl rfl)
theorem dX2_GOST28147_mainStep_100 : decode cX2_GOST28147_mainStep 100 = .ok (.bipush 15, 2) := dk_16 15 (dk_at dksX2_GOST28147_mainStep_4 6 rfl rfl)
theorem dX2_GOST28147_mainStep_102 : decode cX2_GOST28147_mainStep 102 = .ok (.iand, 1) := dk_126 (dk_at dksX2_GOST28147_mainStep_4 8 rfl rfl)
theorem dX2_GOST28147_mainStep_103 : decode cX2_GOST28147_mainStep 103 = .ok (.iadd, 1) := dk_96 (dk_at dksX2_GOST28147_mainStep_4 9 rfl rfl)
theorem dX2_GOST28147_mainStep_104 : decode cX2_GOST28147_mainStep 104 = .ok (.baload, 1) := dk_51 (dk_at dksX2_GOST28147_mainStep_4 10 rfl rfl)
theorem dX2_GOST28147_mainStep_105 : decode cX2_GOST28147_mainStep 105 = .ok (.bipush 16, 2) := dk_16 16 (dk_at dksX2_GOST28147_mainStep_4 11 rfl rfl)
theorem dX2_GOST28147_mainStep_107 : decode cX2_GOST28147_mainStep 107 = .ok (.ishl, 1) := dk_120 (dk_at dksX2_GOST28147_mainStep_4 13 rfl rfl)
theorem dX2_GOST28147_mainStep_108 : decode cX2_GOST28147_mainStep 108 = .ok (.iadd, 1) := dk_96 (dk_at dksX2_GOST28147_mainStep_4 14 rfl rfl)
theorem dX2_GOST28147_mainStep_109 : decode cX2_GOST28147_mainStep 109 = .ok (.istore 4, 2) := dk_54 4 (dk_at dksX2_GOST28147_mainStep_4 15 rfl rfl)
theorem dX2_GOST28147_mainStep_111 : decode cX2_GOST28147_mainStep 111 = .ok (.iload 4, 2) := dk_21 4 (dk_at dksX2_GOST28147_mainStep_4 17 rfl rfl)
theorem dX2_GOST28147_mainStep_113 : decode cX2_GOST28147_mainStep 113 = .ok (.aload_n 0, 1) := dk_42 (dk_at dksX2_GOST28147_mainStep_4 19 rfl rfl)
theorem dX2_GOST28147_mainStep_114 : decode cX2_GOST28147_mainStep 114 = .ok (.getfield 33, 3) := dk_180 0 33 (dk_at dksX2_GOST28147_mainStep_4 20 rfl rfl)
theorem dX2_GOST28147_mainStep_117 : decode cX2_GOST28147_mainStep 117 = .ok (.bipush 80, 2) := dk_16 80 (dk_at dksX2_GOST28147_mainStep_5 0 rfl rfl)
theorem dX2_GOST28147_mainStep_119 : decode cX2_GOST28147_mainStep 119 = .ok (.iload_n 3, 1) := dk_29 (dk_at dksX2_GOST28147_mainStep_5 2 rfl rfl)
theorem dX2_GOST28147_mainStep_120 : decode cX2_GOST28147_mainStep 120 = .ok (.bipush 20, 2) := dk_16 20 (dk_at dksX2_GOST28147_mainStep_5 3 rfl rfl)
theorem dX2_GOST28147_mainStep_122 : decode cX2_GOST28147_mainStep 122 = .ok (.ishr, 1) := dk_122 (dk_at dksX2_GOST28147_mainStep_5 5 rfl rfl)
theorem dX2_GOST28147_mainStep_123 : decode cX2_GOST28147_mainStep 123 = .ok (.bipush 15, 2) := dk_16 15 (dk_at dksX2_GOST28147_mainStep_5 6 rfl rfl)
theorem dX2_GOST28147_mainStep_125 : decode cX2_GOST28147_mainStep 125 = .ok (.iand, 1) := dk_126 (dk_at dksX2_GOST28147_mainStep_5 8 rfl rfl)
theorem dX2_GOST28147_mainStep_126 : decode cX2_GOST28147_mainStep 126 = .ok (.iadd, 1) := dk_96 (dk_at dksX2_GOST28147_mainStep_5 9 rfl rfl)
theorem dX2_GOST28147_mainStep_127 : decode cX2_GOST28147_mainStep 127 = .ok (.baload, 1) := dk_51 (dk_at dksX2_GOST28147_mainStep_5 10 rfl rfl)
theorem dX2_GOST28147_mainStep_128 : decode cX2_GOST28147_mainStep 128 = .ok (.bipush 20, 2) := dk_16 20 (dk_at dksX2_GOST28147_mainStep_5 11 rfl rfl)
theorem dX2_GOST28147_mainStep_130 : decode cX2_GOST28147_mainStep 130 = .ok (.ishl, 1) := dk_120 (dk_at dksX2_GOST28147_mainStep_5 13 rfl rfl)
theorem dX2_GOST28147_mainStep_131 : decode cX2_GOST28147_mainStep 131 = .ok (.iadd, 1) := dk_96 (dk_at dksX2_GOST28147_mainStep_5 14 rfl rfl)
theorem dX2_GOST28147_mainStep_132 : decode cX2_GOST28147_mainStep 132 = .ok (.istore 4, 2) := dk_54 4 (dk_at dksX2_GOST28147_mainStep_5 15 rfl rfl)
theorem dX2_GOST28147_mainStep_134 : decode cX2_GOST28147_mainStep 134 = .ok (.iload 4, 2) := dk_21 4 (dk_at dksX2_GOST28147_mainStep_5 17 rfl rfl)
theorem dX2_GOST28147_mainStep_136 : decode cX2_GOST28147_mainStep 136 = .ok (.aload_n 0, 1) := dk_42 (dk_at dksX2_GOST28147_mainStep_5 19 rfl rfl)
theorem dX2_GOST28147_mainStep_137 : decode cX2_GOST28147_mainStep 137 = .ok (.getfield 33, 3) := dk_180 0 33 (dk_at dksX2_GOST28147_mainStep_5 20 rfl rfl)
theorem dX2_GOST28147_mainStep_140 : decode cX2_GOST28147_mainStep 140 = .ok (.bipush 96, 2) := dk_16 96 (dk_at dksX2_GOST28147_mainStep_6 0 rfl rfl)
theorem dX2_GOST28147_mainStep_142 : decode cX2_GOST28147_mainStep 142 = .ok (.iload_n 3, 1) := dk_29 (dk_at dksX2_GOST28147_mainStep_6 2 rfl rfl)
theorem dX2_GOST28147_mainStep_143 : decode cX2_GOST28147_mainStep 143 = .ok (.bipush 24, 2) := dk_16 24 (dk_at dksX2_GOST28147_mainStep_6 3 rfl rfl)
theorem dX2_GOST28147_mainStep_145 : decode cX2_GOST28147_mainStep 145 = .ok (.ishr, 1) := dk_122 (dk_at dksX2_GOST28147_mainStep_6 5 rfl rfl)
theorem dX2_GOST28147_mainStep_146 : decode cX2_GOST28147_mainStep 146 = .ok (.bipush 15, 2) := dk_16 15 (dk_at dksX2_GOST28147_mainStep_6 6 rfl rfl)
theorem dX2_GOST28147_mainStep_148 : decode cX2_GOST28147_mainStep 148 = .ok (.iand, 1) := dk_126 (dk_at dksX2_GOST28147_mainStep_6 8 rfl rfl)
theorem dX2_GOST28147_mainStep_149 : decode cX2_GOST28147_mainStep 149 = .ok (.iadd, 1) := dk_96 (dk_at dksX2_GOST28147_mainStep_6 9 rfl rfl)
theorem dX2_GOST28147_mainStep_150 : decode cX2_GOST28147_mainStep 150 = .ok (.baload, 1) := dk_51 (dk_at dksX2_GOST28147_mainStep_6 10 rfl rfl)
theorem dX2_GOST28147_mainStep_151 : decode cX2_GOST28147_mainStep 151 = .ok (.bipush 24, 2) := dk_16 24 (dk_at dksX2_GOST28147_mainStep_6 11 rfl rfl)
theorem dX2_GOST28147_mainStep_153 : decode cX2_GOST28147_mainStep 153 = .ok (.ishl, 1) := dk_120 (dk_at dksX2_GOST28147_mainStep_6 13 rfl rfl)
theorem dX2_GOST28147_mainStep_154 : decode cX2_GOST28147_mainStep 154 = .ok (.iadd, 1) := dk_96 (dk_at dksX2_GOST28147_mainStep_6 14 rfl rfl)
theorem dX2_GOST28147_mainStep_155 : decode cX2_GOST28147_mainStep 155 = .ok (.istore 4, 2) := dk_54 4 (dk_at dksX2_GOST28147_mainStep_6 15 rfl rfl)
theorem dX2_GOST28147_mainStep_157 : decode cX2_GOST28147_mainStep 157 = .ok (.iload 4, 2) := dk_21 4 (dk_at dksX2_GOST28147_mainStep_6 17 rfl rfl)
theorem dX2_GOST28147_mainStep_159 : decode cX2_GOST28147_mainStep 159 = .ok (.aload_n 0, 1) := dk_42 (dk_at dksX2_GOST28147_mainStep_6 19 rfl rfl)
theorem dX2_GOST28147_mainStep_160 : decode cX2_GOST28147_mainStep 160 = .ok (.getfield 33, 3) := dk_180 0 33 (dk_at dksX2_GOST28147_mainStep_6 20 rfl rfl)
theorem dX2_GOST28147_mainStep_163 : decode cX2_GOST28147_mainStep 163 = .ok (.bipush 112, 2) := dk_16 112 (dk_at dksX2_GOST28147_mainStep_7 0 rfl rfl)
theorem dX2_GOST28147_mainStep_165 : decode cX2_GOST28147_mainStep 165 = .ok (.iload_n 3, 1) := dk_29 (dk_at dksX2_GOST28147_mainStep_7 2 rfl rfl)
theorem dX2_GOST28147_mainStep_166 : decode cX2_GOST28147_mainStep 166 = .ok (.bipush 28, 2) := dk_16 28 (dk_at dksX2_GOST28147_mainStep_7 3 rfl rfl)
theorem dX2_GOST28147_mainStep_168 : decode cX2_GOST28147_mainStep 168 = .ok (.ishr, 1) := dk_122 (dk_at dksX2_GOST28147_mainStep_7 5 rfl rfl)
theorem dX2_GOST28147_mainStep_169 : decode cX2_GOST28147_mainStep 169 = .ok (.bipush 15, 2) := dk_16 15 (dk_at dksX2_GOST28147_mainStep_7 6 rfl rfl)
theorem dX2_GOST28147_mainStep_171 : decode cX2_GOST28147_mainStep 171 = .ok (.iand, 1) := dk_126 (dk_at dksX2_GOST28147_mainStep_7 8 rfl rfl)
theorem dX2_GOST28147_mainStep_172 : decode cX2_GOST28147_mainStep 172 = .ok (.iadd, 1) := dk_96 (dk_at dksX2_GOST28147_mainStep_7 9 rfl rfl)
theorem dX2_GOST28147_mainStep_173 : decode cX2_GOST28147_mainStep 173 = .ok (.baload, 1) := dk_51 (dk_at dksX2_GOST28147_mainStep_7 10 rfl rfl)
theorem dX2_GOST28147_mainStep_174 : decode cX2_GOST28147_mainStep 174 = .ok (.bipush 28, 2) := dk_16 28 (dk_at dksX2_GOST28147_mainStep_7 11 rfl rfl)
theorem dX2_GOST28147_mainStep_176 : decode cX2_GOST28147_mainStep 176 = .ok (.ishl, 1) := dk_120 (dk_at dksX2_GOST28147_mainStep_7 13 rfl rfl)
theorem dX2_GOST28147_mainStep_177 : decode cX2_GOST28147_mainStep 177 = .ok (.iadd, 1) := dk_96 (dk_at dksX2_GOST28147_mainStep_7 14 rfl rfl)
theorem dX2_GOST28147_mainStep_178 : decode cX2_GOST28147_mainStep 178 = .ok (.istore 4, 2) := dk_54 4 (dk_at dksX2_GOST28147_mainStep_7 15 rfl rfl)
theorem dX2_GOST28147_mainStep_180 : decode cX2_GOST28147_mainStep 180 = .ok (.iload 4, 2) := dk_21 4 (dk_at dksX2_GOST28147_mainStep_7 17 rfl rfl)
theorem dX2_GOST28147_mainStep_182 : decode cX2_GOST28147_mainStep 182 = .ok (.bipush 11, 2) := dk_16 11 (dk_at dksX2_GOST28147_mainStep_7 19 rfl rfl)
theorem dX2_GOST28147_mainStep_184 : decode cX2_GOST28147_mainStep 184 = .ok (.ishl, 1) := dk_120 (dk_at dksX2_GOST28147_mainStep_7 21 rfl rfl)
theorem dX2_GOST28147_mainStep_185 : decode cX2_GOST28147_mainStep 185 = .ok (.iload 4, 2) := dk_21 4 (dk_at dksX2_GOST28147_mainStep_7 22 rfl rfl)
theorem dX2_GOST28147_mainStep_187 : decode cX2_GOST28147_mainStep 187 = .ok (.bipush 21, 2) := dk_16 21 (dk_at dksX2_GOST28147_mainStep_8 0 rfl rfl)
theorem dX2_GOST28147_mainStep_189 : decode cX2_GOST28147_mainStep 189 = .ok (.iushr, 1) := dk_124 (dk_at dksX2_GOST28147_mainStep_8 2 rfl rfl)
theorem dX2_GOST28147_mainStep_190 : decode cX2_GOST28147_mainStep 190 = .ok (.ior, 1) := dk_128 (dk_at dksX2_GOST28147_mainStep_8 3 rfl rfl)
theorem dX2_GOST28147_mainStep_191 : decode cX2_GOST28147_mainStep 191 = .ok (.ireturn, 1) := dk_172 (dk_at dksX2_GOST28147_mainStep_8 4 rfl rfl)
abbrev cX2_intTobytes : ByteArray := prog_4_method_9_code
def yX2_intTobytes : MethodName := ⟨RX2, "intTobytes", "(I[BI)V"⟩
def dkwX2_intTobytes_1 : List UInt8 := [27, 16, 8, 124, 145, 84, 44, 29, 27, 145, 84, 177]
abbrev dktX2_intTobytes_1 : List UInt8 := dkwX2_intTobytes_1 ++ []
def dkwX2_intTobytes_0 : List UInt8 := [44, 29, 6, 96, 27, 16, 24, 124, 145, 84, 44, 29, 5, 96, 27, 16, 16, 124, 145, 84, 44, 29, 4, 96]
abbrev dktX2_intTobytes_0 : List UInt8 := dkwX2_intTobytes_0 ++ dktX2_intTobytes_1
theorem dksX2_intTobytes_0 : cX2_intTobytes.data.toList.drop 0 = dktX2_intTobytes_0 := by decide +kernel
theorem dksX2_intTobytes_1 : cX2_intTobytes.data.toList.drop 24 = dktX2_intTobytes_1 := dk_seg dksX2_intTobytes_0 24 rfl rfl
theorem dX2_intTobytes_0 : decode cX2_intTobytes 0 = .ok (.aload_n 2, 1) := dk_44 (dk_at dksX2_intTobytes_0 0 rfl rfl)
theorem dX2_intTobytes_1 : decode cX2_intTobytes 1 = .ok (.iload_n 3, 1) := dk_29 (dk_at dksX2_intTobytes_0 1 rfl rfl)
theorem dX2_intTobytes_2 : decode cX2_intTobytes 2 = .ok (.iconst 3, 1) := dk_6 (dk_at dksX2_intTobytes_0 2 rfl rfl)
theorem dX2_intTobytes_3 : decode cX2_intTobytes 3 = .ok (.iadd, 1) := dk_96 (dk_at dksX2_intTobytes_0 3 rfl rfl)
theorem dX2_intTobytes_4 : decode cX2_intTobytes 4 = .ok (.iload_n 1, 1) := dk_27 (dk_at dksX2_intTobytes_0 4 rfl rfl)
theorem dX2_intTobytes_5 : decode cX2_intTobytes 5 = .ok (.bipush 24, 2) := dk_16 24 (dk_at dksX2_intTobytes_0 5 rfl rfl)
theorem dX2_intTobytes_7 : decode cX2_intTobytes 7 = .ok (.iushr, 1) := dk_124 (dk_at dksX2_intTobytes_0 7 rfl rfl)
theorem dX2_intTobytes_8 : decode cX2_intTobytes 8 = .ok (.i2b, 1) := dk_145 (dk_at dksX2_intTobytes_0 8 rfl rfl)
theorem dX2_intTobytes_9 : decode cX2_intTobytes 9 = .ok (.bastore, 1) := dk_84 (dk_at dksX2_intTobytes_0 9 rfl rfl)
theorem dX2_intTobytes_10 : decode cX2_intTobytes 10 = .ok (.aload_n 2, 1) := dk_44 (dk_at dksX2_intTobytes_0 10 rfl rfl)
theorem dX2_intTobytes_11 : decode cX2_intTobytes 11 = .ok (.iload_n 3, 1) := dk_29 (dk_at dksX2_intTobytes_0 11 rfl rfl)
theorem dX2_intTobytes_12 : decode cX2_intTobytes 12 = .ok (.iconst 2, 1) := dk_5 (dk_at dksX2_intTobytes_0 12 rfl rfl)
theorem dX2_intTobytes_13 : decode cX2_intTobytes 13 = .ok (.iadd, 1) := dk_96 (dk_at dksX2_intTobytes_0 13 rfl rfl)
theorem dX2_intTobytes_14 : decode cX2_intTobytes 14 = .ok (.iload_n 1, 1) := dk_27 (dk_at dksX2_intTobytes_0 14 rfl rfl)
theorem dX2_intTobytes_15 : decode cX2_intTobytes 15 = .ok (.bipush 16, 2) := dk_16 16 (dk_at dksX2_intTobytes_0 15 rfl rfl)
theorem dX2_intTobytes_17 : decode cX2_intTobytes 17 = .ok (.iushr, 1) := dk_124 (dk_at dksX2_intTobytes_0 17 rfl rfl)
theorem dX2_intTobytes_18 : decode cX2_intTobytes 18 = .ok (.i2b, 1) := dk_145 (dk_at dksX2_intTobytes_0 18 rfl rfl)
theorem dX2_intTobytes_19 : decode cX2_intTobytes 19 = .ok (.bastore, 1) := dk_84 (dk_at dksX2_intTobytes_0 19 rfl rfl)
theorem dX2_intTobytes_20 : decode cX2_intTobytes 20 = .ok (.aload_n 2, 1) := dk_44 (dk_at dksX2_intTobytes_0 20 rfl rfl)
theorem dX2_intTobytes_21 : decode cX2_intTobytes 21 = .ok (.iload_n 3, 1) := dk_29 (dk_at dksX2_intTobytes_0 21 rfl rfl)
theorem dX2_intTobytes_22 : decode cX2_intTobytes 22 = .ok (.iconst 1, 1) := dk_4 (dk_at dksX2_intTobytes_0 22 rfl rfl)
theorem dX2_intTobytes_23 : decode cX2_intTobytes 23 = .ok (.iadd, 1) := dk_96 (dk_at dksX2_intTobytes_0 23 rfl rfl)
theorem dX2_intTobytes_24 : decode cX2_intTobytes 24 = .ok (.iload_n 1, 1) := dk_27 (dk_at dksX2_intTobytes_1 0 rfl rfl)
theorem dX2_intTobytes_25 : decode cX2_intTobytes 25 = .ok (.bipush 8, 2) := dk_16 8 (dk_at dksX2_intTobytes_1 1 rfl rfl)
theorem dX2_intTobytes_27 : decode cX2_intTobytes 27 = .ok (.iushr, 1) := dk_124 (dk_at dksX2_intTobytes_1 3 rfl rfl)
theorem dX2_intTobytes_28 : decode cX2_intTobytes 28 = .ok (.i2b, 1) := dk_145 (dk_at dksX2_intTobytes_1 4 rfl rfl)
theorem dX2_intTobytes_29 : decode cX2_intTobytes 29 = .ok (.bastore, 1) := dk_84 (dk_at dksX2_intTobytes_1 5 rfl rfl)
theorem dX2_intTobytes_30 : decode cX2_intTobytes 30 = .ok (.aload_n 2, 1) := dk_44 (dk_at dksX2_intTobytes_1 6 rfl rfl)
theorem dX2_intTobytes_31 : decode cX2_intTobytes 31 = .ok (.iload_n 3, 1) := dk_29 (dk_at dksX2_intTobytes_1 7 rfl rfl)
theorem dX2_intTobytes_32 : decode cX2_intTobytes 32 = .ok (.iload_n 1, 1) := dk_27 (dk_at dksX2_intTobytes_1 8 rfl rfl)
theorem dX2_intTobytes_33 : decode cX2_intTobytes 33 = .ok (.i2b, 1) := dk_145 (dk_at dksX2_intTobytes_1 9 rfl rfl)
theorem dX2_intTobytes_34 : decode cX2_intTobytes 34 = .ok (.bastore, 1) := dk_84 (dk_at dksX2_intTobytes_1 10 rfl rfl)
theorem dX2_intTobytes_35 : decode cX2_intTobytes 35 = .ok (.return_, 1) := dk_177 (dk_at dksX2_intTobytes_1 11 rfl rfl)
theorem q9 : (Jvm.Cond.initialized "GOST28147Engine") ∈ lw_all := lw_g (lw_at lw_m1 2 rfl) rfl
theorem q52 : (Jvm.Cond.instantiable "GOST28147Engine" (3 : Nat)) ∈ lw_all := lw_g (lw_at lw_m1 45 rfl) rfl
theorem q54 : (Jvm.Cond.instanceMethod ({ cls := "GOST28147Engine", name := "<init>", desc := "()V" } : Jvm.MethodName)) ∈ lw_all := lw_g (lw_at lw_m1 47 rfl) rfl
theorem q55 : (Jvm.Cond.code ({ cls := "GOST28147Engine", name := "<init>", desc := "()V" } : Jvm.MethodName) prog_4_method_2_code (1 : Nat) (Option.none : Option Jvm.ClassFile.FieldType)) ∈ lw_all := lw_g (lw_at lw_m1 48 rfl) rfl
theorem q56 : (Jvm.Cond.methodLink "GOST28147Engine" (19 : Nat) ({ cls := "java/lang/Object", name := "<init>", desc := "()V" } : Jvm.MethodName)) ∈ lw_all := lw_g (lw_at lw_m1 49 rfl) rfl
theorem q57 : (Jvm.Cond.fieldLink "GOST28147Engine" (29 : Nat) "GOST28147Engine" "Sbox_Default" "[B") ∈ lw_all := lw_g (lw_at lw_m1 50 rfl) rfl
theorem q58 : (Jvm.Cond.laysStatic "GOST28147Engine" "Sbox_Default" "[B") ∈ lw_tbl := lw_at lw_m1 51 rfl
theorem q59 : (Jvm.Cond.fieldLink "GOST28147Engine" (25 : Nat) "GOST28147Engine" "workingKey" "[I") ∈ lw_all := lw_g (lw_at lw_m1 52 rfl) rfl
theorem q60 : (Jvm.Cond.fieldLink "GOST28147Engine" (89 : Nat) "GOST28147Engine" "forEncryption" "Z") ∈ lw_all := lw_g (lw_at lw_m1 53 rfl) rfl
theorem q61 : (Jvm.Cond.fieldLink "GOST28147Engine" (33 : Nat) "GOST28147Engine" "S" "[B") ∈ lw_all := lw_g (lw_at lw_m1 54 rfl) rfl
theorem q62 : (Jvm.Cond.lays "GOST28147Engine" "GOST28147Engine" "workingKey" "[I") ∈ lw_all := lw_g (lw_at lw_m1 55 rfl) rfl
theorem q63 : (Jvm.Cond.soleField "GOST28147Engine" "workingKey") ∈ lw_all := lw_g (lw_at lw_m1 56 rfl) rfl
theorem q64 : (Jvm.Cond.lays "GOST28147Engine" "GOST28147Engine" "forEncryption" "Z") ∈ lw_all := lw_g (lw_at lw_m1 57 rfl) rfl
theorem q65 : (Jvm.Cond.soleField "GOST28147Engine" "forEncryption") ∈ lw_all := lw_g (lw_at lw_m1 58 rfl) rfl
theorem q66 : (Jvm.Cond.lays "GOST28147Engine" "GOST28147Engine" "S" "[B") ∈ lw_all := lw_g (lw_at lw_m1 59 rfl) rfl
theorem q67 : (Jvm.Cond.soleField "GOST28147Engine" "S") ∈ lw_all := lw_g (lw_at lw_m1 60 rfl) rfl
theorem q68 : (Jvm.Cond.superclass "GOST28147Engine" "java/lang/Object") ∈ lw_all := lw_g (lw_at lw_m1 61 rfl) rfl
theorem q92 : (Jvm.Cond.castable "GOST28147Engine" "BlockCipher") ∈ lw_tbl := lw_at lw_m1 85 rfl
theorem q93 : (Jvm.Cond.selects "GOST28147Engine" ({ cls := "BlockCipher", name := "init", desc := "(ZLCipherParameters;)V" } : Jvm.MethodName) ({ cls := "GOST28147Engine", name := "init", desc := "(ZLCipherParameters;)V" } : Jvm.MethodName)) ∈ lw_all := lw_g (lw_at lw_m1 86 rfl) rfl
theorem q94 : (Jvm.Cond.unhidden "GOST28147Engine" "init" "(ZLCipherParameters;)V") ∈ lw_tbl := lw_at lw_m1 87 rfl
theorem q95 : (Jvm.Cond.instanceMethod ({ cls := "GOST28147Engine", name := "init", desc := "(ZLCipherParameters;)V" } : Jvm.MethodName)) ∈ lw_all := lw_g (lw_at lw_m1 88 rfl) rfl
theorem q96 : (Jvm.Cond.publicMethod ({ cls := "GOST28147Engine", name := "init", desc := "(ZLCipherParameters;)V" } : Jvm.MethodName)) ∈ lw_tbl := lw_at lw_m1 89 rfl
theorem q97 : (Jvm.Cond.code ({ cls := "GOST28147Engine", name := "init", desc := "(ZLCipherParameters;)V" } : Jvm.MethodName) prog_4_method_3_code (5 : Nat) (Option.none : Option Jvm.ClassFile.FieldType)) ∈ lw_all := lw_g (lw_at lw_m1 90 rfl) rfl
theorem q98 : (Jvm.Cond.classLink "GOST28147Engine" (36 : Nat) "ParametersWithSBox") ∈ lw_all := lw_g (lw_at lw_m1 91 rfl) rfl
theorem q99 : (Jvm.Cond.methodLink "GOST28147Engine" (38 : Nat) ({ cls := "ParametersWithSBox", name := "getSBox", desc := "()[B" } : Jvm.MethodName)) ∈ lw_all := lw_g (lw_at lw_m1 92 rfl) rfl
theorem q171 : (Jvm.Cond.classLink "GOST28147Engine" (42 : Nat) "java/lang/IllegalArgumentException") ∈ lw_all := lw_g (lw_at lw_m1 164 rfl) rfl
theorem q180 : (Jvm.Cond.stringRef "GOST28147Engine" (44 : Nat) "invalid S-box passed to GOST28147 init") ∈ lw_tbl := lw_at lw_m1 173 rfl
theorem q181 : (Jvm.Cond.methodLink "GOST28147Engine" (46 : Nat) ({ cls := "java/lang/IllegalArgumentException", name := "<init>", desc := "(Ljava/lang/String;)V" } : Jvm.MethodName)) ∈ lw_all := lw_g (lw_at lw_m1 174 rfl) rfl
theorem q187 : (Jvm.Cond.methodLink "GOST28147Engine" (49 : Nat) ({ cls := "OwnArrays", name := "clone", desc := "([B)[B" } : Jvm.MethodName)) ∈ lw_all := lw_g (lw_at lw_m1 180 rfl) rfl
theorem q197 : (Jvm.Cond.methodLink "GOST28147Engine" (55 : Nat) ({ cls := "ParametersWithSBox", name := "getParameters", desc := "()LCipherParameters;" } : Jvm.MethodName)) ∈ lw_all := lw_g (lw_at lw_m1 190 rfl) rfl
theorem q201 : (Jvm.Cond.classLink "GOST28147Engine" (59 : Nat) "KeyParameter") ∈ lw_all := lw_g (lw_at lw_m1 194 rfl) rfl
theorem q202 : (Jvm.Cond.methodLink "GOST28147Engine" (61 : Nat) ({ cls := "KeyParameter", name := "getKey", desc := "()[B" } : Jvm.MethodName)) ∈ lw_all := lw_g (lw_at lw_m1 195 rfl) rfl
theorem q206 : (Jvm.Cond.methodLink "GOST28147Engine" (64 : Nat) ({ cls := "GOST28147Engine", name := "generateWorkingKey", desc := "(Z[B)[I" } : Jvm.MethodName)) ∈ lw_all := lw_g (lw_at lw_m1 199 rfl) rfl
theorem q207 : (Jvm.Cond.privateMethod ({ cls := "GOST28147Engine", name := "generateWorkingKey", desc := "(Z[B)[I" } : Jvm.MethodName)) ∈ lw_tbl := lw_at lw_m1 200 rfl
theorem q208 : (Jvm.Cond.instanceMethod ({ cls := "GOST28147Engine", name := "generateWorkingKey", desc := "(Z[B)[I" } : Jvm.MethodName)) ∈ lw_all := lw_g (lw_at lw_m1 201 rfl) rfl
theorem q209 : (Jvm.Cond.code ({ cls := "GOST28147Engine", name := "generateWorkingKey", desc := "(Z[B)[I" } : Jvm.MethodName) prog_4_method_5_code (5 : Nat) (Option.some (Jvm.ClassFile.FieldType.array Jvm.ClassFile.FieldType.int))) ∈ lw_all := lw_g (lw_at lw_m1 202 rfl) rfl
theorem q210 : (Jvm.Cond.stringRef "GOST28147Engine" (93 : Nat) "Key length invalid. Key needs to be 32 byte - 256 bit!!!") ∈ lw_tbl := lw_at lw_m1 203 rfl
theorem q211 : (Jvm.Cond.methodLink "GOST28147Engine" (95 : Nat) ({ cls := "GOST28147Engine", name := "bytesToint", desc := "([BI)I" } : Jvm.MethodName)) ∈ lw_all := lw_g (lw_at lw_m1 204 rfl) rfl
theorem q212 : (Jvm.Cond.privateMethod ({ cls := "GOST28147Engine", name := "bytesToint", desc := "([BI)I" } : Jvm.MethodName)) ∈ lw_tbl := lw_at lw_m1 205 rfl
theorem q213 : (Jvm.Cond.instanceMethod ({ cls := "GOST28147Engine", name := "bytesToint", desc := "([BI)I" } : Jvm.MethodName)) ∈ lw_all := lw_g (lw_at lw_m1 206 rfl) rfl
theorem q214 : (Jvm.Cond.code ({ cls := "GOST28147Engine", name := "bytesToint", desc := "([BI)I" } : Jvm.MethodName) prog_4_method_8_code (3 : Nat) (Option.some Jvm.ClassFile.FieldType.int)) ∈ lw_all := lw_g (lw_at lw_m1 207 rfl) rfl
theorem q215 : (Jvm.Cond.constant "GOST28147Engine" (107 : Nat) (-16777216 : Int32)) ∈ lw_all := lw_g (lw_at lw_m1 208 rfl) rfl
theorem q216 : (Jvm.Cond.constant "GOST28147Engine" (108 : Nat) (16711680 : Int32)) ∈ lw_all := lw_g (lw_at lw_m1 209 rfl) rfl
theorem q217 : (Jvm.Cond.constant "GOST28147Engine" (109 : Nat) (65280 : Int32)) ∈ lw_all := lw_g (lw_at lw_m1 210 rfl) rfl
theorem q218 : (Jvm.Cond.stringRef "GOST28147Engine" (68 : Nat) "left out") ∈ lw_tbl := lw_at lw_m1 211 rfl
theorem q223 : (Jvm.Cond.selects "GOST28147Engine" ({ cls := "BlockCipher", name := "processBlock", desc := "([BI[BI)I" } : Jvm.MethodName) ({ cls := "GOST28147Engine", name := "processBlock", desc := "([BI[BI)I" } : Jvm.MethodName)) ∈ lw_all := lw_g (lw_at lw_m1 216 rfl) rfl
theorem q224 : (Jvm.Cond.unhidden "GOST28147Engine" "processBlock" "([BI[BI)I") ∈ lw_tbl := lw_at lw_m1 217 rfl
theorem q225 : (Jvm.Cond.instanceMethod ({ cls := "GOST28147Engine", name := "processBlock", desc := "([BI[BI)I" } : Jvm.MethodName)) ∈ lw_all := lw_g (lw_at lw_m1 218 rfl) rfl
theorem q226 : (Jvm.Cond.publicMethod ({ cls := "GOST28147Engine", name := "processBlock", desc := "([BI[BI)I" } : Jvm.MethodName)) ∈ lw_tbl := lw_at lw_m1 219 rfl
theorem q227 : (Jvm.Cond.code ({ cls := "GOST28147Engine", name := "processBlock", desc := "([BI[BI)I" } : Jvm.MethodName) prog_4_method_4_code (5 : Nat) (Option.some Jvm.ClassFile.FieldType.int)) ∈ lw_all := lw_g (lw_at lw_m1 220 rfl) rfl
theorem q228 : (Jvm.Cond.classLink "GOST28147Engine" (70 : Nat) "java/lang/IllegalStateException") ∈ lw_all := lw_g (lw_at lw_m1 221 rfl) rfl
theorem q229 : (Jvm.Cond.stringRef "GOST28147Engine" (72 : Nat) "GOST28147 engine not initialised") ∈ lw_tbl := lw_at lw_m1 222 rfl
theorem q230 : (Jvm.Cond.methodLink "GOST28147Engine" (74 : Nat) ({ cls := "java/lang/IllegalStateException", name := "<init>", desc := "(Ljava/lang/String;)V" } : Jvm.MethodName)) ∈ lw_all := lw_g (lw_at lw_m1 223 rfl) rfl
theorem q231 : (Jvm.Cond.classLink "GOST28147Engine" (75 : Nat) "DataLengthException") ∈ lw_all := lw_g (lw_at lw_m1 224 rfl) rfl
theorem q241 : (Jvm.Cond.stringRef "GOST28147Engine" (77 : Nat) "input buffer too short") ∈ lw_tbl := lw_at lw_m1 234 rfl
theorem q242 : (Jvm.Cond.methodLink "GOST28147Engine" (79 : Nat) ({ cls := "DataLengthException", name := "<init>", desc := "(Ljava/lang/String;)V" } : Jvm.MethodName)) ∈ lw_all := lw_g (lw_at lw_m1 235 rfl) rfl
theorem q252 : (Jvm.Cond.classLink "GOST28147Engine" (80 : Nat) "OutputLengthException") ∈ lw_all := lw_g (lw_at lw_m2 5 rfl) rfl
theorem q262 : (Jvm.Cond.stringRef "GOST28147Engine" (82 : Nat) "output buffer too short") ∈ lw_tbl := lw_at lw_m2 15 rfl
theorem q263 : (Jvm.Cond.methodLink "GOST28147Engine" (84 : Nat) ({ cls := "OutputLengthException", name := "<init>", desc := "(Ljava/lang/String;)V" } : Jvm.MethodName)) ∈ lw_all := lw_g (lw_at lw_m2 16 rfl) rfl
theorem q269 : (Jvm.Cond.methodLink "GOST28147Engine" (85 : Nat) ({ cls := "GOST28147Engine", name := "GOST28147Func", desc := "([I[BI[BI)V" } : Jvm.MethodName)) ∈ lw_all := lw_g (lw_at lw_m2 22 rfl) rfl
theorem q270 : (Jvm.Cond.privateMethod ({ cls := "GOST28147Engine", name := "GOST28147Func", desc := "([I[BI[BI)V" } : Jvm.MethodName)) ∈ lw_tbl := lw_at lw_m2 23 rfl
theorem q271 : (Jvm.Cond.instanceMethod ({ cls := "GOST28147Engine", name := "GOST28147Func", desc := "([I[BI[BI)V" } : Jvm.MethodName)) ∈ lw_all := lw_g (lw_at lw_m2 24 rfl) rfl
theorem q272 : (Jvm.Cond.code ({ cls := "GOST28147Engine", name := "GOST28147Func", desc := "([I[BI[BI)V" } : Jvm.MethodName) prog_4_method_7_code (11 : Nat) (Option.none : Option Jvm.ClassFile.FieldType)) ∈ lw_all := lw_g (lw_at lw_m2 25 rfl) rfl
theorem q273 : (Jvm.Cond.methodLink "GOST28147Engine" (99 : Nat) ({ cls := "GOST28147Engine", name := "GOST28147_mainStep", desc := "(II)I" } : Jvm.MethodName)) ∈ lw_all := lw_g (lw_at lw_m2 26 rfl) rfl
theorem q274 : (Jvm.Cond.privateMethod ({ cls := "GOST28147Engine", name := "GOST28147_mainStep", desc := "(II)I" } : Jvm.MethodName)) ∈ lw_tbl := lw_at lw_m2 27 rfl
theorem q275 : (Jvm.Cond.instanceMethod ({ cls := "GOST28147Engine", name := "GOST28147_mainStep", desc := "(II)I" } : Jvm.MethodName)) ∈ lw_all := lw_g (lw_at lw_m2 28 rfl) rfl
theorem q276 : (Jvm.Cond.code ({ cls := "GOST28147Engine", name := "GOST28147_mainStep", desc := "(II)I" } : Jvm.MethodName) prog_4_method_6_code (5 : Nat) (Option.some Jvm.ClassFile.FieldType.int)) ∈ lw_all := lw_g (lw_at lw_m2 29 rfl) rfl
theorem q277 : (Jvm.Cond.methodLink "GOST28147Engine" (103 : Nat) ({ cls := "GOST28147Engine", name := "intTobytes", desc := "(I[BI)V" } : Jvm.MethodName)) ∈ lw_all := lw_g (lw_at lw_m2 30 rfl) rfl
theorem q278 : (Jvm.Cond.privateMethod ({ cls := "GOST28147Engine", name := "intTobytes", desc := "(I[BI)V" } : Jvm.MethodName)) ∈ lw_tbl := lw_at lw_m2 31 rfl
theorem q279 : (Jvm.Cond.instanceMethod ({ cls := "GOST28147Engine", name := "intTobytes", desc := "(I[BI)V" } : Jvm.MethodName)) ∈ lw_all := lw_g (lw_at lw_m2 32 rfl) rfl
theorem q280 : (Jvm.Cond.code ({ cls := "GOST28147Engine", name := "intTobytes", desc := "(I[BI)V" } : Jvm.MethodName) prog_4_method_9_code (4 : Nat) (Option.none : Option Jvm.ClassFile.FieldType)) ∈ lw_all := lw_g (lw_at lw_m2 33 rfl) rfl
theorem in_X2 : ∀ w ∈ wsX20, w ∈ lw_all := lw_in wsX20 [62, 64, 66] (by decide +kernel) (by decide +kernel)
end
section
/-! GostDesk -/
set_option maxRecDepth 100000
def RX1 : String := "GostDesk"
def TX1 : u_T := fun k => match k with
  | 0 => ("GostDesk", "key", "[B", true)
  | 1 => ("GostDesk", "block", "[B", true)
  | _ => ("GostDesk", "out", "[B", true)
def tyX1 : Nat → FieldType := fun k => match k with
  | 0 => .array .byte
  | 1 => .array .byte
  | _ => .array .byte
abbrev wsX10 : List Cond := u_ws RX1 TX1 3
theorem nmX1 : ∀ a, a < 3 → ∀ b, b < 3 → a ≠ b → (TX1 a).2.1 ≠ (TX1 b).2.1 := by decide +kernel
theorem tyX1_ok : ∀ k, k < 3 → parseFieldDescriptor (TX1 k).2.2.1 = some (tyX1 k) := by decide +kernel
abbrev cX1_init : ByteArray := prog_5_method_1_code
def yX1_init : MethodName := ⟨RX1, "<init>", "()V"⟩
def dkwX1_init_1 : List UInt8 := [188, 8, 181, 0, 16, 177]
abbrev dktX1_init_1 : List UInt8 := dkwX1_init_1 ++ []
def dkwX1_init_0 : List UInt8 := [42, 183, 0, 1, 42, 16, 32, 188, 8, 181, 0, 7, 42, 16, 8, 188, 8, 181, 0, 13, 42, 16, 8]
abbrev dktX1_init_0 : List UInt8 := dkwX1_init_0 ++ dktX1_init_1
theorem dksX1_init_0 : cX1_init.data.toList.drop 0 = dktX1_init_0 := by decide +kernel
theorem dksX1_init_1 : cX1_init.data.toList.drop 23 = dktX1_init_1 := dk_seg dksX1_init_0 23 rfl rfl
theorem dX1_init_0 : decode cX1_init 0 = .ok (.aload_n 0, 1) := dk_42 (dk_at dksX1_init_0 0 rfl rfl)
theorem dX1_init_1 : decode cX1_init 1 = .ok (.invokespecial 1, 3) := dk_183 0 1 (dk_at dksX1_init_0 1 rfl rfl)
theorem dX1_init_4 : decode cX1_init 4 = .ok (.aload_n 0, 1) := dk_42 (dk_at dksX1_init_0 4 rfl rfl)
theorem dX1_init_5 : decode cX1_init 5 = .ok (.bipush 32, 2) := dk_16 32 (dk_at dksX1_init_0 5 rfl rfl)
theorem dX1_init_7 : decode cX1_init 7 = .ok (.newarray .byte, 2) := dk_188_8 (dk_at dksX1_init_0 7 rfl rfl)
theorem dX1_init_9 : decode cX1_init 9 = .ok (.putfield 7, 3) := dk_181 0 7 (dk_at dksX1_init_0 9 rfl rfl)
theorem dX1_init_12 : decode cX1_init 12 = .ok (.aload_n 0, 1) := dk_42 (dk_at dksX1_init_0 12 rfl rfl)
theorem dX1_init_13 : decode cX1_init 13 = .ok (.bipush 8, 2) := dk_16 8 (dk_at dksX1_init_0 13 rfl rfl)
theorem dX1_init_15 : decode cX1_init 15 = .ok (.newarray .byte, 2) := dk_188_8 (dk_at dksX1_init_0 15 rfl rfl)
theorem dX1_init_17 : decode cX1_init 17 = .ok (.putfield 13, 3) := dk_181 0 13 (dk_at dksX1_init_0 17 rfl rfl)
theorem dX1_init_20 : decode cX1_init 20 = .ok (.aload_n 0, 1) := dk_42 (dk_at dksX1_init_0 20 rfl rfl)
theorem dX1_init_21 : decode cX1_init 21 = .ok (.bipush 8, 2) := dk_16 8 (dk_at dksX1_init_0 21 rfl rfl)
theorem dX1_init_23 : decode cX1_init 23 = .ok (.newarray .byte, 2) := dk_188_8 (dk_at dksX1_init_1 0 rfl rfl)
theorem dX1_init_25 : decode cX1_init 25 = .ok (.putfield 16, 3) := dk_181 0 16 (dk_at dksX1_init_1 2 rfl rfl)
theorem dX1_init_28 : decode cX1_init 28 = .ok (.return_, 1) := dk_177 (dk_at dksX1_init_1 5 rfl rfl)
abbrev cX1_lock : ByteArray := prog_5_method_7_code
def yX1_lock : MethodName := ⟨RX1, "lock", "(I)V"⟩
def dkwX1_lock_0 : List UInt8 := [42, 4, 27, 182, 0, 45, 177]
abbrev dktX1_lock_0 : List UInt8 := dkwX1_lock_0 ++ []
theorem dksX1_lock_0 : cX1_lock.data.toList.drop 0 = dktX1_lock_0 := by decide +kernel
theorem dX1_lock_0 : decode cX1_lock 0 = .ok (.aload_n 0, 1) := dk_42 (dk_at dksX1_lock_0 0 rfl rfl)
theorem dX1_lock_1 : decode cX1_lock 1 = .ok (.iconst 1, 1) := dk_4 (dk_at dksX1_lock_0 1 rfl rfl)
theorem dX1_lock_2 : decode cX1_lock 2 = .ok (.iload_n 1, 1) := dk_27 (dk_at dksX1_lock_0 2 rfl rfl)
theorem dX1_lock_3 : decode cX1_lock 3 = .ok (.invokevirtual 45, 3) := dk_182 0 45 (dk_at dksX1_lock_0 3 rfl rfl)
theorem dX1_lock_6 : decode cX1_lock 6 = .ok (.return_, 1) := dk_177 (dk_at dksX1_lock_0 6 rfl rfl)
abbrev cX1_run : ByteArray := prog_5_method_5_code
def yX1_run : MethodName := ⟨RX1, "run", "(ZI)V"⟩
def dkwX1_run_3 : List UInt8 := [180, 0, 13, 3, 42, 180, 0, 16, 3, 185, 0, 41, 5, 0, 87, 177]
abbrev dktX1_run_3 : List UInt8 := dkwX1_run_3 ++ []
def dkwX1_run_2 : List UInt8 := [58, 5, 25, 5, 27, 187, 0, 30, 89, 25, 4, 183, 0, 32, 185, 0, 35, 3, 0, 25, 5, 42]
abbrev dktX1_run_2 : List UInt8 := dkwX1_run_2 ++ dktX1_run_3
def dkwX1_run_1 : List UInt8 := [21, 5, 42, 180, 0, 7, 21, 5, 51, 84, 132, 5, 1, 167, 255, 235, 187, 0, 27, 89, 183, 0, 29]
abbrev dktX1_run_1 : List UInt8 := dkwX1_run_1 ++ dktX1_run_2
def dkwX1_run_0 : List UInt8 := [28, 6, 126, 184, 0, 23, 62, 29, 188, 8, 58, 4, 3, 54, 5, 21, 5, 29, 162, 0, 21, 25, 4]
abbrev dktX1_run_0 : List UInt8 := dkwX1_run_0 ++ dktX1_run_1
theorem dksX1_run_0 : cX1_run.data.toList.drop 0 = dktX1_run_0 := by decide +kernel
theorem dksX1_run_1 : cX1_run.data.toList.drop 23 = dktX1_run_1 := dk_seg dksX1_run_0 23 rfl rfl
theorem dksX1_run_2 : cX1_run.data.toList.drop 46 = dktX1_run_2 := dk_seg dksX1_run_1 23 rfl rfl
theorem dksX1_run_3 : cX1_run.data.toList.drop 68 = dktX1_run_3 := dk_seg dksX1_run_2 22 rfl rfl
theorem dX1_run_0 : decode cX1_run 0 = .ok (.iload_n 2, 1) := dk_28 (dk_at dksX1_run_0 0 rfl rfl)
theorem dX1_run_1 : decode cX1_run 1 = .ok (.iconst 3, 1) := dk_6 (dk_at dksX1_run_0 1 rfl rfl)
theorem dX1_run_2 : decode cX1_run 2 = .ok (.iand, 1) := dk_126 (dk_at dksX1_run_0 2 rfl rfl)
theorem dX1_run_3 : decode cX1_run 3 = .ok (.invokestatic 23, 3) := dk_184 0 23 (dk_at dksX1_run_0 3 rfl rfl)
theorem dX1_run_6 : decode cX1_run 6 = .ok (.istore_n 3, 1) := dk_62 (dk_at dksX1_run_0 6 rfl rfl)
theorem dX1_run_7 : decode cX1_run 7 = .ok (.iload_n 3, 1) := dk_29 (dk_at dksX1_run_0 7 rfl rfl)
theorem dX1_run_8 : decode cX1_run 8 = .ok (.newarray .byte, 2) := dk_188_8 (dk_at dksX1_run_0 8 rfl rfl)
theorem dX1_run_10 : decode cX1_run 10 = .ok (.astore 4, 2) := dk_58 4 (dk_at dksX1_run_0 10 rfl rfl)
theorem dX1_run_12 : decode cX1_run 12 = .ok (.iconst 0, 1) := dk_3 (dk_at dksX1_run_0 12 rfl rfl)
theorem dX1_run_13 : decode cX1_run 13 = .ok (.istore 5, 2) := dk_54 5 (dk_at dksX1_run_0 13 rfl rfl)
theorem dX1_run_15 : decode cX1_run 15 = .ok (.iload 5, 2) := dk_21 5 (dk_at dksX1_run_0 15 rfl rfl)
theorem dX1_run_17 : decode cX1_run 17 = .ok (.iload_n 3, 1) := dk_29 (dk_at dksX1_run_0 17 rfl rfl)
theorem dX1_run_18 : decode cX1_run 18 = .ok (.if_icmp .ge 21, 3) := dk_162 0 21 (dk_at dksX1_run_0 18 rfl rfl)
theorem dX1_run_21 : decode cX1_run 21 = .ok (.aload 4, 2) := dk_25 4 (dk_at dksX1_run_0 21 rfl rfl)
theorem dX1_run_23 : decode cX1_run 23 = .ok (.iload 5, 2) := dk_21 5 (dk_at dksX1_run_1 0 rfl rfl)
theorem dX1_run_25 : decode cX1_run 25 = .ok (.aload_n 0, 1) := dk_42 (dk_at dksX1_run_1 2 rfl rfl)
theorem dX1_run_26 : decode cX1_run 26 = .ok (.getfield 7, 3) := dk_180 0 7 (dk_at dksX1_run_1 3 rfl rfl)
theorem dX1_run_29 : decode cX1_run 29 = .ok (.iload 5, 2) := dk_21 5 (dk_at dksX1_run_1 6 rfl rfl)
theorem dX1_run_31 : decode cX1_run 31 = .ok (.baload, 1) := dk_51 (dk_at dksX1_run_1 8 rfl rfl)
theorem dX1_run_32 : decode cX1_run 32 = .ok (.bastore, 1) := dk_84 (dk_at dksX1_run_1 9 rfl rfl)
theorem dX1_run_33 : decode cX1_run 33 = .ok (.iinc 5 1, 3) := dk_132 5 1 (dk_at dksX1_run_1 10 rfl rfl)
theorem dX1_run_36 : decode cX1_run 36 = .ok (.goto (-21), 3) := dk_167 255 235 (dk_at dksX1_run_1 13 rfl rfl)
theorem dX1_run_39 : decode cX1_run 39 = .ok (.new 27, 3) := dk_187 0 27 (dk_at dksX1_run_1 16 rfl rfl)
theorem dX1_run_42 : decode cX1_run 42 = .ok (.dup, 1) := dk_89 (dk_at dksX1_run_1 19 rfl rfl)
theorem dX1_run_43 : decode cX1_run 43 = .ok (.invokespecial 29, 3) := dk_183 0 29 (dk_at dksX1_run_1 20 rfl rfl)
theorem dX1_run_46 : decode cX1_run 46 = .ok (.astore 5, 2) := dk_58 5 (dk_at dksX1_run_2 0 rfl rfl)
theorem dX1_run_48 : decode cX1_run 48 = .ok (.aload 5, 2) := dk_25 5 (dk_at dksX1_run_2 2 rfl rfl)
theorem dX1_run_50 : decode cX1_run 50 = .ok (.iload_n 1, 1) := dk_27 (dk_at dksX1_run_2 4 rfl rfl)
theorem dX1_run_51 : decode cX1_run 51 = .ok (.new 30, 3) := dk_187 0 30 (dk_at dksX1_run_2 5 rfl rfl)
theorem dX1_run_54 : decode cX1_run 54 = .ok (.dup, 1) := dk_89 (dk_at dksX1_run_2 8 rfl rfl)
theorem dX1_run_55 : decode cX1_run 55 = .ok (.aload 4, 2) := dk_25 4 (dk_at dksX1_run_2 9 rfl rfl)
theorem dX1_run_57 : decode cX1_run 57 = .ok (.invokespecial 32, 3) := dk_183 0 32 (dk_at dksX1_run_2 11 rfl rfl)
theorem dX1_run_60 : decode cX1_run 60 = .ok (.invokeinterface 35 3, 5) := by decide +kernel
theorem dX1_run_65 : decode cX1_run 65 = .ok (.aload 5, 2) := dk_25 5 (dk_at dksX1_run_2 19 rfl rfl)
theorem dX1_run_67 : decode cX1_run 67 = .ok (.aload_n 0, 1) := dk_42 (dk_at dksX1_run_2 21 rfl rfl)
theorem dX1_run_68 : decode cX1_run 68 = .ok (.getfield 13, 3) := dk_180 0 13 (dk_at dksX1_run_3 0 rfl rfl)
theorem dX1_run_71 : decode cX1_run 71 = .ok (.iconst 0, 1) := dk_3 (dk_at dksX1_run_3 3 rfl rfl)
theorem dX1_run_72 : decode cX1_run 72 = .ok (.aload_n 0, 1) := dk_42 (dk_at dksX1_run_3 4 rfl rfl)
theorem dX1_run_73 : decode cX1_run 73 = .ok (.getfield 16, 3) := dk_180 0 16 (dk_at dksX1_run_3 5 rfl rfl)
theorem dX1_run_76 : decode cX1_run 76 = .ok (.iconst 0, 1) := dk_3 (dk_at dksX1_run_3 8 rfl rfl)
theorem dX1_run_77 : decode cX1_run 77 = .ok (.invokeinterface 41 5, 5) := by decide +kernel
theorem dX1_run_82 : decode cX1_run 82 = .ok (.pop, 1) := dk_87 (dk_at dksX1_run_3 14 rfl rfl)
theorem dX1_run_83 : decode cX1_run 83 = .ok (.return_, 1) := dk_177 (dk_at dksX1_run_3 15 rfl rfl)
abbrev cX1_size : ByteArray := prog_5_method_6_code
def yX1_size : MethodName := ⟨RX1, "size", "(I)I"⟩
theorem dX1_size_0 : decode cX1_size 0 = .ok (.bipush 32, 2) := by decide +kernel
theorem dX1_size_2 : decode cX1_size 2 = .ok (.ireturn, 1) := by decide +kernel
abbrev cX1_open : ByteArray := prog_5_method_8_code
def yX1_open : MethodName := ⟨RX1, "open", "(I)V"⟩
def dkwX1_open_0 : List UInt8 := [42, 3, 27, 182, 0, 45, 177]
abbrev dktX1_open_0 : List UInt8 := dkwX1_open_0 ++ []
theorem dksX1_open_0 : cX1_open.data.toList.drop 0 = dktX1_open_0 := by decide +kernel
theorem dX1_open_0 : decode cX1_open 0 = .ok (.aload_n 0, 1) := dk_42 (dk_at dksX1_open_0 0 rfl rfl)
theorem dX1_open_1 : decode cX1_open 1 = .ok (.iconst 0, 1) := dk_3 (dk_at dksX1_open_0 1 rfl rfl)
theorem dX1_open_2 : decode cX1_open 2 = .ok (.iload_n 1, 1) := dk_27 (dk_at dksX1_open_0 2 rfl rfl)
theorem dX1_open_3 : decode cX1_open 3 = .ok (.invokevirtual 45, 3) := dk_182 0 45 (dk_at dksX1_open_0 3 rfl rfl)
theorem dX1_open_6 : decode cX1_open 6 = .ok (.return_, 1) := dk_177 (dk_at dksX1_open_0 6 rfl rfl)
abbrev cX1_again : ByteArray := prog_5_method_9_code
def yX1_again : MethodName := ⟨RX1, "again", "()V"⟩
def dkwX1_again_1 : List UInt8 := [167, 255, 235, 177]
abbrev dktX1_again_1 : List UInt8 := dkwX1_again_1 ++ []
def dkwX1_again_0 : List UInt8 := [3, 60, 27, 16, 8, 162, 0, 21, 42, 180, 0, 13, 27, 42, 180, 0, 16, 27, 51, 84, 132, 1, 1]
abbrev dktX1_again_0 : List UInt8 := dkwX1_again_0 ++ dktX1_again_1
theorem dksX1_again_0 : cX1_again.data.toList.drop 0 = dktX1_again_0 := by decide +kernel
theorem dksX1_again_1 : cX1_again.data.toList.drop 23 = dktX1_again_1 := dk_seg dksX1_again_0 23 rfl rfl
theorem dX1_again_0 : decode cX1_again 0 = .ok (.iconst 0, 1) := dk_3 (dk_at dksX1_again_0 0 rfl rfl)
theorem dX1_again_1 : decode cX1_again 1 = .ok (.istore_n 1, 1) := dk_60 (dk_at dksX1_again_0 1 rfl rfl)
theorem dX1_again_2 : decode cX1_again 2 = .ok (.iload_n 1, 1) := dk_27 (dk_at dksX1_again_0 2 rfl rfl)
theorem dX1_again_3 : decode cX1_again 3 = .ok (.bipush 8, 2) := dk_16 8 (dk_at dksX1_again_0 3 rfl rfl)
theorem dX1_again_5 : decode cX1_again 5 = .ok (.if_icmp .ge 21, 3) := dk_162 0 21 (dk_at dksX1_again_0 5 rfl rfl)
theorem dX1_again_8 : decode cX1_again 8 = .ok (.aload_n 0, 1) := dk_42 (dk_at dksX1_again_0 8 rfl rfl)
theorem dX1_again_9 : decode cX1_again 9 = .ok (.getfield 13, 3) := dk_180 0 13 (dk_at dksX1_again_0 9 rfl rfl)
theorem dX1_again_12 : decode cX1_again 12 = .ok (.iload_n 1, 1) := dk_27 (dk_at dksX1_again_0 12 rfl rfl)
theorem dX1_again_13 : decode cX1_again 13 = .ok (.aload_n 0, 1) := dk_42 (dk_at dksX1_again_0 13 rfl rfl)
theorem dX1_again_14 : decode cX1_again 14 = .ok (.getfield 16, 3) := dk_180 0 16 (dk_at dksX1_again_0 14 rfl rfl)
theorem dX1_again_17 : decode cX1_again 17 = .ok (.iload_n 1, 1) := dk_27 (dk_at dksX1_again_0 17 rfl rfl)
theorem dX1_again_18 : decode cX1_again 18 = .ok (.baload, 1) := dk_51 (dk_at dksX1_again_0 18 rfl rfl)
theorem dX1_again_19 : decode cX1_again 19 = .ok (.bastore, 1) := dk_84 (dk_at dksX1_again_0 19 rfl rfl)
theorem dX1_again_20 : decode cX1_again 20 = .ok (.iinc 1 1, 3) := dk_132 1 1 (dk_at dksX1_again_0 20 rfl rfl)
theorem dX1_again_23 : decode cX1_again 23 = .ok (.goto (-21), 3) := dk_167 255 235 (dk_at dksX1_again_1 0 rfl rfl)
theorem dX1_again_26 : decode cX1_again 26 = .ok (.return_, 1) := dk_177 (dk_at dksX1_again_1 3 rfl rfl)
abbrev cX1_key : ByteArray := prog_5_method_3_code
def yX1_key : MethodName := ⟨RX1, "key", "(IIIII)V"⟩
def dkwX1_key_2 : List UInt8 := [21, 6, 16, 12, 96, 21, 5, 184, 0, 19, 177]
abbrev dktX1_key_2 : List UInt8 := dkwX1_key_2 ++ []
def dkwX1_key_1 : List UInt8 := [96, 29, 184, 0, 19, 42, 180, 0, 7, 21, 6, 16, 8, 96, 21, 4, 184, 0, 19, 42, 180, 0, 7]
abbrev dktX1_key_1 : List UInt8 := dkwX1_key_1 ++ dktX1_key_2
def dkwX1_key_0 : List UInt8 := [27, 4, 126, 7, 120, 54, 6, 42, 180, 0, 7, 21, 6, 28, 184, 0, 19, 42, 180, 0, 7, 21, 6, 7]
abbrev dktX1_key_0 : List UInt8 := dkwX1_key_0 ++ dktX1_key_1
theorem dksX1_key_0 : cX1_key.data.toList.drop 0 = dktX1_key_0 := by decide +kernel
theorem dksX1_key_1 : cX1_key.data.toList.drop 24 = dktX1_key_1 := dk_seg dksX1_key_0 24 rfl rfl
theorem dksX1_key_2 : cX1_key.data.toList.drop 47 = dktX1_key_2 := dk_seg dksX1_key_1 23 rfl rfl
theorem dX1_key_0 : decode cX1_key 0 = .ok (.iload_n 1, 1) := dk_27 (dk_at dksX1_key_0 0 rfl rfl)
theorem dX1_key_1 : decode cX1_key 1 = .ok (.iconst 1, 1) := dk_4 (dk_at dksX1_key_0 1 rfl rfl)
theorem dX1_key_2 : decode cX1_key 2 = .ok (.iand, 1) := dk_126 (dk_at dksX1_key_0 2 rfl rfl)
theorem dX1_key_3 : decode cX1_key 3 = .ok (.iconst 4, 1) := dk_7 (dk_at dksX1_key_0 3 rfl rfl)
theorem dX1_key_4 : decode cX1_key 4 = .ok (.ishl, 1) := dk_120 (dk_at dksX1_key_0 4 rfl rfl)
theorem dX1_key_5 : decode cX1_key 5 = .ok (.istore 6, 2) := dk_54 6 (dk_at dksX1_key_0 5 rfl rfl)
theorem dX1_key_7 : decode cX1_key 7 = .ok (.aload_n 0, 1) := dk_42 (dk_at dksX1_key_0 7 rfl rfl)
theorem dX1_key_8 : decode cX1_key 8 = .ok (.getfield 7, 3) := dk_180 0 7 (dk_at dksX1_key_0 8 rfl rfl)
theorem dX1_key_11 : decode cX1_key 11 = .ok (.iload 6, 2) := dk_21 6 (dk_at dksX1_key_0 11 rfl rfl)
theorem dX1_key_13 : decode cX1_key 13 = .ok (.iload_n 2, 1) := dk_28 (dk_at dksX1_key_0 13 rfl rfl)
theorem dX1_key_14 : decode cX1_key 14 = .ok (.invokestatic 19, 3) := dk_184 0 19 (dk_at dksX1_key_0 14 rfl rfl)
theorem dX1_key_17 : decode cX1_key 17 = .ok (.aload_n 0, 1) := dk_42 (dk_at dksX1_key_0 17 rfl rfl)
theorem dX1_key_18 : decode cX1_key 18 = .ok (.getfield 7, 3) := dk_180 0 7 (dk_at dksX1_key_0 18 rfl rfl)
theorem dX1_key_21 : decode cX1_key 21 = .ok (.iload 6, 2) := dk_21 6 (dk_at dksX1_key_0 21 rfl rfl)
theorem dX1_key_23 : decode cX1_key 23 = .ok (.iconst 4, 1) := dk_7 (dk_at dksX1_key_0 23 rfl rfl)
theorem dX1_key_24 : decode cX1_key 24 = .ok (.iadd, 1) := dk_96 (dk_at dksX1_key_1 0 rfl rfl)
theorem dX1_key_25 : decode cX1_key 25 = .ok (.iload_n 3, 1) := dk_29 (dk_at dksX1_key_1 1 rfl rfl)
theorem dX1_key_26 : decode cX1_key 26 = .ok (.invokestatic 19, 3) := dk_184 0 19 (dk_at dksX1_key_1 2 rfl rfl)
theorem dX1_key_29 : decode cX1_key 29 = .ok (.aload_n 0, 1) := dk_42 (dk_at dksX1_key_1 5 rfl rfl)
theorem dX1_key_30 : decode cX1_key 30 = .ok (.getfield 7, 3) := dk_180 0 7 (dk_at dksX1_key_1 6 rfl rfl)
theorem dX1_key_33 : decode cX1_key 33 = .ok (.iload 6, 2) := dk_21 6 (dk_at dksX1_key_1 9 rfl rfl)
theorem dX1_key_35 : decode cX1_key 35 = .ok (.bipush 8, 2) := dk_16 8 (dk_at dksX1_key_1 11 rfl rfl)
theorem dX1_key_37 : decode cX1_key 37 = .ok (.iadd, 1) := dk_96 (dk_at dksX1_key_1 13 rfl rfl)
theorem dX1_key_38 : decode cX1_key 38 = .ok (.iload 4, 2) := dk_21 4 (dk_at dksX1_key_1 14 rfl rfl)
theorem dX1_key_40 : decode cX1_key 40 = .ok (.invokestatic 19, 3) := dk_184 0 19 (dk_at dksX1_key_1 16 rfl rfl)
theorem dX1_key_43 : decode cX1_key 43 = .ok (.aload_n 0, 1) := dk_42 (dk_at dksX1_key_1 19 rfl rfl)
theorem dX1_key_44 : decode cX1_key 44 = .ok (.getfield 7, 3) := dk_180 0 7 (dk_at dksX1_key_1 20 rfl rfl)
theorem dX1_key_47 : decode cX1_key 47 = .ok (.iload 6, 2) := dk_21 6 (dk_at dksX1_key_2 0 rfl rfl)
theorem dX1_key_49 : decode cX1_key 49 = .ok (.bipush 12, 2) := dk_16 12 (dk_at dksX1_key_2 2 rfl rfl)
theorem dX1_key_51 : decode cX1_key 51 = .ok (.iadd, 1) := dk_96 (dk_at dksX1_key_2 4 rfl rfl)
theorem dX1_key_52 : decode cX1_key 52 = .ok (.iload 5, 2) := dk_21 5 (dk_at dksX1_key_2 5 rfl rfl)
theorem dX1_key_54 : decode cX1_key 54 = .ok (.invokestatic 19, 3) := dk_184 0 19 (dk_at dksX1_key_2 7 rfl rfl)
theorem dX1_key_57 : decode cX1_key 57 = .ok (.return_, 1) := dk_177 (dk_at dksX1_key_2 10 rfl rfl)
abbrev cX1_word : ByteArray := prog_5_method_2_code
def yX1_word : MethodName := ⟨RX1, "word", "([BII)V"⟩
def dkwX1_word_1 : List UInt8 := [16, 8, 122, 145, 84, 42, 27, 6, 96, 28, 145, 84, 177]
abbrev dktX1_word_1 : List UInt8 := dkwX1_word_1 ++ []
def dkwX1_word_0 : List UInt8 := [42, 27, 28, 16, 24, 122, 145, 84, 42, 27, 4, 96, 28, 16, 16, 122, 145, 84, 42, 27, 5, 96, 28]
abbrev dktX1_word_0 : List UInt8 := dkwX1_word_0 ++ dktX1_word_1
theorem dksX1_word_0 : cX1_word.data.toList.drop 0 = dktX1_word_0 := by decide +kernel
theorem dksX1_word_1 : cX1_word.data.toList.drop 23 = dktX1_word_1 := dk_seg dksX1_word_0 23 rfl rfl
theorem dX1_word_0 : decode cX1_word 0 = .ok (.aload_n 0, 1) := dk_42 (dk_at dksX1_word_0 0 rfl rfl)
theorem dX1_word_1 : decode cX1_word 1 = .ok (.iload_n 1, 1) := dk_27 (dk_at dksX1_word_0 1 rfl rfl)
theorem dX1_word_2 : decode cX1_word 2 = .ok (.iload_n 2, 1) := dk_28 (dk_at dksX1_word_0 2 rfl rfl)
theorem dX1_word_3 : decode cX1_word 3 = .ok (.bipush 24, 2) := dk_16 24 (dk_at dksX1_word_0 3 rfl rfl)
theorem dX1_word_5 : decode cX1_word 5 = .ok (.ishr, 1) := dk_122 (dk_at dksX1_word_0 5 rfl rfl)
theorem dX1_word_6 : decode cX1_word 6 = .ok (.i2b, 1) := dk_145 (dk_at dksX1_word_0 6 rfl rfl)
theorem dX1_word_7 : decode cX1_word 7 = .ok (.bastore, 1) := dk_84 (dk_at dksX1_word_0 7 rfl rfl)
theorem dX1_word_8 : decode cX1_word 8 = .ok (.aload_n 0, 1) := dk_42 (dk_at dksX1_word_0 8 rfl rfl)
theorem dX1_word_9 : decode cX1_word 9 = .ok (.iload_n 1, 1) := dk_27 (dk_at dksX1_word_0 9 rfl rfl)
theorem dX1_word_10 : decode cX1_word 10 = .ok (.iconst 1, 1) := dk_4 (dk_at dksX1_word_0 10 rfl rfl)
theorem dX1_word_11 : decode cX1_word 11 = .ok (.iadd, 1) := dk_96 (dk_at dksX1_word_0 11 rfl rfl)
theorem dX1_word_12 : decode cX1_word 12 = .ok (.iload_n 2, 1) := dk_28 (dk_at dksX1_word_0 12 rfl rfl)
theorem dX1_word_13 : decode cX1_word 13 = .ok (.bipush 16, 2) := dk_16 16 (dk_at dksX1_word_0 13 rfl rfl)
theorem dX1_word_15 : decode cX1_word 15 = .ok (.ishr, 1) := dk_122 (dk_at dksX1_word_0 15 rfl rfl)
theorem dX1_word_16 : decode cX1_word 16 = .ok (.i2b, 1) := dk_145 (dk_at dksX1_word_0 16 rfl rfl)
theorem dX1_word_17 : decode cX1_word 17 = .ok (.bastore, 1) := dk_84 (dk_at dksX1_word_0 17 rfl rfl)
theorem dX1_word_18 : decode cX1_word 18 = .ok (.aload_n 0, 1) := dk_42 (dk_at dksX1_word_0 18 rfl rfl)
theorem dX1_word_19 : decode cX1_word 19 = .ok (.iload_n 1, 1) := dk_27 (dk_at dksX1_word_0 19 rfl rfl)
theorem dX1_word_20 : decode cX1_word 20 = .ok (.iconst 2, 1) := dk_5 (dk_at dksX1_word_0 20 rfl rfl)
theorem dX1_word_21 : decode cX1_word 21 = .ok (.iadd, 1) := dk_96 (dk_at dksX1_word_0 21 rfl rfl)
theorem dX1_word_22 : decode cX1_word 22 = .ok (.iload_n 2, 1) := dk_28 (dk_at dksX1_word_0 22 rfl rfl)
theorem dX1_word_23 : decode cX1_word 23 = .ok (.bipush 8, 2) := dk_16 8 (dk_at dksX1_word_1 0 rfl rfl)
theorem dX1_word_25 : decode cX1_word 25 = .ok (.ishr, 1) := dk_122 (dk_at dksX1_word_1 2 rfl rfl)
theorem dX1_word_26 : decode cX1_word 26 = .ok (.i2b, 1) := dk_145 (dk_at dksX1_word_1 3 rfl rfl)
theorem dX1_word_27 : decode cX1_word 27 = .ok (.bastore, 1) := dk_84 (dk_at dksX1_word_1 4 rfl rfl)
theorem dX1_word_28 : decode cX1_word 28 = .ok (.aload_n 0, 1) := dk_42 (dk_at dksX1_word_1 5 rfl rfl)
theorem dX1_word_29 : decode cX1_word 29 = .ok (.iload_n 1, 1) := dk_27 (dk_at dksX1_word_1 6 rfl rfl)
theorem dX1_word_30 : decode cX1_word 30 = .ok (.iconst 3, 1) := dk_6 (dk_at dksX1_word_1 7 rfl rfl)
theorem dX1_word_31 : decode cX1_word 31 = .ok (.iadd, 1) := dk_96 (dk_at dksX1_word_1 8 rfl rfl)
theorem dX1_word_32 : decode cX1_word 32 = .ok (.iload_n 2, 1) := dk_28 (dk_at dksX1_word_1 9 rfl rfl)
theorem dX1_word_33 : decode cX1_word 33 = .ok (.i2b, 1) := dk_145 (dk_at dksX1_word_1 10 rfl rfl)
theorem dX1_word_34 : decode cX1_word 34 = .ok (.bastore, 1) := dk_84 (dk_at dksX1_word_1 11 rfl rfl)
theorem dX1_word_35 : decode cX1_word 35 = .ok (.return_, 1) := dk_177 (dk_at dksX1_word_1 12 rfl rfl)
abbrev cX1_block : ByteArray := prog_5_method_4_code
def yX1_block : MethodName := ⟨RX1, "block", "(II)V"⟩
def dkwX1_block_0 : List UInt8 := [42, 180, 0, 13, 3, 27, 184, 0, 19, 42, 180, 0, 13, 7, 28, 184, 0, 19, 177]
abbrev dktX1_block_0 : List UInt8 := dkwX1_block_0 ++ []
theorem dksX1_block_0 : cX1_block.data.toList.drop 0 = dktX1_block_0 := by decide +kernel
theorem dX1_block_0 : decode cX1_block 0 = .ok (.aload_n 0, 1) := dk_42 (dk_at dksX1_block_0 0 rfl rfl)
theorem dX1_block_1 : decode cX1_block 1 = .ok (.getfield 13, 3) := dk_180 0 13 (dk_at dksX1_block_0 1 rfl rfl)
theorem dX1_block_4 : decode cX1_block 4 = .ok (.iconst 0, 1) := dk_3 (dk_at dksX1_block_0 4 rfl rfl)
theorem dX1_block_5 : decode cX1_block 5 = .ok (.iload_n 1, 1) := dk_27 (dk_at dksX1_block_0 5 rfl rfl)
theorem dX1_block_6 : decode cX1_block 6 = .ok (.invokestatic 19, 3) := dk_184 0 19 (dk_at dksX1_block_0 6 rfl rfl)
theorem dX1_block_9 : decode cX1_block 9 = .ok (.aload_n 0, 1) := dk_42 (dk_at dksX1_block_0 9 rfl rfl)
theorem dX1_block_10 : decode cX1_block 10 = .ok (.getfield 13, 3) := dk_180 0 13 (dk_at dksX1_block_0 10 rfl rfl)
theorem dX1_block_13 : decode cX1_block 13 = .ok (.iconst 4, 1) := dk_7 (dk_at dksX1_block_0 13 rfl rfl)
theorem dX1_block_14 : decode cX1_block 14 = .ok (.iload_n 2, 1) := dk_28 (dk_at dksX1_block_0 14 rfl rfl)
theorem dX1_block_15 : decode cX1_block 15 = .ok (.invokestatic 19, 3) := dk_184 0 19 (dk_at dksX1_block_0 15 rfl rfl)
theorem dX1_block_18 : decode cX1_block 18 = .ok (.return_, 1) := dk_177 (dk_at dksX1_block_0 18 rfl rfl)
abbrev cX1_out : ByteArray := prog_5_method_10_code
def yX1_out : MethodName := ⟨RX1, "out", "(I)I"⟩
def dkwX1_out_0 : List UInt8 := [42, 180, 0, 16, 27, 16, 7, 126, 51, 17, 0, 255, 126, 172]
abbrev dktX1_out_0 : List UInt8 := dkwX1_out_0 ++ []
theorem dksX1_out_0 : cX1_out.data.toList.drop 0 = dktX1_out_0 := by decide +kernel
theorem dX1_out_0 : decode cX1_out 0 = .ok (.aload_n 0, 1) := dk_42 (dk_at dksX1_out_0 0 rfl rfl)
theorem dX1_out_1 : decode cX1_out 1 = .ok (.getfield 16, 3) := dk_180 0 16 (dk_at dksX1_out_0 1 rfl rfl)
theorem dX1_out_4 : decode cX1_out 4 = .ok (.iload_n 1, 1) := dk_27 (dk_at dksX1_out_0 4 rfl rfl)
theorem dX1_out_5 : decode cX1_out 5 = .ok (.bipush 7, 2) := dk_16 7 (dk_at dksX1_out_0 5 rfl rfl)
theorem dX1_out_7 : decode cX1_out 7 = .ok (.iand, 1) := dk_126 (dk_at dksX1_out_0 7 rfl rfl)
theorem dX1_out_8 : decode cX1_out 8 = .ok (.baload, 1) := dk_51 (dk_at dksX1_out_0 8 rfl rfl)
theorem dX1_out_9 : decode cX1_out 9 = .ok (.sipush 255, 3) := dk_17 0 255 (dk_at dksX1_out_0 9 rfl rfl)
theorem dX1_out_12 : decode cX1_out 12 = .ok (.iand, 1) := dk_126 (dk_at dksX1_out_0 12 rfl rfl)
theorem dX1_out_13 : decode cX1_out 13 = .ok (.ireturn, 1) := dk_172 (dk_at dksX1_out_0 13 rfl rfl)
theorem q8 : (Jvm.Cond.initialized "GostDesk") ∈ lw_all := lw_g (lw_at lw_m1 1 rfl) rfl
theorem q22 : (Jvm.Cond.instantiable "GostDesk" (3 : Nat)) ∈ lw_all := lw_g (lw_at lw_m1 15 rfl) rfl
theorem q24 : (Jvm.Cond.instanceMethod ({ cls := "GostDesk", name := "<init>", desc := "()V" } : Jvm.MethodName)) ∈ lw_all := lw_g (lw_at lw_m1 17 rfl) rfl
theorem q25 : (Jvm.Cond.code ({ cls := "GostDesk", name := "<init>", desc := "()V" } : Jvm.MethodName) prog_5_method_1_code (1 : Nat) (Option.none : Option Jvm.ClassFile.FieldType)) ∈ lw_all := lw_g (lw_at lw_m1 18 rfl) rfl
theorem q26 : (Jvm.Cond.methodLink "GostDesk" (1 : Nat) ({ cls := "java/lang/Object", name := "<init>", desc := "()V" } : Jvm.MethodName)) ∈ lw_all := lw_g (lw_at lw_m1 19 rfl) rfl
theorem q29 : (Jvm.Cond.fieldLink "GostDesk" (7 : Nat) "GostDesk" "key" "[B") ∈ lw_all := lw_g (lw_at lw_m1 22 rfl) rfl
theorem q30 : (Jvm.Cond.fieldLink "GostDesk" (13 : Nat) "GostDesk" "block" "[B") ∈ lw_all := lw_g (lw_at lw_m1 23 rfl) rfl
theorem q31 : (Jvm.Cond.fieldLink "GostDesk" (16 : Nat) "GostDesk" "out" "[B") ∈ lw_all := lw_g (lw_at lw_m1 24 rfl) rfl
theorem q32 : (Jvm.Cond.laysFinal "GostDesk" "GostDesk" "key" "[B") ∈ lw_all := lw_g (lw_at lw_m1 25 rfl) rfl
theorem q33 : (Jvm.Cond.soleField "GostDesk" "key") ∈ lw_all := lw_g (lw_at lw_m1 26 rfl) rfl
theorem q34 : (Jvm.Cond.laysFinal "GostDesk" "GostDesk" "block" "[B") ∈ lw_all := lw_g (lw_at lw_m1 27 rfl) rfl
theorem q35 : (Jvm.Cond.soleField "GostDesk" "block") ∈ lw_all := lw_g (lw_at lw_m1 28 rfl) rfl
theorem q36 : (Jvm.Cond.laysFinal "GostDesk" "GostDesk" "out" "[B") ∈ lw_all := lw_g (lw_at lw_m1 29 rfl) rfl
theorem q37 : (Jvm.Cond.soleField "GostDesk" "out") ∈ lw_all := lw_g (lw_at lw_m1 30 rfl) rfl
theorem q38 : (Jvm.Cond.superclass "GostDesk" "java/lang/Object") ∈ lw_all := lw_g (lw_at lw_m1 31 rfl) rfl
theorem q41 : (Jvm.Cond.instanceMethod ({ cls := "GostDesk", name := "lock", desc := "(I)V" } : Jvm.MethodName)) ∈ lw_all := lw_g (lw_at lw_m1 34 rfl) rfl
theorem q42 : (Jvm.Cond.selects "GostDesk" ({ cls := "GostDesk", name := "lock", desc := "(I)V" } : Jvm.MethodName) ({ cls := "GostDesk", name := "lock", desc := "(I)V" } : Jvm.MethodName)) ∈ lw_all := lw_g (lw_at lw_m1 35 rfl) rfl
theorem q43 : (Jvm.Cond.code ({ cls := "GostDesk", name := "lock", desc := "(I)V" } : Jvm.MethodName) prog_5_method_7_code (2 : Nat) (Option.none : Option Jvm.ClassFile.FieldType)) ∈ lw_all := lw_g (lw_at lw_m1 36 rfl) rfl
theorem q44 : (Jvm.Cond.methodLink "GostDesk" (45 : Nat) ({ cls := "GostDesk", name := "run", desc := "(ZI)V" } : Jvm.MethodName)) ∈ lw_all := lw_g (lw_at lw_m1 37 rfl) rfl
theorem q45 : (Jvm.Cond.privateMethod ({ cls := "GostDesk", name := "run", desc := "(ZI)V" } : Jvm.MethodName)) ∈ lw_tbl := lw_at lw_m1 38 rfl
theorem q46 : (Jvm.Cond.instanceMethod ({ cls := "GostDesk", name := "run", desc := "(ZI)V" } : Jvm.MethodName)) ∈ lw_all := lw_g (lw_at lw_m1 39 rfl) rfl
theorem q47 : (Jvm.Cond.code ({ cls := "GostDesk", name := "run", desc := "(ZI)V" } : Jvm.MethodName) prog_5_method_5_code (6 : Nat) (Option.none : Option Jvm.ClassFile.FieldType)) ∈ lw_all := lw_g (lw_at lw_m1 40 rfl) rfl
theorem q48 : (Jvm.Cond.methodLink "GostDesk" (23 : Nat) ({ cls := "GostDesk", name := "size", desc := "(I)I" } : Jvm.MethodName)) ∈ lw_all := lw_g (lw_at lw_m1 41 rfl) rfl
theorem q49 : (Jvm.Cond.static ({ cls := "GostDesk", name := "size", desc := "(I)I" } : Jvm.MethodName)) ∈ lw_all := lw_g (lw_at lw_m1 42 rfl) rfl
theorem q50 : (Jvm.Cond.code ({ cls := "GostDesk", name := "size", desc := "(I)I" } : Jvm.MethodName) prog_5_method_6_code (1 : Nat) (Option.some Jvm.ClassFile.FieldType.int)) ∈ lw_all := lw_g (lw_at lw_m1 43 rfl) rfl
theorem q51 : (Jvm.Cond.classLink "GostDesk" (27 : Nat) "GOST28147Engine") ∈ lw_all := lw_g (lw_at lw_m1 44 rfl) rfl
theorem q53 : (Jvm.Cond.methodLink "GostDesk" (29 : Nat) ({ cls := "GOST28147Engine", name := "<init>", desc := "()V" } : Jvm.MethodName)) ∈ lw_all := lw_g (lw_at lw_m1 46 rfl) rfl
theorem q69 : (Jvm.Cond.classLink "GostDesk" (30 : Nat) "KeyParameter") ∈ lw_all := lw_g (lw_at lw_m1 62 rfl) rfl
theorem q71 : (Jvm.Cond.methodLink "GostDesk" (32 : Nat) ({ cls := "KeyParameter", name := "<init>", desc := "([B)V" } : Jvm.MethodName)) ∈ lw_all := lw_g (lw_at lw_m1 64 rfl) rfl
theorem q88 : (Jvm.Cond.interfaceEntry "GostDesk" (35 : Nat)) ∈ lw_tbl := lw_at lw_m1 81 rfl
theorem q89 : (Jvm.Cond.methodLink "GostDesk" (35 : Nat) ({ cls := "BlockCipher", name := "init", desc := "(ZLCipherParameters;)V" } : Jvm.MethodName)) ∈ lw_all := lw_g (lw_at lw_m1 82 rfl) rfl
theorem q219 : (Jvm.Cond.interfaceEntry "GostDesk" (41 : Nat)) ∈ lw_tbl := lw_at lw_m1 212 rfl
theorem q220 : (Jvm.Cond.methodLink "GostDesk" (41 : Nat) ({ cls := "BlockCipher", name := "processBlock", desc := "([BI[BI)I" } : Jvm.MethodName)) ∈ lw_all := lw_g (lw_at lw_m1 213 rfl) rfl
theorem q282 : (Jvm.Cond.instanceMethod ({ cls := "GostDesk", name := "open", desc := "(I)V" } : Jvm.MethodName)) ∈ lw_all := lw_g (lw_at lw_m2 35 rfl) rfl
theorem q283 : (Jvm.Cond.selects "GostDesk" ({ cls := "GostDesk", name := "open", desc := "(I)V" } : Jvm.MethodName) ({ cls := "GostDesk", name := "open", desc := "(I)V" } : Jvm.MethodName)) ∈ lw_all := lw_g (lw_at lw_m2 36 rfl) rfl
theorem q284 : (Jvm.Cond.code ({ cls := "GostDesk", name := "open", desc := "(I)V" } : Jvm.MethodName) prog_5_method_8_code (2 : Nat) (Option.none : Option Jvm.ClassFile.FieldType)) ∈ lw_all := lw_g (lw_at lw_m2 37 rfl) rfl
theorem q286 : (Jvm.Cond.instanceMethod ({ cls := "GostDesk", name := "again", desc := "()V" } : Jvm.MethodName)) ∈ lw_all := lw_g (lw_at lw_m2 39 rfl) rfl
theorem q287 : (Jvm.Cond.selects "GostDesk" ({ cls := "GostDesk", name := "again", desc := "()V" } : Jvm.MethodName) ({ cls := "GostDesk", name := "again", desc := "()V" } : Jvm.MethodName)) ∈ lw_all := lw_g (lw_at lw_m2 40 rfl) rfl
theorem q288 : (Jvm.Cond.code ({ cls := "GostDesk", name := "again", desc := "()V" } : Jvm.MethodName) prog_5_method_9_code (2 : Nat) (Option.none : Option Jvm.ClassFile.FieldType)) ∈ lw_all := lw_g (lw_at lw_m2 41 rfl) rfl
theorem q319 : (Jvm.Cond.instanceMethod ({ cls := "GostDesk", name := "key", desc := "(IIIII)V" } : Jvm.MethodName)) ∈ lw_all := lw_g (lw_at lw_m2 72 rfl) rfl
theorem q320 : (Jvm.Cond.selects "GostDesk" ({ cls := "GostDesk", name := "key", desc := "(IIIII)V" } : Jvm.MethodName) ({ cls := "GostDesk", name := "key", desc := "(IIIII)V" } : Jvm.MethodName)) ∈ lw_all := lw_g (lw_at lw_m2 73 rfl) rfl
theorem q321 : (Jvm.Cond.code ({ cls := "GostDesk", name := "key", desc := "(IIIII)V" } : Jvm.MethodName) prog_5_method_3_code (7 : Nat) (Option.none : Option Jvm.ClassFile.FieldType)) ∈ lw_all := lw_g (lw_at lw_m2 74 rfl) rfl
theorem q322 : (Jvm.Cond.methodLink "GostDesk" (19 : Nat) ({ cls := "GostDesk", name := "word", desc := "([BII)V" } : Jvm.MethodName)) ∈ lw_all := lw_g (lw_at lw_m2 75 rfl) rfl
theorem q323 : (Jvm.Cond.static ({ cls := "GostDesk", name := "word", desc := "([BII)V" } : Jvm.MethodName)) ∈ lw_all := lw_g (lw_at lw_m2 76 rfl) rfl
theorem q324 : (Jvm.Cond.code ({ cls := "GostDesk", name := "word", desc := "([BII)V" } : Jvm.MethodName) prog_5_method_2_code (3 : Nat) (Option.none : Option Jvm.ClassFile.FieldType)) ∈ lw_all := lw_g (lw_at lw_m2 77 rfl) rfl
theorem q332 : (Jvm.Cond.instanceMethod ({ cls := "GostDesk", name := "block", desc := "(II)V" } : Jvm.MethodName)) ∈ lw_all := lw_g (lw_at lw_m2 85 rfl) rfl
theorem q333 : (Jvm.Cond.selects "GostDesk" ({ cls := "GostDesk", name := "block", desc := "(II)V" } : Jvm.MethodName) ({ cls := "GostDesk", name := "block", desc := "(II)V" } : Jvm.MethodName)) ∈ lw_all := lw_g (lw_at lw_m2 86 rfl) rfl
theorem q334 : (Jvm.Cond.code ({ cls := "GostDesk", name := "block", desc := "(II)V" } : Jvm.MethodName) prog_5_method_4_code (3 : Nat) (Option.none : Option Jvm.ClassFile.FieldType)) ∈ lw_all := lw_g (lw_at lw_m2 87 rfl) rfl
theorem q339 : (Jvm.Cond.instanceMethod ({ cls := "GostDesk", name := "out", desc := "(I)I" } : Jvm.MethodName)) ∈ lw_all := lw_g (lw_at lw_m2 92 rfl) rfl
theorem q340 : (Jvm.Cond.selects "GostDesk" ({ cls := "GostDesk", name := "out", desc := "(I)I" } : Jvm.MethodName) ({ cls := "GostDesk", name := "out", desc := "(I)I" } : Jvm.MethodName)) ∈ lw_all := lw_g (lw_at lw_m2 93 rfl) rfl
theorem q341 : (Jvm.Cond.code ({ cls := "GostDesk", name := "out", desc := "(I)I" } : Jvm.MethodName) prog_5_method_10_code (2 : Nat) (Option.some Jvm.ClassFile.FieldType.int)) ∈ lw_all := lw_g (lw_at lw_m2 94 rfl) rfl
theorem in_X1 : ∀ w ∈ wsX10, w ∈ lw_all := lw_in wsX10 [32, 34, 36] (by decide +kernel) (by decide +kernel)
/-! GostDeskLaw -/
set_option maxRecDepth 100000
def RX0 : String := "GostDeskLaw"
abbrev cX0_cell : ByteArray := method_2_code
def yX0_cell : MethodName := ⟨RX0, "cell", "([II)I"⟩
def dkwX0_cell_0 : List UInt8 := [27, 42, 190, 162, 0, 9, 42, 27, 46, 167, 0, 4, 3, 172]
abbrev dktX0_cell_0 : List UInt8 := dkwX0_cell_0 ++ []
theorem dksX0_cell_0 : cX0_cell.data.toList.drop 0 = dktX0_cell_0 := by decide +kernel
theorem dX0_cell_0 : decode cX0_cell 0 = .ok (.iload_n 1, 1) := dk_27 (dk_at dksX0_cell_0 0 rfl rfl)
theorem dX0_cell_1 : decode cX0_cell 1 = .ok (.aload_n 0, 1) := dk_42 (dk_at dksX0_cell_0 1 rfl rfl)
theorem dX0_cell_2 : decode cX0_cell 2 = .ok (.arraylength, 1) := dk_190 (dk_at dksX0_cell_0 2 rfl rfl)
theorem dX0_cell_3 : decode cX0_cell 3 = .ok (.if_icmp .ge 9, 3) := dk_162 0 9 (dk_at dksX0_cell_0 3 rfl rfl)
theorem dX0_cell_6 : decode cX0_cell 6 = .ok (.aload_n 0, 1) := dk_42 (dk_at dksX0_cell_0 6 rfl rfl)
theorem dX0_cell_7 : decode cX0_cell 7 = .ok (.iload_n 1, 1) := dk_27 (dk_at dksX0_cell_0 7 rfl rfl)
theorem dX0_cell_8 : decode cX0_cell 8 = .ok (.iaload, 1) := dk_46 (dk_at dksX0_cell_0 8 rfl rfl)
theorem dX0_cell_9 : decode cX0_cell 9 = .ok (.goto 4, 3) := dk_167 0 4 (dk_at dksX0_cell_0 9 rfl rfl)
theorem dX0_cell_12 : decode cX0_cell 12 = .ok (.iconst 0, 1) := dk_3 (dk_at dksX0_cell_0 12 rfl rfl)
theorem dX0_cell_13 : decode cX0_cell 13 = .ok (.ireturn, 1) := dk_172 (dk_at dksX0_cell_0 13 rfl rfl)
abbrev cX0_mod : ByteArray := method_3_code
def yX0_mod : MethodName := ⟨RX0, "mod", "(II)I"⟩
def dkwX0_mod_0 : List UInt8 := [26, 18, 7, 126, 27, 112, 172]
abbrev dktX0_mod_0 : List UInt8 := dkwX0_mod_0 ++ []
theorem dksX0_mod_0 : cX0_mod.data.toList.drop 0 = dktX0_mod_0 := by decide +kernel
theorem dX0_mod_0 : decode cX0_mod 0 = .ok (.iload_n 0, 1) := dk_26 (dk_at dksX0_mod_0 0 rfl rfl)
theorem dX0_mod_1 : decode cX0_mod 1 = .ok (.ldc 7, 2) := dk_18 7 (dk_at dksX0_mod_0 1 rfl rfl)
theorem dX0_mod_3 : decode cX0_mod 3 = .ok (.iand, 1) := dk_126 (dk_at dksX0_mod_0 3 rfl rfl)
theorem dX0_mod_4 : decode cX0_mod 4 = .ok (.iload_n 1, 1) := dk_27 (dk_at dksX0_mod_0 4 rfl rfl)
theorem dX0_mod_5 : decode cX0_mod 5 = .ok (.irem, 1) := dk_112 (dk_at dksX0_mod_0 5 rfl rfl)
theorem dX0_mod_6 : decode cX0_mod 6 = .ok (.ireturn, 1) := dk_172 (dk_at dksX0_mod_0 6 rfl rfl)
abbrev cX0_due : ByteArray := method_6_code
def yX0_due : MethodName := ⟨RX0, "due", "([B[BZ)[B"⟩
def dkwX0_due_7 : List UInt8 := [25, 5, 176]
abbrev dktX0_due_7 : List UInt8 := dkwX0_due_7 ++ []
def dkwX0_due_6 : List UInt8 := [145, 84, 25, 5, 21, 6, 7, 96, 21, 4, 16, 8, 21, 6, 104, 124, 145, 84, 132, 6, 1, 167, 255, 218]
abbrev dktX0_due_6 : List UInt8 := dkwX0_due_6 ++ dktX0_due_7
def dkwX0_due_5 : List UInt8 := [188, 8, 58, 5, 3, 54, 6, 21, 6, 7, 162, 0, 38, 25, 5, 21, 6, 29, 16, 8, 21, 6, 104, 124]
abbrev dktX0_due_5 : List UInt8 := dkwX0_due_5 ++ dktX0_due_6
def dkwX0_due_4 : List UInt8 := [162, 0, 12, 29, 54, 4, 21, 7, 62, 167, 0, 7, 21, 7, 54, 4, 132, 5, 1, 167, 255, 159, 16, 8]
abbrev dktX0_due_4 : List UInt8 := dkwX0_due_4 ++ dktX0_due_5
def dkwX0_due_3 : List UInt8 := [54, 6, 21, 4, 29, 42, 7, 21, 6, 104, 184, 0, 26, 96, 184, 0, 32, 130, 54, 7, 21, 5, 16, 31]
abbrev dktX0_due_3 : List UInt8 := dkwX0_due_3 ++ dktX0_due_4
def dkwX0_due_2 : List UInt8 := [167, 0, 23, 21, 5, 16, 24, 162, 0, 11, 21, 5, 16, 7, 126, 167, 0, 8, 16, 31, 21, 5, 100]
abbrev dktX0_due_2 : List UInt8 := dkwX0_due_2 ++ dktX0_due_3
def dkwX0_due_1 : List UInt8 := [153, 0, 26, 21, 5, 16, 8, 162, 0, 8, 21, 5, 167, 0, 34, 16, 31, 21, 5, 100, 16, 7, 126]
abbrev dktX0_due_1 : List UInt8 := dkwX0_due_1 ++ dktX0_due_2
def dkwX0_due_0 : List UInt8 := [43, 3, 184, 0, 26, 62, 43, 7, 184, 0, 26, 54, 4, 3, 54, 5, 21, 5, 16, 32, 162, 0, 96, 28]
abbrev dktX0_due_0 : List UInt8 := dkwX0_due_0 ++ dktX0_due_1
theorem dksX0_due_0 : cX0_due.data.toList.drop 0 = dktX0_due_0 := by decide +kernel
theorem dksX0_due_1 : cX0_due.data.toList.drop 24 = dktX0_due_1 := dk_seg dksX0_due_0 24 rfl rfl
theorem dksX0_due_2 : cX0_due.data.toList.drop 47 = dktX0_due_2 := dk_seg dksX0_due_1 23 rfl rfl
theorem dksX0_due_3 : cX0_due.data.toList.drop 70 = dktX0_due_3 := dk_seg dksX0_due_2 23 rfl rfl
theorem dksX0_due_4 : cX0_due.data.toList.drop 94 = dktX0_due_4 := dk_seg dksX0_due_3 24 rfl rfl
theorem dksX0_due_5 : cX0_due.data.toList.drop 118 = dktX0_due_5 := dk_seg dksX0_due_4 24 rfl rfl
theorem dksX0_due_6 : cX0_due.data.toList.drop 142 = dktX0_due_6 := dk_seg dksX0_due_5 24 rfl rfl
theorem dksX0_due_7 : cX0_due.data.toList.drop 166 = dktX0_due_7 := dk_seg dksX0_due_6 24 rfl rfl
theorem dX0_due_0 : decode cX0_due 0 = .ok (.aload_n 1, 1) := dk_43 (dk_at dksX0_due_0 0 rfl rfl)
theorem dX0_due_1 : decode cX0_due 1 = .ok (.iconst 0, 1) := dk_3 (dk_at dksX0_due_0 1 rfl rfl)
theorem dX0_due_2 : decode cX0_due 2 = .ok (.invokestatic 26, 3) := dk_184 0 26 (dk_at dksX0_due_0 2 rfl rfl)
theorem dX0_due_5 : decode cX0_due 5 = .ok (.istore_n 3, 1) := dk_62 (dk_at dksX0_due_0 5 rfl rfl)
theorem dX0_due_6 : decode cX0_due 6 = .ok (.aload_n 1, 1) := dk_43 (dk_at dksX0_due_0 6 rfl rfl)
theorem dX0_due_7 : decode cX0_due 7 = .ok (.iconst 4, 1) := dk_7 (dk_at dksX0_due_0 7 rfl rfl)
theorem dX0_due_8 : decode cX0_due 8 = .ok (.invokestatic 26, 3) := dk_184 0 26 (dk_at dksX0_due_0 8 rfl rfl)
theorem dX0_due_11 : decode cX0_due 11 = .ok (.istore 4, 2) := dk_54 4 (dk_at dksX0_due_0 11 rfl rfl)
theorem dX0_due_13 : decode cX0_due 13 = .ok (.iconst 0, 1) := dk_3 (dk_at dksX0_due_0 13 rfl rfl)
theorem dX0_due_14 : decode cX0_due 14 = .ok (.istore 5, 2) := dk_54 5 (dk_at dksX0_due_0 14 rfl rfl)
theorem dX0_due_16 : decode cX0_due 16 = .ok (.iload 5, 2) := dk_21 5 (dk_at dksX0_due_0 16 rfl rfl)
theorem dX0_due_18 : decode cX0_due 18 = .ok (.bipush 32, 2) := dk_16 32 (dk_at dksX0_due_0 18 rfl rfl)
theorem dX0_due_20 : decode cX0_due 20 = .ok (.if_icmp .ge 96, 3) := dk_162 0 96 (dk_at dksX0_due_0 20 rfl rfl)
theorem dX0_due_23 : decode cX0_due 23 = .ok (.iload_n 2, 1) := dk_28 (dk_at dksX0_due_0 23 rfl rfl)
theorem dX0_due_24 : decode cX0_due 24 = .ok (.ifCond .eq 26, 3) := dk_153 0 26 (dk_at dksX0_due_1 0 rfl rfl)
theorem dX0_due_27 : decode cX0_due 27 = .ok (.iload 5, 2) := dk_21 5 (dk_at dksX0_due_1 3 rfl rfl)
theorem dX0_due_29 : decode cX0_due 29 = .ok (.bipush 8, 2) := dk_16 8 (dk_at dksX0_due_1 5 rfl rfl)
theorem dX0_due_31 : decode cX0_due 31 = .ok (.if_icmp .ge 8, 3) := dk_162 0 8 (dk_at dksX0_due_1 7 rfl rfl)
theorem dX0_due_34 : decode cX0_due 34 = .ok (.iload 5, 2) := dk_21 5 (dk_at dksX0_due_1 10 rfl rfl)
theorem dX0_due_36 : decode cX0_due 36 = .ok (.goto 34, 3) := dk_167 0 34 (dk_at dksX0_due_1 12 rfl rfl)
theorem dX0_due_39 : decode cX0_due 39 = .ok (.bipush 31, 2) := dk_16 31 (dk_at dksX0_due_1 15 rfl rfl)
theorem dX0_due_41 : decode cX0_due 41 = .ok (.iload 5, 2) := dk_21 5 (dk_at dksX0_due_1 17 rfl rfl)
theorem dX0_due_43 : decode cX0_due 43 = .ok (.isub, 1) := dk_100 (dk_at dksX0_due_1 19 rfl rfl)
theorem dX0_due_44 : decode cX0_due 44 = .ok (.bipush 7, 2) := dk_16 7 (dk_at dksX0_due_1 20 rfl rfl)
theorem dX0_due_46 : decode cX0_due 46 = .ok (.iand, 1) := dk_126 (dk_at dksX0_due_1 22 rfl rfl)
theorem dX0_due_47 : decode cX0_due 47 = .ok (.goto 23, 3) := dk_167 0 23 (dk_at dksX0_due_2 0 rfl rfl)
theorem dX0_due_50 : decode cX0_due 50 = .ok (.iload 5, 2) := dk_21 5 (dk_at dksX0_due_2 3 rfl rfl)
theorem dX0_due_52 : decode cX0_due 52 = .ok (.bipush 24, 2) := dk_16 24 (dk_at dksX0_due_2 5 rfl rfl)
theorem dX0_due_54 : decode cX0_due 54 = .ok (.if_icmp .ge 11, 3) := dk_162 0 11 (dk_at dksX0_due_2 7 rfl rfl)
theorem dX0_due_57 : decode cX0_due 57 = .ok (.iload 5, 2) := dk_21 5 (dk_at dksX0_due_2 10 rfl rfl)
theorem dX0_due_59 : decode cX0_due 59 = .ok (.bipush 7, 2) := dk_16 7 (dk_at dksX0_due_2 12 rfl rfl)
theorem dX0_due_61 : decode cX0_due 61 = .ok (.iand, 1) := dk_126 (dk_at dksX0_due_2 14 rfl rfl)
theorem dX0_due_62 : decode cX0_due 62 = .ok (.goto 8, 3) := dk_167 0 8 (dk_at dksX0_due_2 15 rfl rfl)
theorem dX0_due_65 : decode cX0_due 65 = .ok (.bipush 31, 2) := dk_16 31 (dk_at dksX0_due_2 18 rfl rfl)
theorem dX0_due_67 : decode cX0_due 67 = .ok (.iload 5, 2) := dk_21 5 (dk_at dksX0_due_2 20 rfl rfl)
theorem dX0_due_69 : decode cX0_due 69 = .ok (.isub, 1) := dk_100 (dk_at dksX0_due_2 22 rfl rfl)
theorem dX0_due_70 : decode cX0_due 70 = .ok (.istore 6, 2) := dk_54 6 (dk_at dksX0_due_3 0 rfl rfl)
theorem dX0_due_72 : decode cX0_due 72 = .ok (.iload 4, 2) := dk_21 4 (dk_at dksX0_due_3 2 rfl rfl)
theorem dX0_due_74 : decode cX0_due 74 = .ok (.iload_n 3, 1) := dk_29 (dk_at dksX0_due_3 4 rfl rfl)
theorem dX0_due_75 : decode cX0_due 75 = .ok (.aload_n 0, 1) := dk_42 (dk_at dksX0_due_3 5 rfl rfl)
theorem dX0_due_76 : decode cX0_due 76 = .ok (.iconst 4, 1) := dk_7 (dk_at dksX0_due_3 6 rfl rfl)
theorem dX0_due_77 : decode cX0_due 77 = .ok (.iload 6, 2) := dk_21 6 (dk_at dksX0_due_3 7 rfl rfl)
theorem dX0_due_79 : decode cX0_due 79 = .ok (.imul, 1) := dk_104 (dk_at dksX0_due_3 9 rfl rfl)
theorem dX0_due_80 : decode cX0_due 80 = .ok (.invokestatic 26, 3) := dk_184 0 26 (dk_at dksX0_due_3 10 rfl rfl)
theorem dX0_due_83 : decode cX0_due 83 = .ok (.iadd, 1) := dk_96 (dk_at dksX0_due_3 13 rfl rfl)
theorem dX0_due_84 : decode cX0_due 84 = .ok (.invokestatic 32, 3) := dk_184 0 32 (dk_at dksX0_due_3 14 rfl rfl)
theorem dX0_due_87 : decode cX0_due 87 = .ok (.ixor, 1) := dk_130 (dk_at dksX0_due_3 17 rfl rfl)
theorem dX0_due_88 : decode cX0_due 88 = .ok (.istore 7, 2) := dk_54 7 (dk_at dksX0_due_3 18 rfl rfl)
theorem dX0_due_90 : decode cX0_due 90 = .ok (.iload 5, 2) := dk_21 5 (dk_at dksX0_due_3 20 rfl rfl)
theorem dX0_due_92 : decode cX0_due 92 = .ok (.bipush 31, 2) := dk_16 31 (dk_at dksX0_due_3 22 rfl rfl)
theorem dX0_due_94 : decode cX0_due 94 = .ok (.if_icmp .ge 12, 3) := dk_162 0 12 (dk_at dksX0_due_4 0 rfl rfl)
theorem dX0_due_97 : decode cX0_due 97 = .ok (.iload_n 3, 1) := dk_29 (dk_at dksX0_due_4 3 rfl rfl)
theorem dX0_due_98 : decode cX0_due 98 = .ok (.istore 4, 2) := dk_54 4 (dk_at dksX0_due_4 4 rfl rfl)
theorem dX0_due_100 : decode cX0_due 100 = .ok (.iload 7, 2) := dk_21 7 (dk_at dksX0_due_4 6 rfl rfl)
theorem dX0_due_102 : decode cX0_due 102 = .ok (.istore_n 3, 1) := dk_62 (dk_at dksX0_due_4 8 rfl rfl)
theorem dX0_due_103 : decode cX0_due 103 = .ok (.goto 7, 3) := dk_167 0 7 (dk_at dksX0_due_4 9 rfl rfl)
theorem dX0_due_106 : decode cX0_due 106 = .ok (.iload 7, 2) := dk_21 7 (dk_at dksX0_due_4 12 rfl rfl)
theorem dX0_due_108 : decode cX0_due 108 = .ok (.istore 4, 2) := dk_54 4 (dk_at dksX0_due_4 14 rfl rfl)
theorem dX0_due_110 : decode cX0_due 110 = .ok (.iinc 5 1, 3) := dk_132 5 1 (dk_at dksX0_due_4 16 rfl rfl)
theorem dX0_due_113 : decode cX0_due 113 = .ok (.goto (-97), 3) := dk_167 255 159 (dk_at dksX0_due_4 19 rfl rfl)
theorem dX0_due_116 : decode cX0_due 116 = .ok (.bipush 8, 2) := dk_16 8 (dk_at dksX0_due_4 22 rfl rfl)
theorem dX0_due_118 : decode cX0_due 118 = .ok (.newarray .byte, 2) := dk_188_8 (dk_at dksX0_due_5 0 rfl rfl)
theorem dX0_due_120 : decode cX0_due 120 = .ok (.astore 5, 2) := dk_58 5 (dk_at dksX0_due_5 2 rfl rfl)
theorem dX0_due_122 : decode cX0_due 122 = .ok (.iconst 0, 1) := dk_3 (dk_at dksX0_due_5 4 rfl rfl)
theorem dX0_due_123 : decode cX0_due 123 = .ok (.istore 6, 2) := dk_54 6 (dk_at dksX0_due_5 5 rfl rfl)
theorem dX0_due_125 : decode cX0_due 125 = .ok (.iload 6, 2) := dk_21 6 (dk_at dksX0_due_5 7 rfl rfl)
theorem dX0_due_127 : decode cX0_due 127 = .ok (.iconst 4, 1) := dk_7 (dk_at dksX0_due_5 9 rfl rfl)
theorem dX0_due_128 : decode cX0_due 128 = .ok (.if_icmp .ge 38, 3) := dk_162 0 38 (dk_at dksX0_due_5 10 rfl rfl)
theorem dX0_due_131 : decode cX0_due 131 = .ok (.aload 5, 2) := dk_25 5 (dk_at dksX0_due_5 13 rfl rfl)
theorem dX0_due_133 : decode cX0_due 133 = .ok (.iload 6, 2) := dk_21 6 (dk_at dksX0_due_5 15 rfl rfl)
theorem dX0_due_135 : decode cX0_due 135 = .ok (.iload_n 3, 1) := dk_29 (dk_at dksX0_due_5 17 rfl rfl)
theorem dX0_due_136 : decode cX0_due 136 = .ok (.bipush 8, 2) := dk_16 8 (dk_at dksX0_due_5 18 rfl rfl)
theorem dX0_due_138 : decode cX0_due 138 = .ok (.iload 6, 2) := dk_21 6 (dk_at dksX0_due_5 20 rfl rfl)
theorem dX0_due_140 : decode cX0_due 140 = .ok (.imul, 1) := dk_104 (dk_at dksX0_due_5 22 rfl rfl)
theorem dX0_due_141 : decode cX0_due 141 = .ok (.iushr, 1) := dk_124 (dk_at dksX0_due_5 23 rfl rfl)
theorem dX0_due_142 : decode cX0_due 142 = .ok (.i2b, 1) := dk_145 (dk_at dksX0_due_6 0 rfl rfl)
theorem dX0_due_143 : decode cX0_due 143 = .ok (.bastore, 1) := dk_84 (dk_at dksX0_due_6 1 rfl rfl)
theorem dX0_due_144 : decode cX0_due 144 = .ok (.aload 5, 2) := dk_25 5 (dk_at dksX0_due_6 2 rfl rfl)
theorem dX0_due_146 : decode cX0_due 146 = .ok (.iload 6, 2) := dk_21 6 (dk_at dksX0_due_6 4 rfl rfl)
theorem dX0_due_148 : decode cX0_due 148 = .ok (.iconst 4, 1) := dk_7 (dk_at dksX0_due_6 6 rfl rfl)
theorem dX0_due_149 : decode cX0_due 149 = .ok (.iadd, 1) := dk_96 (dk_at dksX0_due_6 7 rfl rfl)
theorem dX0_due_150 : decode cX0_due 150 = .ok (.iload 4, 2) := dk_21 4 (dk_at dksX0_due_6 8 rfl rfl)
theorem dX0_due_152 : decode cX0_due 152 = .ok (.bipush 8, 2) := dk_16 8 (dk_at dksX0_due_6 10 rfl rfl)
theorem dX0_due_154 : decode cX0_due 154 = .ok (.iload 6, 2) := dk_21 6 (dk_at dksX0_due_6 12 rfl rfl)
theorem dX0_due_156 : decode cX0_due 156 = .ok (.imul, 1) := dk_104 (dk_at dksX0_due_6 14 rfl rfl)
theorem dX0_due_157 : decode cX0_due 157 = .ok (.iushr, 1) := dk_124 (dk_at dksX0_due_6 15 rfl rfl)
theorem dX0_due_158 : decode cX0_due 158 = .ok (.i2b, 1) := dk_145 (dk_at dksX0_due_6 16 rfl rfl)
theorem dX0_due_159 : decode cX0_due 159 = .ok (.bastore, 1) := dk_84 (dk_at dksX0_due_6 17 rfl rfl)
theorem dX0_due_160 : decode cX0_due 160 = .ok (.iinc 6 1, 3) := dk_132 6 1 (dk_at dksX0_due_6 18 rfl rfl)
theorem dX0_due_163 : decode cX0_due 163 = .ok (.goto (-38), 3) := dk_167 255 218 (dk_at dksX0_due_6 21 rfl rfl)
theorem dX0_due_166 : decode cX0_due 166 = .ok (.aload 5, 2) := dk_25 5 (dk_at dksX0_due_7 0 rfl rfl)
theorem dX0_due_168 : decode cX0_due 168 = .ok (.areturn, 1) := dk_176 (dk_at dksX0_due_7 2 rfl rfl)
abbrev cX0_word : ByteArray := method_4_code
def yX0_word : MethodName := ⟨RX0, "word", "([BI)I"⟩
def dkwX0_word_1 : List UInt8 := [51, 17, 0, 255, 126, 16, 16, 120, 128, 42, 27, 6, 96, 51, 16, 24, 120, 128, 172]
abbrev dktX0_word_1 : List UInt8 := dkwX0_word_1 ++ []
def dkwX0_word_0 : List UInt8 := [42, 27, 51, 17, 0, 255, 126, 42, 27, 4, 96, 51, 17, 0, 255, 126, 16, 8, 120, 128, 42, 27, 5, 96]
abbrev dktX0_word_0 : List UInt8 := dkwX0_word_0 ++ dktX0_word_1
theorem dksX0_word_0 : cX0_word.data.toList.drop 0 = dktX0_word_0 := by decide +kernel
theorem dksX0_word_1 : cX0_word.data.toList.drop 24 = dktX0_word_1 := dk_seg dksX0_word_0 24 rfl rfl
theorem dX0_word_0 : decode cX0_word 0 = .ok (.aload_n 0, 1) := dk_42 (dk_at dksX0_word_0 0 rfl rfl)
theorem dX0_word_1 : decode cX0_word 1 = .ok (.iload_n 1, 1) := dk_27 (dk_at dksX0_word_0 1 rfl rfl)
theorem dX0_word_2 : decode cX0_word 2 = .ok (.baload, 1) := dk_51 (dk_at dksX0_word_0 2 rfl rfl)
theorem dX0_word_3 : decode cX0_word 3 = .ok (.sipush 255, 3) := dk_17 0 255 (dk_at dksX0_word_0 3 rfl rfl)
theorem dX0_word_6 : decode cX0_word 6 = .ok (.iand, 1) := dk_126 (dk_at dksX0_word_0 6 rfl rfl)
theorem dX0_word_7 : decode cX0_word 7 = .ok (.aload_n 0, 1) := dk_42 (dk_at dksX0_word_0 7 rfl rfl)
theorem dX0_word_8 : decode cX0_word 8 = .ok (.iload_n 1, 1) := dk_27 (dk_at dksX0_word_0 8 rfl rfl)
theorem dX0_word_9 : decode cX0_word 9 = .ok (.iconst 1, 1) := dk_4 (dk_at dksX0_word_0 9 rfl rfl)
theorem dX0_word_10 : decode cX0_word 10 = .ok (.iadd, 1) := dk_96 (dk_at dksX0_word_0 10 rfl rfl)
theorem dX0_word_11 : decode cX0_word 11 = .ok (.baload, 1) := dk_51 (dk_at dksX0_word_0 11 rfl rfl)
theorem dX0_word_12 : decode cX0_word 12 = .ok (.sipush 255, 3) := dk_17 0 255 (dk_at dksX0_word_0 12 rfl rfl)
theorem dX0_word_15 : decode cX0_word 15 = .ok (.iand, 1) := dk_126 (dk_at dksX0_word_0 15 rfl rfl)
theorem dX0_word_16 : decode cX0_word 16 = .ok (.bipush 8, 2) := dk_16 8 (dk_at dksX0_word_0 16 rfl rfl)
theorem dX0_word_18 : decode cX0_word 18 = .ok (.ishl, 1) := dk_120 (dk_at dksX0_word_0 18 rfl rfl)
theorem dX0_word_19 : decode cX0_word 19 = .ok (.ior, 1) := dk_128 (dk_at dksX0_word_0 19 rfl rfl)
theorem dX0_word_20 : decode cX0_word 20 = .ok (.aload_n 0, 1) := dk_42 (dk_at dksX0_word_0 20 rfl rfl)
theorem dX0_word_21 : decode cX0_word 21 = .ok (.iload_n 1, 1) := dk_27 (dk_at dksX0_word_0 21 rfl rfl)
theorem dX0_word_22 : decode cX0_word 22 = .ok (.iconst 2, 1) := dk_5 (dk_at dksX0_word_0 22 rfl rfl)
theorem dX0_word_23 : decode cX0_word 23 = .ok (.iadd, 1) := dk_96 (dk_at dksX0_word_0 23 rfl rfl)
theorem dX0_word_24 : decode cX0_word 24 = .ok (.baload, 1) := dk_51 (dk_at dksX0_word_1 0 rfl rfl)
theorem dX0_word_25 : decode cX0_word 25 = .ok (.sipush 255, 3) := dk_17 0 255 (dk_at dksX0_word_1 1 rfl rfl)
theorem dX0_word_28 : decode cX0_word 28 = .ok (.iand, 1) := dk_126 (dk_at dksX0_word_1 4 rfl rfl)
theorem dX0_word_29 : decode cX0_word 29 = .ok (.bipush 16, 2) := dk_16 16 (dk_at dksX0_word_1 5 rfl rfl)
theorem dX0_word_31 : decode cX0_word 31 = .ok (.ishl, 1) := dk_120 (dk_at dksX0_word_1 7 rfl rfl)
theorem dX0_word_32 : decode cX0_word 32 = .ok (.ior, 1) := dk_128 (dk_at dksX0_word_1 8 rfl rfl)
theorem dX0_word_33 : decode cX0_word 33 = .ok (.aload_n 0, 1) := dk_42 (dk_at dksX0_word_1 9 rfl rfl)
theorem dX0_word_34 : decode cX0_word 34 = .ok (.iload_n 1, 1) := dk_27 (dk_at dksX0_word_1 10 rfl rfl)
theorem dX0_word_35 : decode cX0_word 35 = .ok (.iconst 3, 1) := dk_6 (dk_at dksX0_word_1 11 rfl rfl)
theorem dX0_word_36 : decode cX0_word 36 = .ok (.iadd, 1) := dk_96 (dk_at dksX0_word_1 12 rfl rfl)
theorem dX0_word_37 : decode cX0_word 37 = .ok (.baload, 1) := dk_51 (dk_at dksX0_word_1 13 rfl rfl)
theorem dX0_word_38 : decode cX0_word 38 = .ok (.bipush 24, 2) := dk_16 24 (dk_at dksX0_word_1 14 rfl rfl)
theorem dX0_word_40 : decode cX0_word 40 = .ok (.ishl, 1) := dk_120 (dk_at dksX0_word_1 16 rfl rfl)
theorem dX0_word_41 : decode cX0_word 41 = .ok (.ior, 1) := dk_128 (dk_at dksX0_word_1 17 rfl rfl)
theorem dX0_word_42 : decode cX0_word 42 = .ok (.ireturn, 1) := dk_172 (dk_at dksX0_word_1 18 rfl rfl)
abbrev cX0_boxed : ByteArray := method_5_code
def yX0_boxed : MethodName := ⟨RX0, "boxed", "(I)I"⟩
def dkwX0_boxed_4 : List UInt8 := [132, 3, 1, 167, 255, 218, 28, 16, 11, 120, 28, 16, 21, 124, 128, 172]
abbrev dktX0_boxed_4 : List UInt8 := dkwX0_boxed_4 ++ []
def dkwX0_boxed_3 : List UInt8 := [26, 7, 29, 104, 124, 16, 15, 126, 104, 100, 125, 20, 0, 24, 127, 136, 7, 29, 104, 120, 128, 61]
abbrev dktX0_boxed_3 : List UInt8 := dkwX0_boxed_3 ++ dktX0_boxed_4
def dkwX0_boxed_2 : List UInt8 := [16, 7, 20, 0, 22, 80, 76, 3, 61, 3, 62, 29, 16, 8, 162, 0, 38, 28, 43, 29, 47, 16, 60, 7]
abbrev dktX0_boxed_2 : List UInt8 := dkwX0_boxed_2 ++ dktX0_boxed_3
def dkwX0_boxed_1 : List UInt8 := [20, 0, 14, 80, 89, 7, 20, 0, 16, 80, 89, 8, 20, 0, 18, 80, 89, 16, 6, 20, 0, 20, 80, 89]
abbrev dktX0_boxed_1 : List UInt8 := dkwX0_boxed_1 ++ dktX0_boxed_2
def dkwX0_boxed_0 : List UInt8 := [16, 8, 188, 11, 89, 3, 20, 0, 8, 80, 89, 4, 20, 0, 10, 80, 89, 5, 20, 0, 12, 80, 89, 6]
abbrev dktX0_boxed_0 : List UInt8 := dkwX0_boxed_0 ++ dktX0_boxed_1
theorem dksX0_boxed_0 : cX0_boxed.data.toList.drop 0 = dktX0_boxed_0 := by decide +kernel
theorem dksX0_boxed_1 : cX0_boxed.data.toList.drop 24 = dktX0_boxed_1 := dk_seg dksX0_boxed_0 24 rfl rfl
theorem dksX0_boxed_2 : cX0_boxed.data.toList.drop 48 = dktX0_boxed_2 := dk_seg dksX0_boxed_1 24 rfl rfl
theorem dksX0_boxed_3 : cX0_boxed.data.toList.drop 72 = dktX0_boxed_3 := dk_seg dksX0_boxed_2 24 rfl rfl
theorem dksX0_boxed_4 : cX0_boxed.data.toList.drop 94 = dktX0_boxed_4 := dk_seg dksX0_boxed_3 22 rfl rfl
theorem dX0_boxed_0 : decode cX0_boxed 0 = .ok (.bipush 8, 2) := dk_16 8 (dk_at dksX0_boxed_0 0 rfl rfl)
theorem dX0_boxed_2 : decode cX0_boxed 2 = .ok (.newarray .long, 2) := dk_188_11 (dk_at dksX0_boxed_0 2 rfl rfl)
theorem dX0_boxed_4 : decode cX0_boxed 4 = .ok (.dup, 1) := dk_89 (dk_at dksX0_boxed_0 4 rfl rfl)
theorem dX0_boxed_5 : decode cX0_boxed 5 = .ok (.iconst 0, 1) := dk_3 (dk_at dksX0_boxed_0 5 rfl rfl)
theorem dX0_boxed_6 : decode cX0_boxed 6 = .ok (.ldc2_w 8, 3) := dk_20 0 8 (dk_at dksX0_boxed_0 6 rfl rfl)
theorem dX0_boxed_9 : decode cX0_boxed 9 = .ok (.lastore, 1) := dk_80 (dk_at dksX0_boxed_0 9 rfl rfl)
theorem dX0_boxed_10 : decode cX0_boxed 10 = .ok (.dup, 1) := dk_89 (dk_at dksX0_boxed_0 10 rfl rfl)
theorem dX0_boxed_11 : decode cX0_boxed 11 = .ok (.iconst 1, 1) := dk_4 (dk_at dksX0_boxed_0 11 rfl rfl)
theorem dX0_boxed_12 : decode cX0_boxed 12 = .ok (.ldc2_w 10, 3) := dk_20 0 10 (dk_at dksX0_boxed_0 12 rfl rfl)
theorem dX0_boxed_15 : decode cX0_boxed 15 = .ok (.lastore, 1) := dk_80 (dk_at dksX0_boxed_0 15 rfl rfl)
theorem dX0_boxed_16 : decode cX0_boxed 16 = .ok (.dup, 1) := dk_89 (dk_at dksX0_boxed_0 16 rfl rfl)
theorem dX0_boxed_17 : decode cX0_boxed 17 = .ok (.iconst 2, 1) := dk_5 (dk_at dksX0_boxed_0 17 rfl rfl)
theorem dX0_boxed_18 : decode cX0_boxed 18 = .ok (.ldc2_w 12, 3) := dk_20 0 12 (dk_at dksX0_boxed_0 18 rfl rfl)
theorem dX0_boxed_21 : decode cX0_boxed 21 = .ok (.lastore, 1) := dk_80 (dk_at dksX0_boxed_0 21 rfl rfl)
theorem dX0_boxed_22 : decode cX0_boxed 22 = .ok (.dup, 1) := dk_89 (dk_at dksX0_boxed_0 22 rfl rfl)
theorem dX0_boxed_23 : decode cX0_boxed 23 = .ok (.iconst 3, 1) := dk_6 (dk_at dksX0_boxed_0 23 rfl rfl)
theorem dX0_boxed_24 : decode cX0_boxed 24 = .ok (.ldc2_w 14, 3) := dk_20 0 14 (dk_at dksX0_boxed_1 0 rfl rfl)
theorem dX0_boxed_27 : decode cX0_boxed 27 = .ok (.lastore, 1) := dk_80 (dk_at dksX0_boxed_1 3 rfl rfl)
theorem dX0_boxed_28 : decode cX0_boxed 28 = .ok (.dup, 1) := dk_89 (dk_at dksX0_boxed_1 4 rfl rfl)
theorem dX0_boxed_29 : decode cX0_boxed 29 = .ok (.iconst 4, 1) := dk_7 (dk_at dksX0_boxed_1 5 rfl rfl)
theorem dX0_boxed_30 : decode cX0_boxed 30 = .ok (.ldc2_w 16, 3) := dk_20 0 16 (dk_at dksX0_boxed_1 6 rfl rfl)
theorem dX0_boxed_33 : decode cX0_boxed 33 = .ok (.lastore, 1) := dk_80 (dk_at dksX0_boxed_1 9 rfl rfl)
theorem dX0_boxed_34 : decode cX0_boxed 34 = .ok (.dup, 1) := dk_89 (dk_at dksX0_boxed_1 10 rfl rfl)
theorem dX0_boxed_35 : decode cX0_boxed 35 = .ok (.iconst 5, 1) := dk_8 (dk_at dksX0_boxed_1 11 rfl rfl)
theorem dX0_boxed_36 : decode cX0_boxed 36 = .ok (.ldc2_w 18, 3) := dk_20 0 18 (dk_at dksX0_boxed_1 12 rfl rfl)
theorem dX0_boxed_39 : decode cX0_boxed 39 = .ok (.lastore, 1) := dk_80 (dk_at dksX0_boxed_1 15 rfl rfl)
theorem dX0_boxed_40 : decode cX0_boxed 40 = .ok (.dup, 1) := dk_89 (dk_at dksX0_boxed_1 16 rfl rfl)
theorem dX0_boxed_41 : decode cX0_boxed 41 = .ok (.bipush 6, 2) := dk_16 6 (dk_at dksX0_boxed_1 17 rfl rfl)
theorem dX0_boxed_43 : decode cX0_boxed 43 = .ok (.ldc2_w 20, 3) := dk_20 0 20 (dk_at dksX0_boxed_1 19 rfl rfl)
theorem dX0_boxed_46 : decode cX0_boxed 46 = .ok (.lastore, 1) := dk_80 (dk_at dksX0_boxed_1 22 rfl rfl)
theorem dX0_boxed_47 : decode cX0_boxed 47 = .ok (.dup, 1) := dk_89 (dk_at dksX0_boxed_1 23 rfl rfl)
theorem dX0_boxed_48 : decode cX0_boxed 48 = .ok (.bipush 7, 2) := dk_16 7 (dk_at dksX0_boxed_2 0 rfl rfl)
theorem dX0_boxed_50 : decode cX0_boxed 50 = .ok (.ldc2_w 22, 3) := dk_20 0 22 (dk_at dksX0_boxed_2 2 rfl rfl)
theorem dX0_boxed_53 : decode cX0_boxed 53 = .ok (.lastore, 1) := dk_80 (dk_at dksX0_boxed_2 5 rfl rfl)
theorem dX0_boxed_54 : decode cX0_boxed 54 = .ok (.astore_n 1, 1) := dk_76 (dk_at dksX0_boxed_2 6 rfl rfl)
theorem dX0_boxed_55 : decode cX0_boxed 55 = .ok (.iconst 0, 1) := dk_3 (dk_at dksX0_boxed_2 7 rfl rfl)
theorem dX0_boxed_56 : decode cX0_boxed 56 = .ok (.istore_n 2, 1) := dk_61 (dk_at dksX0_boxed_2 8 rfl rfl)
theorem dX0_boxed_57 : decode cX0_boxed 57 = .ok (.iconst 0, 1) := dk_3 (dk_at dksX0_boxed_2 9 rfl rfl)
theorem dX0_boxed_58 : decode cX0_boxed 58 = .ok (.istore_n 3, 1) := dk_62 (dk_at dksX0_boxed_2 10 rfl rfl)
theorem dX0_boxed_59 : decode cX0_boxed 59 = .ok (.iload_n 3, 1) := dk_29 (dk_at dksX0_boxed_2 11 rfl rfl)
theorem dX0_boxed_60 : decode cX0_boxed 60 = .ok (.bipush 8, 2) := dk_16 8 (dk_at dksX0_boxed_2 12 rfl rfl)
theorem dX0_boxed_62 : decode cX0_boxed 62 = .ok (.if_icmp .ge 38, 3) := dk_162 0 38 (dk_at dksX0_boxed_2 14 rfl rfl)
theorem dX0_boxed_65 : decode cX0_boxed 65 = .ok (.iload_n 2, 1) := dk_28 (dk_at dksX0_boxed_2 17 rfl rfl)
theorem dX0_boxed_66 : decode cX0_boxed 66 = .ok (.aload_n 1, 1) := dk_43 (dk_at dksX0_boxed_2 18 rfl rfl)
theorem dX0_boxed_67 : decode cX0_boxed 67 = .ok (.iload_n 3, 1) := dk_29 (dk_at dksX0_boxed_2 19 rfl rfl)
theorem dX0_boxed_68 : decode cX0_boxed 68 = .ok (.laload, 1) := dk_47 (dk_at dksX0_boxed_2 20 rfl rfl)
theorem dX0_boxed_69 : decode cX0_boxed 69 = .ok (.bipush 60, 2) := dk_16 60 (dk_at dksX0_boxed_2 21 rfl rfl)
theorem dX0_boxed_71 : decode cX0_boxed 71 = .ok (.iconst 4, 1) := dk_7 (dk_at dksX0_boxed_2 23 rfl rfl)
theorem dX0_boxed_72 : decode cX0_boxed 72 = .ok (.iload_n 0, 1) := dk_26 (dk_at dksX0_boxed_3 0 rfl rfl)
theorem dX0_boxed_73 : decode cX0_boxed 73 = .ok (.iconst 4, 1) := dk_7 (dk_at dksX0_boxed_3 1 rfl rfl)
theorem dX0_boxed_74 : decode cX0_boxed 74 = .ok (.iload_n 3, 1) := dk_29 (dk_at dksX0_boxed_3 2 rfl rfl)
theorem dX0_boxed_75 : decode cX0_boxed 75 = .ok (.imul, 1) := dk_104 (dk_at dksX0_boxed_3 3 rfl rfl)
theorem dX0_boxed_76 : decode cX0_boxed 76 = .ok (.iushr, 1) := dk_124 (dk_at dksX0_boxed_3 4 rfl rfl)
theorem dX0_boxed_77 : decode cX0_boxed 77 = .ok (.bipush 15, 2) := dk_16 15 (dk_at dksX0_boxed_3 5 rfl rfl)
theorem dX0_boxed_79 : decode cX0_boxed 79 = .ok (.iand, 1) := dk_126 (dk_at dksX0_boxed_3 7 rfl rfl)
theorem dX0_boxed_80 : decode cX0_boxed 80 = .ok (.imul, 1) := dk_104 (dk_at dksX0_boxed_3 8 rfl rfl)
theorem dX0_boxed_81 : decode cX0_boxed 81 = .ok (.isub, 1) := dk_100 (dk_at dksX0_boxed_3 9 rfl rfl)
theorem dX0_boxed_82 : decode cX0_boxed 82 = .ok (.lushr, 1) := dk_125 (dk_at dksX0_boxed_3 10 rfl rfl)
theorem dX0_boxed_83 : decode cX0_boxed 83 = .ok (.ldc2_w 24, 3) := dk_20 0 24 (dk_at dksX0_boxed_3 11 rfl rfl)
theorem dX0_boxed_86 : decode cX0_boxed 86 = .ok (.land, 1) := dk_127 (dk_at dksX0_boxed_3 14 rfl rfl)
theorem dX0_boxed_87 : decode cX0_boxed 87 = .ok (.l2i, 1) := dk_136 (dk_at dksX0_boxed_3 15 rfl rfl)
theorem dX0_boxed_88 : decode cX0_boxed 88 = .ok (.iconst 4, 1) := dk_7 (dk_at dksX0_boxed_3 16 rfl rfl)
theorem dX0_boxed_89 : decode cX0_boxed 89 = .ok (.iload_n 3, 1) := dk_29 (dk_at dksX0_boxed_3 17 rfl rfl)
theorem dX0_boxed_90 : decode cX0_boxed 90 = .ok (.imul, 1) := dk_104 (dk_at dksX0_boxed_3 18 rfl rfl)
theorem dX0_boxed_91 : decode cX0_boxed 91 = .ok (.ishl, 1) := dk_120 (dk_at dksX0_boxed_3 19 rfl rfl)
theorem dX0_boxed_92 : decode cX0_boxed 92 = .ok (.ior, 1) := dk_128 (dk_at dksX0_boxed_3 20 rfl rfl)
theorem dX0_boxed_93 : decode cX0_boxed 93 = .ok (.istore_n 2, 1) := dk_61 (dk_at dksX0_boxed_3 21 rfl rfl)
theorem dX0_boxed_94 : decode cX0_boxed 94 = .ok (.iinc 3 1, 3) := dk_132 3 1 (dk_at dksX0_boxed_4 0 rfl rfl)
theorem dX0_boxed_97 : decode cX0_boxed 97 = .ok (.goto (-38), 3) := dk_167 255 218 (dk_at dksX0_boxed_4 3 rfl rfl)
theorem dX0_boxed_100 : decode cX0_boxed 100 = .ok (.iload_n 2, 1) := dk_28 (dk_at dksX0_boxed_4 6 rfl rfl)
theorem dX0_boxed_101 : decode cX0_boxed 101 = .ok (.bipush 11, 2) := dk_16 11 (dk_at dksX0_boxed_4 7 rfl rfl)
theorem dX0_boxed_103 : decode cX0_boxed 103 = .ok (.ishl, 1) := dk_120 (dk_at dksX0_boxed_4 9 rfl rfl)
theorem dX0_boxed_104 : decode cX0_boxed 104 = .ok (.iload_n 2, 1) := dk_28 (dk_at dksX0_boxed_4 10 rfl rfl)
theorem dX0_boxed_105 : decode cX0_boxed 105 = .ok (.bipush 21, 2) := dk_16 21 (dk_at dksX0_boxed_4 11 rfl rfl)
theorem dX0_boxed_107 : decode cX0_boxed 107 = .ok (.iushr, 1) := dk_124 (dk_at dksX0_boxed_4 13 rfl rfl)
theorem dX0_boxed_108 : decode cX0_boxed 108 = .ok (.ior, 1) := dk_128 (dk_at dksX0_boxed_4 14 rfl rfl)
theorem dX0_boxed_109 : decode cX0_boxed 109 = .ok (.ireturn, 1) := dk_172 (dk_at dksX0_boxed_4 15 rfl rfl)
abbrev cX0_keyed : ByteArray := method_8_code
def yX0_keyed : MethodName := ⟨RX0, "keyed", "(LGostDesk;[BIIIII)V"⟩
def dkwX0_keyed_2 : List UInt8 := [126, 16, 16, 104, 7, 21, 8, 104, 96, 25, 7, 21, 8, 46, 184, 0, 42, 132, 8, 1, 167, 255, 227, 177]
abbrev dktX0_keyed_2 : List UInt8 := dkwX0_keyed_2 ++ []
def dkwX0_keyed_1 : List UInt8 := [89, 5, 21, 5, 79, 89, 6, 21, 6, 79, 58, 7, 3, 54, 8, 21, 8, 7, 162, 0, 29, 43, 28, 4]
abbrev dktX0_keyed_1 : List UInt8 := dkwX0_keyed_1 ++ dktX0_keyed_2
def dkwX0_keyed_0 : List UInt8 := [42, 28, 29, 21, 4, 21, 5, 21, 6, 182, 0, 36, 7, 188, 10, 89, 3, 29, 79, 89, 4, 21, 4, 79]
abbrev dktX0_keyed_0 : List UInt8 := dkwX0_keyed_0 ++ dktX0_keyed_1
theorem dksX0_keyed_0 : cX0_keyed.data.toList.drop 0 = dktX0_keyed_0 := by decide +kernel
theorem dksX0_keyed_1 : cX0_keyed.data.toList.drop 24 = dktX0_keyed_1 := dk_seg dksX0_keyed_0 24 rfl rfl
theorem dksX0_keyed_2 : cX0_keyed.data.toList.drop 48 = dktX0_keyed_2 := dk_seg dksX0_keyed_1 24 rfl rfl
theorem dX0_keyed_0 : decode cX0_keyed 0 = .ok (.aload_n 0, 1) := dk_42 (dk_at dksX0_keyed_0 0 rfl rfl)
theorem dX0_keyed_1 : decode cX0_keyed 1 = .ok (.iload_n 2, 1) := dk_28 (dk_at dksX0_keyed_0 1 rfl rfl)
theorem dX0_keyed_2 : decode cX0_keyed 2 = .ok (.iload_n 3, 1) := dk_29 (dk_at dksX0_keyed_0 2 rfl rfl)
theorem dX0_keyed_3 : decode cX0_keyed 3 = .ok (.iload 4, 2) := dk_21 4 (dk_at dksX0_keyed_0 3 rfl rfl)
theorem dX0_keyed_5 : decode cX0_keyed 5 = .ok (.iload 5, 2) := dk_21 5 (dk_at dksX0_keyed_0 5 rfl rfl)
theorem dX0_keyed_7 : decode cX0_keyed 7 = .ok (.iload 6, 2) := dk_21 6 (dk_at dksX0_keyed_0 7 rfl rfl)
theorem dX0_keyed_9 : decode cX0_keyed 9 = .ok (.invokevirtual 36, 3) := dk_182 0 36 (dk_at dksX0_keyed_0 9 rfl rfl)
theorem dX0_keyed_12 : decode cX0_keyed 12 = .ok (.iconst 4, 1) := dk_7 (dk_at dksX0_keyed_0 12 rfl rfl)
theorem dX0_keyed_13 : decode cX0_keyed 13 = .ok (.newarray .int, 2) := dk_188_10 (dk_at dksX0_keyed_0 13 rfl rfl)
theorem dX0_keyed_15 : decode cX0_keyed 15 = .ok (.dup, 1) := dk_89 (dk_at dksX0_keyed_0 15 rfl rfl)
theorem dX0_keyed_16 : decode cX0_keyed 16 = .ok (.iconst 0, 1) := dk_3 (dk_at dksX0_keyed_0 16 rfl rfl)
theorem dX0_keyed_17 : decode cX0_keyed 17 = .ok (.iload_n 3, 1) := dk_29 (dk_at dksX0_keyed_0 17 rfl rfl)
theorem dX0_keyed_18 : decode cX0_keyed 18 = .ok (.iastore, 1) := dk_79 (dk_at dksX0_keyed_0 18 rfl rfl)
theorem dX0_keyed_19 : decode cX0_keyed 19 = .ok (.dup, 1) := dk_89 (dk_at dksX0_keyed_0 19 rfl rfl)
theorem dX0_keyed_20 : decode cX0_keyed 20 = .ok (.iconst 1, 1) := dk_4 (dk_at dksX0_keyed_0 20 rfl rfl)
theorem dX0_keyed_21 : decode cX0_keyed 21 = .ok (.iload 4, 2) := dk_21 4 (dk_at dksX0_keyed_0 21 rfl rfl)
theorem dX0_keyed_23 : decode cX0_keyed 23 = .ok (.iastore, 1) := dk_79 (dk_at dksX0_keyed_0 23 rfl rfl)
theorem dX0_keyed_24 : decode cX0_keyed 24 = .ok (.dup, 1) := dk_89 (dk_at dksX0_keyed_1 0 rfl rfl)
theorem dX0_keyed_25 : decode cX0_keyed 25 = .ok (.iconst 2, 1) := dk_5 (dk_at dksX0_keyed_1 1 rfl rfl)
theorem dX0_keyed_26 : decode cX0_keyed 26 = .ok (.iload 5, 2) := dk_21 5 (dk_at dksX0_keyed_1 2 rfl rfl)
theorem dX0_keyed_28 : decode cX0_keyed 28 = .ok (.iastore, 1) := dk_79 (dk_at dksX0_keyed_1 4 rfl rfl)
theorem dX0_keyed_29 : decode cX0_keyed 29 = .ok (.dup, 1) := dk_89 (dk_at dksX0_keyed_1 5 rfl rfl)
theorem dX0_keyed_30 : decode cX0_keyed 30 = .ok (.iconst 3, 1) := dk_6 (dk_at dksX0_keyed_1 6 rfl rfl)
theorem dX0_keyed_31 : decode cX0_keyed 31 = .ok (.iload 6, 2) := dk_21 6 (dk_at dksX0_keyed_1 7 rfl rfl)
theorem dX0_keyed_33 : decode cX0_keyed 33 = .ok (.iastore, 1) := dk_79 (dk_at dksX0_keyed_1 9 rfl rfl)
theorem dX0_keyed_34 : decode cX0_keyed 34 = .ok (.astore 7, 2) := dk_58 7 (dk_at dksX0_keyed_1 10 rfl rfl)
theorem dX0_keyed_36 : decode cX0_keyed 36 = .ok (.iconst 0, 1) := dk_3 (dk_at dksX0_keyed_1 12 rfl rfl)
theorem dX0_keyed_37 : decode cX0_keyed 37 = .ok (.istore 8, 2) := dk_54 8 (dk_at dksX0_keyed_1 13 rfl rfl)
theorem dX0_keyed_39 : decode cX0_keyed 39 = .ok (.iload 8, 2) := dk_21 8 (dk_at dksX0_keyed_1 15 rfl rfl)
theorem dX0_keyed_41 : decode cX0_keyed 41 = .ok (.iconst 4, 1) := dk_7 (dk_at dksX0_keyed_1 17 rfl rfl)
theorem dX0_keyed_42 : decode cX0_keyed 42 = .ok (.if_icmp .ge 29, 3) := dk_162 0 29 (dk_at dksX0_keyed_1 18 rfl rfl)
theorem dX0_keyed_45 : decode cX0_keyed 45 = .ok (.aload_n 1, 1) := dk_43 (dk_at dksX0_keyed_1 21 rfl rfl)
theorem dX0_keyed_46 : decode cX0_keyed 46 = .ok (.iload_n 2, 1) := dk_28 (dk_at dksX0_keyed_1 22 rfl rfl)
theorem dX0_keyed_47 : decode cX0_keyed 47 = .ok (.iconst 1, 1) := dk_4 (dk_at dksX0_keyed_1 23 rfl rfl)
theorem dX0_keyed_48 : decode cX0_keyed 48 = .ok (.iand, 1) := dk_126 (dk_at dksX0_keyed_2 0 rfl rfl)
theorem dX0_keyed_49 : decode cX0_keyed 49 = .ok (.bipush 16, 2) := dk_16 16 (dk_at dksX0_keyed_2 1 rfl rfl)
theorem dX0_keyed_51 : decode cX0_keyed 51 = .ok (.imul, 1) := dk_104 (dk_at dksX0_keyed_2 3 rfl rfl)
theorem dX0_keyed_52 : decode cX0_keyed 52 = .ok (.iconst 4, 1) := dk_7 (dk_at dksX0_keyed_2 4 rfl rfl)
theorem dX0_keyed_53 : decode cX0_keyed 53 = .ok (.iload 8, 2) := dk_21 8 (dk_at dksX0_keyed_2 5 rfl rfl)
theorem dX0_keyed_55 : decode cX0_keyed 55 = .ok (.imul, 1) := dk_104 (dk_at dksX0_keyed_2 7 rfl rfl)
theorem dX0_keyed_56 : decode cX0_keyed 56 = .ok (.iadd, 1) := dk_96 (dk_at dksX0_keyed_2 8 rfl rfl)
theorem dX0_keyed_57 : decode cX0_keyed 57 = .ok (.aload 7, 2) := dk_25 7 (dk_at dksX0_keyed_2 9 rfl rfl)
theorem dX0_keyed_59 : decode cX0_keyed 59 = .ok (.iload 8, 2) := dk_21 8 (dk_at dksX0_keyed_2 11 rfl rfl)
theorem dX0_keyed_61 : decode cX0_keyed 61 = .ok (.iaload, 1) := dk_46 (dk_at dksX0_keyed_2 13 rfl rfl)
theorem dX0_keyed_62 : decode cX0_keyed 62 = .ok (.invokestatic 42, 3) := dk_184 0 42 (dk_at dksX0_keyed_2 14 rfl rfl)
theorem dX0_keyed_65 : decode cX0_keyed 65 = .ok (.iinc 8 1, 3) := dk_132 8 1 (dk_at dksX0_keyed_2 17 rfl rfl)
theorem dX0_keyed_68 : decode cX0_keyed 68 = .ok (.goto (-29), 3) := dk_167 255 227 (dk_at dksX0_keyed_2 20 rfl rfl)
theorem dX0_keyed_71 : decode cX0_keyed 71 = .ok (.return_, 1) := dk_177 (dk_at dksX0_keyed_2 23 rfl rfl)
abbrev cX0_laid : ByteArray := method_7_code
def yX0_laid : MethodName := ⟨RX0, "laid", "([BII)V"⟩
def dkwX0_laid_1 : List UInt8 := [132, 3, 1, 167, 255, 233, 177]
abbrev dktX0_laid_1 : List UInt8 := dkwX0_laid_1 ++ []
def dkwX0_laid_0 : List UInt8 := [3, 62, 29, 7, 162, 0, 24, 42, 27, 29, 96, 28, 16, 24, 16, 8, 29, 104, 100, 122, 145, 84]
abbrev dktX0_laid_0 : List UInt8 := dkwX0_laid_0 ++ dktX0_laid_1
theorem dksX0_laid_0 : cX0_laid.data.toList.drop 0 = dktX0_laid_0 := by decide +kernel
theorem dksX0_laid_1 : cX0_laid.data.toList.drop 22 = dktX0_laid_1 := dk_seg dksX0_laid_0 22 rfl rfl
theorem dX0_laid_0 : decode cX0_laid 0 = .ok (.iconst 0, 1) := dk_3 (dk_at dksX0_laid_0 0 rfl rfl)
theorem dX0_laid_1 : decode cX0_laid 1 = .ok (.istore_n 3, 1) := dk_62 (dk_at dksX0_laid_0 1 rfl rfl)
theorem dX0_laid_2 : decode cX0_laid 2 = .ok (.iload_n 3, 1) := dk_29 (dk_at dksX0_laid_0 2 rfl rfl)
theorem dX0_laid_3 : decode cX0_laid 3 = .ok (.iconst 4, 1) := dk_7 (dk_at dksX0_laid_0 3 rfl rfl)
theorem dX0_laid_4 : decode cX0_laid 4 = .ok (.if_icmp .ge 24, 3) := dk_162 0 24 (dk_at dksX0_laid_0 4 rfl rfl)
theorem dX0_laid_7 : decode cX0_laid 7 = .ok (.aload_n 0, 1) := dk_42 (dk_at dksX0_laid_0 7 rfl rfl)
theorem dX0_laid_8 : decode cX0_laid 8 = .ok (.iload_n 1, 1) := dk_27 (dk_at dksX0_laid_0 8 rfl rfl)
theorem dX0_laid_9 : decode cX0_laid 9 = .ok (.iload_n 3, 1) := dk_29 (dk_at dksX0_laid_0 9 rfl rfl)
theorem dX0_laid_10 : decode cX0_laid 10 = .ok (.iadd, 1) := dk_96 (dk_at dksX0_laid_0 10 rfl rfl)
theorem dX0_laid_11 : decode cX0_laid 11 = .ok (.iload_n 2, 1) := dk_28 (dk_at dksX0_laid_0 11 rfl rfl)
theorem dX0_laid_12 : decode cX0_laid 12 = .ok (.bipush 24, 2) := dk_16 24 (dk_at dksX0_laid_0 12 rfl rfl)
theorem dX0_laid_14 : decode cX0_laid 14 = .ok (.bipush 8, 2) := dk_16 8 (dk_at dksX0_laid_0 14 rfl rfl)
theorem dX0_laid_16 : decode cX0_laid 16 = .ok (.iload_n 3, 1) := dk_29 (dk_at dksX0_laid_0 16 rfl rfl)
theorem dX0_laid_17 : decode cX0_laid 17 = .ok (.imul, 1) := dk_104 (dk_at dksX0_laid_0 17 rfl rfl)
theorem dX0_laid_18 : decode cX0_laid 18 = .ok (.isub, 1) := dk_100 (dk_at dksX0_laid_0 18 rfl rfl)
theorem dX0_laid_19 : decode cX0_laid 19 = .ok (.ishr, 1) := dk_122 (dk_at dksX0_laid_0 19 rfl rfl)
theorem dX0_laid_20 : decode cX0_laid 20 = .ok (.i2b, 1) := dk_145 (dk_at dksX0_laid_0 20 rfl rfl)
theorem dX0_laid_21 : decode cX0_laid 21 = .ok (.bastore, 1) := dk_84 (dk_at dksX0_laid_0 21 rfl rfl)
theorem dX0_laid_22 : decode cX0_laid 22 = .ok (.iinc 3 1, 3) := dk_132 3 1 (dk_at dksX0_laid_1 0 rfl rfl)
theorem dX0_laid_25 : decode cX0_laid 25 = .ok (.goto (-23), 3) := dk_167 255 233 (dk_at dksX0_laid_1 3 rfl rfl)
theorem dX0_laid_28 : decode cX0_laid 28 = .ok (.return_, 1) := dk_177 (dk_at dksX0_laid_1 6 rfl rfl)
abbrev cX0_blocked : ByteArray := method_9_code
def yX0_blocked : MethodName := ⟨RX0, "blocked", "(LGostDesk;[BII)V"⟩
def dkwX0_blocked_0 : List UInt8 := [42, 28, 29, 182, 0, 46, 43, 3, 28, 184, 0, 42, 43, 7, 29, 184, 0, 42, 177]
abbrev dktX0_blocked_0 : List UInt8 := dkwX0_blocked_0 ++ []
theorem dksX0_blocked_0 : cX0_blocked.data.toList.drop 0 = dktX0_blocked_0 := by decide +kernel
theorem dX0_blocked_0 : decode cX0_blocked 0 = .ok (.aload_n 0, 1) := dk_42 (dk_at dksX0_blocked_0 0 rfl rfl)
theorem dX0_blocked_1 : decode cX0_blocked 1 = .ok (.iload_n 2, 1) := dk_28 (dk_at dksX0_blocked_0 1 rfl rfl)
theorem dX0_blocked_2 : decode cX0_blocked 2 = .ok (.iload_n 3, 1) := dk_29 (dk_at dksX0_blocked_0 2 rfl rfl)
theorem dX0_blocked_3 : decode cX0_blocked 3 = .ok (.invokevirtual 46, 3) := dk_182 0 46 (dk_at dksX0_blocked_0 3 rfl rfl)
theorem dX0_blocked_6 : decode cX0_blocked 6 = .ok (.aload_n 1, 1) := dk_43 (dk_at dksX0_blocked_0 6 rfl rfl)
theorem dX0_blocked_7 : decode cX0_blocked 7 = .ok (.iconst 0, 1) := dk_3 (dk_at dksX0_blocked_0 7 rfl rfl)
theorem dX0_blocked_8 : decode cX0_blocked 8 = .ok (.iload_n 2, 1) := dk_28 (dk_at dksX0_blocked_0 8 rfl rfl)
theorem dX0_blocked_9 : decode cX0_blocked 9 = .ok (.invokestatic 42, 3) := dk_184 0 42 (dk_at dksX0_blocked_0 9 rfl rfl)
theorem dX0_blocked_12 : decode cX0_blocked 12 = .ok (.aload_n 1, 1) := dk_43 (dk_at dksX0_blocked_0 12 rfl rfl)
theorem dX0_blocked_13 : decode cX0_blocked 13 = .ok (.iconst 4, 1) := dk_7 (dk_at dksX0_blocked_0 13 rfl rfl)
theorem dX0_blocked_14 : decode cX0_blocked 14 = .ok (.iload_n 3, 1) := dk_29 (dk_at dksX0_blocked_0 14 rfl rfl)
theorem dX0_blocked_15 : decode cX0_blocked 15 = .ok (.invokestatic 42, 3) := dk_184 0 42 (dk_at dksX0_blocked_0 15 rfl rfl)
theorem dX0_blocked_18 : decode cX0_blocked 18 = .ok (.return_, 1) := dk_177 (dk_at dksX0_blocked_0 18 rfl rfl)
abbrev cX0_shown : ByteArray := method_10_code
def yX0_shown : MethodName := ⟨RX0, "shown", "(LGostDesk;[BI)Z"⟩
def dkwX0_shown_2 : List UInt8 := [160, 0, 7, 4, 167, 0, 4, 3, 172]
abbrev dktX0_shown_2 : List UInt8 := dkwX0_shown_2 ++ []
def dkwX0_shown_1 : List UInt8 := [172, 132, 3, 1, 167, 255, 230, 42, 28, 182, 0, 50, 43, 28, 16, 7, 126, 51, 17, 0, 255, 126]
abbrev dktX0_shown_1 : List UInt8 := dkwX0_shown_1 ++ dktX0_shown_2
def dkwX0_shown_0 : List UInt8 := [3, 62, 29, 16, 8, 162, 0, 26, 42, 29, 182, 0, 50, 43, 29, 51, 17, 0, 255, 126, 159, 0, 5, 3]
abbrev dktX0_shown_0 : List UInt8 := dkwX0_shown_0 ++ dktX0_shown_1
theorem dksX0_shown_0 : cX0_shown.data.toList.drop 0 = dktX0_shown_0 := by decide +kernel
theorem dksX0_shown_1 : cX0_shown.data.toList.drop 24 = dktX0_shown_1 := dk_seg dksX0_shown_0 24 rfl rfl
theorem dksX0_shown_2 : cX0_shown.data.toList.drop 46 = dktX0_shown_2 := dk_seg dksX0_shown_1 22 rfl rfl
theorem dX0_shown_0 : decode cX0_shown 0 = .ok (.iconst 0, 1) := dk_3 (dk_at dksX0_shown_0 0 rfl rfl)
theorem dX0_shown_1 : decode cX0_shown 1 = .ok (.istore_n 3, 1) := dk_62 (dk_at dksX0_shown_0 1 rfl rfl)
theorem dX0_shown_2 : decode cX0_shown 2 = .ok (.iload_n 3, 1) := dk_29 (dk_at dksX0_shown_0 2 rfl rfl)
theorem dX0_shown_3 : decode cX0_shown 3 = .ok (.bipush 8, 2) := dk_16 8 (dk_at dksX0_shown_0 3 rfl rfl)
theorem dX0_shown_5 : decode cX0_shown 5 = .ok (.if_icmp .ge 26, 3) := dk_162 0 26 (dk_at dksX0_shown_0 5 rfl rfl)
theorem dX0_shown_8 : decode cX0_shown 8 = .ok (.aload_n 0, 1) := dk_42 (dk_at dksX0_shown_0 8 rfl rfl)
theorem dX0_shown_9 : decode cX0_shown 9 = .ok (.iload_n 3, 1) := dk_29 (dk_at dksX0_shown_0 9 rfl rfl)
theorem dX0_shown_10 : decode cX0_shown 10 = .ok (.invokevirtual 50, 3) := dk_182 0 50 (dk_at dksX0_shown_0 10 rfl rfl)
theorem dX0_shown_13 : decode cX0_shown 13 = .ok (.aload_n 1, 1) := dk_43 (dk_at dksX0_shown_0 13 rfl rfl)
theorem dX0_shown_14 : decode cX0_shown 14 = .ok (.iload_n 3, 1) := dk_29 (dk_at dksX0_shown_0 14 rfl rfl)
theorem dX0_shown_15 : decode cX0_shown 15 = .ok (.baload, 1) := dk_51 (dk_at dksX0_shown_0 15 rfl rfl)
theorem dX0_shown_16 : decode cX0_shown 16 = .ok (.sipush 255, 3) := dk_17 0 255 (dk_at dksX0_shown_0 16 rfl rfl)
theorem dX0_shown_19 : decode cX0_shown 19 = .ok (.iand, 1) := dk_126 (dk_at dksX0_shown_0 19 rfl rfl)
theorem dX0_shown_20 : decode cX0_shown 20 = .ok (.if_icmp .eq 5, 3) := dk_159 0 5 (dk_at dksX0_shown_0 20 rfl rfl)
theorem dX0_shown_23 : decode cX0_shown 23 = .ok (.iconst 0, 1) := dk_3 (dk_at dksX0_shown_0 23 rfl rfl)
theorem dX0_shown_24 : decode cX0_shown 24 = .ok (.ireturn, 1) := dk_172 (dk_at dksX0_shown_1 0 rfl rfl)
theorem dX0_shown_25 : decode cX0_shown 25 = .ok (.iinc 3 1, 3) := dk_132 3 1 (dk_at dksX0_shown_1 1 rfl rfl)
theorem dX0_shown_28 : decode cX0_shown 28 = .ok (.goto (-26), 3) := dk_167 255 230 (dk_at dksX0_shown_1 4 rfl rfl)
theorem dX0_shown_31 : decode cX0_shown 31 = .ok (.aload_n 0, 1) := dk_42 (dk_at dksX0_shown_1 7 rfl rfl)
theorem dX0_shown_32 : decode cX0_shown 32 = .ok (.iload_n 2, 1) := dk_28 (dk_at dksX0_shown_1 8 rfl rfl)
theorem dX0_shown_33 : decode cX0_shown 33 = .ok (.invokevirtual 50, 3) := dk_182 0 50 (dk_at dksX0_shown_1 9 rfl rfl)
theorem dX0_shown_36 : decode cX0_shown 36 = .ok (.aload_n 1, 1) := dk_43 (dk_at dksX0_shown_1 12 rfl rfl)
theorem dX0_shown_37 : decode cX0_shown 37 = .ok (.iload_n 2, 1) := dk_28 (dk_at dksX0_shown_1 13 rfl rfl)
theorem dX0_shown_38 : decode cX0_shown 38 = .ok (.bipush 7, 2) := dk_16 7 (dk_at dksX0_shown_1 14 rfl rfl)
theorem dX0_shown_40 : decode cX0_shown 40 = .ok (.iand, 1) := dk_126 (dk_at dksX0_shown_1 16 rfl rfl)
theorem dX0_shown_41 : decode cX0_shown 41 = .ok (.baload, 1) := dk_51 (dk_at dksX0_shown_1 17 rfl rfl)
theorem dX0_shown_42 : decode cX0_shown 42 = .ok (.sipush 255, 3) := dk_17 0 255 (dk_at dksX0_shown_1 18 rfl rfl)
theorem dX0_shown_45 : decode cX0_shown 45 = .ok (.iand, 1) := dk_126 (dk_at dksX0_shown_1 21 rfl rfl)
theorem dX0_shown_46 : decode cX0_shown 46 = .ok (.if_icmp .ne 7, 3) := dk_160 0 7 (dk_at dksX0_shown_2 0 rfl rfl)
theorem dX0_shown_49 : decode cX0_shown 49 = .ok (.iconst 1, 1) := dk_4 (dk_at dksX0_shown_2 3 rfl rfl)
theorem dX0_shown_50 : decode cX0_shown 50 = .ok (.goto 4, 3) := dk_167 0 4 (dk_at dksX0_shown_2 4 rfl rfl)
theorem dX0_shown_53 : decode cX0_shown 53 = .ok (.iconst 0, 1) := dk_3 (dk_at dksX0_shown_2 7 rfl rfl)
theorem dX0_shown_54 : decode cX0_shown 54 = .ok (.ireturn, 1) := dk_172 (dk_at dksX0_shown_2 8 rfl rfl)
abbrev cX0_copy : ByteArray := method_11_code
def yX0_copy : MethodName := ⟨RX0, "copy", "([B)[B"⟩
def dkwX0_copy_1 : List UInt8 := [167, 255, 241, 43, 176]
abbrev dktX0_copy_1 : List UInt8 := dkwX0_copy_1 ++ []
def dkwX0_copy_0 : List UInt8 := [42, 190, 188, 8, 76, 3, 61, 28, 43, 190, 162, 0, 15, 43, 28, 42, 28, 51, 84, 132, 2, 1]
abbrev dktX0_copy_0 : List UInt8 := dkwX0_copy_0 ++ dktX0_copy_1
theorem dksX0_copy_0 : cX0_copy.data.toList.drop 0 = dktX0_copy_0 := by decide +kernel
theorem dksX0_copy_1 : cX0_copy.data.toList.drop 22 = dktX0_copy_1 := dk_seg dksX0_copy_0 22 rfl rfl
theorem dX0_copy_0 : decode cX0_copy 0 = .ok (.aload_n 0, 1) := dk_42 (dk_at dksX0_copy_0 0 rfl rfl)
theorem dX0_copy_1 : decode cX0_copy 1 = .ok (.arraylength, 1) := dk_190 (dk_at dksX0_copy_0 1 rfl rfl)
theorem dX0_copy_2 : decode cX0_copy 2 = .ok (.newarray .byte, 2) := dk_188_8 (dk_at dksX0_copy_0 2 rfl rfl)
theorem dX0_copy_4 : decode cX0_copy 4 = .ok (.astore_n 1, 1) := dk_76 (dk_at dksX0_copy_0 4 rfl rfl)
theorem dX0_copy_5 : decode cX0_copy 5 = .ok (.iconst 0, 1) := dk_3 (dk_at dksX0_copy_0 5 rfl rfl)
theorem dX0_copy_6 : decode cX0_copy 6 = .ok (.istore_n 2, 1) := dk_61 (dk_at dksX0_copy_0 6 rfl rfl)
theorem dX0_copy_7 : decode cX0_copy 7 = .ok (.iload_n 2, 1) := dk_28 (dk_at dksX0_copy_0 7 rfl rfl)
theorem dX0_copy_8 : decode cX0_copy 8 = .ok (.aload_n 1, 1) := dk_43 (dk_at dksX0_copy_0 8 rfl rfl)
theorem dX0_copy_9 : decode cX0_copy 9 = .ok (.arraylength, 1) := dk_190 (dk_at dksX0_copy_0 9 rfl rfl)
theorem dX0_copy_10 : decode cX0_copy 10 = .ok (.if_icmp .ge 15, 3) := dk_162 0 15 (dk_at dksX0_copy_0 10 rfl rfl)
theorem dX0_copy_13 : decode cX0_copy 13 = .ok (.aload_n 1, 1) := dk_43 (dk_at dksX0_copy_0 13 rfl rfl)
theorem dX0_copy_14 : decode cX0_copy 14 = .ok (.iload_n 2, 1) := dk_28 (dk_at dksX0_copy_0 14 rfl rfl)
theorem dX0_copy_15 : decode cX0_copy 15 = .ok (.aload_n 0, 1) := dk_42 (dk_at dksX0_copy_0 15 rfl rfl)
theorem dX0_copy_16 : decode cX0_copy 16 = .ok (.iload_n 2, 1) := dk_28 (dk_at dksX0_copy_0 16 rfl rfl)
theorem dX0_copy_17 : decode cX0_copy 17 = .ok (.baload, 1) := dk_51 (dk_at dksX0_copy_0 17 rfl rfl)
theorem dX0_copy_18 : decode cX0_copy 18 = .ok (.bastore, 1) := dk_84 (dk_at dksX0_copy_0 18 rfl rfl)
theorem dX0_copy_19 : decode cX0_copy 19 = .ok (.iinc 2 1, 3) := dk_132 2 1 (dk_at dksX0_copy_0 19 rfl rfl)
theorem dX0_copy_22 : decode cX0_copy 22 = .ok (.goto (-15), 3) := dk_167 255 241 (dk_at dksX0_copy_1 0 rfl rfl)
theorem dX0_copy_25 : decode cX0_copy 25 = .ok (.aload_n 1, 1) := dk_43 (dk_at dksX0_copy_1 3 rfl rfl)
theorem dX0_copy_26 : decode cX0_copy 26 = .ok (.areturn, 1) := dk_176 (dk_at dksX0_copy_1 4 rfl rfl)
abbrev cX0_told : ByteArray := method_12_code
def yX0_told : MethodName := ⟨RX0, "told", "(LGostDesk;)[B"⟩
def dkwX0_told_1 : List UInt8 := [132, 2, 1, 167, 255, 238, 43, 176]
abbrev dktX0_told_1 : List UInt8 := dkwX0_told_1 ++ []
def dkwX0_told_0 : List UInt8 := [16, 8, 188, 8, 76, 3, 61, 28, 16, 8, 162, 0, 18, 43, 28, 42, 28, 182, 0, 50, 145, 84]
abbrev dktX0_told_0 : List UInt8 := dkwX0_told_0 ++ dktX0_told_1
theorem dksX0_told_0 : cX0_told.data.toList.drop 0 = dktX0_told_0 := by decide +kernel
theorem dksX0_told_1 : cX0_told.data.toList.drop 22 = dktX0_told_1 := dk_seg dksX0_told_0 22 rfl rfl
theorem dX0_told_0 : decode cX0_told 0 = .ok (.bipush 8, 2) := dk_16 8 (dk_at dksX0_told_0 0 rfl rfl)
theorem dX0_told_2 : decode cX0_told 2 = .ok (.newarray .byte, 2) := dk_188_8 (dk_at dksX0_told_0 2 rfl rfl)
theorem dX0_told_4 : decode cX0_told 4 = .ok (.astore_n 1, 1) := dk_76 (dk_at dksX0_told_0 4 rfl rfl)
theorem dX0_told_5 : decode cX0_told 5 = .ok (.iconst 0, 1) := dk_3 (dk_at dksX0_told_0 5 rfl rfl)
theorem dX0_told_6 : decode cX0_told 6 = .ok (.istore_n 2, 1) := dk_61 (dk_at dksX0_told_0 6 rfl rfl)
theorem dX0_told_7 : decode cX0_told 7 = .ok (.iload_n 2, 1) := dk_28 (dk_at dksX0_told_0 7 rfl rfl)
theorem dX0_told_8 : decode cX0_told 8 = .ok (.bipush 8, 2) := dk_16 8 (dk_at dksX0_told_0 8 rfl rfl)
theorem dX0_told_10 : decode cX0_told 10 = .ok (.if_icmp .ge 18, 3) := dk_162 0 18 (dk_at dksX0_told_0 10 rfl rfl)
theorem dX0_told_13 : decode cX0_told 13 = .ok (.aload_n 1, 1) := dk_43 (dk_at dksX0_told_0 13 rfl rfl)
theorem dX0_told_14 : decode cX0_told 14 = .ok (.iload_n 2, 1) := dk_28 (dk_at dksX0_told_0 14 rfl rfl)
theorem dX0_told_15 : decode cX0_told 15 = .ok (.aload_n 0, 1) := dk_42 (dk_at dksX0_told_0 15 rfl rfl)
theorem dX0_told_16 : decode cX0_told 16 = .ok (.iload_n 2, 1) := dk_28 (dk_at dksX0_told_0 16 rfl rfl)
theorem dX0_told_17 : decode cX0_told 17 = .ok (.invokevirtual 50, 3) := dk_182 0 50 (dk_at dksX0_told_0 17 rfl rfl)
theorem dX0_told_20 : decode cX0_told 20 = .ok (.i2b, 1) := dk_145 (dk_at dksX0_told_0 20 rfl rfl)
theorem dX0_told_21 : decode cX0_told 21 = .ok (.bastore, 1) := dk_84 (dk_at dksX0_told_0 21 rfl rfl)
theorem dX0_told_22 : decode cX0_told 22 = .ok (.iinc 2 1, 3) := dk_132 2 1 (dk_at dksX0_told_1 0 rfl rfl)
theorem dX0_told_25 : decode cX0_told 25 = .ok (.goto (-18), 3) := dk_167 255 238 (dk_at dksX0_told_1 3 rfl rfl)
theorem dX0_told_28 : decode cX0_told 28 = .ok (.aload_n 1, 1) := dk_43 (dk_at dksX0_told_1 6 rfl rfl)
theorem dX0_told_29 : decode cX0_told 29 = .ok (.areturn, 1) := dk_176 (dk_at dksX0_told_1 7 rfl rfl)
abbrev cX0_same : ByteArray := method_13_code
def yX0_same : MethodName := ⟨RX0, "same", "([B[BI)Z"⟩
def dkwX0_same_1 : List UInt8 := [160, 0, 7, 28, 167, 0, 4, 3, 159, 0, 5, 3, 172, 132, 3, 1, 167, 255, 219, 4, 172]
abbrev dktX0_same_1 : List UInt8 := dkwX0_same_1 ++ []
def dkwX0_same_0 : List UInt8 := [3, 62, 29, 16, 8, 162, 0, 37, 42, 29, 51, 43, 29, 51, 130, 17, 0, 255, 126, 29, 7, 112, 6]
abbrev dktX0_same_0 : List UInt8 := dkwX0_same_0 ++ dktX0_same_1
theorem dksX0_same_0 : cX0_same.data.toList.drop 0 = dktX0_same_0 := by decide +kernel
theorem dksX0_same_1 : cX0_same.data.toList.drop 23 = dktX0_same_1 := dk_seg dksX0_same_0 23 rfl rfl
theorem dX0_same_0 : decode cX0_same 0 = .ok (.iconst 0, 1) := dk_3 (dk_at dksX0_same_0 0 rfl rfl)
theorem dX0_same_1 : decode cX0_same 1 = .ok (.istore_n 3, 1) := dk_62 (dk_at dksX0_same_0 1 rfl rfl)
theorem dX0_same_2 : decode cX0_same 2 = .ok (.iload_n 3, 1) := dk_29 (dk_at dksX0_same_0 2 rfl rfl)
theorem dX0_same_3 : decode cX0_same 3 = .ok (.bipush 8, 2) := dk_16 8 (dk_at dksX0_same_0 3 rfl rfl)
theorem dX0_same_5 : decode cX0_same 5 = .ok (.if_icmp .ge 37, 3) := dk_162 0 37 (dk_at dksX0_same_0 5 rfl rfl)
theorem dX0_same_8 : decode cX0_same 8 = .ok (.aload_n 0, 1) := dk_42 (dk_at dksX0_same_0 8 rfl rfl)
theorem dX0_same_9 : decode cX0_same 9 = .ok (.iload_n 3, 1) := dk_29 (dk_at dksX0_same_0 9 rfl rfl)
theorem dX0_same_10 : decode cX0_same 10 = .ok (.baload, 1) := dk_51 (dk_at dksX0_same_0 10 rfl rfl)
theorem dX0_same_11 : decode cX0_same 11 = .ok (.aload_n 1, 1) := dk_43 (dk_at dksX0_same_0 11 rfl rfl)
theorem dX0_same_12 : decode cX0_same 12 = .ok (.iload_n 3, 1) := dk_29 (dk_at dksX0_same_0 12 rfl rfl)
theorem dX0_same_13 : decode cX0_same 13 = .ok (.baload, 1) := dk_51 (dk_at dksX0_same_0 13 rfl rfl)
theorem dX0_same_14 : decode cX0_same 14 = .ok (.ixor, 1) := dk_130 (dk_at dksX0_same_0 14 rfl rfl)
theorem dX0_same_15 : decode cX0_same 15 = .ok (.sipush 255, 3) := dk_17 0 255 (dk_at dksX0_same_0 15 rfl rfl)
theorem dX0_same_18 : decode cX0_same 18 = .ok (.iand, 1) := dk_126 (dk_at dksX0_same_0 18 rfl rfl)
theorem dX0_same_19 : decode cX0_same 19 = .ok (.iload_n 3, 1) := dk_29 (dk_at dksX0_same_0 19 rfl rfl)
theorem dX0_same_20 : decode cX0_same 20 = .ok (.iconst 4, 1) := dk_7 (dk_at dksX0_same_0 20 rfl rfl)
theorem dX0_same_21 : decode cX0_same 21 = .ok (.irem, 1) := dk_112 (dk_at dksX0_same_0 21 rfl rfl)
theorem dX0_same_22 : decode cX0_same 22 = .ok (.iconst 3, 1) := dk_6 (dk_at dksX0_same_0 22 rfl rfl)
theorem dX0_same_23 : decode cX0_same 23 = .ok (.if_icmp .ne 7, 3) := dk_160 0 7 (dk_at dksX0_same_1 0 rfl rfl)
theorem dX0_same_26 : decode cX0_same 26 = .ok (.iload_n 2, 1) := dk_28 (dk_at dksX0_same_1 3 rfl rfl)
theorem dX0_same_27 : decode cX0_same 27 = .ok (.goto 4, 3) := dk_167 0 4 (dk_at dksX0_same_1 4 rfl rfl)
theorem dX0_same_30 : decode cX0_same 30 = .ok (.iconst 0, 1) := dk_3 (dk_at dksX0_same_1 7 rfl rfl)
theorem dX0_same_31 : decode cX0_same 31 = .ok (.if_icmp .eq 5, 3) := dk_159 0 5 (dk_at dksX0_same_1 8 rfl rfl)
theorem dX0_same_34 : decode cX0_same 34 = .ok (.iconst 0, 1) := dk_3 (dk_at dksX0_same_1 11 rfl rfl)
theorem dX0_same_35 : decode cX0_same 35 = .ok (.ireturn, 1) := dk_172 (dk_at dksX0_same_1 12 rfl rfl)
theorem dX0_same_36 : decode cX0_same 36 = .ok (.iinc 3 1, 3) := dk_132 3 1 (dk_at dksX0_same_1 13 rfl rfl)
theorem dX0_same_39 : decode cX0_same 39 = .ok (.goto (-37), 3) := dk_167 255 219 (dk_at dksX0_same_1 16 rfl rfl)
theorem dX0_same_42 : decode cX0_same 42 = .ok (.iconst 1, 1) := dk_4 (dk_at dksX0_same_1 19 rfl rfl)
theorem dX0_same_43 : decode cX0_same 43 = .ok (.ireturn, 1) := dk_172 (dk_at dksX0_same_1 20 rfl rfl)
theorem q7 : (Jvm.Cond.initialized "GostDeskLaw") ∈ lw_all := lw_g (lw_at lw_m1 0 rfl) rfl
theorem q21 : (Jvm.Cond.classLink "GostDeskLaw" (37 : Nat) "GostDesk") ∈ lw_all := lw_g (lw_at lw_m1 14 rfl) rfl
theorem q23 : (Jvm.Cond.methodLink "GostDeskLaw" (53 : Nat) ({ cls := "GostDesk", name := "<init>", desc := "()V" } : Jvm.MethodName)) ∈ lw_all := lw_g (lw_at lw_m1 16 rfl) rfl
theorem q40 : (Jvm.Cond.methodLink "GostDeskLaw" (74 : Nat) ({ cls := "GostDesk", name := "lock", desc := "(I)V" } : Jvm.MethodName)) ∈ lw_all := lw_g (lw_at lw_m1 33 rfl) rfl
theorem q281 : (Jvm.Cond.methodLink "GostDeskLaw" (82 : Nat) ({ cls := "GostDesk", name := "open", desc := "(I)V" } : Jvm.MethodName)) ∈ lw_all := lw_g (lw_at lw_m2 34 rfl) rfl
theorem q285 : (Jvm.Cond.methodLink "GostDeskLaw" (85 : Nat) ({ cls := "GostDesk", name := "again", desc := "()V" } : Jvm.MethodName)) ∈ lw_all := lw_g (lw_at lw_m2 38 rfl) rfl
theorem q289 : (Jvm.Cond.methodLink "GostDeskLaw" (54 : Nat) ({ cls := "GostDeskLaw", name := "cell", desc := "([II)I" } : Jvm.MethodName)) ∈ lw_all := lw_g (lw_at lw_m2 42 rfl) rfl
theorem q290 : (Jvm.Cond.static ({ cls := "GostDeskLaw", name := "cell", desc := "([II)I" } : Jvm.MethodName)) ∈ lw_all := lw_g (lw_at lw_m2 43 rfl) rfl
theorem q291 : (Jvm.Cond.code ({ cls := "GostDeskLaw", name := "cell", desc := "([II)I" } : Jvm.MethodName) method_2_code (2 : Nat) (Option.some Jvm.ClassFile.FieldType.int)) ∈ lw_all := lw_g (lw_at lw_m2 44 rfl) rfl
theorem q292 : (Jvm.Cond.methodLink "GostDeskLaw" (62 : Nat) ({ cls := "GostDeskLaw", name := "mod", desc := "(II)I" } : Jvm.MethodName)) ∈ lw_all := lw_g (lw_at lw_m2 45 rfl) rfl
theorem q293 : (Jvm.Cond.static ({ cls := "GostDeskLaw", name := "mod", desc := "(II)I" } : Jvm.MethodName)) ∈ lw_all := lw_g (lw_at lw_m2 46 rfl) rfl
theorem q294 : (Jvm.Cond.code ({ cls := "GostDeskLaw", name := "mod", desc := "(II)I" } : Jvm.MethodName) method_3_code (2 : Nat) (Option.some Jvm.ClassFile.FieldType.int)) ∈ lw_all := lw_g (lw_at lw_m2 47 rfl) rfl
theorem q295 : (Jvm.Cond.constant "GostDeskLaw" (7 : Nat) (2147483647 : Int32)) ∈ lw_all := lw_g (lw_at lw_m2 48 rfl) rfl
theorem q296 : (Jvm.Cond.methodLink "GostDeskLaw" (78 : Nat) ({ cls := "GostDeskLaw", name := "due", desc := "([B[BZ)[B" } : Jvm.MethodName)) ∈ lw_all := lw_g (lw_at lw_m2 49 rfl) rfl
theorem q297 : (Jvm.Cond.static ({ cls := "GostDeskLaw", name := "due", desc := "([B[BZ)[B" } : Jvm.MethodName)) ∈ lw_all := lw_g (lw_at lw_m2 50 rfl) rfl
theorem q298 : (Jvm.Cond.code ({ cls := "GostDeskLaw", name := "due", desc := "([B[BZ)[B" } : Jvm.MethodName) method_6_code (8 : Nat) (Option.some (Jvm.ClassFile.FieldType.array Jvm.ClassFile.FieldType.byte))) ∈ lw_all := lw_g (lw_at lw_m2 51 rfl) rfl
theorem q299 : (Jvm.Cond.methodLink "GostDeskLaw" (26 : Nat) ({ cls := "GostDeskLaw", name := "word", desc := "([BI)I" } : Jvm.MethodName)) ∈ lw_all := lw_g (lw_at lw_m2 52 rfl) rfl
theorem q300 : (Jvm.Cond.static ({ cls := "GostDeskLaw", name := "word", desc := "([BI)I" } : Jvm.MethodName)) ∈ lw_all := lw_g (lw_at lw_m2 53 rfl) rfl
theorem q301 : (Jvm.Cond.code ({ cls := "GostDeskLaw", name := "word", desc := "([BI)I" } : Jvm.MethodName) method_4_code (2 : Nat) (Option.some Jvm.ClassFile.FieldType.int)) ∈ lw_all := lw_g (lw_at lw_m2 54 rfl) rfl
theorem q302 : (Jvm.Cond.methodLink "GostDeskLaw" (32 : Nat) ({ cls := "GostDeskLaw", name := "boxed", desc := "(I)I" } : Jvm.MethodName)) ∈ lw_all := lw_g (lw_at lw_m2 55 rfl) rfl
theorem q303 : (Jvm.Cond.static ({ cls := "GostDeskLaw", name := "boxed", desc := "(I)I" } : Jvm.MethodName)) ∈ lw_all := lw_g (lw_at lw_m2 56 rfl) rfl
theorem q304 : (Jvm.Cond.code ({ cls := "GostDeskLaw", name := "boxed", desc := "(I)I" } : Jvm.MethodName) method_5_code (4 : Nat) (Option.some Jvm.ClassFile.FieldType.int)) ∈ lw_all := lw_g (lw_at lw_m2 57 rfl) rfl
theorem q305 : (Jvm.Cond.constantLong "GostDeskLaw" (8 : Nat) (5373594861844594515 : Int64)) ∈ lw_all := lw_g (lw_at lw_m2 58 rfl) rfl
theorem q306 : (Jvm.Cond.constantLong "GostDeskLaw" (10 : Nat) (-1491696455461566631 : Int64)) ∈ lw_all := lw_g (lw_at lw_m2 59 rfl) rfl
theorem q307 : (Jvm.Cond.constantLong "GostDeskLaw" (12 : Nat) (6349410557548257435 : Int64)) ∈ lw_all := lw_g (lw_at lw_m2 60 rfl) rfl
theorem q308 : (Jvm.Cond.constantLong "GostDeskLaw" (14 : Nat) (9052526208816558675 : Int64)) ∈ lw_all := lw_g (lw_at lw_m2 61 rfl) rfl
theorem q309 : (Jvm.Cond.constantLong "GostDeskLaw" (16 : Nat) (7814132211033965490 : Int64)) ∈ lw_all := lw_g (lw_at lw_m2 62 rfl) rfl
theorem q310 : (Jvm.Cond.constantLong "GostDeskLaw" (18 : Nat) (5449481018912644350 : Int64)) ∈ lw_all := lw_g (lw_at lw_m2 63 rfl) rfl
theorem q311 : (Jvm.Cond.constantLong "GostDeskLaw" (20 : Nat) (-2647765454249564116 : Int64)) ∈ lw_all := lw_g (lw_at lw_m2 64 rfl) rfl
theorem q312 : (Jvm.Cond.constantLong "GostDeskLaw" (22 : Nat) (2292428574671399820 : Int64)) ∈ lw_all := lw_g (lw_at lw_m2 65 rfl) rfl
theorem q313 : (Jvm.Cond.constantLong "GostDeskLaw" (24 : Nat) (15 : Int64)) ∈ lw_all := lw_g (lw_at lw_m2 66 rfl) rfl
theorem q315 : (Jvm.Cond.methodLink "GostDeskLaw" (66 : Nat) ({ cls := "GostDeskLaw", name := "keyed", desc := "(LGostDesk;[BIIIII)V" } : Jvm.MethodName)) ∈ lw_all := lw_g (lw_at lw_m2 68 rfl) rfl
theorem q316 : (Jvm.Cond.static ({ cls := "GostDeskLaw", name := "keyed", desc := "(LGostDesk;[BIIIII)V" } : Jvm.MethodName)) ∈ lw_all := lw_g (lw_at lw_m2 69 rfl) rfl
theorem q317 : (Jvm.Cond.code ({ cls := "GostDeskLaw", name := "keyed", desc := "(LGostDesk;[BIIIII)V" } : Jvm.MethodName) method_8_code (9 : Nat) (Option.none : Option Jvm.ClassFile.FieldType)) ∈ lw_all := lw_g (lw_at lw_m2 70 rfl) rfl
theorem q318 : (Jvm.Cond.methodLink "GostDeskLaw" (36 : Nat) ({ cls := "GostDesk", name := "key", desc := "(IIIII)V" } : Jvm.MethodName)) ∈ lw_all := lw_g (lw_at lw_m2 71 rfl) rfl
theorem q325 : (Jvm.Cond.methodLink "GostDeskLaw" (42 : Nat) ({ cls := "GostDeskLaw", name := "laid", desc := "([BII)V" } : Jvm.MethodName)) ∈ lw_all := lw_g (lw_at lw_m2 78 rfl) rfl
theorem q326 : (Jvm.Cond.static ({ cls := "GostDeskLaw", name := "laid", desc := "([BII)V" } : Jvm.MethodName)) ∈ lw_all := lw_g (lw_at lw_m2 79 rfl) rfl
theorem q327 : (Jvm.Cond.code ({ cls := "GostDeskLaw", name := "laid", desc := "([BII)V" } : Jvm.MethodName) method_7_code (4 : Nat) (Option.none : Option Jvm.ClassFile.FieldType)) ∈ lw_all := lw_g (lw_at lw_m2 80 rfl) rfl
theorem q328 : (Jvm.Cond.methodLink "GostDeskLaw" (70 : Nat) ({ cls := "GostDeskLaw", name := "blocked", desc := "(LGostDesk;[BII)V" } : Jvm.MethodName)) ∈ lw_all := lw_g (lw_at lw_m2 81 rfl) rfl
theorem q329 : (Jvm.Cond.static ({ cls := "GostDeskLaw", name := "blocked", desc := "(LGostDesk;[BII)V" } : Jvm.MethodName)) ∈ lw_all := lw_g (lw_at lw_m2 82 rfl) rfl
theorem q330 : (Jvm.Cond.code ({ cls := "GostDeskLaw", name := "blocked", desc := "(LGostDesk;[BII)V" } : Jvm.MethodName) method_9_code (4 : Nat) (Option.none : Option Jvm.ClassFile.FieldType)) ∈ lw_all := lw_g (lw_at lw_m2 83 rfl) rfl
theorem q331 : (Jvm.Cond.methodLink "GostDeskLaw" (46 : Nat) ({ cls := "GostDesk", name := "block", desc := "(II)V" } : Jvm.MethodName)) ∈ lw_all := lw_g (lw_at lw_m2 84 rfl) rfl
theorem q335 : (Jvm.Cond.methodLink "GostDeskLaw" (58 : Nat) ({ cls := "GostDeskLaw", name := "shown", desc := "(LGostDesk;[BI)Z" } : Jvm.MethodName)) ∈ lw_all := lw_g (lw_at lw_m2 88 rfl) rfl
theorem q336 : (Jvm.Cond.static ({ cls := "GostDeskLaw", name := "shown", desc := "(LGostDesk;[BI)Z" } : Jvm.MethodName)) ∈ lw_all := lw_g (lw_at lw_m2 89 rfl) rfl
theorem q337 : (Jvm.Cond.code ({ cls := "GostDeskLaw", name := "shown", desc := "(LGostDesk;[BI)Z" } : Jvm.MethodName) method_10_code (4 : Nat) (Option.some Jvm.ClassFile.FieldType.boolean)) ∈ lw_all := lw_g (lw_at lw_m2 90 rfl) rfl
theorem q338 : (Jvm.Cond.methodLink "GostDeskLaw" (50 : Nat) ({ cls := "GostDesk", name := "out", desc := "(I)I" } : Jvm.MethodName)) ∈ lw_all := lw_g (lw_at lw_m2 91 rfl) rfl
theorem q342 : (Jvm.Cond.methodLink "GostDeskLaw" (88 : Nat) ({ cls := "GostDeskLaw", name := "copy", desc := "([B)[B" } : Jvm.MethodName)) ∈ lw_all := lw_g (lw_at lw_m2 95 rfl) rfl
theorem q343 : (Jvm.Cond.static ({ cls := "GostDeskLaw", name := "copy", desc := "([B)[B" } : Jvm.MethodName)) ∈ lw_all := lw_g (lw_at lw_m2 96 rfl) rfl
theorem q344 : (Jvm.Cond.code ({ cls := "GostDeskLaw", name := "copy", desc := "([B)[B" } : Jvm.MethodName) method_11_code (3 : Nat) (Option.some (Jvm.ClassFile.FieldType.array Jvm.ClassFile.FieldType.byte))) ∈ lw_all := lw_g (lw_at lw_m2 97 rfl) rfl
theorem q345 : (Jvm.Cond.methodLink "GostDeskLaw" (92 : Nat) ({ cls := "GostDeskLaw", name := "told", desc := "(LGostDesk;)[B" } : Jvm.MethodName)) ∈ lw_all := lw_g (lw_at lw_m2 98 rfl) rfl
theorem q346 : (Jvm.Cond.static ({ cls := "GostDeskLaw", name := "told", desc := "(LGostDesk;)[B" } : Jvm.MethodName)) ∈ lw_all := lw_g (lw_at lw_m2 99 rfl) rfl
theorem q347 : (Jvm.Cond.code ({ cls := "GostDeskLaw", name := "told", desc := "(LGostDesk;)[B" } : Jvm.MethodName) method_12_code (3 : Nat) (Option.some (Jvm.ClassFile.FieldType.array Jvm.ClassFile.FieldType.byte))) ∈ lw_all := lw_g (lw_at lw_m2 100 rfl) rfl
theorem q348 : (Jvm.Cond.methodLink "GostDeskLaw" (96 : Nat) ({ cls := "GostDeskLaw", name := "same", desc := "([B[BI)Z" } : Jvm.MethodName)) ∈ lw_all := lw_g (lw_at lw_m2 101 rfl) rfl
theorem q349 : (Jvm.Cond.static ({ cls := "GostDeskLaw", name := "same", desc := "([B[BI)Z" } : Jvm.MethodName)) ∈ lw_all := lw_g (lw_at lw_m2 102 rfl) rfl
theorem q350 : (Jvm.Cond.code ({ cls := "GostDeskLaw", name := "same", desc := "([B[BI)Z" } : Jvm.MethodName) method_13_code (4 : Nat) (Option.some Jvm.ClassFile.FieldType.boolean)) ∈ lw_all := lw_g (lw_at lw_m2 103 rfl) rfl
/-! the law's own entry -/
set_option maxRecDepth 100000
abbrev cL_law : ByteArray := code
def dkwL_law_31 : List UInt8 := [184, 0, 54, 184, 0, 58, 153, 0, 7, 4, 167, 0, 4, 3, 172]
abbrev dktL_law_31 : List UInt8 := dkwL_law_31 ++ []
def dkwL_law_30 : List UInt8 := [25, 5, 43, 184, 0, 92, 3, 184, 0, 96, 153, 0, 26, 43, 44, 45, 3, 184, 0, 78, 42, 16, 6]
abbrev dktL_law_30 : List UInt8 := dkwL_law_30 ++ dktL_law_31
def dkwL_law_29 : List UInt8 := [25, 6, 3, 46, 184, 0, 66, 43, 5, 182, 0, 74, 43, 184, 0, 92, 58, 5, 43, 6, 182, 0, 82]
abbrev dktL_law_29 : List UInt8 := dkwL_law_29 ++ dktL_law_30
def dkwL_law_28 : List UInt8 := [5, 46, 25, 6, 6, 46, 184, 0, 66, 43, 44, 4, 25, 6, 6, 46, 25, 6, 5, 46, 25, 6, 4, 46]
abbrev dktL_law_28 : List UInt8 := dkwL_law_28 ++ dktL_law_29
def dkwL_law_27 : List UInt8 := [17, 0, 128, 184, 0, 96, 154, 0, 5, 3, 172, 43, 44, 3, 25, 6, 3, 46, 25, 6, 4, 46, 25, 6]
abbrev dktL_law_27 : List UInt8 := dkwL_law_27 ++ dktL_law_28
def dkwL_law_26 : List UInt8 := [17, 0, 128, 130, 21, 8, 17, 0, 128, 130, 184, 0, 70, 43, 4, 182, 0, 74, 25, 5, 43, 184, 0, 92]
abbrev dktL_law_26 : List UInt8 := dkwL_law_26 ++ dktL_law_27
def dkwL_law_25 : List UInt8 := [17, 0, 255, 126, 16, 8, 120, 128, 45, 16, 7, 51, 17, 0, 255, 126, 128, 54, 8, 43, 45, 21, 7]
abbrev dktL_law_25 : List UInt8 := dkwL_law_25 ++ dktL_law_26
def dkwL_law_24 : List UInt8 := [54, 7, 45, 7, 51, 16, 24, 120, 45, 8, 51, 17, 0, 255, 126, 16, 16, 120, 128, 45, 16, 6, 51]
abbrev dktL_law_24 : List UInt8 := dkwL_law_24 ++ dktL_law_25
def dkwL_law_23 : List UInt8 := [16, 16, 120, 128, 45, 5, 51, 17, 0, 255, 126, 16, 8, 120, 128, 45, 6, 51, 17, 0, 255, 126, 128]
abbrev dktL_law_23 : List UInt8 := dkwL_law_23 ++ dktL_law_24
def dkwL_law_22 : List UInt8 := [16, 7, 46, 17, 0, 128, 130, 184, 0, 66, 45, 3, 51, 16, 24, 120, 45, 4, 51, 17, 0, 255, 126]
abbrev dktL_law_22 : List UInt8 := dkwL_law_22 ++ dktL_law_23
def dkwL_law_21 : List UInt8 := [17, 0, 128, 130, 25, 6, 8, 46, 17, 0, 128, 130, 25, 6, 16, 6, 46, 17, 0, 128, 130, 25, 6]
abbrev dktL_law_21 : List UInt8 := dkwL_law_21 ++ dktL_law_22
def dkwL_law_20 : List UInt8 := [17, 0, 128, 130, 25, 6, 6, 46, 17, 0, 128, 130, 184, 0, 66, 43, 44, 4, 25, 6, 7, 46]
abbrev dktL_law_20 : List UInt8 := dkwL_law_20 ++ dktL_law_21
def dkwL_law_19 : List UInt8 := [43, 44, 3, 25, 6, 3, 46, 17, 0, 128, 130, 25, 6, 4, 46, 17, 0, 128, 130, 25, 6, 5, 46]
abbrev dktL_law_19 : List UInt8 := dkwL_law_19 ++ dktL_law_20
def dkwL_law_18 : List UInt8 := [16, 8, 120, 128, 44, 7, 21, 7, 104, 6, 96, 51, 17, 0, 255, 126, 128, 79, 132, 7, 1, 167, 255, 187]
abbrev dktL_law_18 : List UInt8 := dkwL_law_18 ++ dktL_law_19
def dkwL_law_17 : List UInt8 := [104, 4, 96, 51, 17, 0, 255, 126, 16, 16, 120, 128, 44, 7, 21, 7, 104, 5, 96, 51, 17, 0, 255, 126]
abbrev dktL_law_17 : List UInt8 := dkwL_law_17 ++ dktL_law_18
def dkwL_law_16 : List UInt8 := [21, 7, 16, 8, 162, 0, 68, 25, 6, 21, 7, 44, 7, 21, 7, 104, 51, 16, 24, 120, 44, 7, 21, 7]
abbrev dktL_law_16 : List UInt8 := dkwL_law_16 ++ dktL_law_17
def dkwL_law_15 : List UInt8 := [167, 255, 145, 43, 3, 182, 0, 74, 43, 184, 0, 92, 58, 5, 16, 8, 188, 10, 58, 6, 3, 54, 7]
abbrev dktL_law_15 : List UInt8 := dkwL_law_15 ++ dktL_law_16
def dkwL_law_14 : List UInt8 := [43, 45, 42, 8, 184, 0, 54, 184, 0, 58, 154, 0, 5, 3, 172, 43, 182, 0, 85, 132, 5, 1]
abbrev dktL_law_14 : List UInt8 := dkwL_law_14 ++ dktL_law_15
def dkwL_law_13 : List UInt8 := [154, 0, 15, 43, 42, 6, 184, 0, 54, 182, 0, 82, 167, 0, 12, 43, 42, 7, 184, 0, 54, 182, 0, 74]
abbrev dktL_law_13 : List UInt8 := dkwL_law_13 ++ dktL_law_14
def dkwL_law_12 : List UInt8 := [167, 0, 4, 3, 184, 0, 78, 21, 5, 184, 0, 58, 154, 0, 5, 3, 172, 43, 182, 0, 85, 21, 5]
abbrev dktL_law_12 : List UInt8 := dkwL_law_12 ++ dktL_law_13
def dkwL_law_11 : List UInt8 := [167, 0, 12, 43, 42, 5, 184, 0, 54, 182, 0, 82, 43, 44, 45, 21, 5, 4, 160, 0, 7, 4]
abbrev dktL_law_11 : List UInt8 := dkwL_law_11 ++ dktL_law_12
def dkwL_law_10 : List UInt8 := [54, 5, 21, 5, 5, 162, 0, 111, 21, 5, 154, 0, 15, 43, 42, 4, 184, 0, 54, 182, 0, 74]
abbrev dktL_law_10 : List UInt8 := dkwL_law_10 ++ dktL_law_11
def dkwL_law_9 : List UInt8 := [184, 0, 88, 78, 43, 25, 4, 21, 10, 184, 0, 58, 154, 0, 5, 3, 172, 132, 5, 6, 167, 255, 49, 3]
abbrev dktL_law_9 : List UInt8 := dkwL_law_9 ++ dktL_law_10
def dkwL_law_8 : List UInt8 := [21, 6, 182, 0, 82, 44, 45, 4, 184, 0, 78, 58, 4, 167, 0, 13, 43, 182, 0, 85, 25, 4]
abbrev dktL_law_8 : List UInt8 := dkwL_law_8 ++ dktL_law_9
def dkwL_law_7 : List UInt8 := [184, 0, 70, 167, 0, 47, 43, 21, 6, 182, 0, 74, 44, 45, 3, 184, 0, 78, 58, 4, 167, 0, 30, 43]
abbrev dktL_law_7 : List UInt8 := dkwL_law_7 ++ dktL_law_8
def dkwL_law_6 : List UInt8 := [43, 44, 21, 10, 21, 6, 21, 7, 21, 8, 21, 9, 184, 0, 66, 167, 0, 59, 43, 45, 21, 6, 21, 7]
abbrev dktL_law_6 : List UInt8 := dkwL_law_6 ++ dktL_law_7
def dkwL_law_5 : List UInt8 := [170, 0, 0, 0, 113, 0, 0, 0, 0, 0, 0, 0, 8, 0, 0, 0, 49, 0, 0, 0, 49, 0, 0, 0, 49, 0, 0, 0, 67, 0, 0, 0, 67, 0, 0, 0, 79, 0, 0, 0, 79, 0, 0, 0, 96, 0, 0, 0, 96]
abbrev dktL_law_5 : List UInt8 := dkwL_law_5 ++ dktL_law_6
def dkwL_law_4 : List UInt8 := [184, 0, 54, 54, 10, 42, 21, 5, 184, 0, 54, 16, 10, 184, 0, 62]
abbrev dktL_law_4 : List UInt8 := dkwL_law_4 ++ dktL_law_5
def dkwL_law_3 : List UInt8 := [21, 5, 6, 96, 184, 0, 54, 54, 8, 42, 21, 5, 7, 96, 184, 0, 54, 54, 9, 42, 21, 5, 8, 96]
abbrev dktL_law_3 : List UInt8 := dkwL_law_3 ++ dktL_law_4
def dkwL_law_2 : List UInt8 := [162, 0, 206, 42, 21, 5, 4, 96, 184, 0, 54, 54, 6, 42, 21, 5, 5, 96, 184, 0, 54, 54, 7, 42]
abbrev dktL_law_2 : List UInt8 := dkwL_law_2 ++ dktL_law_3
def dkwL_law_1 : List UInt8 := [43, 25, 4, 42, 3, 184, 0, 54, 184, 0, 58, 154, 0, 5, 3, 172, 3, 54, 5, 21, 5, 16, 96]
abbrev dktL_law_1 : List UInt8 := dkwL_law_1 ++ dktL_law_2
def dkwL_law_0 : List UInt8 := [187, 0, 37, 89, 183, 0, 53, 76, 16, 32, 188, 8, 77, 16, 8, 188, 8, 78, 16, 8, 188, 8, 58, 4]
abbrev dktL_law_0 : List UInt8 := dkwL_law_0 ++ dktL_law_1
theorem dksL_law_0 : cL_law.data.toList.drop 0 = dktL_law_0 := by decide +kernel
theorem dksL_law_1 : cL_law.data.toList.drop 24 = dktL_law_1 := dk_seg dksL_law_0 24 rfl rfl
theorem dksL_law_2 : cL_law.data.toList.drop 47 = dktL_law_2 := dk_seg dksL_law_1 23 rfl rfl
theorem dksL_law_3 : cL_law.data.toList.drop 71 = dktL_law_3 := dk_seg dksL_law_2 24 rfl rfl
theorem dksL_law_4 : cL_law.data.toList.drop 95 = dktL_law_4 := dk_seg dksL_law_3 24 rfl rfl
theorem dksL_law_5 : cL_law.data.toList.drop 111 = dktL_law_5 := dk_seg dksL_law_4 16 rfl rfl
theorem dksL_law_6 : cL_law.data.toList.drop 160 = dktL_law_6 := dk_seg dksL_law_5 49 rfl rfl
theorem dksL_law_7 : cL_law.data.toList.drop 184 = dktL_law_7 := dk_seg dksL_law_6 24 rfl rfl
theorem dksL_law_8 : cL_law.data.toList.drop 208 = dktL_law_8 := dk_seg dksL_law_7 24 rfl rfl
theorem dksL_law_9 : cL_law.data.toList.drop 230 = dktL_law_9 := dk_seg dksL_law_8 22 rfl rfl
theorem dksL_law_10 : cL_law.data.toList.drop 254 = dktL_law_10 := dk_seg dksL_law_9 24 rfl rfl
theorem dksL_law_11 : cL_law.data.toList.drop 276 = dktL_law_11 := dk_seg dksL_law_10 22 rfl rfl
theorem dksL_law_12 : cL_law.data.toList.drop 298 = dktL_law_12 := dk_seg dksL_law_11 22 rfl rfl
theorem dksL_law_13 : cL_law.data.toList.drop 321 = dktL_law_13 := dk_seg dksL_law_12 23 rfl rfl
theorem dksL_law_14 : cL_law.data.toList.drop 345 = dktL_law_14 := dk_seg dksL_law_13 24 rfl rfl
theorem dksL_law_15 : cL_law.data.toList.drop 367 = dktL_law_15 := dk_seg dksL_law_14 22 rfl rfl
theorem dksL_law_16 : cL_law.data.toList.drop 390 = dktL_law_16 := dk_seg dksL_law_15 23 rfl rfl
theorem dksL_law_17 : cL_law.data.toList.drop 414 = dktL_law_17 := dk_seg dksL_law_16 24 rfl rfl
theorem dksL_law_18 : cL_law.data.toList.drop 438 = dktL_law_18 := dk_seg dksL_law_17 24 rfl rfl
theorem dksL_law_19 : cL_law.data.toList.drop 462 = dktL_law_19 := dk_seg dksL_law_18 24 rfl rfl
theorem dksL_law_20 : cL_law.data.toList.drop 485 = dktL_law_20 := dk_seg dksL_law_19 23 rfl rfl
theorem dksL_law_21 : cL_law.data.toList.drop 507 = dktL_law_21 := dk_seg dksL_law_20 22 rfl rfl
theorem dksL_law_22 : cL_law.data.toList.drop 530 = dktL_law_22 := dk_seg dksL_law_21 23 rfl rfl
theorem dksL_law_23 : cL_law.data.toList.drop 553 = dktL_law_23 := dk_seg dksL_law_22 23 rfl rfl
theorem dksL_law_24 : cL_law.data.toList.drop 576 = dktL_law_24 := dk_seg dksL_law_23 23 rfl rfl
theorem dksL_law_25 : cL_law.data.toList.drop 599 = dktL_law_25 := dk_seg dksL_law_24 23 rfl rfl
theorem dksL_law_26 : cL_law.data.toList.drop 622 = dktL_law_26 := dk_seg dksL_law_25 23 rfl rfl
theorem dksL_law_27 : cL_law.data.toList.drop 646 = dktL_law_27 := dk_seg dksL_law_26 24 rfl rfl
theorem dksL_law_28 : cL_law.data.toList.drop 670 = dktL_law_28 := dk_seg dksL_law_27 24 rfl rfl
theorem dksL_law_29 : cL_law.data.toList.drop 694 = dktL_law_29 := dk_seg dksL_law_28 24 rfl rfl
theorem dksL_law_30 : cL_law.data.toList.drop 717 = dktL_law_30 := dk_seg dksL_law_29 23 rfl rfl
theorem dksL_law_31 : cL_law.data.toList.drop 740 = dktL_law_31 := dk_seg dksL_law_30 23 rfl rfl
theorem dL_law_0 : decode cL_law 0 = .ok (.new 37, 3) := dk_187 0 37 (dk_at dksL_law_0 0 rfl rfl)
theorem dL_law_3 : decode cL_law 3 = .ok (.dup, 1) := dk_89 (dk_at dksL_law_0 3 rfl rfl)
theorem dL_law_4 : decode cL_law 4 = .ok (.invokespecial 53, 3) := dk_183 0 53 (dk_at dksL_law_0 4 rfl rfl)
theorem dL_law_7 : decode cL_law 7 = .ok (.astore_n 1, 1) := dk_76 (dk_at dksL_law_0 7 rfl rfl)
theorem dL_law_8 : decode cL_law 8 = .ok (.bipush 32, 2) := dk_16 32 (dk_at dksL_law_0 8 rfl rfl)
theorem dL_law_10 : decode cL_law 10 = .ok (.newarray .byte, 2) := dk_188_8 (dk_at dksL_law_0 10 rfl rfl)
theorem dL_law_12 : decode cL_law 12 = .ok (.astore_n 2, 1) := dk_77 (dk_at dksL_law_0 12 rfl rfl)
theorem dL_law_13 : decode cL_law 13 = .ok (.bipush 8, 2) := dk_16 8 (dk_at dksL_law_0 13 rfl rfl)
theorem dL_law_15 : decode cL_law 15 = .ok (.newarray .byte, 2) := dk_188_8 (dk_at dksL_law_0 15 rfl rfl)
theorem dL_law_17 : decode cL_law 17 = .ok (.astore_n 3, 1) := dk_78 (dk_at dksL_law_0 17 rfl rfl)
theorem dL_law_18 : decode cL_law 18 = .ok (.bipush 8, 2) := dk_16 8 (dk_at dksL_law_0 18 rfl rfl)
theorem dL_law_20 : decode cL_law 20 = .ok (.newarray .byte, 2) := dk_188_8 (dk_at dksL_law_0 20 rfl rfl)
theorem dL_law_22 : decode cL_law 22 = .ok (.astore 4, 2) := dk_58 4 (dk_at dksL_law_0 22 rfl rfl)
theorem dL_law_24 : decode cL_law 24 = .ok (.aload_n 1, 1) := dk_43 (dk_at dksL_law_1 0 rfl rfl)
theorem dL_law_25 : decode cL_law 25 = .ok (.aload 4, 2) := dk_25 4 (dk_at dksL_law_1 1 rfl rfl)
theorem dL_law_27 : decode cL_law 27 = .ok (.aload_n 0, 1) := dk_42 (dk_at dksL_law_1 3 rfl rfl)
theorem dL_law_28 : decode cL_law 28 = .ok (.iconst 0, 1) := dk_3 (dk_at dksL_law_1 4 rfl rfl)
theorem dL_law_29 : decode cL_law 29 = .ok (.invokestatic 54, 3) := dk_184 0 54 (dk_at dksL_law_1 5 rfl rfl)
theorem dL_law_32 : decode cL_law 32 = .ok (.invokestatic 58, 3) := dk_184 0 58 (dk_at dksL_law_1 8 rfl rfl)
theorem dL_law_35 : decode cL_law 35 = .ok (.ifCond .ne 5, 3) := dk_154 0 5 (dk_at dksL_law_1 11 rfl rfl)
theorem dL_law_38 : decode cL_law 38 = .ok (.iconst 0, 1) := dk_3 (dk_at dksL_law_1 14 rfl rfl)
theorem dL_law_39 : decode cL_law 39 = .ok (.ireturn, 1) := dk_172 (dk_at dksL_law_1 15 rfl rfl)
theorem dL_law_40 : decode cL_law 40 = .ok (.iconst 0, 1) := dk_3 (dk_at dksL_law_1 16 rfl rfl)
theorem dL_law_41 : decode cL_law 41 = .ok (.istore 5, 2) := dk_54 5 (dk_at dksL_law_1 17 rfl rfl)
theorem dL_law_43 : decode cL_law 43 = .ok (.iload 5, 2) := dk_21 5 (dk_at dksL_law_1 19 rfl rfl)
theorem dL_law_45 : decode cL_law 45 = .ok (.bipush 96, 2) := dk_16 96 (dk_at dksL_law_1 21 rfl rfl)
theorem dL_law_47 : decode cL_law 47 = .ok (.if_icmp .ge 206, 3) := dk_162 0 206 (dk_at dksL_law_2 0 rfl rfl)
theorem dL_law_50 : decode cL_law 50 = .ok (.aload_n 0, 1) := dk_42 (dk_at dksL_law_2 3 rfl rfl)
theorem dL_law_51 : decode cL_law 51 = .ok (.iload 5, 2) := dk_21 5 (dk_at dksL_law_2 4 rfl rfl)
theorem dL_law_53 : decode cL_law 53 = .ok (.iconst 1, 1) := dk_4 (dk_at dksL_law_2 6 rfl rfl)
theorem dL_law_54 : decode cL_law 54 = .ok (.iadd, 1) := dk_96 (dk_at dksL_law_2 7 rfl rfl)
theorem dL_law_55 : decode cL_law 55 = .ok (.invokestatic 54, 3) := dk_184 0 54 (dk_at dksL_law_2 8 rfl rfl)
theorem dL_law_58 : decode cL_law 58 = .ok (.istore 6, 2) := dk_54 6 (dk_at dksL_law_2 11 rfl rfl)
theorem dL_law_60 : decode cL_law 60 = .ok (.aload_n 0, 1) := dk_42 (dk_at dksL_law_2 13 rfl rfl)
theorem dL_law_61 : decode cL_law 61 = .ok (.iload 5, 2) := dk_21 5 (dk_at dksL_law_2 14 rfl rfl)
theorem dL_law_63 : decode cL_law 63 = .ok (.iconst 2, 1) := dk_5 (dk_at dksL_law_2 16 rfl rfl)
theorem dL_law_64 : decode cL_law 64 = .ok (.iadd, 1) := dk_96 (dk_at dksL_law_2 17 rfl rfl)
theorem dL_law_65 : decode cL_law 65 = .ok (.invokestatic 54, 3) := dk_184 0 54 (dk_at dksL_law_2 18 rfl rfl)
theorem dL_law_68 : decode cL_law 68 = .ok (.istore 7, 2) := dk_54 7 (dk_at dksL_law_2 21 rfl rfl)
theorem dL_law_70 : decode cL_law 70 = .ok (.aload_n 0, 1) := dk_42 (dk_at dksL_law_2 23 rfl rfl)
theorem dL_law_71 : decode cL_law 71 = .ok (.iload 5, 2) := dk_21 5 (dk_at dksL_law_3 0 rfl rfl)
theorem dL_law_73 : decode cL_law 73 = .ok (.iconst 3, 1) := dk_6 (dk_at dksL_law_3 2 rfl rfl)
theorem dL_law_74 : decode cL_law 74 = .ok (.iadd, 1) := dk_96 (dk_at dksL_law_3 3 rfl rfl)
theorem dL_law_75 : decode cL_law 75 = .ok (.invokestatic 54, 3) := dk_184 0 54 (dk_at dksL_law_3 4 rfl rfl)
theorem dL_law_78 : decode cL_law 78 = .ok (.istore 8, 2) := dk_54 8 (dk_at dksL_law_3 7 rfl rfl)
theorem dL_law_80 : decode cL_law 80 = .ok (.aload_n 0, 1) := dk_42 (dk_at dksL_law_3 9 rfl rfl)
theorem dL_law_81 : decode cL_law 81 = .ok (.iload 5, 2) := dk_21 5 (dk_at dksL_law_3 10 rfl rfl)
theorem dL_law_83 : decode cL_law 83 = .ok (.iconst 4, 1) := dk_7 (dk_at dksL_law_3 12 rfl rfl)
theorem dL_law_84 : decode cL_law 84 = .ok (.iadd, 1) := dk_96 (dk_at dksL_law_3 13 rfl rfl)
theorem dL_law_85 : decode cL_law 85 = .ok (.invokestatic 54, 3) := dk_184 0 54 (dk_at dksL_law_3 14 rfl rfl)
theorem dL_law_88 : decode cL_law 88 = .ok (.istore 9, 2) := dk_54 9 (dk_at dksL_law_3 17 rfl rfl)
theorem dL_law_90 : decode cL_law 90 = .ok (.aload_n 0, 1) := dk_42 (dk_at dksL_law_3 19 rfl rfl)
theorem dL_law_91 : decode cL_law 91 = .ok (.iload 5, 2) := dk_21 5 (dk_at dksL_law_3 20 rfl rfl)
theorem dL_law_93 : decode cL_law 93 = .ok (.iconst 5, 1) := dk_8 (dk_at dksL_law_3 22 rfl rfl)
theorem dL_law_94 : decode cL_law 94 = .ok (.iadd, 1) := dk_96 (dk_at dksL_law_3 23 rfl rfl)
theorem dL_law_95 : decode cL_law 95 = .ok (.invokestatic 54, 3) := dk_184 0 54 (dk_at dksL_law_4 0 rfl rfl)
theorem dL_law_98 : decode cL_law 98 = .ok (.istore 10, 2) := dk_54 10 (dk_at dksL_law_4 3 rfl rfl)
theorem dL_law_100 : decode cL_law 100 = .ok (.aload_n 0, 1) := dk_42 (dk_at dksL_law_4 5 rfl rfl)
theorem dL_law_101 : decode cL_law 101 = .ok (.iload 5, 2) := dk_21 5 (dk_at dksL_law_4 6 rfl rfl)
theorem dL_law_103 : decode cL_law 103 = .ok (.invokestatic 54, 3) := dk_184 0 54 (dk_at dksL_law_4 8 rfl rfl)
theorem dL_law_106 : decode cL_law 106 = .ok (.bipush 10, 2) := dk_16 10 (dk_at dksL_law_4 11 rfl rfl)
theorem dL_law_108 : decode cL_law 108 = .ok (.invokestatic 62, 3) := dk_184 0 62 (dk_at dksL_law_4 13 rfl rfl)
theorem dL_law_111 : decode cL_law 111 = .ok (.tableswitch 113 0 8 #[49, 49, 49, 67, 67, 79, 79, 96, 96], 49) := by decide +kernel
theorem dL_law_160 : decode cL_law 160 = .ok (.aload_n 1, 1) := dk_43 (dk_at dksL_law_6 0 rfl rfl)
theorem dL_law_161 : decode cL_law 161 = .ok (.aload_n 2, 1) := dk_44 (dk_at dksL_law_6 1 rfl rfl)
theorem dL_law_162 : decode cL_law 162 = .ok (.iload 10, 2) := dk_21 10 (dk_at dksL_law_6 2 rfl rfl)
theorem dL_law_164 : decode cL_law 164 = .ok (.iload 6, 2) := dk_21 6 (dk_at dksL_law_6 4 rfl rfl)
theorem dL_law_166 : decode cL_law 166 = .ok (.iload 7, 2) := dk_21 7 (dk_at dksL_law_6 6 rfl rfl)
theorem dL_law_168 : decode cL_law 168 = .ok (.iload 8, 2) := dk_21 8 (dk_at dksL_law_6 8 rfl rfl)
theorem dL_law_170 : decode cL_law 170 = .ok (.iload 9, 2) := dk_21 9 (dk_at dksL_law_6 10 rfl rfl)
theorem dL_law_172 : decode cL_law 172 = .ok (.invokestatic 66, 3) := dk_184 0 66 (dk_at dksL_law_6 12 rfl rfl)
theorem dL_law_175 : decode cL_law 175 = .ok (.goto 59, 3) := dk_167 0 59 (dk_at dksL_law_6 15 rfl rfl)
theorem dL_law_178 : decode cL_law 178 = .ok (.aload_n 1, 1) := dk_43 (dk_at dksL_law_6 18 rfl rfl)
theorem dL_law_179 : decode cL_law 179 = .ok (.aload_n 3, 1) := dk_45 (dk_at dksL_law_6 19 rfl rfl)
theorem dL_law_180 : decode cL_law 180 = .ok (.iload 6, 2) := dk_21 6 (dk_at dksL_law_6 20 rfl rfl)
theorem dL_law_182 : decode cL_law 182 = .ok (.iload 7, 2) := dk_21 7 (dk_at dksL_law_6 22 rfl rfl)
theorem dL_law_184 : decode cL_law 184 = .ok (.invokestatic 70, 3) := dk_184 0 70 (dk_at dksL_law_7 0 rfl rfl)
theorem dL_law_187 : decode cL_law 187 = .ok (.goto 47, 3) := dk_167 0 47 (dk_at dksL_law_7 3 rfl rfl)
theorem dL_law_190 : decode cL_law 190 = .ok (.aload_n 1, 1) := dk_43 (dk_at dksL_law_7 6 rfl rfl)
theorem dL_law_191 : decode cL_law 191 = .ok (.iload 6, 2) := dk_21 6 (dk_at dksL_law_7 7 rfl rfl)
theorem dL_law_193 : decode cL_law 193 = .ok (.invokevirtual 74, 3) := dk_182 0 74 (dk_at dksL_law_7 9 rfl rfl)
theorem dL_law_196 : decode cL_law 196 = .ok (.aload_n 2, 1) := dk_44 (dk_at dksL_law_7 12 rfl rfl)
theorem dL_law_197 : decode cL_law 197 = .ok (.aload_n 3, 1) := dk_45 (dk_at dksL_law_7 13 rfl rfl)
theorem dL_law_198 : decode cL_law 198 = .ok (.iconst 0, 1) := dk_3 (dk_at dksL_law_7 14 rfl rfl)
theorem dL_law_199 : decode cL_law 199 = .ok (.invokestatic 78, 3) := dk_184 0 78 (dk_at dksL_law_7 15 rfl rfl)
theorem dL_law_202 : decode cL_law 202 = .ok (.astore 4, 2) := dk_58 4 (dk_at dksL_law_7 18 rfl rfl)
theorem dL_law_204 : decode cL_law 204 = .ok (.goto 30, 3) := dk_167 0 30 (dk_at dksL_law_7 20 rfl rfl)
theorem dL_law_207 : decode cL_law 207 = .ok (.aload_n 1, 1) := dk_43 (dk_at dksL_law_7 23 rfl rfl)
theorem dL_law_208 : decode cL_law 208 = .ok (.iload 6, 2) := dk_21 6 (dk_at dksL_law_8 0 rfl rfl)
theorem dL_law_210 : decode cL_law 210 = .ok (.invokevirtual 82, 3) := dk_182 0 82 (dk_at dksL_law_8 2 rfl rfl)
theorem dL_law_213 : decode cL_law 213 = .ok (.aload_n 2, 1) := dk_44 (dk_at dksL_law_8 5 rfl rfl)
theorem dL_law_214 : decode cL_law 214 = .ok (.aload_n 3, 1) := dk_45 (dk_at dksL_law_8 6 rfl rfl)
theorem dL_law_215 : decode cL_law 215 = .ok (.iconst 1, 1) := dk_4 (dk_at dksL_law_8 7 rfl rfl)
theorem dL_law_216 : decode cL_law 216 = .ok (.invokestatic 78, 3) := dk_184 0 78 (dk_at dksL_law_8 8 rfl rfl)
theorem dL_law_219 : decode cL_law 219 = .ok (.astore 4, 2) := dk_58 4 (dk_at dksL_law_8 11 rfl rfl)
theorem dL_law_221 : decode cL_law 221 = .ok (.goto 13, 3) := dk_167 0 13 (dk_at dksL_law_8 13 rfl rfl)
theorem dL_law_224 : decode cL_law 224 = .ok (.aload_n 1, 1) := dk_43 (dk_at dksL_law_8 16 rfl rfl)
theorem dL_law_225 : decode cL_law 225 = .ok (.invokevirtual 85, 3) := dk_182 0 85 (dk_at dksL_law_8 17 rfl rfl)
theorem dL_law_228 : decode cL_law 228 = .ok (.aload 4, 2) := dk_25 4 (dk_at dksL_law_8 20 rfl rfl)
theorem dL_law_230 : decode cL_law 230 = .ok (.invokestatic 88, 3) := dk_184 0 88 (dk_at dksL_law_9 0 rfl rfl)
theorem dL_law_233 : decode cL_law 233 = .ok (.astore_n 3, 1) := dk_78 (dk_at dksL_law_9 3 rfl rfl)
theorem dL_law_234 : decode cL_law 234 = .ok (.aload_n 1, 1) := dk_43 (dk_at dksL_law_9 4 rfl rfl)
theorem dL_law_235 : decode cL_law 235 = .ok (.aload 4, 2) := dk_25 4 (dk_at dksL_law_9 5 rfl rfl)
theorem dL_law_237 : decode cL_law 237 = .ok (.iload 10, 2) := dk_21 10 (dk_at dksL_law_9 7 rfl rfl)
theorem dL_law_239 : decode cL_law 239 = .ok (.invokestatic 58, 3) := dk_184 0 58 (dk_at dksL_law_9 9 rfl rfl)
theorem dL_law_242 : decode cL_law 242 = .ok (.ifCond .ne 5, 3) := dk_154 0 5 (dk_at dksL_law_9 12 rfl rfl)
theorem dL_law_245 : decode cL_law 245 = .ok (.iconst 0, 1) := dk_3 (dk_at dksL_law_9 15 rfl rfl)
theorem dL_law_246 : decode cL_law 246 = .ok (.ireturn, 1) := dk_172 (dk_at dksL_law_9 16 rfl rfl)
theorem dL_law_247 : decode cL_law 247 = .ok (.iinc 5 6, 3) := dk_132 5 6 (dk_at dksL_law_9 17 rfl rfl)
theorem dL_law_250 : decode cL_law 250 = .ok (.goto (-207), 3) := dk_167 255 49 (dk_at dksL_law_9 20 rfl rfl)
theorem dL_law_253 : decode cL_law 253 = .ok (.iconst 0, 1) := dk_3 (dk_at dksL_law_9 23 rfl rfl)
theorem dL_law_254 : decode cL_law 254 = .ok (.istore 5, 2) := dk_54 5 (dk_at dksL_law_10 0 rfl rfl)
theorem dL_law_256 : decode cL_law 256 = .ok (.iload 5, 2) := dk_21 5 (dk_at dksL_law_10 2 rfl rfl)
theorem dL_law_258 : decode cL_law 258 = .ok (.iconst 2, 1) := dk_5 (dk_at dksL_law_10 4 rfl rfl)
theorem dL_law_259 : decode cL_law 259 = .ok (.if_icmp .ge 111, 3) := dk_162 0 111 (dk_at dksL_law_10 5 rfl rfl)
theorem dL_law_262 : decode cL_law 262 = .ok (.iload 5, 2) := dk_21 5 (dk_at dksL_law_10 8 rfl rfl)
theorem dL_law_264 : decode cL_law 264 = .ok (.ifCond .ne 15, 3) := dk_154 0 15 (dk_at dksL_law_10 10 rfl rfl)
theorem dL_law_267 : decode cL_law 267 = .ok (.aload_n 1, 1) := dk_43 (dk_at dksL_law_10 13 rfl rfl)
theorem dL_law_268 : decode cL_law 268 = .ok (.aload_n 0, 1) := dk_42 (dk_at dksL_law_10 14 rfl rfl)
theorem dL_law_269 : decode cL_law 269 = .ok (.iconst 1, 1) := dk_4 (dk_at dksL_law_10 15 rfl rfl)
theorem dL_law_270 : decode cL_law 270 = .ok (.invokestatic 54, 3) := dk_184 0 54 (dk_at dksL_law_10 16 rfl rfl)
theorem dL_law_273 : decode cL_law 273 = .ok (.invokevirtual 74, 3) := dk_182 0 74 (dk_at dksL_law_10 19 rfl rfl)
theorem dL_law_276 : decode cL_law 276 = .ok (.goto 12, 3) := dk_167 0 12 (dk_at dksL_law_11 0 rfl rfl)
theorem dL_law_279 : decode cL_law 279 = .ok (.aload_n 1, 1) := dk_43 (dk_at dksL_law_11 3 rfl rfl)
theorem dL_law_280 : decode cL_law 280 = .ok (.aload_n 0, 1) := dk_42 (dk_at dksL_law_11 4 rfl rfl)
theorem dL_law_281 : decode cL_law 281 = .ok (.iconst 2, 1) := dk_5 (dk_at dksL_law_11 5 rfl rfl)
theorem dL_law_282 : decode cL_law 282 = .ok (.invokestatic 54, 3) := dk_184 0 54 (dk_at dksL_law_11 6 rfl rfl)
theorem dL_law_285 : decode cL_law 285 = .ok (.invokevirtual 82, 3) := dk_182 0 82 (dk_at dksL_law_11 9 rfl rfl)
theorem dL_law_288 : decode cL_law 288 = .ok (.aload_n 1, 1) := dk_43 (dk_at dksL_law_11 12 rfl rfl)
theorem dL_law_289 : decode cL_law 289 = .ok (.aload_n 2, 1) := dk_44 (dk_at dksL_law_11 13 rfl rfl)
theorem dL_law_290 : decode cL_law 290 = .ok (.aload_n 3, 1) := dk_45 (dk_at dksL_law_11 14 rfl rfl)
theorem dL_law_291 : decode cL_law 291 = .ok (.iload 5, 2) := dk_21 5 (dk_at dksL_law_11 15 rfl rfl)
theorem dL_law_293 : decode cL_law 293 = .ok (.iconst 1, 1) := dk_4 (dk_at dksL_law_11 17 rfl rfl)
theorem dL_law_294 : decode cL_law 294 = .ok (.if_icmp .ne 7, 3) := dk_160 0 7 (dk_at dksL_law_11 18 rfl rfl)
theorem dL_law_297 : decode cL_law 297 = .ok (.iconst 1, 1) := dk_4 (dk_at dksL_law_11 21 rfl rfl)
theorem dL_law_298 : decode cL_law 298 = .ok (.goto 4, 3) := dk_167 0 4 (dk_at dksL_law_12 0 rfl rfl)
theorem dL_law_301 : decode cL_law 301 = .ok (.iconst 0, 1) := dk_3 (dk_at dksL_law_12 3 rfl rfl)
theorem dL_law_302 : decode cL_law 302 = .ok (.invokestatic 78, 3) := dk_184 0 78 (dk_at dksL_law_12 4 rfl rfl)
theorem dL_law_305 : decode cL_law 305 = .ok (.iload 5, 2) := dk_21 5 (dk_at dksL_law_12 7 rfl rfl)
theorem dL_law_307 : decode cL_law 307 = .ok (.invokestatic 58, 3) := dk_184 0 58 (dk_at dksL_law_12 9 rfl rfl)
theorem dL_law_310 : decode cL_law 310 = .ok (.ifCond .ne 5, 3) := dk_154 0 5 (dk_at dksL_law_12 12 rfl rfl)
theorem dL_law_313 : decode cL_law 313 = .ok (.iconst 0, 1) := dk_3 (dk_at dksL_law_12 15 rfl rfl)
theorem dL_law_314 : decode cL_law 314 = .ok (.ireturn, 1) := dk_172 (dk_at dksL_law_12 16 rfl rfl)
theorem dL_law_315 : decode cL_law 315 = .ok (.aload_n 1, 1) := dk_43 (dk_at dksL_law_12 17 rfl rfl)
theorem dL_law_316 : decode cL_law 316 = .ok (.invokevirtual 85, 3) := dk_182 0 85 (dk_at dksL_law_12 18 rfl rfl)
theorem dL_law_319 : decode cL_law 319 = .ok (.iload 5, 2) := dk_21 5 (dk_at dksL_law_12 21 rfl rfl)
theorem dL_law_321 : decode cL_law 321 = .ok (.ifCond .ne 15, 3) := dk_154 0 15 (dk_at dksL_law_13 0 rfl rfl)
theorem dL_law_324 : decode cL_law 324 = .ok (.aload_n 1, 1) := dk_43 (dk_at dksL_law_13 3 rfl rfl)
theorem dL_law_325 : decode cL_law 325 = .ok (.aload_n 0, 1) := dk_42 (dk_at dksL_law_13 4 rfl rfl)
theorem dL_law_326 : decode cL_law 326 = .ok (.iconst 3, 1) := dk_6 (dk_at dksL_law_13 5 rfl rfl)
theorem dL_law_327 : decode cL_law 327 = .ok (.invokestatic 54, 3) := dk_184 0 54 (dk_at dksL_law_13 6 rfl rfl)
theorem dL_law_330 : decode cL_law 330 = .ok (.invokevirtual 82, 3) := dk_182 0 82 (dk_at dksL_law_13 9 rfl rfl)
theorem dL_law_333 : decode cL_law 333 = .ok (.goto 12, 3) := dk_167 0 12 (dk_at dksL_law_13 12 rfl rfl)
theorem dL_law_336 : decode cL_law 336 = .ok (.aload_n 1, 1) := dk_43 (dk_at dksL_law_13 15 rfl rfl)
theorem dL_law_337 : decode cL_law 337 = .ok (.aload_n 0, 1) := dk_42 (dk_at dksL_law_13 16 rfl rfl)
theorem dL_law_338 : decode cL_law 338 = .ok (.iconst 4, 1) := dk_7 (dk_at dksL_law_13 17 rfl rfl)
theorem dL_law_339 : decode cL_law 339 = .ok (.invokestatic 54, 3) := dk_184 0 54 (dk_at dksL_law_13 18 rfl rfl)
theorem dL_law_342 : decode cL_law 342 = .ok (.invokevirtual 74, 3) := dk_182 0 74 (dk_at dksL_law_13 21 rfl rfl)
theorem dL_law_345 : decode cL_law 345 = .ok (.aload_n 1, 1) := dk_43 (dk_at dksL_law_14 0 rfl rfl)
theorem dL_law_346 : decode cL_law 346 = .ok (.aload_n 3, 1) := dk_45 (dk_at dksL_law_14 1 rfl rfl)
theorem dL_law_347 : decode cL_law 347 = .ok (.aload_n 0, 1) := dk_42 (dk_at dksL_law_14 2 rfl rfl)
theorem dL_law_348 : decode cL_law 348 = .ok (.iconst 5, 1) := dk_8 (dk_at dksL_law_14 3 rfl rfl)
theorem dL_law_349 : decode cL_law 349 = .ok (.invokestatic 54, 3) := dk_184 0 54 (dk_at dksL_law_14 4 rfl rfl)
theorem dL_law_352 : decode cL_law 352 = .ok (.invokestatic 58, 3) := dk_184 0 58 (dk_at dksL_law_14 7 rfl rfl)
theorem dL_law_355 : decode cL_law 355 = .ok (.ifCond .ne 5, 3) := dk_154 0 5 (dk_at dksL_law_14 10 rfl rfl)
theorem dL_law_358 : decode cL_law 358 = .ok (.iconst 0, 1) := dk_3 (dk_at dksL_law_14 13 rfl rfl)
theorem dL_law_359 : decode cL_law 359 = .ok (.ireturn, 1) := dk_172 (dk_at dksL_law_14 14 rfl rfl)
theorem dL_law_360 : decode cL_law 360 = .ok (.aload_n 1, 1) := dk_43 (dk_at dksL_law_14 15 rfl rfl)
theorem dL_law_361 : decode cL_law 361 = .ok (.invokevirtual 85, 3) := dk_182 0 85 (dk_at dksL_law_14 16 rfl rfl)
theorem dL_law_364 : decode cL_law 364 = .ok (.iinc 5 1, 3) := dk_132 5 1 (dk_at dksL_law_14 19 rfl rfl)
theorem dL_law_367 : decode cL_law 367 = .ok (.goto (-111), 3) := dk_167 255 145 (dk_at dksL_law_15 0 rfl rfl)
theorem dL_law_370 : decode cL_law 370 = .ok (.aload_n 1, 1) := dk_43 (dk_at dksL_law_15 3 rfl rfl)
theorem dL_law_371 : decode cL_law 371 = .ok (.iconst 0, 1) := dk_3 (dk_at dksL_law_15 4 rfl rfl)
theorem dL_law_372 : decode cL_law 372 = .ok (.invokevirtual 74, 3) := dk_182 0 74 (dk_at dksL_law_15 5 rfl rfl)
theorem dL_law_375 : decode cL_law 375 = .ok (.aload_n 1, 1) := dk_43 (dk_at dksL_law_15 8 rfl rfl)
theorem dL_law_376 : decode cL_law 376 = .ok (.invokestatic 92, 3) := dk_184 0 92 (dk_at dksL_law_15 9 rfl rfl)
theorem dL_law_379 : decode cL_law 379 = .ok (.astore 5, 2) := dk_58 5 (dk_at dksL_law_15 12 rfl rfl)
theorem dL_law_381 : decode cL_law 381 = .ok (.bipush 8, 2) := dk_16 8 (dk_at dksL_law_15 14 rfl rfl)
theorem dL_law_383 : decode cL_law 383 = .ok (.newarray .int, 2) := dk_188_10 (dk_at dksL_law_15 16 rfl rfl)
theorem dL_law_385 : decode cL_law 385 = .ok (.astore 6, 2) := dk_58 6 (dk_at dksL_law_15 18 rfl rfl)
theorem dL_law_387 : decode cL_law 387 = .ok (.iconst 0, 1) := dk_3 (dk_at dksL_law_15 20 rfl rfl)
theorem dL_law_388 : decode cL_law 388 = .ok (.istore 7, 2) := dk_54 7 (dk_at dksL_law_15 21 rfl rfl)
theorem dL_law_390 : decode cL_law 390 = .ok (.iload 7, 2) := dk_21 7 (dk_at dksL_law_16 0 rfl rfl)
theorem dL_law_392 : decode cL_law 392 = .ok (.bipush 8, 2) := dk_16 8 (dk_at dksL_law_16 2 rfl rfl)
theorem dL_law_394 : decode cL_law 394 = .ok (.if_icmp .ge 68, 3) := dk_162 0 68 (dk_at dksL_law_16 4 rfl rfl)
theorem dL_law_397 : decode cL_law 397 = .ok (.aload 6, 2) := dk_25 6 (dk_at dksL_law_16 7 rfl rfl)
theorem dL_law_399 : decode cL_law 399 = .ok (.iload 7, 2) := dk_21 7 (dk_at dksL_law_16 9 rfl rfl)
theorem dL_law_401 : decode cL_law 401 = .ok (.aload_n 2, 1) := dk_44 (dk_at dksL_law_16 11 rfl rfl)
theorem dL_law_402 : decode cL_law 402 = .ok (.iconst 4, 1) := dk_7 (dk_at dksL_law_16 12 rfl rfl)
theorem dL_law_403 : decode cL_law 403 = .ok (.iload 7, 2) := dk_21 7 (dk_at dksL_law_16 13 rfl rfl)
theorem dL_law_405 : decode cL_law 405 = .ok (.imul, 1) := dk_104 (dk_at dksL_law_16 15 rfl rfl)
theorem dL_law_406 : decode cL_law 406 = .ok (.baload, 1) := dk_51 (dk_at dksL_law_16 16 rfl rfl)
theorem dL_law_407 : decode cL_law 407 = .ok (.bipush 24, 2) := dk_16 24 (dk_at dksL_law_16 17 rfl rfl)
theorem dL_law_409 : decode cL_law 409 = .ok (.ishl, 1) := dk_120 (dk_at dksL_law_16 19 rfl rfl)
theorem dL_law_410 : decode cL_law 410 = .ok (.aload_n 2, 1) := dk_44 (dk_at dksL_law_16 20 rfl rfl)
theorem dL_law_411 : decode cL_law 411 = .ok (.iconst 4, 1) := dk_7 (dk_at dksL_law_16 21 rfl rfl)
theorem dL_law_412 : decode cL_law 412 = .ok (.iload 7, 2) := dk_21 7 (dk_at dksL_law_16 22 rfl rfl)
theorem dL_law_414 : decode cL_law 414 = .ok (.imul, 1) := dk_104 (dk_at dksL_law_17 0 rfl rfl)
theorem dL_law_415 : decode cL_law 415 = .ok (.iconst 1, 1) := dk_4 (dk_at dksL_law_17 1 rfl rfl)
theorem dL_law_416 : decode cL_law 416 = .ok (.iadd, 1) := dk_96 (dk_at dksL_law_17 2 rfl rfl)
theorem dL_law_417 : decode cL_law 417 = .ok (.baload, 1) := dk_51 (dk_at dksL_law_17 3 rfl rfl)
theorem dL_law_418 : decode cL_law 418 = .ok (.sipush 255, 3) := dk_17 0 255 (dk_at dksL_law_17 4 rfl rfl)
theorem dL_law_421 : decode cL_law 421 = .ok (.iand, 1) := dk_126 (dk_at dksL_law_17 7 rfl rfl)
theorem dL_law_422 : decode cL_law 422 = .ok (.bipush 16, 2) := dk_16 16 (dk_at dksL_law_17 8 rfl rfl)
theorem dL_law_424 : decode cL_law 424 = .ok (.ishl, 1) := dk_120 (dk_at dksL_law_17 10 rfl rfl)
theorem dL_law_425 : decode cL_law 425 = .ok (.ior, 1) := dk_128 (dk_at dksL_law_17 11 rfl rfl)
theorem dL_law_426 : decode cL_law 426 = .ok (.aload_n 2, 1) := dk_44 (dk_at dksL_law_17 12 rfl rfl)
theorem dL_law_427 : decode cL_law 427 = .ok (.iconst 4, 1) := dk_7 (dk_at dksL_law_17 13 rfl rfl)
theorem dL_law_428 : decode cL_law 428 = .ok (.iload 7, 2) := dk_21 7 (dk_at dksL_law_17 14 rfl rfl)
theorem dL_law_430 : decode cL_law 430 = .ok (.imul, 1) := dk_104 (dk_at dksL_law_17 16 rfl rfl)
theorem dL_law_431 : decode cL_law 431 = .ok (.iconst 2, 1) := dk_5 (dk_at dksL_law_17 17 rfl rfl)
theorem dL_law_432 : decode cL_law 432 = .ok (.iadd, 1) := dk_96 (dk_at dksL_law_17 18 rfl rfl)
theorem dL_law_433 : decode cL_law 433 = .ok (.baload, 1) := dk_51 (dk_at dksL_law_17 19 rfl rfl)
theorem dL_law_434 : decode cL_law 434 = .ok (.sipush 255, 3) := dk_17 0 255 (dk_at dksL_law_17 20 rfl rfl)
theorem dL_law_437 : decode cL_law 437 = .ok (.iand, 1) := dk_126 (dk_at dksL_law_17 23 rfl rfl)
theorem dL_law_438 : decode cL_law 438 = .ok (.bipush 8, 2) := dk_16 8 (dk_at dksL_law_18 0 rfl rfl)
theorem dL_law_440 : decode cL_law 440 = .ok (.ishl, 1) := dk_120 (dk_at dksL_law_18 2 rfl rfl)
theorem dL_law_441 : decode cL_law 441 = .ok (.ior, 1) := dk_128 (dk_at dksL_law_18 3 rfl rfl)
theorem dL_law_442 : decode cL_law 442 = .ok (.aload_n 2, 1) := dk_44 (dk_at dksL_law_18 4 rfl rfl)
theorem dL_law_443 : decode cL_law 443 = .ok (.iconst 4, 1) := dk_7 (dk_at dksL_law_18 5 rfl rfl)
theorem dL_law_444 : decode cL_law 444 = .ok (.iload 7, 2) := dk_21 7 (dk_at dksL_law_18 6 rfl rfl)
theorem dL_law_446 : decode cL_law 446 = .ok (.imul, 1) := dk_104 (dk_at dksL_law_18 8 rfl rfl)
theorem dL_law_447 : decode cL_law 447 = .ok (.iconst 3, 1) := dk_6 (dk_at dksL_law_18 9 rfl rfl)
theorem dL_law_448 : decode cL_law 448 = .ok (.iadd, 1) := dk_96 (dk_at dksL_law_18 10 rfl rfl)
theorem dL_law_449 : decode cL_law 449 = .ok (.baload, 1) := dk_51 (dk_at dksL_law_18 11 rfl rfl)
theorem dL_law_450 : decode cL_law 450 = .ok (.sipush 255, 3) := dk_17 0 255 (dk_at dksL_law_18 12 rfl rfl)
theorem dL_law_453 : decode cL_law 453 = .ok (.iand, 1) := dk_126 (dk_at dksL_law_18 15 rfl rfl)
theorem dL_law_454 : decode cL_law 454 = .ok (.ior, 1) := dk_128 (dk_at dksL_law_18 16 rfl rfl)
theorem dL_law_455 : decode cL_law 455 = .ok (.iastore, 1) := dk_79 (dk_at dksL_law_18 17 rfl rfl)
theorem dL_law_456 : decode cL_law 456 = .ok (.iinc 7 1, 3) := dk_132 7 1 (dk_at dksL_law_18 18 rfl rfl)
theorem dL_law_459 : decode cL_law 459 = .ok (.goto (-69), 3) := dk_167 255 187 (dk_at dksL_law_18 21 rfl rfl)
theorem dL_law_462 : decode cL_law 462 = .ok (.aload_n 1, 1) := dk_43 (dk_at dksL_law_19 0 rfl rfl)
theorem dL_law_463 : decode cL_law 463 = .ok (.aload_n 2, 1) := dk_44 (dk_at dksL_law_19 1 rfl rfl)
theorem dL_law_464 : decode cL_law 464 = .ok (.iconst 0, 1) := dk_3 (dk_at dksL_law_19 2 rfl rfl)
theorem dL_law_465 : decode cL_law 465 = .ok (.aload 6, 2) := dk_25 6 (dk_at dksL_law_19 3 rfl rfl)
theorem dL_law_467 : decode cL_law 467 = .ok (.iconst 0, 1) := dk_3 (dk_at dksL_law_19 5 rfl rfl)
theorem dL_law_468 : decode cL_law 468 = .ok (.iaload, 1) := dk_46 (dk_at dksL_law_19 6 rfl rfl)
theorem dL_law_469 : decode cL_law 469 = .ok (.sipush 128, 3) := dk_17 0 128 (dk_at dksL_law_19 7 rfl rfl)
theorem dL_law_472 : decode cL_law 472 = .ok (.ixor, 1) := dk_130 (dk_at dksL_law_19 10 rfl rfl)
theorem dL_law_473 : decode cL_law 473 = .ok (.aload 6, 2) := dk_25 6 (dk_at dksL_law_19 11 rfl rfl)
theorem dL_law_475 : decode cL_law 475 = .ok (.iconst 1, 1) := dk_4 (dk_at dksL_law_19 13 rfl rfl)
theorem dL_law_476 : decode cL_law 476 = .ok (.iaload, 1) := dk_46 (dk_at dksL_law_19 14 rfl rfl)
theorem dL_law_477 : decode cL_law 477 = .ok (.sipush 128, 3) := dk_17 0 128 (dk_at dksL_law_19 15 rfl rfl)
theorem dL_law_480 : decode cL_law 480 = .ok (.ixor, 1) := dk_130 (dk_at dksL_law_19 18 rfl rfl)
theorem dL_law_481 : decode cL_law 481 = .ok (.aload 6, 2) := dk_25 6 (dk_at dksL_law_19 19 rfl rfl)
theorem dL_law_483 : decode cL_law 483 = .ok (.iconst 2, 1) := dk_5 (dk_at dksL_law_19 21 rfl rfl)
theorem dL_law_484 : decode cL_law 484 = .ok (.iaload, 1) := dk_46 (dk_at dksL_law_19 22 rfl rfl)
theorem dL_law_485 : decode cL_law 485 = .ok (.sipush 128, 3) := dk_17 0 128 (dk_at dksL_law_20 0 rfl rfl)
theorem dL_law_488 : decode cL_law 488 = .ok (.ixor, 1) := dk_130 (dk_at dksL_law_20 3 rfl rfl)
theorem dL_law_489 : decode cL_law 489 = .ok (.aload 6, 2) := dk_25 6 (dk_at dksL_law_20 4 rfl rfl)
theorem dL_law_491 : decode cL_law 491 = .ok (.iconst 3, 1) := dk_6 (dk_at dksL_law_20 6 rfl rfl)
theorem dL_law_492 : decode cL_law 492 = .ok (.iaload, 1) := dk_46 (dk_at dksL_law_20 7 rfl rfl)
theorem dL_law_493 : decode cL_law 493 = .ok (.sipush 128, 3) := dk_17 0 128 (dk_at dksL_law_20 8 rfl rfl)
theorem dL_law_496 : decode cL_law 496 = .ok (.ixor, 1) := dk_130 (dk_at dksL_law_20 11 rfl rfl)
theorem dL_law_497 : decode cL_law 497 = .ok (.invokestatic 66, 3) := dk_184 0 66 (dk_at dksL_law_20 12 rfl rfl)
theorem dL_law_500 : decode cL_law 500 = .ok (.aload_n 1, 1) := dk_43 (dk_at dksL_law_20 15 rfl rfl)
theorem dL_law_501 : decode cL_law 501 = .ok (.aload_n 2, 1) := dk_44 (dk_at dksL_law_20 16 rfl rfl)
theorem dL_law_502 : decode cL_law 502 = .ok (.iconst 1, 1) := dk_4 (dk_at dksL_law_20 17 rfl rfl)
theorem dL_law_503 : decode cL_law 503 = .ok (.aload 6, 2) := dk_25 6 (dk_at dksL_law_20 18 rfl rfl)
theorem dL_law_505 : decode cL_law 505 = .ok (.iconst 4, 1) := dk_7 (dk_at dksL_law_20 20 rfl rfl)
theorem dL_law_506 : decode cL_law 506 = .ok (.iaload, 1) := dk_46 (dk_at dksL_law_20 21 rfl rfl)
theorem dL_law_507 : decode cL_law 507 = .ok (.sipush 128, 3) := dk_17 0 128 (dk_at dksL_law_21 0 rfl rfl)
theorem dL_law_510 : decode cL_law 510 = .ok (.ixor, 1) := dk_130 (dk_at dksL_law_21 3 rfl rfl)
theorem dL_law_511 : decode cL_law 511 = .ok (.aload 6, 2) := dk_25 6 (dk_at dksL_law_21 4 rfl rfl)
theorem dL_law_513 : decode cL_law 513 = .ok (.iconst 5, 1) := dk_8 (dk_at dksL_law_21 6 rfl rfl)
theorem dL_law_514 : decode cL_law 514 = .ok (.iaload, 1) := dk_46 (dk_at dksL_law_21 7 rfl rfl)
theorem dL_law_515 : decode cL_law 515 = .ok (.sipush 128, 3) := dk_17 0 128 (dk_at dksL_law_21 8 rfl rfl)
theorem dL_law_518 : decode cL_law 518 = .ok (.ixor, 1) := dk_130 (dk_at dksL_law_21 11 rfl rfl)
theorem dL_law_519 : decode cL_law 519 = .ok (.aload 6, 2) := dk_25 6 (dk_at dksL_law_21 12 rfl rfl)
theorem dL_law_521 : decode cL_law 521 = .ok (.bipush 6, 2) := dk_16 6 (dk_at dksL_law_21 14 rfl rfl)
theorem dL_law_523 : decode cL_law 523 = .ok (.iaload, 1) := dk_46 (dk_at dksL_law_21 16 rfl rfl)
theorem dL_law_524 : decode cL_law 524 = .ok (.sipush 128, 3) := dk_17 0 128 (dk_at dksL_law_21 17 rfl rfl)
theorem dL_law_527 : decode cL_law 527 = .ok (.ixor, 1) := dk_130 (dk_at dksL_law_21 20 rfl rfl)
theorem dL_law_528 : decode cL_law 528 = .ok (.aload 6, 2) := dk_25 6 (dk_at dksL_law_21 21 rfl rfl)
theorem dL_law_530 : decode cL_law 530 = .ok (.bipush 7, 2) := dk_16 7 (dk_at dksL_law_22 0 rfl rfl)
theorem dL_law_532 : decode cL_law 532 = .ok (.iaload, 1) := dk_46 (dk_at dksL_law_22 2 rfl rfl)
theorem dL_law_533 : decode cL_law 533 = .ok (.sipush 128, 3) := dk_17 0 128 (dk_at dksL_law_22 3 rfl rfl)
theorem dL_law_536 : decode cL_law 536 = .ok (.ixor, 1) := dk_130 (dk_at dksL_law_22 6 rfl rfl)
theorem dL_law_537 : decode cL_law 537 = .ok (.invokestatic 66, 3) := dk_184 0 66 (dk_at dksL_law_22 7 rfl rfl)
theorem dL_law_540 : decode cL_law 540 = .ok (.aload_n 3, 1) := dk_45 (dk_at dksL_law_22 10 rfl rfl)
theorem dL_law_541 : decode cL_law 541 = .ok (.iconst 0, 1) := dk_3 (dk_at dksL_law_22 11 rfl rfl)
theorem dL_law_542 : decode cL_law 542 = .ok (.baload, 1) := dk_51 (dk_at dksL_law_22 12 rfl rfl)
theorem dL_law_543 : decode cL_law 543 = .ok (.bipush 24, 2) := dk_16 24 (dk_at dksL_law_22 13 rfl rfl)
theorem dL_law_545 : decode cL_law 545 = .ok (.ishl, 1) := dk_120 (dk_at dksL_law_22 15 rfl rfl)
theorem dL_law_546 : decode cL_law 546 = .ok (.aload_n 3, 1) := dk_45 (dk_at dksL_law_22 16 rfl rfl)
theorem dL_law_547 : decode cL_law 547 = .ok (.iconst 1, 1) := dk_4 (dk_at dksL_law_22 17 rfl rfl)
theorem dL_law_548 : decode cL_law 548 = .ok (.baload, 1) := dk_51 (dk_at dksL_law_22 18 rfl rfl)
theorem dL_law_549 : decode cL_law 549 = .ok (.sipush 255, 3) := dk_17 0 255 (dk_at dksL_law_22 19 rfl rfl)
theorem dL_law_552 : decode cL_law 552 = .ok (.iand, 1) := dk_126 (dk_at dksL_law_22 22 rfl rfl)
theorem dL_law_553 : decode cL_law 553 = .ok (.bipush 16, 2) := dk_16 16 (dk_at dksL_law_23 0 rfl rfl)
theorem dL_law_555 : decode cL_law 555 = .ok (.ishl, 1) := dk_120 (dk_at dksL_law_23 2 rfl rfl)
theorem dL_law_556 : decode cL_law 556 = .ok (.ior, 1) := dk_128 (dk_at dksL_law_23 3 rfl rfl)
theorem dL_law_557 : decode cL_law 557 = .ok (.aload_n 3, 1) := dk_45 (dk_at dksL_law_23 4 rfl rfl)
theorem dL_law_558 : decode cL_law 558 = .ok (.iconst 2, 1) := dk_5 (dk_at dksL_law_23 5 rfl rfl)
theorem dL_law_559 : decode cL_law 559 = .ok (.baload, 1) := dk_51 (dk_at dksL_law_23 6 rfl rfl)
theorem dL_law_560 : decode cL_law 560 = .ok (.sipush 255, 3) := dk_17 0 255 (dk_at dksL_law_23 7 rfl rfl)
theorem dL_law_563 : decode cL_law 563 = .ok (.iand, 1) := dk_126 (dk_at dksL_law_23 10 rfl rfl)
theorem dL_law_564 : decode cL_law 564 = .ok (.bipush 8, 2) := dk_16 8 (dk_at dksL_law_23 11 rfl rfl)
theorem dL_law_566 : decode cL_law 566 = .ok (.ishl, 1) := dk_120 (dk_at dksL_law_23 13 rfl rfl)
theorem dL_law_567 : decode cL_law 567 = .ok (.ior, 1) := dk_128 (dk_at dksL_law_23 14 rfl rfl)
theorem dL_law_568 : decode cL_law 568 = .ok (.aload_n 3, 1) := dk_45 (dk_at dksL_law_23 15 rfl rfl)
theorem dL_law_569 : decode cL_law 569 = .ok (.iconst 3, 1) := dk_6 (dk_at dksL_law_23 16 rfl rfl)
theorem dL_law_570 : decode cL_law 570 = .ok (.baload, 1) := dk_51 (dk_at dksL_law_23 17 rfl rfl)
theorem dL_law_571 : decode cL_law 571 = .ok (.sipush 255, 3) := dk_17 0 255 (dk_at dksL_law_23 18 rfl rfl)
theorem dL_law_574 : decode cL_law 574 = .ok (.iand, 1) := dk_126 (dk_at dksL_law_23 21 rfl rfl)
theorem dL_law_575 : decode cL_law 575 = .ok (.ior, 1) := dk_128 (dk_at dksL_law_23 22 rfl rfl)
theorem dL_law_576 : decode cL_law 576 = .ok (.istore 7, 2) := dk_54 7 (dk_at dksL_law_24 0 rfl rfl)
theorem dL_law_578 : decode cL_law 578 = .ok (.aload_n 3, 1) := dk_45 (dk_at dksL_law_24 2 rfl rfl)
theorem dL_law_579 : decode cL_law 579 = .ok (.iconst 4, 1) := dk_7 (dk_at dksL_law_24 3 rfl rfl)
theorem dL_law_580 : decode cL_law 580 = .ok (.baload, 1) := dk_51 (dk_at dksL_law_24 4 rfl rfl)
theorem dL_law_581 : decode cL_law 581 = .ok (.bipush 24, 2) := dk_16 24 (dk_at dksL_law_24 5 rfl rfl)
theorem dL_law_583 : decode cL_law 583 = .ok (.ishl, 1) := dk_120 (dk_at dksL_law_24 7 rfl rfl)
theorem dL_law_584 : decode cL_law 584 = .ok (.aload_n 3, 1) := dk_45 (dk_at dksL_law_24 8 rfl rfl)
theorem dL_law_585 : decode cL_law 585 = .ok (.iconst 5, 1) := dk_8 (dk_at dksL_law_24 9 rfl rfl)
theorem dL_law_586 : decode cL_law 586 = .ok (.baload, 1) := dk_51 (dk_at dksL_law_24 10 rfl rfl)
theorem dL_law_587 : decode cL_law 587 = .ok (.sipush 255, 3) := dk_17 0 255 (dk_at dksL_law_24 11 rfl rfl)
theorem dL_law_590 : decode cL_law 590 = .ok (.iand, 1) := dk_126 (dk_at dksL_law_24 14 rfl rfl)
theorem dL_law_591 : decode cL_law 591 = .ok (.bipush 16, 2) := dk_16 16 (dk_at dksL_law_24 15 rfl rfl)
theorem dL_law_593 : decode cL_law 593 = .ok (.ishl, 1) := dk_120 (dk_at dksL_law_24 17 rfl rfl)
theorem dL_law_594 : decode cL_law 594 = .ok (.ior, 1) := dk_128 (dk_at dksL_law_24 18 rfl rfl)
theorem dL_law_595 : decode cL_law 595 = .ok (.aload_n 3, 1) := dk_45 (dk_at dksL_law_24 19 rfl rfl)
theorem dL_law_596 : decode cL_law 596 = .ok (.bipush 6, 2) := dk_16 6 (dk_at dksL_law_24 20 rfl rfl)
theorem dL_law_598 : decode cL_law 598 = .ok (.baload, 1) := dk_51 (dk_at dksL_law_24 22 rfl rfl)
theorem dL_law_599 : decode cL_law 599 = .ok (.sipush 255, 3) := dk_17 0 255 (dk_at dksL_law_25 0 rfl rfl)
theorem dL_law_602 : decode cL_law 602 = .ok (.iand, 1) := dk_126 (dk_at dksL_law_25 3 rfl rfl)
theorem dL_law_603 : decode cL_law 603 = .ok (.bipush 8, 2) := dk_16 8 (dk_at dksL_law_25 4 rfl rfl)
theorem dL_law_605 : decode cL_law 605 = .ok (.ishl, 1) := dk_120 (dk_at dksL_law_25 6 rfl rfl)
theorem dL_law_606 : decode cL_law 606 = .ok (.ior, 1) := dk_128 (dk_at dksL_law_25 7 rfl rfl)
theorem dL_law_607 : decode cL_law 607 = .ok (.aload_n 3, 1) := dk_45 (dk_at dksL_law_25 8 rfl rfl)
theorem dL_law_608 : decode cL_law 608 = .ok (.bipush 7, 2) := dk_16 7 (dk_at dksL_law_25 9 rfl rfl)
theorem dL_law_610 : decode cL_law 610 = .ok (.baload, 1) := dk_51 (dk_at dksL_law_25 11 rfl rfl)
theorem dL_law_611 : decode cL_law 611 = .ok (.sipush 255, 3) := dk_17 0 255 (dk_at dksL_law_25 12 rfl rfl)
theorem dL_law_614 : decode cL_law 614 = .ok (.iand, 1) := dk_126 (dk_at dksL_law_25 15 rfl rfl)
theorem dL_law_615 : decode cL_law 615 = .ok (.ior, 1) := dk_128 (dk_at dksL_law_25 16 rfl rfl)
theorem dL_law_616 : decode cL_law 616 = .ok (.istore 8, 2) := dk_54 8 (dk_at dksL_law_25 17 rfl rfl)
theorem dL_law_618 : decode cL_law 618 = .ok (.aload_n 1, 1) := dk_43 (dk_at dksL_law_25 19 rfl rfl)
theorem dL_law_619 : decode cL_law 619 = .ok (.aload_n 3, 1) := dk_45 (dk_at dksL_law_25 20 rfl rfl)
theorem dL_law_620 : decode cL_law 620 = .ok (.iload 7, 2) := dk_21 7 (dk_at dksL_law_25 21 rfl rfl)
theorem dL_law_622 : decode cL_law 622 = .ok (.sipush 128, 3) := dk_17 0 128 (dk_at dksL_law_26 0 rfl rfl)
theorem dL_law_625 : decode cL_law 625 = .ok (.ixor, 1) := dk_130 (dk_at dksL_law_26 3 rfl rfl)
theorem dL_law_626 : decode cL_law 626 = .ok (.iload 8, 2) := dk_21 8 (dk_at dksL_law_26 4 rfl rfl)
theorem dL_law_628 : decode cL_law 628 = .ok (.sipush 128, 3) := dk_17 0 128 (dk_at dksL_law_26 6 rfl rfl)
theorem dL_law_631 : decode cL_law 631 = .ok (.ixor, 1) := dk_130 (dk_at dksL_law_26 9 rfl rfl)
theorem dL_law_632 : decode cL_law 632 = .ok (.invokestatic 70, 3) := dk_184 0 70 (dk_at dksL_law_26 10 rfl rfl)
theorem dL_law_635 : decode cL_law 635 = .ok (.aload_n 1, 1) := dk_43 (dk_at dksL_law_26 13 rfl rfl)
theorem dL_law_636 : decode cL_law 636 = .ok (.iconst 1, 1) := dk_4 (dk_at dksL_law_26 14 rfl rfl)
theorem dL_law_637 : decode cL_law 637 = .ok (.invokevirtual 74, 3) := dk_182 0 74 (dk_at dksL_law_26 15 rfl rfl)
theorem dL_law_640 : decode cL_law 640 = .ok (.aload 5, 2) := dk_25 5 (dk_at dksL_law_26 18 rfl rfl)
theorem dL_law_642 : decode cL_law 642 = .ok (.aload_n 1, 1) := dk_43 (dk_at dksL_law_26 20 rfl rfl)
theorem dL_law_643 : decode cL_law 643 = .ok (.invokestatic 92, 3) := dk_184 0 92 (dk_at dksL_law_26 21 rfl rfl)
theorem dL_law_646 : decode cL_law 646 = .ok (.sipush 128, 3) := dk_17 0 128 (dk_at dksL_law_27 0 rfl rfl)
theorem dL_law_649 : decode cL_law 649 = .ok (.invokestatic 96, 3) := dk_184 0 96 (dk_at dksL_law_27 3 rfl rfl)
theorem dL_law_652 : decode cL_law 652 = .ok (.ifCond .ne 5, 3) := dk_154 0 5 (dk_at dksL_law_27 6 rfl rfl)
theorem dL_law_655 : decode cL_law 655 = .ok (.iconst 0, 1) := dk_3 (dk_at dksL_law_27 9 rfl rfl)
theorem dL_law_656 : decode cL_law 656 = .ok (.ireturn, 1) := dk_172 (dk_at dksL_law_27 10 rfl rfl)
theorem dL_law_657 : decode cL_law 657 = .ok (.aload_n 1, 1) := dk_43 (dk_at dksL_law_27 11 rfl rfl)
theorem dL_law_658 : decode cL_law 658 = .ok (.aload_n 2, 1) := dk_44 (dk_at dksL_law_27 12 rfl rfl)
theorem dL_law_659 : decode cL_law 659 = .ok (.iconst 0, 1) := dk_3 (dk_at dksL_law_27 13 rfl rfl)
theorem dL_law_660 : decode cL_law 660 = .ok (.aload 6, 2) := dk_25 6 (dk_at dksL_law_27 14 rfl rfl)
theorem dL_law_662 : decode cL_law 662 = .ok (.iconst 0, 1) := dk_3 (dk_at dksL_law_27 16 rfl rfl)
theorem dL_law_663 : decode cL_law 663 = .ok (.iaload, 1) := dk_46 (dk_at dksL_law_27 17 rfl rfl)
theorem dL_law_664 : decode cL_law 664 = .ok (.aload 6, 2) := dk_25 6 (dk_at dksL_law_27 18 rfl rfl)
theorem dL_law_666 : decode cL_law 666 = .ok (.iconst 1, 1) := dk_4 (dk_at dksL_law_27 20 rfl rfl)
theorem dL_law_667 : decode cL_law 667 = .ok (.iaload, 1) := dk_46 (dk_at dksL_law_27 21 rfl rfl)
theorem dL_law_668 : decode cL_law 668 = .ok (.aload 6, 2) := dk_25 6 (dk_at dksL_law_27 22 rfl rfl)
theorem dL_law_670 : decode cL_law 670 = .ok (.iconst 2, 1) := dk_5 (dk_at dksL_law_28 0 rfl rfl)
theorem dL_law_671 : decode cL_law 671 = .ok (.iaload, 1) := dk_46 (dk_at dksL_law_28 1 rfl rfl)
theorem dL_law_672 : decode cL_law 672 = .ok (.aload 6, 2) := dk_25 6 (dk_at dksL_law_28 2 rfl rfl)
theorem dL_law_674 : decode cL_law 674 = .ok (.iconst 3, 1) := dk_6 (dk_at dksL_law_28 4 rfl rfl)
theorem dL_law_675 : decode cL_law 675 = .ok (.iaload, 1) := dk_46 (dk_at dksL_law_28 5 rfl rfl)
theorem dL_law_676 : decode cL_law 676 = .ok (.invokestatic 66, 3) := dk_184 0 66 (dk_at dksL_law_28 6 rfl rfl)
theorem dL_law_679 : decode cL_law 679 = .ok (.aload_n 1, 1) := dk_43 (dk_at dksL_law_28 9 rfl rfl)
theorem dL_law_680 : decode cL_law 680 = .ok (.aload_n 2, 1) := dk_44 (dk_at dksL_law_28 10 rfl rfl)
theorem dL_law_681 : decode cL_law 681 = .ok (.iconst 1, 1) := dk_4 (dk_at dksL_law_28 11 rfl rfl)
theorem dL_law_682 : decode cL_law 682 = .ok (.aload 6, 2) := dk_25 6 (dk_at dksL_law_28 12 rfl rfl)
theorem dL_law_684 : decode cL_law 684 = .ok (.iconst 3, 1) := dk_6 (dk_at dksL_law_28 14 rfl rfl)
theorem dL_law_685 : decode cL_law 685 = .ok (.iaload, 1) := dk_46 (dk_at dksL_law_28 15 rfl rfl)
theorem dL_law_686 : decode cL_law 686 = .ok (.aload 6, 2) := dk_25 6 (dk_at dksL_law_28 16 rfl rfl)
theorem dL_law_688 : decode cL_law 688 = .ok (.iconst 2, 1) := dk_5 (dk_at dksL_law_28 18 rfl rfl)
theorem dL_law_689 : decode cL_law 689 = .ok (.iaload, 1) := dk_46 (dk_at dksL_law_28 19 rfl rfl)
theorem dL_law_690 : decode cL_law 690 = .ok (.aload 6, 2) := dk_25 6 (dk_at dksL_law_28 20 rfl rfl)
theorem dL_law_692 : decode cL_law 692 = .ok (.iconst 1, 1) := dk_4 (dk_at dksL_law_28 22 rfl rfl)
theorem dL_law_693 : decode cL_law 693 = .ok (.iaload, 1) := dk_46 (dk_at dksL_law_28 23 rfl rfl)
theorem dL_law_694 : decode cL_law 694 = .ok (.aload 6, 2) := dk_25 6 (dk_at dksL_law_29 0 rfl rfl)
theorem dL_law_696 : decode cL_law 696 = .ok (.iconst 0, 1) := dk_3 (dk_at dksL_law_29 2 rfl rfl)
theorem dL_law_697 : decode cL_law 697 = .ok (.iaload, 1) := dk_46 (dk_at dksL_law_29 3 rfl rfl)
theorem dL_law_698 : decode cL_law 698 = .ok (.invokestatic 66, 3) := dk_184 0 66 (dk_at dksL_law_29 4 rfl rfl)
theorem dL_law_701 : decode cL_law 701 = .ok (.aload_n 1, 1) := dk_43 (dk_at dksL_law_29 7 rfl rfl)
theorem dL_law_702 : decode cL_law 702 = .ok (.iconst 2, 1) := dk_5 (dk_at dksL_law_29 8 rfl rfl)
theorem dL_law_703 : decode cL_law 703 = .ok (.invokevirtual 74, 3) := dk_182 0 74 (dk_at dksL_law_29 9 rfl rfl)
theorem dL_law_706 : decode cL_law 706 = .ok (.aload_n 1, 1) := dk_43 (dk_at dksL_law_29 12 rfl rfl)
theorem dL_law_707 : decode cL_law 707 = .ok (.invokestatic 92, 3) := dk_184 0 92 (dk_at dksL_law_29 13 rfl rfl)
theorem dL_law_710 : decode cL_law 710 = .ok (.astore 5, 2) := dk_58 5 (dk_at dksL_law_29 16 rfl rfl)
theorem dL_law_712 : decode cL_law 712 = .ok (.aload_n 1, 1) := dk_43 (dk_at dksL_law_29 18 rfl rfl)
theorem dL_law_713 : decode cL_law 713 = .ok (.iconst 3, 1) := dk_6 (dk_at dksL_law_29 19 rfl rfl)
theorem dL_law_714 : decode cL_law 714 = .ok (.invokevirtual 82, 3) := dk_182 0 82 (dk_at dksL_law_29 20 rfl rfl)
theorem dL_law_717 : decode cL_law 717 = .ok (.aload 5, 2) := dk_25 5 (dk_at dksL_law_30 0 rfl rfl)
theorem dL_law_719 : decode cL_law 719 = .ok (.aload_n 1, 1) := dk_43 (dk_at dksL_law_30 2 rfl rfl)
theorem dL_law_720 : decode cL_law 720 = .ok (.invokestatic 92, 3) := dk_184 0 92 (dk_at dksL_law_30 3 rfl rfl)
theorem dL_law_723 : decode cL_law 723 = .ok (.iconst 0, 1) := dk_3 (dk_at dksL_law_30 6 rfl rfl)
theorem dL_law_724 : decode cL_law 724 = .ok (.invokestatic 96, 3) := dk_184 0 96 (dk_at dksL_law_30 7 rfl rfl)
theorem dL_law_727 : decode cL_law 727 = .ok (.ifCond .eq 26, 3) := dk_153 0 26 (dk_at dksL_law_30 10 rfl rfl)
theorem dL_law_730 : decode cL_law 730 = .ok (.aload_n 1, 1) := dk_43 (dk_at dksL_law_30 13 rfl rfl)
theorem dL_law_731 : decode cL_law 731 = .ok (.aload_n 2, 1) := dk_44 (dk_at dksL_law_30 14 rfl rfl)
theorem dL_law_732 : decode cL_law 732 = .ok (.aload_n 3, 1) := dk_45 (dk_at dksL_law_30 15 rfl rfl)
theorem dL_law_733 : decode cL_law 733 = .ok (.iconst 0, 1) := dk_3 (dk_at dksL_law_30 16 rfl rfl)
theorem dL_law_734 : decode cL_law 734 = .ok (.invokestatic 78, 3) := dk_184 0 78 (dk_at dksL_law_30 17 rfl rfl)
theorem dL_law_737 : decode cL_law 737 = .ok (.aload_n 0, 1) := dk_42 (dk_at dksL_law_30 20 rfl rfl)
theorem dL_law_738 : decode cL_law 738 = .ok (.bipush 6, 2) := dk_16 6 (dk_at dksL_law_30 21 rfl rfl)
theorem dL_law_740 : decode cL_law 740 = .ok (.invokestatic 54, 3) := dk_184 0 54 (dk_at dksL_law_31 0 rfl rfl)
theorem dL_law_743 : decode cL_law 743 = .ok (.invokestatic 58, 3) := dk_184 0 58 (dk_at dksL_law_31 3 rfl rfl)
theorem dL_law_746 : decode cL_law 746 = .ok (.ifCond .eq 7, 3) := dk_153 0 7 (dk_at dksL_law_31 6 rfl rfl)
theorem dL_law_749 : decode cL_law 749 = .ok (.iconst 1, 1) := dk_4 (dk_at dksL_law_31 9 rfl rfl)
theorem dL_law_750 : decode cL_law 750 = .ok (.goto 4, 3) := dk_167 0 4 (dk_at dksL_law_31 10 rfl rfl)
theorem dL_law_753 : decode cL_law 753 = .ok (.iconst 0, 1) := dk_3 (dk_at dksL_law_31 13 rfl rfl)
theorem dL_law_754 : decode cL_law 754 = .ok (.ireturn, 1) := dk_172 (dk_at dksL_law_31 14 rfl rfl)
end
section
/-! ROWS over the kit: the worlds of this claim (bytes as Int8), one context for all methods, a call and its frame in one row -/
set_option maxRecDepth 100000
abbrev vwCl : List vw_C := [(RX1, TX1, 3), (RX2, TX2, 3), (RX3, TX3, 1)]
/-- the numbers of the classes of byte[], int[], long[] -/
abbrev gk_I : Type := ClassId × ClassId × ClassId
abbrev gk_T (c : gk_I) : List (ClassId × FieldType) := [(c.1, .byte), (c.2.1, .int), (c.2.2, .long)]
abbrev gk_b (f : Nat → Int8) : Nat → Int32 := fun j => (f j).toInt32
/-- a byte[], int[], long[] of n places -/
abbrev gk_xb (c : gk_I) (q n : Nat) (f : Nat → Int8) : Nat × va_E := (q, .inl (c.1, n, .inl (gk_b f)))
abbrev gk_xi (c : gk_I) (q n : Nat) (f : Nat → Int32) : Nat × va_E := (q, .inl (c.2.1, n, .inl f))
abbrev gk_xl (c : gk_I) (q n : Nat) (f : Nat → Int64) : Nat × va_E := (q, .inl (c.2.2, n, .inr (.inl f)))
abbrev gk_us (x y : Int32) : Int32 := (x.toUInt32 >>> (y.toUInt32 &&& Int32.toUInt32 31)).toInt32
/-- the S-boxes -/
def gk_sl : List Nat := [4, 10, 9, 2, 13, 8, 0, 14, 6, 11, 1, 12, 7, 15, 5, 3, 14, 11, 4, 12, 6, 13, 15, 10, 2, 3, 8, 1, 0, 7, 5, 9, 5, 8, 1, 13, 10, 3, 4, 2, 14, 15, 12, 7, 6, 0, 9, 11, 7, 13, 10, 1, 0, 8, 9, 15, 14, 4, 6, 12, 11, 2, 5, 3, 6, 12, 7, 1, 5, 15, 13, 8, 4, 10, 9, 14, 0, 3, 11, 2, 4, 11, 10, 0, 7, 2, 1, 13, 3, 6, 8, 5, 9, 12, 15, 14, 13, 11, 4, 1, 3, 15, 5, 9, 0, 10, 14, 7, 6, 8, 2, 12, 1, 15, 13, 0, 5, 7, 10, 4, 9, 2, 3, 14, 6, 11, 8, 12]
def gk_sn (j : Nat) : Nat := gk_sl.getD j 0
def gk_sb (j : Nat) : Int32 := nI (gk_sn j)
def yB_init : MethodName := ⟨"BlockCipher", "init", "(ZLCipherParameters;)V"⟩
def yB_proc : MethodName := ⟨"BlockCipher", "processBlock", "([BI[BI)I"⟩
/-- the context: the cell of the S-boxes, the cell of the script, its length, its ints -/
abbrev gk_X : Type := Nat × Nat × Nat × (Nat → Int32)
def gk_C (X : gk_X) (A : Nat → Prop) (U : State) (H : Heap) : Prop :=
  va_Z "GOST28147Engine" "Sbox_Default" "[B" (.ref X.1) A U H ∧ va_T .byte X.1 128 (fun j => .int (gk_sb j)) A U H ∧ (va_X X.2.1 X.2.2.1 X.2.2.2 U H ∧ X.2.1 < H.size ∧ ¬ A X.2.1) ∧ va_Fw RX2 yB_init yX2_init_2 U ∧ va_Fw RX2 yB_proc yX2_processBlock U ∧ va_Nc RX3 "ParametersWithSBox" U
theorem gk_C.moved {X : gk_X} {A : Nat → Prop} {u U : State} {H : Heap} (hvm : u.vm.Alike U.vm) (h : gk_C X A u H) : gk_C X A U H := by
  obtain ⟨h1, h2, ⟨h3, h4, h5⟩, h6, h7, h8⟩ := h
  exact ⟨va_Z.moved hvm h1, va_T.moved hvm h2, ⟨va_X.moved hvm h3, h4, h5⟩, va_Fw.moved (by decide +kernel) hvm h6, va_Fw.moved (by decide +kernel) hvm h7, va_Nc.moved hvm h8⟩
theorem gk_C.kept {X : gk_X} {A : Nat → Prop} {U : State} {H H1 : Heap} (h : gk_C X A U H) (hz : H.size ≤ H1.size) (hq : ∀ a : Nat, a < H.size → ¬ A a → H1[a]? = H[a]?) : gk_C X A U H1 := by
  obtain ⟨h1, h2, ⟨h3, h4, h5⟩, h6, h7, h8⟩ := h
  exact ⟨h1.kept hq, h2.kept hq, ⟨h3.kept (hq _ h4 h5), Nat.lt_of_lt_of_le h4 hz, h5⟩, h6, h7, h8⟩
theorem gk_C.narrow {X : gk_X} {A B : Nat → Prop} {U : State} {H : Heap} (h : gk_C X A U H) (hAB : ∀ q, B q → A q) : gk_C X B U H := by
  obtain ⟨h1, h2, ⟨h3, h4, h5⟩, h6, h7, h8⟩ := h
  exact ⟨h1.narrow hAB, h2.narrow hAB, ⟨h3, h4, fun z => h5 (hAB _ z)⟩, h6, h7, h8⟩
/-- a contract's start -/
def gk_U (G : va_G) (c : gk_I) (X : gk_X) (w : va_W) (sz : Nat) (U : State) : Prop := U.heap.size = sz ∧ va_P G vwCl w U.heap ∧ va_K G vwCl (gk_T c) U ∧ va_D (fun _ => True) w ∧ gk_C X (va_A w sz) U U.heap
theorem gk_blind {av : List Value} {G : va_G} {c : gk_I} {X : gk_X} {w : va_W} {sz : Nat} : FrameBlind (va_Pc av (gk_U G c X w sz)) := by
  intro a U g mk h
  obtain ⟨h0, h1, h2, h3, h4, h5⟩ := h
  exact ⟨h0, h1, h2, va_K.moved (u := U) (U := U.calling g mk a) (Vm.Alike.refl U.vm) h3, h4, gk_C.moved (u := U) (U := U.calling g mk a) (Vm.Alike.refl U.vm) h5⟩
theorem gk_at {ws wc : va_W} {is : List Nat} (hs : is.map (fun i => ws[i]?) = wc.map some) (k : Nat) (q : Nat × va_E) (hq : wc[k]? = some q) : ∃ i : Nat, ws[i]? = some q := by
  have h1 : (is.map (fun i => ws[i]?))[k]? = some (some q) := by rw [hs, List.getElem?_map, hq]; rfl
  rw [List.getElem?_map] at h1
  cases hi : is[k]? with
  | none => rw [hi] at h1; cases h1
  | some i => rw [hi] at h1; exact ⟨i, Option.some.inj h1⟩
theorem gk_Psub {G : va_G} {cl : List vw_C} {ws wc : va_W} {H : Heap} (h : va_P G cl ws H) (is : List Nat) (hs : is.map (fun i => ws[i]?) = wc.map some) : va_P G cl wc H := by
  intro k q hq
  obtain ⟨i, hi⟩ := gk_at hs k q hq
  exact h i q hi
theorem gk_pre {G : va_G} {c : gk_I} {X : gk_X} {s : State} {H : Heap} {A : Nat → Prop} {locs : List Loc} {ws wc : va_W} {av : List Value} (hP : va_P G vwCl ws H) (hD : va_D A ws) (hK : va_K G vwCl (gk_T c) s) (hC : gk_C X A s s.heap) (hS : va_S A s.heap H locs) (hA : ∀ q : Nat, s.heap.size ≤ q → A q) (is : List Nat) (hi : is.map (fun i => ws[i]?) = wc.map some) (hn : va_nd is = true) : ∀ U : State, U.heap = H → s.WarmedH U.vm → va_Pc av (gk_U G c X wc H.size) av.toArray U := by
  intro U hU hW
  have hF := va_free (wc := wc) hD hS hA is hi
  refine ⟨rfl, by rw [hU], by rw [hU]; exact gk_Psub hP is hi, va_K.moved hW.alike hK, (hD.sub is hn hi).weaken (fun _ _ _ _ => trivial), ?_⟩
  rw [hU]
  exact ((hC.kept hS.1 hS.2.1).narrow hF).moved hW.alike
/-- an array's contents count at its own places alone -/
theorem gk_ext {G : va_G} {cl : List vw_C} {c : gk_I} {H : Heap} {ws : va_W} (h : va_P G cl ws H) (k : Nat) {q n : Nat} {f : Nat → Int8} (hk : ws[k]? = some (gk_xb c q n f)) (g : Nat → Int8) (hg : ∀ j, j < n → f j = g j) : va_P G cl (ws.set k (gk_xb c q n g)) H := by
  intro i x hx
  rw [List.getElem?_set] at hx
  by_cases hki : k = i
  · rw [if_pos hki] at hx
    split at hx
    · cases hx
      have h1 := h k _ hk
      have e : vp_cell c.1 (n, .inl (gk_b f)) = vp_cell c.1 (n, .inl (gk_b g)) := by
        rw [vp_cell_i, vp_cell_i, arrV, arrV]
        have e2 : (fun j : Fin n => Value.int (gk_b f j.val)) = (fun j : Fin n => Value.int (gk_b g j.val)) := by
          funext j
          show Value.int (f j.val).toInt32 = Value.int (g j.val).toInt32
          rw [hg j.val j.isLt]
        rw [e2]
      show H[q]? = some (vp_cell c.1 (n, .inl (gk_b g)))
      rw [← e]
      exact h1
    · cases hx
  · rw [if_neg hki] at hx
    exact h i x hx
section GKR
variable {p : Program} {l : Launch} {e : Env} {R : Room} {s : State} {m : MethodId} {args : Array Value} {below : List Frame} {meth : Method} {cd : Code} {H : Heap} {locs : List Loc} {cells slots : Nat} {Q : State → Prop}
variable {cc : ByteArray} {pc : Nat} {ls : Array Slot} {rest : List Value} {G : va_G} {c : gk_I} {A : Nat → Prop} {a : Nat} {ws : va_W} {H0 : Heap}
theorem gk_top {x y : Int32} (h : x = y) (k : W p l e R s m args below meth cd H locs cells slots Q (F0 m pc ls (.int y :: rest))) : W p l e R s m args below meth cd H locs cells slots Q (F0 m pc ls (.int x :: rest)) := h ▸ k
theorem gk_topl {x y : Int64} (h : x = y) (k : W p l e R s m args below meth cd H locs cells slots Q (F0 m pc ls (.long y :: rest))) : W p l e R s m args below meth cd H locs cells slots Q (F0 m pc ls (.long x :: rest)) := h ▸ k
theorem gk_bald (hx : p.tables.exec = Jvm.exec) (hb : cd.code = cc) (hK : va_K G vwCl (gk_T c) s) (hP : va_P G vwCl ws H) (q0 : Nat) {n : Nat} {f : Nat → Int8} (ha : ws[q0]? = some (gk_xb c a n f)) {i : Int32} (k : Nat) (hi : i = nI k) (hk : k < n) (hn : n ≤ 64) (hdg : decode cc pc = .ok (.baload, 1))
    (kk : W p l e R s m args below meth cd H locs cells slots Q (F0 m (pc + 1) ls (.int (f k).toInt32 :: rest))) : W p l e R s m args below meth cd H locs cells slots Q (F0 m pc ls (.int i :: .ref a :: rest)) := by
  subst hi
  refine va_bald hx hb hK hP q0 0 ha rfl (vp_in_nI hk (by omega)) hdg ?_
  rw [nI_clamp (by omega)]
  exact kk
theorem gk_iald (hx : p.tables.exec = Jvm.exec) (hb : cd.code = cc) (hK : va_K G vwCl (gk_T c) s) (hP : va_P G vwCl ws H) (q0 : Nat) {n : Nat} {f : Nat → Int32} (ha : ws[q0]? = some (gk_xi c a n f)) {i : Int32} (k : Nat) (hi : i = nI k) (hk : k < n) (hn : n ≤ 64) (hdg : decode cc pc = .ok (.iaload, 1))
    (kk : W p l e R s m args below meth cd H locs cells slots Q (F0 m (pc + 1) ls (.int (f k) :: rest))) : W p l e R s m args below meth cd H locs cells slots Q (F0 m pc ls (.int i :: .ref a :: rest)) := by
  subst hi
  refine va_iald hx hb hK hP q0 1 ha rfl (vp_in_nI hk (by omega)) hdg ?_
  rw [nI_clamp (by omega)]
  exact kk
theorem gk_lald (hx : p.tables.exec = Jvm.exec) (hb : cd.code = cc) (hK : va_K G vwCl (gk_T c) s) (hP : va_P G vwCl ws H) (q0 : Nat) {n : Nat} {f : Nat → Int64} (ha : ws[q0]? = some (gk_xl c a n f)) {i : Int32} (k : Nat) (hi : i = nI k) (hk : k < n) (hn : n ≤ 64) (hdg : decode cc pc = .ok (.laload, 1))
    (kk : W p l e R s m args below meth cd H locs cells slots Q (F0 m (pc + 1) ls (.long (f k) :: rest))) : W p l e R s m args below meth cd H locs cells slots Q (F0 m pc ls (.int i :: .ref a :: rest)) := by
  subst hi
  refine va_lald hx hb hK hP q0 2 ha rfl (vp_in_nI hk (by omega)) hdg ?_
  rw [nI_clamp (by omega)]
  exact kk
theorem gk_bast (hx : p.tables.exec = Jvm.exec) (hb : cd.code = cc) (hK : va_K G vwCl (gk_T c) s) (hP : va_P G vwCl ws H) (hD : va_D A ws) (hS : va_S A H0 H locs) (q0 : Nat) {n : Nat} {f : Nat → Int8} (ha : ws[q0]? = some (gk_xb c a n f)) {x : Int32} {i : Int32} (k : Nat) (hi : i = nI k) (hk : k < n) (hn : n ≤ 64) {y : Int8} (hy : x.toInt8 = y) (hdg : decode cc pc = .ok (.bastore, 1))
    (kk : ∀ (H1 : Heap) (locs1 : List Loc), va_P G vwCl (ws.set q0 (gk_xb c a n (va_up f k y))) H1 → va_D A (ws.set q0 (gk_xb c a n (va_up f k y))) → va_S A H0 H1 locs1 → W p l e R s m args below meth cd H1 locs1 cells slots Q (F0 m (pc + 1) ls rest)) : W p l e R s m args below meth cd H locs cells slots Q (F0 m pc ls (.int x :: .int i :: .ref a :: rest)) := by
  subst hi
  subst hy
  refine va_bast hx hb hK hP hD hS q0 0 ha rfl (vp_in_nI hk (by omega)) hdg (fun H1 locs1 h1 h2 h3 => ?_)
  have e : upd (gk_b f) (nI k).toNatClampNeg (vp_nar .byte x) = gk_b (va_up f k x.toInt8) := by
    rw [nI_clamp (by omega), vp_nar_byte]
    funext j
    simp only [upd, gk_b, va_up]
    split <;> rfl
  rw [e] at h1 h2
  exact kk H1 locs1 h1 h2 h3
theorem gk_iast (hx : p.tables.exec = Jvm.exec) (hb : cd.code = cc) (hK : va_K G vwCl (gk_T c) s) (hP : va_P G vwCl ws H) (hD : va_D A ws) (hS : va_S A H0 H locs) (q0 : Nat) {n : Nat} {f : Nat → Int32} (ha : ws[q0]? = some (gk_xi c a n f)) {x : Int32} {i : Int32} (k : Nat) (hi : i = nI k) (hk : k < n) (hn : n ≤ 64) (hdg : decode cc pc = .ok (.iastore, 1))
    (kk : ∀ (H1 : Heap) (locs1 : List Loc), va_P G vwCl (ws.set q0 (gk_xi c a n (upd f k x))) H1 → va_D A (ws.set q0 (gk_xi c a n (upd f k x))) → va_S A H0 H1 locs1 → W p l e R s m args below meth cd H1 locs1 cells slots Q (F0 m (pc + 1) ls rest)) : W p l e R s m args below meth cd H locs cells slots Q (F0 m pc ls (.int x :: .int i :: .ref a :: rest)) := by
  subst hi
  refine va_iast hx hb hK hP hD hS q0 1 ha rfl (vp_in_nI hk (by omega)) hdg (fun H1 locs1 h1 h2 h3 => ?_)
  rw [nI_clamp (by omega)] at h1 h2
  exact kk H1 locs1 h1 h2 h3
theorem gk_last (hx : p.tables.exec = Jvm.exec) (hb : cd.code = cc) (hK : va_K G vwCl (gk_T c) s) (hP : va_P G vwCl ws H) (hD : va_D A ws) (hS : va_S A H0 H locs) (q0 : Nat) {n : Nat} {f : Nat → Int64} (ha : ws[q0]? = some (gk_xl c a n f)) {x : Int64} {i : Int32} (k : Nat) (hi : i = nI k) (hk : k < n) (hn : n ≤ 64) (hdg : decode cc pc = .ok (.lastore, 1))
    (kk : ∀ (H1 : Heap) (locs1 : List Loc), va_P G vwCl (ws.set q0 (gk_xl c a n (vp_updL f k x))) H1 → va_D A (ws.set q0 (gk_xl c a n (vp_updL f k x))) → va_S A H0 H1 locs1 → W p l e R s m args below meth cd H1 locs1 cells slots Q (F0 m (pc + 1) ls rest)) : W p l e R s m args below meth cd H locs cells slots Q (F0 m pc ls (.long x :: .int i :: .ref a :: rest)) := by
  subst hi
  refine va_last hx hb hK hP hD hS q0 2 ha rfl (vp_in_nI hk (by omega)) hdg (fun H1 locs1 h1 h2 h3 => ?_)
  rw [nI_clamp (by omega)] at h1 h2
  exact kk H1 locs1 h1 h2 h3
theorem gk_newb (hx : p.tables.exec = Jvm.exec) (hb : cd.code = cc) (harr : (Cond.arrayClass .byte).before args s = true) (hK : va_K G vwCl (gk_T c) s) (hP : va_P G vwCl ws H) (hD : va_D A ws) (hS : va_S A H0 H locs) (hA : ∀ q : Nat, H0.size ≤ q → A q) {i : Int32} (n : Nat) (hi : i = nI n) (hn : n ≤ 64) (hcells : cells + 1 ≤ R.cells) (hslots : slots + n ≤ R.slots) (hdg : decode cc pc = .ok (.newarray .byte, 2))
    (kk : ∀ (q : Nat) (H1 : Heap), va_P G vwCl (ws ++ [gk_xb c q n (fun _ => 0)]) H1 → va_D A (ws ++ [gk_xb c q n (fun _ => 0)]) → va_S A H0 H1 locs → W p l e R s m args below meth cd H1 locs (cells + 1) (slots + n) Q (F0 m (pc + 2) ls (.ref q :: rest))) : W p l e R s m args below meth cd H locs cells slots Q (F0 m pc ls (.int i :: rest)) := by
  subst hi
  refine va_newa hx hb (atype := .byte) harr (ty := .byte) rfl hK hP hD hS hA (N' := n) (a0 := (n, .inl (gk_b fun _ => 0))) (fun cA => ?_) (nI_pos (by omega)) (nI_clamp (by omega)) ?_ hcells hslots hdg (fun q cA H1 hK1 h1 h2 h3 => ?_)
  · rw [vp_cell_i]
    rfl
  · have e : componentBytes .byte = 1 := rfl
    rw [e]
    omega
  · have e1 : s.vm.findClass ("[" ++ (FieldType.byte).toString) = some c.1 := (hK1.2 0 _ rfl).2
    have e2 : s.vm.findClass ("[" ++ (FieldType.byte).toString) = some cA := (hK1.2 3 _ rfl).2
    cases e1.symm.trans e2
    exact kk q H1 h1 h2 h3
theorem gk_newi (hx : p.tables.exec = Jvm.exec) (hb : cd.code = cc) (harr : (Cond.arrayClass .int).before args s = true) (hK : va_K G vwCl (gk_T c) s) (hP : va_P G vwCl ws H) (hD : va_D A ws) (hS : va_S A H0 H locs) (hA : ∀ q : Nat, H0.size ≤ q → A q) {i : Int32} (n : Nat) (hi : i = nI n) (hn : n ≤ 64) (hcells : cells + 1 ≤ R.cells) (hslots : slots + n ≤ R.slots) (hdg : decode cc pc = .ok (.newarray .int, 2))
    (kk : ∀ (q : Nat) (H1 : Heap), va_P G vwCl (ws ++ [gk_xi c q n (fun _ => 0)]) H1 → va_D A (ws ++ [gk_xi c q n (fun _ => 0)]) → va_S A H0 H1 locs → W p l e R s m args below meth cd H1 locs (cells + 1) (slots + n) Q (F0 m (pc + 2) ls (.ref q :: rest))) : W p l e R s m args below meth cd H locs cells slots Q (F0 m pc ls (.int i :: rest)) := by
  subst hi
  refine va_newa hx hb (atype := .int) harr (ty := .int) rfl hK hP hD hS hA (N' := n) (a0 := (n, .inl (fun _ => 0))) (fun cA => ?_) (nI_pos (by omega)) (nI_clamp (by omega)) ?_ hcells hslots hdg (fun q cA H1 hK1 h1 h2 h3 => ?_)
  · rw [vp_cell_i]
    rfl
  · have e : componentBytes .int = 4 := rfl
    rw [e]
    omega
  · have e1 : s.vm.findClass ("[" ++ (FieldType.int).toString) = some c.2.1 := (hK1.2 1 _ rfl).2
    have e2 : s.vm.findClass ("[" ++ (FieldType.int).toString) = some cA := (hK1.2 3 _ rfl).2
    cases e1.symm.trans e2
    exact kk q H1 h1 h2 h3
theorem gk_newl (hx : p.tables.exec = Jvm.exec) (hb : cd.code = cc) (harr : (Cond.arrayClass .long).before args s = true) (hK : va_K G vwCl (gk_T c) s) (hP : va_P G vwCl ws H) (hD : va_D A ws) (hS : va_S A H0 H locs) (hA : ∀ q : Nat, H0.size ≤ q → A q) {i : Int32} (n : Nat) (hi : i = nI n) (hn : n ≤ 64) (hcells : cells + 1 ≤ R.cells) (hslots : slots + n ≤ R.slots) (hdg : decode cc pc = .ok (.newarray .long, 2))
    (kk : ∀ (q : Nat) (H1 : Heap), va_P G vwCl (ws ++ [gk_xl c q n (fun _ => 0)]) H1 → va_D A (ws ++ [gk_xl c q n (fun _ => 0)]) → va_S A H0 H1 locs → W p l e R s m args below meth cd H1 locs (cells + 1) (slots + n) Q (F0 m (pc + 2) ls (.ref q :: rest))) : W p l e R s m args below meth cd H locs cells slots Q (F0 m pc ls (.int i :: rest)) := by
  subst hi
  refine va_newa hx hb (atype := .long) harr (ty := .long) rfl hK hP hD hS hA (N' := n) (a0 := (n, .inr (.inl (fun _ => 0)))) (fun cA => ?_) (nI_pos (by omega)) (nI_clamp (by omega)) ?_ hcells hslots hdg (fun q cA H1 hK1 h1 h2 h3 => ?_)
  · rw [vp_cell_l]
    rfl
  · have e : componentBytes .long = 8 := rfl
    rw [e]
    omega
  · have e1 : s.vm.findClass ("[" ++ (FieldType.long).toString) = some c.2.2 := (hK1.2 2 _ rfl).2
    have e2 : s.vm.findClass ("[" ++ (FieldType.long).toString) = some cA := (hK1.2 3 _ rfl).2
    cases e1.symm.trans e2
    exact kk q H1 h1 h2 h3
abbrev gk_B {S : Type} (G : va_G) (w1 : S → va_W) (A : Nat → Prop) (u : S) (t : State) : Prop := va_P G vwCl (w1 u) t.heap ∧ va_D A (w1 u)
abbrev gk_Br {S : Type} (G : va_G) (w1 : S → Nat → va_W) (A : Nat → Prop) (u : S) (a : Nat) (t : State) : Prop := va_P G vwCl (w1 u a) t.heap ∧ va_D A (w1 u a)
theorem gk_callv {S : Type} {post : S → Prop} {w1 : S → va_W} {wc wr : va_W} {mc ms : Nat} {st0 : List Value} {a : Array Value} (hr : va_Run p l e R s m args below meth cd H locs cells slots mc ms (F0 m pc ls st0) rest (va_Qv post (gk_B G w1 (va_A wc H.size)) (va_A wc H.size) a) (va_A wc H.size)) (hP : va_P G vwCl ws H) (hD : va_D A ws) (hS : va_S A H0 H locs) (hA : ∀ q : Nat, H0.size ≤ q → A q) (isC isR : List Nat) (hC : isC.map (fun i => ws[i]?) = wc.map some) (hR : isR.map (fun i => ws[i]?) = wr.map some) (hn : va_nd isR = true) (hdis : ∀ i ∈ isR, i ∉ isC)
    (kk : ∀ (u : S) (H1 : Heap) (locs1 : List Loc), post u → va_P G vwCl (wr ++ w1 u) H1 → va_D A (wr ++ w1 u) → va_S A H0 H1 locs1 → W p l e R s m args below meth cd H1 locs1 (cells + mc) (slots + ms) Q (F0 m (pc + 3) ls rest)) : W p l e R s m args below meth cd H locs cells slots Q (F0 m pc ls st0) := by
  have hF := va_free (wc := wc) hD hS hA isC hC
  refine va_callv hr hS (fun q _ h => hF q h) hF (fun u t H1 locs1 ht hvm hw hB hz hk hS1 => ?_)
  obtain ⟨hP1, hD1⟩ := hB
  rw [ht] at hP1
  obtain ⟨h1, h2⟩ := va_join hP hD isC isR hC hR hn hdis hk hF hP1 hD1
  exact kk u H1 locs1 hw h1 h2 hS1
theorem gk_calli {S : Type} {post : Int32 → S → Prop} {w1 : S → va_W} {wc wr : va_W} {mc ms : Nat} {st0 : List Value} {a : Array Value} (hr : va_Run p l e R s m args below meth cd H locs cells slots mc ms (F0 m pc ls st0) rest (va_Qi post (gk_B G w1 (va_A wc H.size)) (va_A wc H.size) a) (va_A wc H.size)) (hP : va_P G vwCl ws H) (hD : va_D A ws) (hS : va_S A H0 H locs) (hA : ∀ q : Nat, H0.size ≤ q → A q) (isC isR : List Nat) (hC : isC.map (fun i => ws[i]?) = wc.map some) (hR : isR.map (fun i => ws[i]?) = wr.map some) (hn : va_nd isR = true) (hdis : ∀ i ∈ isR, i ∉ isC)
    (kk : ∀ (r : Int32) (u : S) (H1 : Heap) (locs1 : List Loc), post r u → va_P G vwCl (wr ++ w1 u) H1 → va_D A (wr ++ w1 u) → va_S A H0 H1 locs1 → W p l e R s m args below meth cd H1 locs1 (cells + mc) (slots + ms) Q (F0 m (pc + 3) ls (.int r :: rest))) : W p l e R s m args below meth cd H locs cells slots Q (F0 m pc ls st0) := by
  have hF := va_free (wc := wc) hD hS hA isC hC
  refine va_calli hr hS (fun q _ h => hF q h) hF (fun r u t H1 locs1 ht hvm hw hB hz hk hS1 => ?_)
  obtain ⟨hP1, hD1⟩ := hB
  rw [ht] at hP1
  obtain ⟨h1, h2⟩ := va_join hP hD isC isR hC hR hn hdis hk hF hP1 hD1
  exact kk r u H1 locs1 hw h1 h2 hS1
theorem gk_callr {S : Type} {post : S → Prop} {w1 : S → Nat → va_W} {wc wr : va_W} {mc ms : Nat} {st0 : List Value} {a : Array Value} (hr : va_Run p l e R s m args below meth cd H locs cells slots mc ms (F0 m pc ls st0) rest (va_Qr post (gk_Br G w1 (va_A wc H.size)) (va_A wc H.size) a) (va_A wc H.size)) (hP : va_P G vwCl ws H) (hD : va_D A ws) (hS : va_S A H0 H locs) (hA : ∀ q : Nat, H0.size ≤ q → A q) (isC isR : List Nat) (hC : isC.map (fun i => ws[i]?) = wc.map some) (hR : isR.map (fun i => ws[i]?) = wr.map some) (hn : va_nd isR = true) (hdis : ∀ i ∈ isR, i ∉ isC)
    (kk : ∀ (u : S) (r : Nat) (H1 : Heap) (locs1 : List Loc), post u → va_P G vwCl (wr ++ w1 u r) H1 → va_D A (wr ++ w1 u r) → va_S A H0 H1 locs1 → W p l e R s m args below meth cd H1 locs1 (cells + mc) (slots + ms) Q (F0 m (pc + 3) ls (.ref r :: rest))) : W p l e R s m args below meth cd H locs cells slots Q (F0 m pc ls st0) := by
  have hF := va_free (wc := wc) hD hS hA isC hC
  refine va_callr hr hS (fun q _ h => hF q h) hF (fun u r t H1 locs1 ht hvm hw hB hz hk hS1 => ?_)
  obtain ⟨hP1, hD1⟩ := hB
  rw [ht] at hP1
  obtain ⟨h1, h2⟩ := va_join hP hD isC isR hC hR hn hdis hk hF hP1 hD1
  exact kk u r H1 locs1 hw h1 h2 hS1
theorem gk_callFv {S : Type} {post : S → Prop} {w1 : S → va_W} {wc wr : va_W} {mc ms : Nat} {st0 : List Value} {a : Array Value} (hr : va_Run5 p l e R s m args below meth cd H locs cells slots mc ms (F0 m pc ls st0) rest (va_Qv post (gk_B G w1 (va_A wc H.size)) (va_A wc H.size) a) (va_A wc H.size)) (hP : va_P G vwCl ws H) (hD : va_D A ws) (hS : va_S A H0 H locs) (hA : ∀ q : Nat, H0.size ≤ q → A q) (isC isR : List Nat) (hC : isC.map (fun i => ws[i]?) = wc.map some) (hR : isR.map (fun i => ws[i]?) = wr.map some) (hn : va_nd isR = true) (hdis : ∀ i ∈ isR, i ∉ isC)
    (kk : ∀ (u : S) (H1 : Heap) (locs1 : List Loc), post u → va_P G vwCl (wr ++ w1 u) H1 → va_D A (wr ++ w1 u) → va_S A H0 H1 locs1 → W p l e R s m args below meth cd H1 locs1 (cells + mc) (slots + ms) Q (F0 m (pc + 5) ls rest)) : W p l e R s m args below meth cd H locs cells slots Q (F0 m pc ls st0) := by
  have hF := va_free (wc := wc) hD hS hA isC hC
  refine va_callFv hr hS (fun q _ h => hF q h) hF (fun u t H1 locs1 ht hvm hw hB hz hk hS1 => ?_)
  obtain ⟨hP1, hD1⟩ := hB
  rw [ht] at hP1
  obtain ⟨h1, h2⟩ := va_join hP hD isC isR hC hR hn hdis hk hF hP1 hD1
  exact kk u H1 locs1 hw h1 h2 hS1
theorem gk_callFi {S : Type} {post : Int32 → S → Prop} {w1 : S → va_W} {wc wr : va_W} {mc ms : Nat} {st0 : List Value} {a : Array Value} (hr : va_Run5 p l e R s m args below meth cd H locs cells slots mc ms (F0 m pc ls st0) rest (va_Qi post (gk_B G w1 (va_A wc H.size)) (va_A wc H.size) a) (va_A wc H.size)) (hP : va_P G vwCl ws H) (hD : va_D A ws) (hS : va_S A H0 H locs) (hA : ∀ q : Nat, H0.size ≤ q → A q) (isC isR : List Nat) (hC : isC.map (fun i => ws[i]?) = wc.map some) (hR : isR.map (fun i => ws[i]?) = wr.map some) (hn : va_nd isR = true) (hdis : ∀ i ∈ isR, i ∉ isC)
    (kk : ∀ (r : Int32) (u : S) (H1 : Heap) (locs1 : List Loc), post r u → va_P G vwCl (wr ++ w1 u) H1 → va_D A (wr ++ w1 u) → va_S A H0 H1 locs1 → W p l e R s m args below meth cd H1 locs1 (cells + mc) (slots + ms) Q (F0 m (pc + 5) ls (.int r :: rest))) : W p l e R s m args below meth cd H locs cells slots Q (F0 m pc ls st0) := by
  have hF := va_free (wc := wc) hD hS hA isC hC
  refine va_callFi hr hS (fun q _ h => hF q h) hF (fun r u t H1 locs1 ht hvm hw hB hz hk hS1 => ?_)
  obtain ⟨hP1, hD1⟩ := hB
  rw [ht] at hP1
  obtain ⟨h1, h2⟩ := va_join hP hD isC isR hC hR hn hdis hk hF hP1 hD1
  exact kk r u H1 locs1 hw h1 h2 hS1
theorem gk_vret {S : Type} {post : S → Prop} {w1 : S → va_W} {mc ms : Nat} (hQ : Q = MQ below (va_Qv post (gk_B G w1 A) A) args s mc ms A) (hx : p.tables.exec = Jvm.exec) (hb : cd.code = cc) (hr : meth.sig.returnType = none) (hlocks : meth.locks = false) (hc : cells ≤ mc) (hs : slots ≤ ms) (hP : va_P G vwCl ws H) (hD : va_D A ws) (hS : va_S A s.heap H locs) (u : S) (hu : post u) (is : List Nat) (hn : va_nd is = true) (hi : is.map (fun i => ws[i]?) = (w1 u).map some) (hdg : decode cc pc = .ok (.return_, 1)) : W p l e R s m args below meth cd H locs cells slots Q (F0 m pc ls []) := by
  subst hQ
  refine W.widen hc hs ?_
  exact W.vret hx hb hr (fun t ht _ => ⟨⟨u, rfl, hu, by rw [ht]; exact gk_Psub hP is hi, hD.sub is hn hi⟩, hS.F ht⟩) hS.2.2 hdg
theorem gk_iret {S : Type} {post : Int32 → S → Prop} {w1 : S → va_W} {mc ms : Nat} {v : Int32} (hQ : Q = MQ below (va_Qi post (gk_B G w1 A) A) args s mc ms A) (hx : p.tables.exec = Jvm.exec) (hb : cd.code = cc) (hr : meth.sig.returnType = some .int) (hlocks : meth.locks = false) (hc : cells ≤ mc) (hs : slots ≤ ms) (hP : va_P G vwCl ws H) (hD : va_D A ws) (hS : va_S A s.heap H locs) (u : S) (hu : post v u) (is : List Nat) (hn : va_nd is = true) (hi : is.map (fun i => ws[i]?) = (w1 u).map some) (hdg : decode cc pc = .ok (.ireturn, 1)) : W p l e R s m args below meth cd H locs cells slots Q (F0 m pc ls [.int v]) := by
  subst hQ
  refine W.widen hc hs ?_
  exact W.iret (v := v) hx hb hr (fun t ht _ => ⟨⟨v, u, rfl, hu, by rw [ht]; exact gk_Psub hP is hi, hD.sub is hn hi⟩, hS.F ht⟩) hS.2.2 hdg
theorem gk_zret {S : Type} {post : Int32 → S → Prop} {w1 : S → va_W} {mc ms : Nat} {v : Int32} (hQ : Q = MQ below (va_Qi post (gk_B G w1 A) A) args s mc ms A) (hx : p.tables.exec = Jvm.exec) (hb : cd.code = cc) (hr : meth.sig.returnType = some .boolean) (hlocks : meth.locks = false) (hc : cells ≤ mc) (hs : slots ≤ ms) (hP : va_P G vwCl ws H) (hD : va_D A ws) (hS : va_S A s.heap H locs) (hv : narrow .boolean (.int v) = .int v) (u : S) (hu : post v u) (is : List Nat) (hn : va_nd is = true) (hi : is.map (fun i => ws[i]?) = (w1 u).map some) (hdg : decode cc pc = .ok (.ireturn, 1)) : W p l e R s m args below meth cd H locs cells slots Q (F0 m pc ls [.int v]) := by
  subst hQ
  refine W.widen hc hs ?_
  exact W.zret (v := v) hx hb hr hv (fun t ht _ => ⟨⟨v, u, rfl, hu, by rw [ht]; exact gk_Psub hP is hi, hD.sub is hn hi⟩, hS.F ht⟩) hS.2.2 hdg
theorem gk_aret {S : Type} {post : S → Prop} {w1 : S → Nat → va_W} {mc ms : Nat} {v : Nat} {rt : FieldType} (hQ : Q = MQ below (va_Qr post (gk_Br G w1 A) A) args s mc ms A) (hx : p.tables.exec = Jvm.exec) (hb : cd.code = cc) (hr : meth.sig.returnType = some rt) (hrt : ∃ t, rt = .array t) (hlocks : meth.locks = false) (hc : cells ≤ mc) (hs : slots ≤ ms) (hP : va_P G vwCl ws H) (hD : va_D A ws) (hS : va_S A s.heap H locs) (u : S) (hu : post u) (is : List Nat) (hn : va_nd is = true) (hi : is.map (fun i => ws[i]?) = (w1 u v).map some) (hdg : decode cc pc = .ok (.areturn, 1)) : W p l e R s m args below meth cd H locs cells slots Q (F0 m pc ls [.ref v]) := by
  subst hQ
  refine W.widen hc hs ?_
  exact W.aret (v := .ref v) hx hb hr (Or.inr hrt) (Or.inr ⟨v, rfl⟩) (fun t ht _ => ⟨⟨u, v, rfl, hu, by rw [ht]; exact gk_Psub hP is hi, hD.sub is hn hi⟩, hS.F ht⟩) hS.2.2 hdg
end GKR
/-- a contract out of a walk of its body -/
theorem gk_ofW {l : Launch} {G : va_G} {c : gk_I} {X : gk_X} {y : MethodName} {cc : ByteArray} {maxL : Nat} {ret : Option FieldType} {rm : Room} {av : List Value} {w : va_W} {sz mc ms : Nat} (Qf : (Nat → Prop) → Array Value → State → Outcome → State → Prop) (hy : plainName y.cls = true) (hav : (lg_sl av).length ≤ maxL)
    (body : ∀ (p : Program) (e : Env) (s : State) (m : MethodId) (below : List Frame) (meth : Method) (cd : Code) (ls : Array Slot) (A : Nat → Prop) (Q : State → Prop), Q = MQ below (Qf A) av.toArray s mc ms A → p.tables.exec = Jvm.exec → cd.code = cc → meth.sig.returnType = ret → meth.locks = false → cd.maxLocals = maxL → s.vm.findClass y.cls = some m.cls → (∀ z ∈ lw_all, z.before av.toArray s = true) → meth.name = y.name → va_K G vwCl (gk_T c) s → gk_C X A s s.heap → (∀ q : Nat, s.heap.size ≤ q → A q) → va_P G vwCl w s.heap → va_D A w → va_S A s.heap s.heap [] → lv_has ls maxL (lv_args 0 av) →
      W p l e rm s m av.toArray below meth cd s.heap [] 0 0 Q (F0 m 0 ls [])) :
    Met l y (ws_ y cc maxL ret) rm (va_Pc av (gk_U G c X w sz)) (Qf (va_A w sz)) mc ms (va_A w sz) := by
  refine Met.ofW (cc := cc) (maxL := maxL) (ret := ret) hy rfl ?_
  intro p e s m args below meth cd s₁ B hml hv
  obtain ⟨rfl, hsz, hP, hK, hD0, hC⟩ := hv
  have hts := atoms_spec (ws := ws_ y cc maxL ret) B.pre
  subst hsz
  have hl := lv_entry av (n := maxL) hav
  rw [lg_entry_eq]
  exact body p e s m below meth cd _ (va_A w s.heap.size) _ rfl B.exec B.bytes B.returns B.notSynchronized hml (findClass_of_methodNamed B.named) (fun z h => hts z (List.mem_cons_of_mem _ h)) (name_of_methodNamed B.named B.method).1 hK hC (fun q h => Or.inr h) hP hD0.self va_S.rf hl
end
section
/-! PURE: bytes as numbers, words out of bytes, bytes out of words -/
set_option maxRecDepth 100000
def gk_u (b : Int8) : Nat := b.toBitVec.toNat
def gk_n (v : Int32) : Nat := v.toBitVec.toNat
theorem gk_u_lt (b : Int8) : gk_u b < 256 := b.toBitVec.isLt
theorem gk_n_lt (v : Int32) : gk_n v < 4294967296 := v.toBitVec.isLt
theorem gk_n_nI {n : Nat} (h : n < 4294967296) : gk_n (nI n) = n := pk_tn h
theorem gk_n_inj {x y : Int32} (h : gk_n x = gk_n y) : x = y := Int32.toBitVec_inj.mp (BitVec.eq_of_toNat_eq h)
theorem gk_nI_n (x : Int32) : nI (gk_n x) = x := gk_n_inj (gk_n_nI (gk_n_lt x))
theorem gk_n_mod (n : Nat) : gk_n (nI n) = n % 4294967296 := BitVec.toNat_ofNat n 32
theorem gk_u_of (n : Nat) : gk_u (Int8.ofNat n) = n % 256 := BitVec.toNat_ofNat n 8
theorem gk_u_inj {x y : Int8} (h : gk_u x = gk_u y) : x = y := Int8.toBitVec_inj.mp (BitVec.eq_of_toNat_eq h)
theorem gk_of_u (b : Int8) : Int8.ofNat (gk_u b) = b := gk_u_inj (by rw [gk_u_of]; exact Nat.mod_eq_of_lt (gk_u_lt b))
theorem gk_of_mod {m n : Nat} (h : m % 256 = n % 256) : Int8.ofNat m = Int8.ofNat n := gk_u_inj (by rw [gk_u_of, gk_u_of, h])
theorem gk_of_eq {m : Nat} {b : Int8} (h : m % 256 = gk_u b) : Int8.ofNat m = b := gk_u_inj (by rw [gk_u_of, h])
theorem gk_d255 : ∀ n, n < 256 → (Int8.ofNat n).toInt32 &&& 255 = nI n := by decide +kernel
theorem gk_d8 : ∀ n, n < 256 → ((Int8.ofNat n).toInt32 &&& 255) <<< ((8 : Int32) &&& 31) = nI (n * 256) := by decide +kernel
theorem gk_d16 : ∀ n, n < 256 → ((Int8.ofNat n).toInt32 &&& 255) <<< ((16 : Int32) &&& 31) = nI (n * 65536) := by decide +kernel
theorem gk_d24 : ∀ n, n < 256 → (Int8.ofNat n).toInt32 <<< ((24 : Int32) &&& 31) = nI (n * 16777216) := by decide +kernel
theorem gk_d8m : ∀ n, n < 256 → ((Int8.ofNat n).toInt32 <<< ((8 : Int32) &&& 31)) &&& 65280 = nI (n * 256) := by decide +kernel
theorem gk_d16m : ∀ n, n < 256 → ((Int8.ofNat n).toInt32 <<< ((16 : Int32) &&& 31)) &&& 16711680 = nI (n * 65536) := by decide +kernel
theorem gk_d24m : ∀ n, n < 256 → ((Int8.ofNat n).toInt32 <<< ((24 : Int32) &&& 31)) &&& (-16777216) = nI (n * 16777216) := by decide +kernel
theorem gk_all {P : Int8 → Nat → Prop} (h : ∀ n, n < 256 → P (Int8.ofNat n) n) (b : Int8) : P b (gk_u b) := by
  have h1 := h (gk_u b) (gk_u_lt b)
  rw [gk_of_u] at h1
  exact h1
theorem gk_m0 (b : Int8) : b.toInt32 &&& 255 = nI (gk_u b) := gk_all (P := fun b n => b.toInt32 &&& 255 = nI n) gk_d255 b
theorem gk_m8 (b : Int8) : (b.toInt32 &&& 255) <<< ((8 : Int32) &&& 31) = nI (gk_u b * 256) := gk_all (P := fun b n => (b.toInt32 &&& 255) <<< ((8 : Int32) &&& 31) = nI (n * 256)) gk_d8 b
theorem gk_m16 (b : Int8) : (b.toInt32 &&& 255) <<< ((16 : Int32) &&& 31) = nI (gk_u b * 65536) := gk_all (P := fun b n => (b.toInt32 &&& 255) <<< ((16 : Int32) &&& 31) = nI (n * 65536)) gk_d16 b
theorem gk_m24 (b : Int8) : b.toInt32 <<< ((24 : Int32) &&& 31) = nI (gk_u b * 16777216) := gk_all (P := fun b n => b.toInt32 <<< ((24 : Int32) &&& 31) = nI (n * 16777216)) gk_d24 b
theorem gk_k8 (b : Int8) : (b.toInt32 <<< ((8 : Int32) &&& 31)) &&& 65280 = nI (gk_u b * 256) := gk_all (P := fun b n => (b.toInt32 <<< ((8 : Int32) &&& 31)) &&& 65280 = nI (n * 256)) gk_d8m b
theorem gk_k16 (b : Int8) : (b.toInt32 <<< ((16 : Int32) &&& 31)) &&& 16711680 = nI (gk_u b * 65536) := gk_all (P := fun b n => (b.toInt32 <<< ((16 : Int32) &&& 31)) &&& 16711680 = nI (n * 65536)) gk_d16m b
theorem gk_k24 (b : Int8) : (b.toInt32 <<< ((24 : Int32) &&& 31)) &&& (-16777216) = nI (gk_u b * 16777216) := gk_all (P := fun b n => (b.toInt32 <<< ((24 : Int32) &&& 31)) &&& (-16777216) = nI (n * 16777216)) gk_d24m b
/-- the word of four bytes, low byte first; high byte first -/
def gk_w (f : Nat → Int8) (o : Nat) : Int32 := nI (gk_u (f o) + gk_u (f (o + 1)) * 256 + gk_u (f (o + 2)) * 65536 + gk_u (f (o + 3)) * 16777216)
def gk_be (f : Nat → Int8) (o : Nat) : Int32 := nI (gk_u (f (o + 3)) + gk_u (f (o + 2)) * 256 + gk_u (f (o + 1)) * 65536 + gk_u (f o) * 16777216)
theorem gk_w_bc (f : Nat → Int8) (o : Nat) : ((((f (o + 3)).toInt32 <<< ((24 : Int32) &&& 31)) &&& (-16777216)) + (((f (o + 2)).toInt32 <<< ((16 : Int32) &&& 31)) &&& 16711680)) + (((f (o + 1)).toInt32 <<< ((8 : Int32) &&& 31)) &&& 65280) + ((f o).toInt32 &&& 255) = gk_w f o := by
  rw [gk_k24, gk_k16, gk_k8, gk_m0, nI_add, nI_add, nI_add]
  exact congrArg nI (by omega)
theorem gk_orN (a b : Nat) : nI a ||| nI b = nI (a ||| b) := by
  apply Int32.toBitVec_inj.1
  show BitVec.ofNat 32 a ||| BitVec.ofNat 32 b = BitVec.ofNat 32 (a ||| b)
  apply BitVec.eq_of_getLsbD_eq
  intro i hi
  simp [hi]
theorem gk_or {a : Nat} (k b : Nat) (h : a < 2 ^ k) : nI a ||| nI (b * 2 ^ k) = nI (a + b * 2 ^ k) := by
  rw [gk_orN, Nat.or_comm, Nat.mul_comm b, ← Nat.two_pow_add_eq_or_of_lt h b]
  exact congrArg nI (Nat.add_comm _ _)
theorem gk_or' {a : Nat} (k b : Nat) (h : a < 2 ^ k) : nI (b * 2 ^ k) ||| nI a = nI (a + b * 2 ^ k) := by
  rw [gk_orN, Nat.mul_comm b, ← Nat.two_pow_add_eq_or_of_lt h b]
  exact congrArg nI (Nat.add_comm _ _)
theorem gk_w_law (f : Nat → Int8) (o : Nat) : ((((f o).toInt32 &&& 255) ||| (((f (o + 1)).toInt32 &&& 255) <<< ((8 : Int32) &&& 31))) ||| (((f (o + 2)).toInt32 &&& 255) <<< ((16 : Int32) &&& 31))) ||| ((f (o + 3)).toInt32 <<< ((24 : Int32) &&& 31)) = gk_w f o := by
  have h0 := gk_u_lt (f o)
  have h1 := gk_u_lt (f (o + 1))
  have h2 := gk_u_lt (f (o + 2))
  rw [gk_m24, gk_m16, gk_m8, gk_m0]
  have e1 := gk_or (a := gk_u (f o)) 8 (gk_u (f (o + 1))) (by omega)
  have e2 := gk_or (a := gk_u (f o) + gk_u (f (o + 1)) * 2 ^ 8) 16 (gk_u (f (o + 2))) (by omega)
  have e3 := gk_or (a := gk_u (f o) + gk_u (f (o + 1)) * 2 ^ 8 + gk_u (f (o + 2)) * 2 ^ 16) 24 (gk_u (f (o + 3))) (by omega)
  exact (congrArg (fun z => (z ||| _) ||| _) e1).trans ((congrArg (fun z => z ||| _) e2).trans e3)
theorem gk_be_law (f : Nat → Int8) (o : Nat) : ((((f o).toInt32 <<< ((24 : Int32) &&& 31)) ||| (((f (o + 1)).toInt32 &&& 255) <<< ((16 : Int32) &&& 31))) ||| (((f (o + 2)).toInt32 &&& 255) <<< ((8 : Int32) &&& 31))) ||| ((f (o + 3)).toInt32 &&& 255) = gk_be f o := by
  have h0 := gk_u_lt (f (o + 3))
  have h1 := gk_u_lt (f (o + 2))
  have h2 := gk_u_lt (f (o + 1))
  rw [gk_m24, gk_m16, gk_m8, gk_m0]
  have e1 : nI (gk_u (f o) * 16777216) ||| nI (gk_u (f (o + 1)) * 65536) = nI ((gk_u (f o) * 256 + gk_u (f (o + 1))) * 2 ^ 16) := by
    refine (gk_or' (a := gk_u (f (o + 1)) * 65536) 24 (gk_u (f o)) (by omega)).trans (congrArg nI (by omega))
  have e2 : nI ((gk_u (f o) * 256 + gk_u (f (o + 1))) * 2 ^ 16) ||| nI (gk_u (f (o + 2)) * 256) = nI ((gk_u (f o) * 65536 + gk_u (f (o + 1)) * 256 + gk_u (f (o + 2))) * 2 ^ 8) := by
    refine (gk_or' (a := gk_u (f (o + 2)) * 256) 16 (gk_u (f o) * 256 + gk_u (f (o + 1))) (by omega)).trans (congrArg nI (by omega))
  have e3 : nI ((gk_u (f o) * 65536 + gk_u (f (o + 1)) * 256 + gk_u (f (o + 2))) * 2 ^ 8) ||| nI (gk_u (f (o + 3))) = gk_be f o := by
    refine (gk_or' (a := gk_u (f (o + 3))) 8 (gk_u (f o) * 65536 + gk_u (f (o + 1)) * 256 + gk_u (f (o + 2))) (by omega)).trans (congrArg nI (by omega))
  rw [e1, e2, e3]
/-- byte i of a word, the lowest first -/
def gk_by (v : Int32) (i : Nat) : Int8 := Int8.ofNat (gk_n v / 256 ^ i)
theorem gk_t8 (x : Int32) : x.toInt8 = Int8.ofNat (gk_n x) := by
  apply gk_u_inj
  rw [gk_u_of]
  show (x.toBitVec.signExtend 8).toNat = x.toBitVec.toNat % 256
  rw [BitVec.signExtend_eq_setWidth_of_le _ (by decide), BitVec.toNat_setWidth]
theorem gk_us_n (v s : Int32) (k : Nat) (hs : ((s.toUInt32 &&& Int32.toUInt32 31).toBitVec % 32).toNat = k) : gk_n (gk_us v s) = gk_n v / 2 ^ k := pk_ushr v s k hs
theorem gk_us_by (v s : Int32) (i : Nat) (hs : ((s.toUInt32 &&& Int32.toUInt32 31).toBitVec % 32).toNat = 8 * i) : (gk_us v s).toInt8 = gk_by v i := by
  rw [gk_t8, gk_us_n v s _ hs, Nat.pow_mul]
  rfl
theorem gk_by0 (v : Int32) : v.toInt8 = gk_by v 0 := by
  rw [gk_t8]
  exact gk_of_mod (by rw [Nat.pow_zero, Nat.div_one])
theorem gk_toInt (v : Int32) : v.toInt = if gk_n v < 2147483648 then (gk_n v : Int) else (gk_n v : Int) - 4294967296 := by
  have h : v.toInt = if 2 * gk_n v < 2 ^ 32 then (gk_n v : Int) else (gk_n v : Int) - (2 ^ 32 : Nat) := BitVec.toInt_eq_toNat_cond _
  rw [h]
  split <;> split <;> omega
/-- an arithmetic shift, its low bits -/
theorem gk_srI (v s : Int32) (k : Nat) (hs : (s.toBitVec.smod 32).toNat = k) (K : Int) (hK : ((2 ^ k : Nat) : Int) = K) : (if gk_n (v >>> s) < 2147483648 then (gk_n (v >>> s) : Int) else (gk_n (v >>> s) : Int) - 4294967296) = (if gk_n v < 2147483648 then (gk_n v : Int) else (gk_n v : Int) - 4294967296) / K := by
  have h1 := pk_shr v s k hs
  rw [gk_toInt (v >>> s), gk_toInt v, Int.shiftRight_eq_div_pow, hK] at h1
  exact h1
theorem gk_sr_by (v s : Int32) (i : Nat) (hi : i < 4) (hs : (s.toBitVec.smod 32).toNat = 8 * i) : (v >>> s).toInt8 = gk_by v i := by
  rw [gk_t8]
  refine gk_of_mod ?_
  have h2 := gk_n_lt v
  have h3 := gk_n_lt (v >>> s)
  rcases (show i = 0 ∨ i = 1 ∨ i = 2 ∨ i = 3 by omega) with rfl | rfl | rfl | rfl
  · have h1 := gk_srI v s _ hs 1 (by decide)
    generalize gk_n (v >>> s) = y at h1 h3 ⊢
    generalize gk_n v = x at h1 h2 ⊢
    rw [show (256 : Nat) ^ 0 = 1 from by decide]
    split at h1 <;> split at h1 <;> omega
  · have h1 := gk_srI v s _ hs 256 (by decide)
    generalize gk_n (v >>> s) = y at h1 h3 ⊢
    generalize gk_n v = x at h1 h2 ⊢
    rw [show (256 : Nat) ^ 1 = 256 from by decide]
    split at h1 <;> split at h1 <;> omega
  · have h1 := gk_srI v s _ hs 65536 (by decide)
    generalize gk_n (v >>> s) = y at h1 h3 ⊢
    generalize gk_n v = x at h1 h2 ⊢
    rw [show (256 : Nat) ^ 2 = 65536 from by decide]
    split at h1 <;> split at h1 <;> omega
  · have h1 := gk_srI v s _ hs 16777216 (by decide)
    generalize gk_n (v >>> s) = y at h1 h3 ⊢
    generalize gk_n v = x at h1 h2 ⊢
    rw [show (256 : Nat) ^ 3 = 16777216 from by decide]
    split at h1 <;> split at h1 <;> omega
/-- a nibble of a word -/
def gk_nb (v : Int32) (k : Nat) : Nat := gk_n v / 16 ^ k % 16
theorem gk_sr_nb (v s : Int32) (i : Nat) (hi : i < 8) (hs : (s.toBitVec.smod 32).toNat = 4 * i) : (v >>> s) &&& 15 = nI (gk_nb v i) := by
  refine (pk_and _ (m := 15) 4 (by decide)).trans (congrArg nI ?_)
  show gk_n (v >>> s) % 2 ^ 4 = gk_n v / 16 ^ i % 16
  have h2 := gk_n_lt v
  have h3 := gk_n_lt (v >>> s)
  rw [show (2 : Nat) ^ 4 = 16 from by decide]
  rcases (show i = 0 ∨ i = 1 ∨ i = 2 ∨ i = 3 ∨ i = 4 ∨ i = 5 ∨ i = 6 ∨ i = 7 by omega) with rfl | rfl | rfl | rfl | rfl | rfl | rfl | rfl
  · have h1 := gk_srI v s _ hs 1 (by decide)
    generalize gk_n (v >>> s) = y at h1 h3 ⊢
    generalize gk_n v = x at h1 h2 ⊢
    rw [show (16 : Nat) ^ 0 = 1 from by decide]
    split at h1 <;> split at h1 <;> omega
  · have h1 := gk_srI v s _ hs 16 (by decide)
    generalize gk_n (v >>> s) = y at h1 h3 ⊢
    generalize gk_n v = x at h1 h2 ⊢
    rw [show (16 : Nat) ^ 1 = 16 from by decide]
    split at h1 <;> split at h1 <;> omega
  · have h1 := gk_srI v s _ hs 256 (by decide)
    generalize gk_n (v >>> s) = y at h1 h3 ⊢
    generalize gk_n v = x at h1 h2 ⊢
    rw [show (16 : Nat) ^ 2 = 256 from by decide]
    split at h1 <;> split at h1 <;> omega
  · have h1 := gk_srI v s _ hs 4096 (by decide)
    generalize gk_n (v >>> s) = y at h1 h3 ⊢
    generalize gk_n v = x at h1 h2 ⊢
    rw [show (16 : Nat) ^ 3 = 4096 from by decide]
    split at h1 <;> split at h1 <;> omega
  · have h1 := gk_srI v s _ hs 65536 (by decide)
    generalize gk_n (v >>> s) = y at h1 h3 ⊢
    generalize gk_n v = x at h1 h2 ⊢
    rw [show (16 : Nat) ^ 4 = 65536 from by decide]
    split at h1 <;> split at h1 <;> omega
  · have h1 := gk_srI v s _ hs 1048576 (by decide)
    generalize gk_n (v >>> s) = y at h1 h3 ⊢
    generalize gk_n v = x at h1 h2 ⊢
    rw [show (16 : Nat) ^ 5 = 1048576 from by decide]
    split at h1 <;> split at h1 <;> omega
  · have h1 := gk_srI v s _ hs 16777216 (by decide)
    generalize gk_n (v >>> s) = y at h1 h3 ⊢
    generalize gk_n v = x at h1 h2 ⊢
    rw [show (16 : Nat) ^ 6 = 16777216 from by decide]
    split at h1 <;> split at h1 <;> omega
  · have h1 := gk_srI v s _ hs 268435456 (by decide)
    generalize gk_n (v >>> s) = y at h1 h3 ⊢
    generalize gk_n v = x at h1 h2 ⊢
    rw [show (16 : Nat) ^ 7 = 268435456 from by decide]
    split at h1 <;> split at h1 <;> omega
theorem gk_us_nb (v s : Int32) (i : Nat) (hs : ((s.toUInt32 &&& Int32.toUInt32 31).toBitVec % 32).toNat = 4 * i) : gk_us v s &&& 15 = nI (gk_nb v i) := by
  refine (pk_and _ (m := 15) 4 (by decide)).trans (congrArg nI ?_)
  show gk_n (gk_us v s) % 2 ^ 4 = gk_n v / 16 ^ i % 16
  rw [gk_us_n v s _ hs, Nat.pow_mul]
theorem gk_nb_lt (v : Int32) (k : Nat) : gk_nb v k < 16 := Nat.mod_lt _ (by decide)
theorem gk_by_w (f : Nat → Int8) (o i : Nat) (hi : i < 4) : gk_by (gk_w f o) i = f (o + i) := by
  have h0 := gk_u_lt (f o)
  have h1 := gk_u_lt (f (o + 1))
  have h2 := gk_u_lt (f (o + 2))
  have h3 := gk_u_lt (f (o + 3))
  refine gk_of_eq ?_
  unfold gk_w
  rw [gk_n_nI (by omega)]
  rcases (show i = 0 ∨ i = 1 ∨ i = 2 ∨ i = 3 by omega) with rfl | rfl | rfl | rfl
  · rw [Nat.pow_zero]
    show _ = gk_u (f o)
    omega
  · rw [Nat.pow_one]
    omega
  · have e : (256 : Nat) ^ 2 = 65536 := rfl
    rw [e]
    omega
  · have e : (256 : Nat) ^ 3 = 16777216 := rfl
    rw [e]
    omega
theorem gk_w_by {f : Nat → Int8} {o : Nat} (v : Int32) (h : ∀ i, i < 4 → f (o + i) = gk_by v i) : gk_w f o = v := by
  have hv := gk_n_lt v
  apply gk_n_inj
  unfold gk_w
  have h0 : f o = gk_by v 0 := h 0 (by omega)
  rw [h0, h 1 (by omega), h 2 (by omega), h 3 (by omega)]
  unfold gk_by
  rw [gk_u_of, gk_u_of, gk_u_of, gk_u_of, Nat.pow_zero, Nat.pow_one, show (256 : Nat) ^ 2 = 65536 from rfl, show (256 : Nat) ^ 3 = 16777216 from rfl, gk_n_nI (by omega)]
  omega
theorem gk_w_ext {f g : Nat → Int8} {o p : Nat} (h : ∀ i, i < 4 → f (o + i) = g (p + i)) : gk_w f o = gk_w g p := by
  have h0 : f o = g p := h 0 (by omega)
  unfold gk_w
  rw [h0, h 1 (by omega), h 2 (by omega), h 3 (by omega)]
/-- a word laid into bytes: low byte first (the engine), high byte first, k bytes of it (desk and law) -/
def gk_put (f : Nat → Int8) (o : Nat) (v : Int32) : Nat → Int8 := fun j => if o ≤ j ∧ j < o + 4 then gk_by v (j - o) else f j
def gk_layk (f : Nat → Int8) (o : Nat) (v : Int32) (k : Nat) : Nat → Int8 := fun j => if o ≤ j ∧ j < o + k then gk_by v (3 - (j - o)) else f j
abbrev gk_lay (f : Nat → Int8) (o : Nat) (v : Int32) : Nat → Int8 := gk_layk f o v 4
theorem gk_layk0 (f : Nat → Int8) (o : Nat) (v : Int32) : gk_layk f o v 0 = f := by
  funext j
  unfold gk_layk
  rw [if_neg (by omega)]
theorem gk_layk1 (f : Nat → Int8) (o : Nat) (v : Int32) (k : Nat) : va_up (gk_layk f o v k) (o + k) (gk_by v (3 - k)) = gk_layk f o v (k + 1) := by
  funext j
  show (if j = o + k then gk_by v (3 - k) else if o ≤ j ∧ j < o + k then gk_by v (3 - (j - o)) else f j) = if o ≤ j ∧ j < o + (k + 1) then gk_by v (3 - (j - o)) else f j
  by_cases h : j = o + k
  · rw [if_pos h, if_pos (by omega)]
    exact congrArg (gk_by v) (by omega)
  · rw [if_neg h]
    by_cases h2 : o ≤ j ∧ j < o + k
    · rw [if_pos h2, if_pos (by omega)]
    · rw [if_neg h2, if_neg (by omega)]
theorem gk_put4 (f : Nat → Int8) (o : Nat) (v : Int32) : va_up (va_up (va_up (va_up f (o + 3) (gk_by v 3)) (o + 2) (gk_by v 2)) (o + 1) (gk_by v 1)) o (gk_by v 0) = gk_put f o v := by
  funext j
  unfold gk_put va_up
  by_cases h0 : j = o
  · rw [if_pos h0, if_pos (by omega)]
    exact congrArg (gk_by v) (by omega)
  rw [if_neg h0]
  by_cases h1 : j = o + 1
  · rw [if_pos h1, if_pos (by omega)]
    exact congrArg (gk_by v) (by omega)
  rw [if_neg h1]
  by_cases h2 : j = o + 2
  · rw [if_pos h2, if_pos (by omega)]
    exact congrArg (gk_by v) (by omega)
  rw [if_neg h2]
  by_cases h3 : j = o + 3
  · rw [if_pos h3, if_pos (by omega)]
    exact congrArg (gk_by v) (by omega)
  rw [if_neg h3, if_neg (by omega)]
end
section
/-! PURE: the S-boxes as numbers, the round, the cipher, and its three laws -/
set_option maxRecDepth 100000
theorem gk_sn_lt (j : Nat) (h : j < 128) : gk_sn j < 16 := (by decide +kernel : ∀ j, j < 128 → gk_sn j < 16) j h
/-- the sum of the first k boxes' answers, each at its place -/
def gk_sm (v : Int32) : Nat → Nat
  | 0 => 0
  | k + 1 => gk_sm v k + gk_sn (16 * k + gk_nb v k) * 16 ^ k
theorem gk_sx_lt (v : Int32) (k : Nat) (hk : k < 8) : gk_sn (16 * k + gk_nb v k) < 16 := gk_sn_lt _ (by have := gk_nb_lt v k; omega)
theorem gk_sm_lt (v : Int32) : ∀ k, k ≤ 8 → gk_sm v k < 16 ^ k := by
  intro k
  induction k with
  | zero => intro _; exact Nat.one_pos
  | succ k ih =>
    intro hk
    have h1 := ih (by omega)
    have h2 := gk_sx_lt v k (by omega)
    unfold gk_sm
    rw [Nat.pow_succ]
    generalize gk_sn (16 * k + gk_nb v k) = a at h2
    generalize (16 : Nat) ^ k = b at h1
    have h3 : a * b ≤ 15 * b := Nat.mul_le_mul_right b (by omega)
    omega
theorem gk_p16 : ∀ k, k ≤ 8 → (16 : Nat) ^ k ≤ 4294967296 := by decide
theorem gk_p15 : ∀ k, k < 8 → 15 * (16 : Nat) ^ k < 4294967296 := by decide
theorem gk_p2 : ∀ k, k < 8 → (2 : Nat) ^ (4 * k) = 16 ^ k := by decide
/-- the engine's way: shifted and added -/
theorem gk_st (v s : Int32) (k : Nat) (hk : k < 8) (hs : (s.toBitVec.smod 32).toNat = 4 * k) : nI (gk_sm v k) + (gk_sb (16 * k + gk_nb v k) <<< s) = nI (gk_sm v (k + 1)) := by
  have h := gk_sx_lt v k hk
  have h2 := gk_p15 k hk
  have h3 : gk_sn (16 * k + gk_nb v k) * 16 ^ k ≤ 15 * 16 ^ k := Nat.mul_le_mul_right _ (by omega)
  unfold gk_sb
  rw [pk_shlN s (4 * k) hs (by rw [gk_p2 k hk]; omega), nI_add, gk_p2 k hk]
  rfl
theorem gk_st0 (v s : Int32) (hs : (s.toBitVec.smod 32).toNat = 0) : gk_sb (16 * 0 + gk_nb v 0) <<< s = nI (gk_sm v 1) := by
  have h := gk_st v s 0 (by decide) hs
  rw [← h]
  show _ = nI 0 + _
  rw [nI_0, Int32.zero_add]
/-- the law's way: shifted and or-ed -/
theorem gk_so (v s : Int32) (k : Nat) (hk : k < 8) (hs : (s.toBitVec.smod 32).toNat = 4 * k) : nI (gk_sm v k) ||| (nI (gk_sn (16 * k + gk_nb v k)) <<< s) = nI (gk_sm v (k + 1)) := by
  have h := gk_sx_lt v k hk
  have h2 := gk_p15 k hk
  have h3 : gk_sn (16 * k + gk_nb v k) * 16 ^ k ≤ 15 * 16 ^ k := Nat.mul_le_mul_right _ (by omega)
  have h4 := gk_sm_lt v k (by omega)
  rw [pk_shlN s (4 * k) hs (by rw [gk_p2 k hk]; omega), gk_or (4 * k) _ (by rw [gk_p2 k hk]; exact h4), gk_p2 k hk]
  rfl
/-- the round function -/
def gk_f (v : Int32) : Int32 := (nI (gk_sm v 8) <<< ((11 : Int32) &&& 31)) ||| gk_us (nI (gk_sm v 8)) 21
/-- which word of the key round k takes; o: opening -/
def gk_ix (o : Bool) (k : Nat) : Nat := if o then (if k < 8 then k else (31 - k) % 8) else (if k < 24 then k % 8 else 31 - k)
theorem gk_ix_lt (o : Bool) (k : Nat) (hk : k < 32) : gk_ix o k < 8 := by
  unfold gk_ix
  cases o
  · simp only [Bool.false_eq_true, if_false]
    split <;> omega
  · simp only [if_true]
    split <;> omega
/-- k rounds -/
def gk_it (K : Nat → Int32) (o : Bool) (x : Int32 × Int32) : Nat → Int32 × Int32
  | 0 => x
  | k + 1 => ((gk_it K o x k).2 ^^^ gk_f ((gk_it K o x k).1 + K (gk_ix o k)), (gk_it K o x k).1)
/-- all 32, the last one without the exchange -/
def gk_fin (k : Int32) (y : Int32 × Int32) : Int32 × Int32 := (y.1, y.2 ^^^ gk_f (y.1 + k))
def gk_run (K : Nat → Int32) (o : Bool) (x : Int32 × Int32) : Int32 × Int32 := gk_fin (K 0) (gk_it K o x 31)
theorem gk_finA (k : Int32) (y : Int32 × Int32) : y.1 = (gk_fin k y).1 := rfl
theorem gk_finB (k : Int32) (y : Int32 × Int32) : y.2 ^^^ gk_f (y.1 + k) = (gk_fin k y).2 := rfl
theorem gk_runA (K : Nat → Int32) (o : Bool) (x : Int32 × Int32) : (gk_it K o x 31).1 = (gk_run K o x).1 := gk_finA (K 0) (gk_it K o x 31)
theorem gk_runB (K : Nat → Int32) (o : Bool) (x : Int32 × Int32) : (gk_it K o x 31).2 ^^^ gk_f ((gk_it K o x 31).1 + K 0) = (gk_run K o x).2 := gk_finB (K 0) (gk_it K o x 31)
theorem gk_ix31 (o : Bool) : gk_ix o 31 = 0 := by cases o <;> rfl
def gk_swap (x : Int32 × Int32) : Int32 × Int32 := (x.2, x.1)
theorem gk_fin_sw (k : Int32) (y : Int32 × Int32) : gk_fin k y = gk_swap (y.2 ^^^ gk_f (y.1 + k), y.1) := rfl
theorem gk_it_succ (K : Nat → Int32) (o : Bool) (x : Int32 × Int32) (k : Nat) : gk_it K o x (k + 1) = ((gk_it K o x k).2 ^^^ gk_f ((gk_it K o x k).1 + K (gk_ix o k)), (gk_it K o x k).1) := rfl
theorem gk_run_it (K : Nat → Int32) (o : Bool) (x : Int32 × Int32) : gk_run K o x = gk_swap (gk_it K o x 32) := by
  have h := gk_it_succ K o x 31
  rw [gk_ix31] at h
  exact (gk_fin_sw (K 0) (gk_it K o x 31)).trans (congrArg gk_swap h.symm)
theorem gk_ix_rev (o : Bool) (k : Nat) (hk : k < 32) : gk_ix (!o) k = gk_ix o (31 - k) := by
  unfold gk_ix
  cases o
  · simp only [Bool.not_false, Bool.false_eq_true, if_false, if_true]
    split <;> split <;> omega
  · simp only [Bool.not_true, Bool.false_eq_true, if_false, if_true]
    split <;> split <;> omega
theorem gk_xx (a b : Int32) : (a ^^^ b) ^^^ b = a := by
  apply Int32.toBitVec_inj.1
  rw [Int32.toBitVec_xor, Int32.toBitVec_xor, BitVec.xor_assoc, BitVec.xor_self, BitVec.xor_zero]
theorem gk_back (K : Nat → Int32) (o : Bool) (x : Int32 × Int32) : ∀ k, k ≤ 32 → gk_it K (!o) (gk_run K o x) k = gk_swap (gk_it K o x (32 - k)) := by
  intro k
  induction k with
  | zero => intro _; exact gk_run_it K o x
  | succ k ih =>
    intro hk
    have h1 := ih (by omega)
    show ((gk_it K (!o) (gk_run K o x) k).2 ^^^ gk_f ((gk_it K (!o) (gk_run K o x) k).1 + K (gk_ix (!o) k)), (gk_it K (!o) (gk_run K o x) k).1) = _
    rw [h1, gk_ix_rev o k (by omega), show 32 - k = (31 - k) + 1 by omega, show 32 - (k + 1) = 31 - k by omega]
    show (((gk_it K o x (31 - k)).2 ^^^ gk_f ((gk_it K o x (31 - k)).1 + K (gk_ix o (31 - k)))) ^^^ gk_f ((gk_it K o x (31 - k)).1 + K (gk_ix o (31 - k))), (gk_it K o x (31 - k)).1) = _
    rw [gk_xx]
    rfl
theorem gk_open (K : Nat → Int32) (o : Bool) (x : Int32 × Int32) : gk_run K (!o) (gk_run K o x) = x := by
  rw [gk_run_it K (!o), gk_back K o x 32 (Nat.le_refl _)]
  rfl
/-- blocks of eight bytes -/
def gk_x (B : Nat → Int8) : Int32 × Int32 := (gk_w B 0, gk_w B 4)
def gk_key (K : Nat → Int8) : Nat → Int32 := fun j => gk_w K (4 * j)
def gk_out (r : Int32 × Int32) : Nat → Int8 := fun j => if j < 4 then gk_by r.1 j else gk_by r.2 (j - 4)
def gk_cry (K B : Nat → Int8) (o : Bool) : Nat → Int8 := gk_out (gk_run (gk_key K) o (gk_x B))
theorem gk_x_out (r : Int32 × Int32) : gk_x (gk_out r) = r := by
  have h1 : gk_w (gk_out r) 0 = r.1 := gk_w_by _ (fun i hi => by
    unfold gk_out
    rw [if_pos (by omega), Nat.zero_add])
  have h2 : gk_w (gk_out r) 4 = r.2 := gk_w_by _ (fun i hi => by
    unfold gk_out
    rw [if_neg (by omega), Nat.add_sub_cancel_left])
  exact Prod.ext h1 h2
theorem gk_out_x (B : Nat → Int8) (j : Nat) (hj : j < 8) : gk_out (gk_x B) j = B j := by
  unfold gk_out gk_x
  by_cases h : j < 4
  · rw [if_pos h]
    exact (gk_by_w B 0 j h).trans (congrArg B (by omega))
  · rw [if_neg h]
    exact (gk_by_w B 4 (j - 4) (by omega)).trans (congrArg B (by omega))
/-- LAW ONE: what is locked opens, what is opened locks -/
theorem gk_trip (K B : Nat → Int8) (o : Bool) (j : Nat) (hj : j < 8) : gk_cry K (gk_cry K B o) (!o) j = B j := by
  unfold gk_cry
  rw [gk_x_out, gk_open]
  exact gk_out_x B j hj
theorem gk_it_congr {K K' : Nat → Int32} (o : Bool) (x : Int32 × Int32) (h : ∀ j, j < 8 → K j = K' j) : ∀ k, k ≤ 32 → gk_it K o x k = gk_it K' o x k := by
  intro k
  induction k with
  | zero => intro _; rfl
  | succ k ih =>
    intro hk
    unfold gk_it
    rw [ih (by omega), h _ (gk_ix_lt o k (by omega))]
/-- the top bit -/
theorem gk_x31 {a : Nat} (h : a < 4294967296) : a ^^^ 2 ^ 31 = (a + 2147483648) % 4294967296 := by
  have h1 : (a ^^^ 2 ^ 31) % 2 ^ 31 = a % 2 ^ 31 := by rw [Nat.xor_mod_two_pow, Nat.mod_self, Nat.xor_zero]
  have h2 : (a ^^^ 2 ^ 31) / 2 ^ 31 = (a / 2 ^ 31) ^^^ 1 := by rw [Nat.xor_div_two_pow, Nat.div_self (Nat.two_pow_pos 31)]
  have h3 : a / 2 ^ 31 = 0 ∨ a / 2 ^ 31 = 1 := by omega
  generalize a ^^^ 2 ^ 31 = t at h1 h2
  rcases h3 with h3 | h3
  · rw [h3] at h2
    have h2 : t / 2 ^ 31 = 1 := h2
    omega
  · rw [h3] at h2
    have h2 : t / 2 ^ 31 = 0 := h2
    omega
def gk_fl (x : Int32) : Int32 := x ^^^ nI 2147483648
theorem gk_n_xor (x y : Int32) : gk_n (x ^^^ y) = gk_n x ^^^ gk_n y := by
  unfold gk_n
  rw [Int32.toBitVec_xor, BitVec.toNat_xor]
theorem gk_n_add (x y : Int32) : gk_n (x + y) = (gk_n x + gk_n y) % 4294967296 := by
  unfold gk_n
  rw [Int32.toBitVec_add, BitVec.toNat_add]
theorem gk_fl_n (x : Int32) : gk_n (gk_fl x) = (gk_n x + 2147483648) % 4294967296 := by
  unfold gk_fl
  rw [gk_n_xor, gk_n_nI (by decide)]
  exact gk_x31 (gk_n_lt x)
theorem gk_fl_add (x y : Int32) : gk_fl x + gk_fl y = x + y := by
  apply gk_n_inj
  have h1 := gk_n_lt x
  have h2 := gk_n_lt y
  rw [gk_n_add, gk_n_add, gk_fl_n, gk_fl_n]
  omega
theorem gk_fl_xor (x y : Int32) : gk_fl x ^^^ y = gk_fl (x ^^^ y) := by
  apply gk_n_inj
  unfold gk_fl
  rw [gk_n_xor, gk_n_xor, gk_n_xor, gk_n_xor, Nat.xor_assoc, Nat.xor_assoc, Nat.xor_comm (gk_n (nI 2147483648))]
theorem gk_it_fl (K : Nat → Int32) (o : Bool) (x : Int32 × Int32) : ∀ k, gk_it (fun j => gk_fl (K j)) o (gk_fl x.1, gk_fl x.2) k = (gk_fl (gk_it K o x k).1, gk_fl (gk_it K o x k).2) := by
  intro k
  induction k with
  | zero => rfl
  | succ k ih =>
    unfold gk_it
    rw [ih, gk_fl_add, gk_fl_xor]
/-- bytes whose words have their top bit turned -/
def gk_turned (n : Nat) (f g : Nat → Int8) : Prop := ∀ j, j < n → gk_u (g j) = if j % 4 = 3 then (gk_u (f j) + 128) % 256 else gk_u (f j)
theorem gk_turned_w {n : Nat} {f g : Nat → Int8} (h : gk_turned n f g) (q : Nat) (hq : 4 * q + 4 ≤ n) : gk_w g (4 * q) = gk_fl (gk_w f (4 * q)) := by
  have h0 := h (4 * q) (by omega)
  have h1 := h (4 * q + 1) (by omega)
  have h2 := h (4 * q + 2) (by omega)
  have h3 := h (4 * q + 3) (by omega)
  rw [if_neg (by omega)] at h0 h1 h2
  rw [if_pos (by omega)] at h3
  apply gk_n_inj
  have a0 := gk_u_lt (f (4 * q))
  have a1 := gk_u_lt (f (4 * q + 1))
  have a2 := gk_u_lt (f (4 * q + 2))
  have a3 := gk_u_lt (f (4 * q + 3))
  rw [gk_fl_n]
  unfold gk_w
  rw [h0, h1, h2, h3, gk_n_nI (by omega), gk_n_nI (by omega)]
  omega
theorem gk_by_fl (v : Int32) (i : Nat) (hi : i < 4) : gk_u (gk_by (gk_fl v) i) = if i = 3 then (gk_u (gk_by v i) + 128) % 256 else gk_u (gk_by v i) := by
  have h := gk_n_lt v
  unfold gk_by
  rw [gk_u_of, gk_u_of, gk_fl_n]
  rcases (show i = 0 ∨ i = 1 ∨ i = 2 ∨ i = 3 by omega) with rfl | rfl | rfl | rfl
  · rw [if_neg (by decide), show (256 : Nat) ^ 0 = 1 from by decide]
    omega
  · rw [if_neg (by decide), show (256 : Nat) ^ 1 = 256 from by decide]
    omega
  · rw [if_neg (by decide), show (256 : Nat) ^ 2 = 65536 from by decide]
    omega
  · rw [if_pos rfl, show (256 : Nat) ^ 3 = 16777216 from by decide]
    omega
/-- LAW TWO: key and block with the top bit of each word turned: the answer's words have theirs turned -/
theorem gk_turn {K K' B B' : Nat → Int8} (o : Bool) (hK : gk_turned 32 K K') (hB : gk_turned 8 B B') : gk_turned 8 (gk_cry K B o) (gk_cry K' B' o) := by
  have hx : gk_x B' = (gk_fl (gk_x B).1, gk_fl (gk_x B).2) := Prod.ext (gk_turned_w hB 0 (by omega)) (gk_turned_w hB 1 (by omega))
  have hk : ∀ j, j < 8 → gk_key K' j = gk_fl (gk_key K j) := fun j hj => gk_turned_w hK j (by omega)
  have hr : gk_run (gk_key K') o (gk_x B') = (gk_fl (gk_run (gk_key K) o (gk_x B)).1, gk_fl (gk_run (gk_key K) o (gk_x B)).2) := by
    rw [gk_run_it, gk_run_it, gk_it_congr (K' := fun j => gk_fl (gk_key K j)) o _ hk 32 (Nat.le_refl _), hx, gk_it_fl]
    rfl
  intro j hj
  unfold gk_cry
  rw [hr]
  generalize gk_run (gk_key K) o (gk_x B) = r
  unfold gk_out
  by_cases h : j < 4
  · rw [if_pos h, if_pos h, gk_by_fl _ _ h]
    rcases (show j % 4 = 3 ∨ ¬ j % 4 = 3 by omega) with q | q
    · rw [if_pos q, if_pos (by omega)]
    · rw [if_neg q, if_neg (by omega)]
  · rw [if_neg h, if_neg h, gk_by_fl _ _ (by omega)]
    rcases (show j % 4 = 3 ∨ ¬ j % 4 = 3 by omega) with q | q
    · rw [if_pos q, if_pos (by omega)]
    · rw [if_neg q, if_neg (by omega)]
theorem gk_d128 : ∀ n, n < 256 → ((Int8.ofNat n).toInt32 ^^^ (Int8.ofNat ((n + 128) % 256)).toInt32) &&& 255 = 128 := by decide +kernel
theorem gk_same0 (x : Int8) : (x.toInt32 ^^^ x.toInt32) &&& 255 = 0 := gk_all (P := fun x _ => (x.toInt32 ^^^ x.toInt32) &&& 255 = 0) (by decide +kernel) x
theorem gk_same1 {x y : Int8} (h : gk_u y = (gk_u x + 128) % 256) : (x.toInt32 ^^^ y.toInt32) &&& 255 = 128 := by
  have h1 := gk_d128 (gk_u x) (gk_u_lt x)
  rw [← h, gk_of_u, gk_of_u] at h1
  exact h1
theorem gk_turned_same {f g : Nat → Int8} (h : gk_turned 8 f g) (j : Nat) (hj : j < 8) : ((f j).toInt32 ^^^ (g j).toInt32) &&& 255 = if j % 4 = 3 then 128 else 0 := by
  have h1 := h j hj
  by_cases q : j % 4 = 3
  · rw [if_pos q] at h1 ⊢
    exact gk_same1 h1
  · rw [if_neg q] at h1 ⊢
    rw [gk_u_inj h1]
    exact gk_same0 _
/-- LAW THREE: a key that reads the same from both ends -/
theorem gk_pal_it {K : Nat → Int32} (h : ∀ j, j < 8 → K j = K (7 - j)) (x : Int32 × Int32) : ∀ k, k ≤ 32 → gk_it K true x k = gk_it K false x k := by
  intro k
  induction k with
  | zero => intro _; rfl
  | succ k ih =>
    intro hk
    have e : K (gk_ix true k) = K (gk_ix false k) := by
      unfold gk_ix
      simp only [Bool.false_eq_true, if_false, if_true]
      by_cases h1 : k < 8
      · rw [if_pos h1, if_pos (by omega)]
        exact congrArg K (by omega)
      · rw [if_neg h1]
        by_cases h2 : k < 24
        · rw [if_pos h2, h (k % 8) (by omega)]
          exact congrArg K (by omega)
        · rw [if_neg h2]
          exact congrArg K (by omega)
    unfold gk_it
    rw [ih (by omega), e]
theorem gk_pal {K : Nat → Int8} (B : Nat → Int8) (h : ∀ j, j < 8 → gk_key K j = gk_key K (7 - j)) : gk_cry K B true = gk_cry K B false := by
  unfold gk_cry
  rw [gk_run_it, gk_run_it, gk_pal_it h _ 32 (Nat.le_refl _)]
/-! what the law lays: words, high byte first -/
theorem gk_lay_in (f : Nat → Int8) (o : Nat) (v : Int32) (j : Nat) (h1 : o ≤ j) (h2 : j < o + 4) : gk_lay f o v j = gk_by v (3 - (j - o)) := by
  unfold gk_lay gk_layk
  rw [if_pos ⟨h1, h2⟩]
theorem gk_lay_out (f : Nat → Int8) (o : Nat) (v : Int32) (j : Nat) (h : j < o ∨ o + 4 ≤ j) : gk_lay f o v j = f j := by
  unfold gk_lay gk_layk
  rw [if_neg (by omega)]
/-- four words laid from o on -/
def gk_l4 (f : Nat → Int8) (o : Nat) (a b c d : Int32) : Nat → Int8 := gk_lay (gk_lay (gk_lay (gk_lay f o a) (o + 4) b) (o + 8) c) (o + 12) d
def gk_l2 (f : Nat → Int8) (a b : Int32) : Nat → Int8 := gk_lay (gk_lay f 0 a) 4 b
theorem gk_l8 (f : Nat → Int8) (w : Nat → Int32) (j : Nat) (hj : j < 32) : gk_l4 (gk_l4 f 0 (w 0) (w 1) (w 2) (w 3)) 16 (w 4) (w 5) (w 6) (w 7) j = gk_by (w (j / 4)) (3 - j % 4) := by
  unfold gk_l4
  have hq : j / 4 < 8 := by omega
  generalize hqe : j / 4 = q at hq ⊢
  rcases (show q = 0 ∨ q = 1 ∨ q = 2 ∨ q = 3 ∨ q = 4 ∨ q = 5 ∨ q = 6 ∨ q = 7 by omega) with rfl | rfl | rfl | rfl | rfl | rfl | rfl | rfl
  · rw [gk_lay_out _ _ _ _ (by omega), gk_lay_out _ _ _ _ (by omega), gk_lay_out _ _ _ _ (by omega), gk_lay_out _ _ _ _ (by omega), gk_lay_out _ _ _ _ (by omega), gk_lay_out _ _ _ _ (by omega), gk_lay_out _ _ _ _ (by omega), gk_lay_in _ _ _ _ (by omega) (by omega)]
    exact congrArg (gk_by _) (by omega)
  · rw [gk_lay_out _ _ _ _ (by omega), gk_lay_out _ _ _ _ (by omega), gk_lay_out _ _ _ _ (by omega), gk_lay_out _ _ _ _ (by omega), gk_lay_out _ _ _ _ (by omega), gk_lay_out _ _ _ _ (by omega), gk_lay_in _ _ _ _ (by omega) (by omega)]
    exact congrArg (gk_by _) (by omega)
  · rw [gk_lay_out _ _ _ _ (by omega), gk_lay_out _ _ _ _ (by omega), gk_lay_out _ _ _ _ (by omega), gk_lay_out _ _ _ _ (by omega), gk_lay_out _ _ _ _ (by omega), gk_lay_in _ _ _ _ (by omega) (by omega)]
    exact congrArg (gk_by _) (by omega)
  · rw [gk_lay_out _ _ _ _ (by omega), gk_lay_out _ _ _ _ (by omega), gk_lay_out _ _ _ _ (by omega), gk_lay_out _ _ _ _ (by omega), gk_lay_in _ _ _ _ (by omega) (by omega)]
    exact congrArg (gk_by _) (by omega)
  · rw [gk_lay_out _ _ _ _ (by omega), gk_lay_out _ _ _ _ (by omega), gk_lay_out _ _ _ _ (by omega), gk_lay_in _ _ _ _ (by omega) (by omega)]
    exact congrArg (gk_by _) (by omega)
  · rw [gk_lay_out _ _ _ _ (by omega), gk_lay_out _ _ _ _ (by omega), gk_lay_in _ _ _ _ (by omega) (by omega)]
    exact congrArg (gk_by _) (by omega)
  · rw [gk_lay_out _ _ _ _ (by omega), gk_lay_in _ _ _ _ (by omega) (by omega)]
    exact congrArg (gk_by _) (by omega)
  · rw [gk_lay_in _ _ _ _ (by omega) (by omega)]
    exact congrArg (gk_by _) (by omega)
theorem gk_l2_at (f : Nat → Int8) (a b : Int32) (j : Nat) (hj : j < 8) : gk_l2 f a b j = gk_by (if j < 4 then a else b) (3 - j % 4) := by
  unfold gk_l2
  by_cases h : j < 4
  · rw [if_pos h, gk_lay_out _ _ _ _ (by omega), gk_lay_in _ _ _ _ (by omega) (by omega)]
    exact congrArg (gk_by _) (by omega)
  · rw [if_neg h, gk_lay_in _ _ _ _ (by omega) (by omega)]
    exact congrArg (gk_by _) (by omega)
theorem gk_by_be (f : Nat → Int8) (o i : Nat) (hi : i < 4) : gk_by (gk_be f o) (3 - i) = f (o + i) := by
  have h0 := gk_u_lt (f o)
  have h1 := gk_u_lt (f (o + 1))
  have h2 := gk_u_lt (f (o + 2))
  have h3 := gk_u_lt (f (o + 3))
  refine gk_of_eq ?_
  unfold gk_be
  rw [gk_n_nI (by omega)]
  rcases (show i = 0 ∨ i = 1 ∨ i = 2 ∨ i = 3 by omega) with rfl | rfl | rfl | rfl
  · rw [show (256 : Nat) ^ (3 - 0) = 16777216 from by decide]
    show _ = gk_u (f o)
    omega
  · rw [show (256 : Nat) ^ (3 - 1) = 65536 from by decide]
    omega
  · rw [show (256 : Nat) ^ (3 - 2) = 256 from by decide]
    omega
  · rw [show (256 : Nat) ^ (3 - 3) = 1 from by decide]
    omega
theorem gk_x128 (n : Nat) : (n ^^^ 128) / 256 = n / 256 ∧ (n ^^^ 128) % 256 = (n % 256 + 128) % 256 := by
  constructor
  · have h := Nat.xor_div_two_pow (a := n) (b := 128) (n := 8)
    rw [show (128 : Nat) / 2 ^ 8 = 0 from by decide, Nat.xor_zero] at h
    exact h
  · have h := Nat.xor_mod_two_pow (a := n) (b := 128) (n := 8)
    have h2 : (n ^^^ 128) % 256 = (n % 256) ^^^ 128 := h
    rw [h2]
    exact (by decide +kernel : ∀ u, u < 256 → u ^^^ 128 = (u + 128) % 256) (n % 256) (Nat.mod_lt _ (by decide))
theorem gk_by_128 (v : Int32) (i : Nat) (hi : i < 4) : gk_u (gk_by (v ^^^ 128) (3 - i)) = if i = 3 then (gk_u (gk_by v (3 - i)) + 128) % 256 else gk_u (gk_by v (3 - i)) := by
  have e : gk_n (v ^^^ 128) = gk_n v ^^^ 128 := gk_n_xor v 128
  have h := gk_x128 (gk_n v)
  unfold gk_by
  rw [gk_u_of, gk_u_of, e]
  generalize gk_n v ^^^ 128 = y at h ⊢
  generalize gk_n v = x at h ⊢
  obtain ⟨h1, h2⟩ := h
  rcases (show i = 0 ∨ i = 1 ∨ i = 2 ∨ i = 3 by omega) with rfl | rfl | rfl | rfl
  · rw [if_neg (by decide), show (256 : Nat) ^ (3 - 0) = 16777216 from by decide]
    omega
  · rw [if_neg (by decide), show (256 : Nat) ^ (3 - 1) = 65536 from by decide]
    omega
  · rw [if_neg (by decide), show (256 : Nat) ^ (3 - 2) = 256 from by decide]
    omega
  · rw [if_pos rfl, show (256 : Nat) ^ (3 - 3) = 1 from by decide]
    omega
/-- the key with each word's bit 7 turned (its last byte's top bit) -/
theorem gk_turnK (K : Nat → Int8) (w : Nat → Int32) (hw : ∀ q, q < 8 → w q = gk_be K (4 * q)) : gk_turned 32 K (gk_l4 (gk_l4 K 0 (w 0 ^^^ 128) (w 1 ^^^ 128) (w 2 ^^^ 128) (w 3 ^^^ 128)) 16 (w 4 ^^^ 128) (w 5 ^^^ 128) (w 6 ^^^ 128) (w 7 ^^^ 128)) := by
  intro j hj
  have h := gk_l8 K (fun q => w q ^^^ 128) j hj
  have h2 := gk_by_128 (w (j / 4)) (j % 4) (by omega)
  rw [hw (j / 4) (by omega), gk_by_be K _ _ (by omega)] at h2
  have e : 4 * (j / 4) + j % 4 = j := by omega
  rw [e] at h2
  refine (congrArg gk_u h).trans ?_
  show gk_u (gk_by (w (j / 4) ^^^ 128) (3 - j % 4)) = _
  rw [hw (j / 4) (by omega)]
  exact h2
theorem gk_turnB (B : Nat → Int8) : gk_turned 8 B (gk_l2 B (gk_be B 0 ^^^ 128) (gk_be B 4 ^^^ 128)) := by
  intro j hj
  rw [gk_l2_at _ _ _ _ hj]
  by_cases h : j < 4
  · have h2 := gk_by_128 (gk_be B 0) (j % 4) (by omega)
    rw [gk_by_be B _ _ (by omega)] at h2
    have e : 0 + j % 4 = j := by omega
    rw [e] at h2
    rw [if_pos h]
    exact h2
  · have h2 := gk_by_128 (gk_be B 4) (j % 4) (by omega)
    rw [gk_by_be B _ _ (by omega)] at h2
    have e : 4 + j % 4 = j := by omega
    rw [e] at h2
    rw [if_neg h]
    exact h2
/-- the key of four words and the same four from the other end -/
theorem gk_palK (K : Nat → Int8) (a b c d : Int32) (j : Nat) (hj : j < 8) : gk_key (gk_l4 (gk_l4 K 0 a b c d) 16 d c b a) j = gk_key (gk_l4 (gk_l4 K 0 a b c d) 16 d c b a) (7 - j) := by
  have h := gk_l8 K (fun q => if q = 0 ∨ q = 7 then a else if q = 1 ∨ q = 6 then b else if q = 2 ∨ q = 5 then c else d)
  unfold gk_key
  refine gk_w_ext (fun i hi => ?_)
  have h1 := h (4 * j + i) (by omega)
  have h2 := h (4 * (7 - j) + i) (by omega)
  refine h1.trans (Eq.trans ?_ h2.symm)
  show gk_by (if (4 * j + i) / 4 = 0 ∨ (4 * j + i) / 4 = 7 then a else if (4 * j + i) / 4 = 1 ∨ (4 * j + i) / 4 = 6 then b else if (4 * j + i) / 4 = 2 ∨ (4 * j + i) / 4 = 5 then c else d) (3 - (4 * j + i) % 4) = gk_by (if (4 * (7 - j) + i) / 4 = 0 ∨ (4 * (7 - j) + i) / 4 = 7 then a else if (4 * (7 - j) + i) / 4 = 1 ∨ (4 * (7 - j) + i) / 4 = 6 then b else if (4 * (7 - j) + i) / 4 = 2 ∨ (4 * (7 - j) + i) / 4 = 5 then c else d) (3 - (4 * (7 - j) + i) % 4)
  rw [show (4 * j + i) / 4 = j by omega, show (4 * (7 - j) + i) / 4 = 7 - j by omega, show (4 * j + i) % 4 = i by omega, show (4 * (7 - j) + i) % 4 = i by omega]
  rcases (show j = 0 ∨ j = 1 ∨ j = 2 ∨ j = 3 ∨ j = 4 ∨ j = 5 ∨ j = 6 ∨ j = 7 by omega) with rfl | rfl | rfl | rfl | rfl | rfl | rfl | rfl <;> rfl
end
section
/-! MORE ROWS: contents, jumps on numbers, the table, steps of counters, the interface call's words -/
set_option maxRecDepth 100000
theorem gk_extI {G : va_G} {cl : List vw_C} {cA : ClassId} {H : Heap} {ws : va_W} (h : va_P G cl ws H) (k : Nat) {q n : Nat} {f : Nat → Int32} (hk : ws[k]? = some (q, .inl (cA, n, .inl f))) (g : Nat → Int32) (hg : ∀ j, j < n → f j = g j) : va_P G cl (ws.set k (q, .inl (cA, n, .inl g))) H := by
  intro i x hx
  rw [List.getElem?_set] at hx
  by_cases hki : k = i
  · rw [if_pos hki] at hx
    split at hx
    · cases hx
      have h1 := h k _ hk
      have e : vp_cell cA (n, .inl f) = vp_cell cA (n, .inl g) := by
        rw [vp_cell_i, vp_cell_i, arrV, arrV]
        have e2 : (fun j : Fin n => Value.int (f j.val)) = (fun j : Fin n => Value.int (g j.val)) := by
          funext j
          rw [hg j.val j.isLt]
        rw [e2]
      show H[q]? = some (vp_cell cA (n, .inl g))
      rw [← e]
      exact h1
    · cases hx
  · rw [if_neg hki] at hx
    exact h i x hx
theorem gk_extL {G : va_G} {cl : List vw_C} {cA : ClassId} {H : Heap} {ws : va_W} (h : va_P G cl ws H) (k : Nat) {q n : Nat} {f : Nat → Int64} (hk : ws[k]? = some (q, .inl (cA, n, .inr (.inl f)))) (g : Nat → Int64) (hg : ∀ j, j < n → f j = g j) : va_P G cl (ws.set k (q, .inl (cA, n, .inr (.inl g)))) H := by
  intro i x hx
  rw [List.getElem?_set] at hx
  by_cases hki : k = i
  · rw [if_pos hki] at hx
    split at hx
    · cases hx
      have h1 := h k _ hk
      have e : vp_cell cA (n, .inr (.inl f)) = vp_cell cA (n, .inr (.inl g)) := by
        rw [vp_cell_l, vp_cell_l, arrV, arrV]
        have e2 : (fun j : Fin n => Value.long (f j.val)) = (fun j : Fin n => Value.long (g j.val)) := by
          funext j
          rw [hg j.val j.isLt]
        rw [e2]
      show H[q]? = some (vp_cell cA (n, .inr (.inl g)))
      rw [← e]
      exact h1
    · cases hx
  · rw [if_neg hki] at hx
    exact h i x hx
theorem gk_fits (b : Int8) : fits .byte (.int b.toInt32) = true := by
  have h := pk_fb b.toInt32
  rw [Int8.toInt8_toInt32] at h
  exact h
theorem gk_88 {x : Int8} {y : Int8} (h : x = y) : x.toInt32.toInt8 = y := (Int8.toInt8_toInt32 x).trans h
theorem gk_inc (j : Nat) : nI j + Int32.ofInt 1 = nI (j + 1) := nI_1 j
theorem gk_dec (j : Nat) : nI (j + 1) + Int32.ofInt (-1) = nI j := pk_m1 j
theorem gk_lay4 (f : Nat → Int8) (o : Nat) (v : Int32) : va_up (va_up (va_up (va_up f o (gk_by v 3)) (o + 1) (gk_by v 2)) (o + 2) (gk_by v 1)) (o + 3) (gk_by v 0) = gk_lay f o v := by
  have h0 := gk_layk1 f o v 0
  rw [gk_layk0] at h0
  have h1 := gk_layk1 f o v 1
  have h2 := gk_layk1 f o v 2
  have h3 := gk_layk1 f o v 3
  rw [← h2, ← h1, ← h0] at h3
  exact h3
/-- a copy under way: i bytes of f over g -/
def gk_cpy (f g : Nat → Int8) (i : Nat) : Nat → Int8 := fun j => if j < i then f j else g j
theorem gk_cpy0 (f g : Nat → Int8) : gk_cpy f g 0 = g := by
  funext j
  unfold gk_cpy
  rw [if_neg (by omega)]
theorem gk_cpy1 (f g : Nat → Int8) (i : Nat) : va_up (gk_cpy f g i) i (f i) = gk_cpy f g (i + 1) := by
  funext j
  show (if j = i then f i else if j < i then f j else g j) = if j < i + 1 then f j else g j
  by_cases h : j = i
  · rw [if_pos h, if_pos (by omega), h]
  · rw [if_neg h]
    by_cases h2 : j < i
    · rw [if_pos h2, if_pos (by omega)]
    · rw [if_neg h2, if_neg (by omega)]
theorem gk_cpyN (f g : Nat → Int8) (n j : Nat) (h : j < n) : gk_cpy f g n j = f j := by
  unfold gk_cpy
  rw [if_pos h]
/-- the same for ints -/
def gk_cpi (f g : Nat → Int32) (i : Nat) : Nat → Int32 := fun j => if j < i then f j else g j
theorem gk_cpi0 (f g : Nat → Int32) : gk_cpi f g 0 = g := by
  funext j
  unfold gk_cpi
  rw [if_neg (by omega)]
theorem gk_cpi1 (f g : Nat → Int32) (i : Nat) : upd (gk_cpi f g i) i (f i) = gk_cpi f g (i + 1) := by
  funext j
  show (if j = i then f i else if j < i then f j else g j) = if j < i + 1 then f j else g j
  by_cases h : j = i
  · rw [if_pos h, if_pos (by omega), h]
  · rw [if_neg h]
    by_cases h2 : j < i
    · rw [if_pos h2, if_pos (by omega)]
    · rw [if_neg h2, if_neg (by omega)]
theorem gk_cpiN (f g : Nat → Int32) (n j : Nat) (h : j < n) : gk_cpi f g n j = f j := by
  unfold gk_cpi
  rw [if_pos h]
theorem gk_itA (K : Nat → Int32) (o : Bool) (x : Int32 × Int32) (t j : Nat) (h : gk_ix o t = j) : (gk_it K o x t).2 ^^^ gk_f ((gk_it K o x t).1 + K j) = (gk_it K o x (t + 1)).1 := by rw [← h]; rfl
theorem gk_itB (K : Nat → Int32) (o : Bool) (x : Int32 × Int32) (t : Nat) : (gk_it K o x t).1 = (gk_it K o x (t + 1)).2 := rfl
/-- which half of the key an int means -/
def gk_hf (h : Int32) : Nat := gk_n h % 2 * 16
theorem gk_hf_lt (h : Int32) : gk_hf h ≤ 16 := by
  unfold gk_hf
  omega
theorem gk_and1 (h : Int32) : h &&& 1 = nI (gk_n h % 2) := pk_and h (m := 1) 1 (by decide)
theorem gk_and7 (h : Int32) : h &&& 7 = nI (gk_n h % 8) := pk_and h (m := 7) 3 (by decide)
theorem gk_hfS (h : Int32) : (h &&& 1) <<< ((4 : Int32) &&& 31) = nI (gk_hf h) := by
  rw [gk_and1, pk_shlN _ 4 (by decide +kernel) (by omega)]
  rfl
theorem gk_hfM (h : Int32) : (h &&& 1) * 16 = nI (gk_hf h) := by
  rw [gk_and1]
  exact pk_mul _ 16
/-- the engine's flag, the law's flag -/
def gk_fe (o : Bool) : Int32 := if o then 0 else 1
def gk_oi (o : Bool) : Int32 := if o then 1 else 0
theorem gk_fe_n (o : Bool) : narrow .boolean (.int (gk_fe o)) = .int (gk_fe o) := by cases o <;> rfl
theorem gk_fe_f (o : Bool) : fits .boolean (.int (gk_fe o)) = true := by cases o <;> rfl
/-- what the script's k-th cell counts for -/
def gk_ce (X : gk_X) (k : Nat) : Int32 := if k < X.2.2.1 then X.2.2.2 k else 0
theorem lw_F {own : String} {idx : Nat} {C : String} {x y : MethodName} {b : ByteArray} {L : Nat} {r : Option FieldType} (h1 : Cond.methodLink own idx x ∈ lw_all) (h2 : Cond.selects C x y ∈ lw_all) (h3 : Cond.instanceMethod y ∈ lw_all) (h4 : Cond.initialized y.cls ∈ lw_all) (h5 : Cond.code y b L r ∈ lw_all) : GoodIn lw_all (va_wsF own idx C x y (ws_ y b L r)) := by
  refine lw_app ?_ (lw_meth h5)
  intro w hw
  simp only [List.mem_cons, List.not_mem_nil, or_false] at hw
  rcases hw with e | e | e | e
  · rw [e]; exact h1
  · rw [e]; exact h2
  · rw [e]; exact h3
  · rw [e]; exact h4
section GKR2
variable {p : Program} {l : Launch} {e : Env} {R : Room} {s : State} {m : MethodId} {args : Array Value} {below : List Frame} {meth : Method} {cd : Code} {H : Heap} {locs : List Loc} {cells slots : Nat} {Q : State → Prop}
variable {cc : ByteArray} {pc : Nat} {ls : Array Slot} {rest : List Value} {G : va_G} {c : gk_I} {A : Nat → Prop} {a : Nat} {ws : va_W} {H0 : Heap}
theorem gk_jge (hx : p.tables.exec = Jvm.exec) (hb : cd.code = cc) {x y : Int32} {off : Int} {tgt : Nat} (u v : Nat) (hu : x = nI u) (hv : y = nI v) (hu1 : u < 2147483648) (hv1 : v < 2147483648) (hdg : decode cc pc = .ok (.if_icmp .ge off, 3)) (ht : (pc : Int) + off = (tgt : Int)) (kt : v ≤ u → W p l e R s m args below meth cd H locs cells slots Q (F0 m tgt ls rest)) (kf : u < v → W p l e R s m args below meth cd H locs cells slots Q (F0 m (pc + 3) ls rest)) : W p l e R s m args below meth cd H locs cells slots Q (F0 m pc ls (.int y :: .int x :: rest)) := by
  subst hu
  subst hv
  exact lv_icmp_ge hx hb hdg ht (fun h => kt ((nI_leI hv1 hu1).mp h)) (fun h => kf (Nat.lt_of_not_le (fun z => h ((nI_leI hv1 hu1).mpr z))))
theorem gk_jle (hx : p.tables.exec = Jvm.exec) (hb : cd.code = cc) {x y : Int32} {off : Int} {tgt : Nat} (u v : Nat) (hu : x = nI u) (hv : y = nI v) (hu1 : u < 2147483648) (hv1 : v < 2147483648) (hdg : decode cc pc = .ok (.if_icmp .le off, 3)) (ht : (pc : Int) + off = (tgt : Int)) (kt : u ≤ v → W p l e R s m args below meth cd H locs cells slots Q (F0 m tgt ls rest)) (kf : v < u → W p l e R s m args below meth cd H locs cells slots Q (F0 m (pc + 3) ls rest)) : W p l e R s m args below meth cd H locs cells slots Q (F0 m pc ls (.int y :: .int x :: rest)) := by
  subst hu
  subst hv
  exact lv_icmp_le hx hb hdg ht (fun h => kt ((nI_leI hu1 hv1).mp h)) (fun h => kf (Nat.lt_of_not_le (fun z => h ((nI_leI hu1 hv1).mpr z))))
theorem gk_jeq (hx : p.tables.exec = Jvm.exec) (hb : cd.code = cc) {x y : Int32} {off : Int} {tgt : Nat} (u v : Nat) (hu : x = nI u) (hv : y = nI v) (hu1 : u < 2147483648) (hv1 : v < 2147483648) (hdg : decode cc pc = .ok (.if_icmp .eq off, 3)) (ht : (pc : Int) + off = (tgt : Int)) (kt : u = v → W p l e R s m args below meth cd H locs cells slots Q (F0 m tgt ls rest)) (kf : ¬ u = v → W p l e R s m args below meth cd H locs cells slots Q (F0 m (pc + 3) ls rest)) : W p l e R s m args below meth cd H locs cells slots Q (F0 m pc ls (.int y :: .int x :: rest)) := by
  subst hu
  subst hv
  exact lv_icmp_eq hx hb hdg ht (fun h => kt ((nI_eq hu1 hv1).mp h)) (fun h => kf (fun z => h ((nI_eq hu1 hv1).mpr z)))
theorem gk_jne (hx : p.tables.exec = Jvm.exec) (hb : cd.code = cc) {x y : Int32} {off : Int} {tgt : Nat} (u v : Nat) (hu : x = nI u) (hv : y = nI v) (hu1 : u < 2147483648) (hv1 : v < 2147483648) (hdg : decode cc pc = .ok (.if_icmp .ne off, 3)) (ht : (pc : Int) + off = (tgt : Int)) (kt : ¬ u = v → W p l e R s m args below meth cd H locs cells slots Q (F0 m tgt ls rest)) (kf : u = v → W p l e R s m args below meth cd H locs cells slots Q (F0 m (pc + 3) ls rest)) : W p l e R s m args below meth cd H locs cells slots Q (F0 m pc ls (.int y :: .int x :: rest)) := by
  subst hu
  subst hv
  exact lv_icmp_ne hx hb hdg ht (fun h => kt (fun z => h ((nI_eq hu1 hv1).mpr z))) (fun h => kf ((nI_eq hu1 hv1).mp h))
theorem gk_zle (hx : p.tables.exec = Jvm.exec) (hb : cd.code = cc) {x : Int32} {off : Int} {tgt : Nat} (u : Nat) (hu : x = nI u) (hu1 : u < 2147483648) (hdg : decode cc pc = .ok (.ifCond .le off, 3)) (ht : (pc : Int) + off = (tgt : Int)) (kt : u = 0 → W p l e R s m args below meth cd H locs cells slots Q (F0 m tgt ls rest)) (kf : 0 < u → W p l e R s m args below meth cd H locs cells slots Q (F0 m (pc + 3) ls rest)) : W p l e R s m args below meth cd H locs cells slots Q (F0 m pc ls (.int x :: rest)) := by
  subst hu
  exact lv_if_le hx hb hdg ht (fun h => kt (Nat.le_zero.mp ((nI_leI (b := 0) hu1 (by omega)).mp h))) (fun h => kf (Nat.pos_of_ne_zero (fun z => h (by rw [z]; exact (nI_leI (a := 0) (b := 0) (by omega) (by omega)).mpr (Nat.le_refl 0)))))
theorem gk_zne (hx : p.tables.exec = Jvm.exec) (hb : cd.code = cc) {x : Int32} {off : Int} {tgt : Nat} (u : Nat) (hu : x = nI u) (hu1 : u < 2147483648) (hdg : decode cc pc = .ok (.ifCond .ne off, 3)) (ht : (pc : Int) + off = (tgt : Int)) (kt : ¬ u = 0 → W p l e R s m args below meth cd H locs cells slots Q (F0 m tgt ls rest)) (kf : u = 0 → W p l e R s m args below meth cd H locs cells slots Q (F0 m (pc + 3) ls rest)) : W p l e R s m args below meth cd H locs cells slots Q (F0 m pc ls (.int x :: rest)) := by
  subst hu
  exact lv_if_ne hx hb hdg ht (fun h => kt (fun z => h ((nI_eq (b := 0) hu1 (by omega)).mpr z))) (fun h => kf ((nI_eq (b := 0) hu1 (by omega)).mp h))
theorem gk_tb (hx : p.tables.exec = Jvm.exec) (hb : cd.code = cc) {X : gk_X} (hC : gk_C X A s s.heap) (hS : va_S A s.heap H locs) {i : Int32} (k : Nat) (hi : i = nI k) (hk : k < 128) (hdg : decode cc pc = .ok (.baload, 1))
    (kk : W p l e R s m args below meth cd H locs cells slots Q (F0 m (pc + 1) ls (.int (gk_sb k) :: rest))) : W p l e R s m args below meth cd H locs cells slots Q (F0 m pc ls (.int i :: .ref X.1 :: rest)) := by
  subst hi
  exact va_tb hx hb hC.2.1 hS (vp_in_nI hk (by omega)) (by rw [nI_clamp (by omega)]) hdg kk
end GKR2
end
section
/-! CONTRACTS: KeyParameter; the engine's leaves -/
set_option maxRecDepth 100000
set_option maxHeartbeats 4000000 in
set_option maxRecDepth 100000 in
/-- KeyParameter(32): a new array -/
theorem m_kp1 (l : Launch) (G : va_G) (c : gk_I) (X : gk_X) (h0 : Nat) (sz : Nat) : Met l yX3_init_3 (ws_ yX3_init_3 cX3_init_3 2 none) ({ frames := 1, cells := 1, slots := 32, locals := 12 } : Room) (va_Pc [.ref h0, .int 32] (gk_U G c X [(h0, .inr (2, [.null]))] sz)) (va_Qv (fun q : Nat => True) (gk_B G (fun q : Nat => [(h0, .inr (2, [.ref q])), gk_xb c q 32 (fun _ => 0)]) (va_A [(h0, .inr (2, [.null]))] sz)) (va_A [(h0, .inr (2, [.null]))] sz)) 1 32 (va_A [(h0, .inr (2, [.null]))] sz) := by
  refine gk_ofW (Qf := fun A => va_Qv (fun q : Nat => True) (gk_B G (fun q : Nat => [(h0, .inr (2, [.ref q])), gk_xb c q 32 (fun _ => 0)]) A) A) (by decide) (Nat.le_of_ble_eq_true rfl) ?_
  intro p e s m below meth cd ls A Q hQ hx hb hr hlocks hml hown hts hin hK hC hA hP hD hS hl
  have hown : s.vm.findClass RX3 = some m.cls := hown
  have hl : lv_has ls 2 [(0, .ref h0), (1, .int 32)] := hl
  have hin : meth.name = yX3_init_3.name := hin
  refine lv_aload_n hx hb dX3_init_3_0 rfl (lv_at hl 0 rfl) ?_
  refine W.objInit hx hb hown (hts _ q80) (hts _ q27) (hts _ q28) rfl (by rw [hml]; exact hl.1) rfl dX3_init_3_1 (Nat.le_of_ble_eq_true rfl) (Nat.le_of_ble_eq_true rfl) ?_
  refine W.eq (g2 := F0 m 4 ls []) rfl ?_
  refine lv_aload_n hx hb dX3_init_3_4 rfl (lv_at hl 0 rfl) ?_
  refine lv_iload_n hx hb dX3_init_3_5 rfl (lv_at hl 1 rfl) ?_
  refine gk_newb hx hb (hts _ q39) hK hP hD hS hA 32 (rfl) (by decide) (Nat.le_of_ble_eq_true rfl) (Nat.le_of_ble_eq_true rfl) dX3_init_3_6 (fun q H hP hD hS => ?_)
  have hP : va_P G vwCl [(h0, .inr (2, [.null])), gk_xb c q 32 (fun _ => 0)] H := hP
  have hD : va_D A [(h0, .inr (2, [.null])), gk_xb c q 32 (fun _ => 0)] := hD
  refine va_put (D := G) (ci := 2) (v := .ref q) (ty := .array .byte) (C := RX3) (T := TX3) (N := 1) hx hb hts in_X3 tyX3 tyX3_ok nmX3 hown hK hP hD hS 0 rfl rfl 0 (by decide) (hts _ q81) (fun _ h9 => h9) rfl (by decide +kernel) rfl rfl (Nat.le_of_ble_eq_true rfl) dX3_init_3_8 (fun H locs hP hD hS => ?_)
  have hP : va_P G vwCl [(h0, .inr (2, [.ref q])), gk_xb c q 32 (fun _ => 0)] H := hP
  have hD : va_D A [(h0, .inr (2, [.ref q])), gk_xb c q 32 (fun _ => 0)] := hD
  exact gk_vret hQ hx hb hr hlocks (Nat.le_of_ble_eq_true rfl) (Nat.le_of_ble_eq_true rfl) hP hD hS q (trivial) [0, 1] (by decide) rfl dX3_init_3_11

set_option maxHeartbeats 4000000 in
set_option maxRecDepth 100000 in
/-- KeyParameter(f, 0, 32): the array copied -/
theorem m_kp3 (l : Launch) (G : va_G) (c : gk_I) (X : gk_X) (h0 a1 : Nat) (f : Nat → Int8) (sz : Nat) : Met l yX3_init_2 (ws_ yX3_init_2 cX3_init_2 4 none) ({ frames := 2, cells := 1, slots := 32, locals := 60 } : Room) (va_Pc [.ref h0, .ref a1, .int 0, .int 32] (gk_U G c X [(h0, .inr (2, [.null])), gk_xb c a1 32 f] sz)) (va_Qv (fun q : Nat => True) (gk_B G (fun q : Nat => [(h0, .inr (2, [.ref q])), gk_xb c a1 32 f, gk_xb c q 32 f]) (va_A [(h0, .inr (2, [.null])), gk_xb c a1 32 f] sz)) (va_A [(h0, .inr (2, [.null])), gk_xb c a1 32 f] sz)) 1 32 (va_A [(h0, .inr (2, [.null])), gk_xb c a1 32 f] sz) := by
  refine gk_ofW (Qf := fun A => va_Qv (fun q : Nat => True) (gk_B G (fun q : Nat => [(h0, .inr (2, [.ref q])), gk_xb c a1 32 f, gk_xb c q 32 f]) A) A) (by decide) (Nat.le_of_ble_eq_true rfl) ?_
  intro p e s m below meth cd ls A Q hQ hx hb hr hlocks hml hown hts hin hK hC hA hP hD hS hl
  have hown : s.vm.findClass RX3 = some m.cls := hown
  have hl : lv_has ls 4 [(0, .ref h0), (1, .ref a1), (2, .int 0), (3, .int 32)] := hl
  have hin : meth.name = yX3_init_2.name := hin
  refine lv_aload_n hx hb dX3_init_2_0 rfl (lv_at hl 0 rfl) ?_
  refine lv_iload_n hx hb dX3_init_2_1 rfl (lv_at hl 3 rfl) ?_
  refine gk_callv (wr := [gk_xb c a1 32 f]) (va_runI (As := [.int 32]) (rest := []) ⟨hx, hb, hml, hown, hts⟩ (m_kp1 l G c X h0 s.heap.size) (cwI 1 hts (lw_meth q79) rfl rfl rfl (hts _ q10) (hts _ q77) (hts _ q78) rfl (by decide +kernel) ⟨(Nat.le_of_ble_eq_true rfl), (Nat.le_of_ble_eq_true rfl)⟩) ⟨gk_blind, gk_pre hP hD hK hC hS hA [0] rfl (by decide)⟩ rfl rfl hl.1 rfl (lv_room (Nat.le_of_ble_eq_true rfl)) dX3_init_2_2 ⟨(Nat.le_of_ble_eq_true rfl), (Nat.le_of_ble_eq_true rfl)⟩) hP hD hS hA [0] [1] rfl rfl (by decide) (by decide) (fun q H locs _ hP hD hS => ?_)
  have hP : va_P G vwCl [gk_xb c a1 32 f, (h0, .inr (2, [.ref q])), gk_xb c q 32 (fun _ => 0)] H := hP
  have hD : va_D A [gk_xb c a1 32 f, (h0, .inr (2, [.ref q])), gk_xb c q 32 (fun _ => 0)] := hD
  refine lv_aload_n hx hb dX3_init_2_5 rfl (lv_at hl 1 rfl) ?_
  refine lv_iload_n hx hb dX3_init_2_6 rfl (lv_at hl 2 rfl) ?_
  refine lv_aload_n hx hb dX3_init_2_7 rfl (lv_at hl 0 rfl) ?_
  refine va_get (D := G) (ci := 2) (v := .ref q) (C := RX3) (T := TX3) (N := 1) hx hb hts in_X3 hown hK hP 1 rfl rfl 0 (by decide) (hts _ q81) (fun _ h9 => h9) rfl dX3_init_2_8 ?_
  refine lv_iconst (v := 0) hx hb dX3_init_2_11 (by decide) ?_
  refine lv_iload_n hx hb dX3_init_2_12 rfl (lv_at hl 3 rfl) ?_
  refine va_copyi hx hb (hml.trans hl.1.symm) hown (hts _ q85) (hts _ q87) (hts _ q86) (hts _ q11) hK hP hD hS 0 2 0 0 rfl rfl rfl rfl rfl (by decide) (by decide) (by decide) (by decide) (by decide) (fun i _ => gk_fits _) (Nat.le_of_ble_eq_true rfl) (Nat.le_of_ble_eq_true rfl) dX3_init_2_13 (fun H locs hP hD hS => ?_)
  have hP : va_P G vwCl [gk_xb c a1 32 f, (h0, .inr (2, [.ref q])), gk_xb c q 32 f] H := gk_extI hP 2 rfl (gk_b f) (fun j hj => by
        have h0 : (0 : Int32).toNatClampNeg = 0 := by decide
        have h1 : (32 : Int32).toNatClampNeg = 32 := by decide
        rw [h0, h1]
        exact (pk_cpy_in (f := gk_b f) (by omega) (by omega)).trans (congrArg (gk_b f) (by omega)))
  have hD : va_D A [gk_xb c a1 32 f, (h0, .inr (2, [.ref q])), gk_xb c q 32 f] := va_D.set (p := 2) hD rfl
  exact gk_vret hQ hx hb hr hlocks (Nat.le_of_ble_eq_true rfl) (Nat.le_of_ble_eq_true rfl) hP hD hS q (trivial) [1, 0, 2] (by decide) rfl dX3_init_2_16

set_option maxHeartbeats 4000000 in
set_option maxRecDepth 100000 in
/-- KeyParameter(f): the array copied -/
theorem m_kp (l : Launch) (G : va_G) (c : gk_I) (X : gk_X) (h0 a1 : Nat) (f : Nat → Int8) (sz : Nat) : Met l yX3_init (ws_ yX3_init cX3_init 2 none) ({ frames := 3, cells := 1, slots := 32, locals := 90 } : Room) (va_Pc [.ref h0, .ref a1] (gk_U G c X [(h0, .inr (2, [.null])), gk_xb c a1 32 f] sz)) (va_Qv (fun q : Nat => True) (gk_B G (fun q : Nat => [(h0, .inr (2, [.ref q])), gk_xb c a1 32 f, gk_xb c q 32 f]) (va_A [(h0, .inr (2, [.null])), gk_xb c a1 32 f] sz)) (va_A [(h0, .inr (2, [.null])), gk_xb c a1 32 f] sz)) 1 32 (va_A [(h0, .inr (2, [.null])), gk_xb c a1 32 f] sz) := by
  refine gk_ofW (Qf := fun A => va_Qv (fun q : Nat => True) (gk_B G (fun q : Nat => [(h0, .inr (2, [.ref q])), gk_xb c a1 32 f, gk_xb c q 32 f]) A) A) (by decide) (Nat.le_of_ble_eq_true rfl) ?_
  intro p e s m below meth cd ls A Q hQ hx hb hr hlocks hml hown hts hin hK hC hA hP hD hS hl
  have hown : s.vm.findClass RX3 = some m.cls := hown
  have hl : lv_has ls 2 [(0, .ref h0), (1, .ref a1)] := hl
  have hin : meth.name = yX3_init.name := hin
  refine lv_aload_n hx hb dX3_init_0 rfl (lv_at hl 0 rfl) ?_
  refine lv_aload_n hx hb dX3_init_1 rfl (lv_at hl 1 rfl) ?_
  refine lv_iconst (v := 0) hx hb dX3_init_2 (by decide) ?_
  refine lv_aload_n hx hb dX3_init_3 rfl (lv_at hl 1 rfl) ?_
  refine va_alen (v := 32) hx hb hK hP 1 0 rfl rfl rfl dX3_init_4 ?_
  refine gk_callv (wr := []) (va_runI (As := [.ref a1, .int 0, .int 32]) (rest := []) ⟨hx, hb, hml, hown, hts⟩ (m_kp3 l G c X h0 a1 f s.heap.size) (cwI 3 hts (lw_meth q76) rfl rfl rfl (hts _ q10) (hts _ q74) (hts _ q75) rfl (by decide +kernel) ⟨(Nat.le_of_ble_eq_true rfl), (Nat.le_of_ble_eq_true rfl)⟩) ⟨gk_blind, gk_pre hP hD hK hC hS hA [0, 1] rfl (by decide)⟩ rfl rfl hl.1 rfl (lv_room (Nat.le_of_ble_eq_true rfl)) dX3_init_5 ⟨(Nat.le_of_ble_eq_true rfl), (Nat.le_of_ble_eq_true rfl)⟩) hP hD hS hA [0, 1] [] rfl rfl (by decide) (by decide) (fun q H locs _ hP hD hS => ?_)
  have hP : va_P G vwCl [(h0, .inr (2, [.ref q])), gk_xb c a1 32 f, gk_xb c q 32 f] H := hP
  have hD : va_D A [(h0, .inr (2, [.ref q])), gk_xb c a1 32 f, gk_xb c q 32 f] := hD
  exact gk_vret hQ hx hb hr hlocks (Nat.le_of_ble_eq_true rfl) (Nat.le_of_ble_eq_true rfl) hP hD hS q (trivial) [0, 1, 2] (by decide) rfl dX3_init_8

set_option maxHeartbeats 4000000 in
set_option maxRecDepth 100000 in
/-- getKey(): the array -/
theorem m_gk (l : Launch) (G : va_G) (c : gk_I) (X : gk_X) (h0 q : Nat) (f : Nat → Int8) (sz : Nat) : Met l yX3_getKey (ws_ yX3_getKey cX3_getKey 1 (some (.array .byte))) ({ frames := 0, cells := 0, slots := 0, locals := 0 } : Room) (va_Pc [.ref h0] (gk_U G c X [(h0, .inr (2, [.ref q])), gk_xb c q 32 f] sz)) (va_Qr (fun _ : Unit => True) (gk_Br G (fun (_ : Unit) (r : Nat) => [(h0, .inr (2, [.ref r])), gk_xb c r 32 f]) (va_A [(h0, .inr (2, [.ref q])), gk_xb c q 32 f] sz)) (va_A [(h0, .inr (2, [.ref q])), gk_xb c q 32 f] sz)) 0 0 (va_A [(h0, .inr (2, [.ref q])), gk_xb c q 32 f] sz) := by
  refine gk_ofW (Qf := fun A => va_Qr (fun _ : Unit => True) (gk_Br G (fun (_ : Unit) (r : Nat) => [(h0, .inr (2, [.ref r])), gk_xb c r 32 f]) A) A) (by decide) (Nat.le_of_ble_eq_true rfl) ?_
  intro p e s m below meth cd ls A Q hQ hx hb hr hlocks hml hown hts hin hK hC hA hP hD hS hl
  have hown : s.vm.findClass RX3 = some m.cls := hown
  have hl : lv_has ls 1 [(0, .ref h0)] := hl
  refine lv_aload_n hx hb dX3_getKey_0 rfl (lv_at hl 0 rfl) ?_
  refine va_get (D := G) (ci := 2) (v := .ref q) (C := RX3) (T := TX3) (N := 1) hx hb hts in_X3 hown hK hP 0 rfl rfl 0 (by decide) (hts _ q81) (fun _ h9 => h9) rfl dX3_getKey_1 ?_
  exact gk_aret hQ hx hb hr ⟨_, rfl⟩ hlocks (Nat.le_of_ble_eq_true rfl) (Nat.le_of_ble_eq_true rfl) hP hD hS () (trivial) [0, 1] (by decide) rfl dX3_getKey_4

set_option maxHeartbeats 4000000 in
set_option maxRecDepth 100000 in
/-- GOST28147Engine(): the S-boxes of the static -/
theorem m_ei (l : Launch) (G : va_G) (c : gk_I) (X : gk_X) (h0 : Nat) (sz : Nat) : Met l yX2_init (ws_ yX2_init cX2_init 1 none) ({ frames := 1, cells := 0, slots := 0, locals := 12 } : Room) (va_Pc [.ref h0] (gk_U G c X [(h0, .inr (1, [.null, .int 0, .null]))] sz)) (va_Qv (fun _ : Unit => True) (gk_B G (fun _ : Unit => [(h0, .inr (1, [.null, .int 0, .ref X.1]))]) (va_A [(h0, .inr (1, [.null, .int 0, .null]))] sz)) (va_A [(h0, .inr (1, [.null, .int 0, .null]))] sz)) 0 0 (va_A [(h0, .inr (1, [.null, .int 0, .null]))] sz) := by
  refine gk_ofW (Qf := fun A => va_Qv (fun _ : Unit => True) (gk_B G (fun _ : Unit => [(h0, .inr (1, [.null, .int 0, .ref X.1]))]) A) A) (by decide) (Nat.le_of_ble_eq_true rfl) ?_
  intro p e s m below meth cd ls A Q hQ hx hb hr hlocks hml hown hts hin hK hC hA hP hD hS hl
  have hown : s.vm.findClass RX2 = some m.cls := hown
  have hl : lv_has ls 1 [(0, .ref h0)] := hl
  have hin : meth.name = yX2_init.name := hin
  refine lv_aload_n hx hb dX2_init_0 rfl (lv_at hl 0 rfl) ?_
  refine W.objInit hx hb hown (hts _ q56) (hts _ q27) (hts _ q28) rfl (by rw [hml]; exact hl.1) rfl dX2_init_1 (Nat.le_of_ble_eq_true rfl) (Nat.le_of_ble_eq_true rfl) ?_
  refine W.eq (g2 := F0 m 4 ls []) rfl ?_
  refine lv_aload_n hx hb dX2_init_4 rfl (lv_at hl 0 rfl) ?_
  refine lv_null hx hb dX2_init_5 ?_
  refine va_put (D := G) (ci := 1) (v := .null) (ty := .array .int) (C := RX2) (T := TX2) (N := 3) hx hb hts in_X2 tyX2 tyX2_ok nmX2 hown hK hP hD hS 0 rfl rfl 0 (by decide) (hts _ q59) (fun _ h9 => h9) rfl (by decide +kernel) rfl rfl (Nat.le_of_ble_eq_true rfl) dX2_init_6 (fun H locs hP hD hS => ?_)
  have hP : va_P G vwCl [(h0, .inr (1, [.null, .int 0, .null]))] H := hP
  have hD : va_D A [(h0, .inr (1, [.null, .int 0, .null]))] := hD
  refine lv_aload_n hx hb dX2_init_9 rfl (lv_at hl 0 rfl) ?_
  refine va_gets hx hb hC.1 hS hown (hts _ q57) (fun _ h9 => h9) dX2_init_10 ?_
  refine va_put (D := G) (ci := 1) (v := .ref X.1) (ty := .array .byte) (C := RX2) (T := TX2) (N := 3) hx hb hts in_X2 tyX2 tyX2_ok nmX2 hown hK hP hD hS 0 rfl rfl 2 (by decide) (hts _ q61) (fun _ h9 => h9) rfl (by decide +kernel) rfl rfl (Nat.le_of_ble_eq_true rfl) dX2_init_13 (fun H locs hP hD hS => ?_)
  have hP : va_P G vwCl [(h0, .inr (1, [.null, .int 0, .ref X.1]))] H := hP
  have hD : va_D A [(h0, .inr (1, [.null, .int 0, .ref X.1]))] := hD
  exact gk_vret hQ hx hb hr hlocks (Nat.le_of_ble_eq_true rfl) (Nat.le_of_ble_eq_true rfl) hP hD hS () (trivial) [0] (by decide) rfl dX2_init_16

set_option maxHeartbeats 4000000 in
set_option maxRecDepth 100000 in
/-- bytesToint(f, o): a word, low byte first -/
theorem m_bti (l : Launch) (G : va_G) (c : gk_I) (X : gk_X) (h0 a1 n : Nat) (f : Nat → Int8) (o : Nat) (sz : Nat) (hn : n ≤ 64) (ho : o + 4 ≤ n) : Met l yX2_bytesToint (ws_ yX2_bytesToint cX2_bytesToint 3 (some .int)) ({ frames := 0, cells := 0, slots := 0, locals := 0 } : Room) (va_Pc [.ref h0, .ref a1, .int (nI o)] (gk_U G c X [gk_xb c a1 n f] sz)) (va_Qi (fun (r : Int32) (_ : Unit) => r = gk_w f o) (gk_B G (fun _ : Unit => [gk_xb c a1 n f]) (va_A [gk_xb c a1 n f] sz)) (va_A [gk_xb c a1 n f] sz)) 0 0 (va_A [gk_xb c a1 n f] sz) := by
  refine gk_ofW (Qf := fun A => va_Qi (fun (r : Int32) (_ : Unit) => r = gk_w f o) (gk_B G (fun _ : Unit => [gk_xb c a1 n f]) A) A) (by decide) (Nat.le_of_ble_eq_true rfl) ?_
  intro p e s m below meth cd ls A Q hQ hx hb hr hlocks hml hown hts hin hK hC hA hP hD hS hl
  have hown : s.vm.findClass RX2 = some m.cls := hown
  have hl : lv_has ls 3 [(0, .ref h0), (1, .ref a1), (2, .int (nI o))] := hl
  refine lv_aload_n hx hb dX2_bytesToint_0 rfl (lv_at hl 1 rfl) ?_
  refine lv_iload_n hx hb dX2_bytesToint_1 rfl (lv_at hl 2 rfl) ?_
  refine lv_iconst (v := 3) hx hb dX2_bytesToint_2 (by decide) ?_
  refine lv_iadd hx hb dX2_bytesToint_3 ?_
  refine gk_bald hx hb hK hP 0 rfl (o + 3) (nI_add o 3) (by omega) (hn) dX2_bytesToint_4 ?_
  refine lv_bipush (v := 24) hx hb dX2_bytesToint_5 (by decide) ?_
  refine lv_ishl hx hb dX2_bytesToint_7 ?_
  refine lv_ldc hx hb hown (hts _ q215) dX2_bytesToint_8 ?_
  refine lv_iand hx hb dX2_bytesToint_10 ?_
  refine lv_aload_n hx hb dX2_bytesToint_11 rfl (lv_at hl 1 rfl) ?_
  refine lv_iload_n hx hb dX2_bytesToint_12 rfl (lv_at hl 2 rfl) ?_
  refine lv_iconst (v := 2) hx hb dX2_bytesToint_13 (by decide) ?_
  refine lv_iadd hx hb dX2_bytesToint_14 ?_
  refine gk_bald hx hb hK hP 0 rfl (o + 2) (nI_add o 2) (by omega) (hn) dX2_bytesToint_15 ?_
  refine lv_bipush (v := 16) hx hb dX2_bytesToint_16 (by decide) ?_
  refine lv_ishl hx hb dX2_bytesToint_18 ?_
  refine lv_ldc hx hb hown (hts _ q216) dX2_bytesToint_19 ?_
  refine lv_iand hx hb dX2_bytesToint_21 ?_
  refine lv_iadd hx hb dX2_bytesToint_22 ?_
  refine lv_aload_n hx hb dX2_bytesToint_23 rfl (lv_at hl 1 rfl) ?_
  refine lv_iload_n hx hb dX2_bytesToint_24 rfl (lv_at hl 2 rfl) ?_
  refine lv_iconst (v := 1) hx hb dX2_bytesToint_25 (by decide) ?_
  refine lv_iadd hx hb dX2_bytesToint_26 ?_
  refine gk_bald hx hb hK hP 0 rfl (o + 1) (nI_add o 1) (by omega) (hn) dX2_bytesToint_27 ?_
  refine lv_bipush (v := 8) hx hb dX2_bytesToint_28 (by decide) ?_
  refine lv_ishl hx hb dX2_bytesToint_30 ?_
  refine lv_ldc hx hb hown (hts _ q217) dX2_bytesToint_31 ?_
  refine lv_iand hx hb dX2_bytesToint_33 ?_
  refine lv_iadd hx hb dX2_bytesToint_34 ?_
  refine lv_aload_n hx hb dX2_bytesToint_35 rfl (lv_at hl 1 rfl) ?_
  refine lv_iload_n hx hb dX2_bytesToint_36 rfl (lv_at hl 2 rfl) ?_
  refine gk_bald hx hb hK hP 0 rfl o (rfl) (by omega) (hn) dX2_bytesToint_37 ?_
  refine lv_sipush (v := 255) hx hb dX2_bytesToint_38 (by decide) ?_
  refine lv_iand hx hb dX2_bytesToint_41 ?_
  refine lv_iadd hx hb dX2_bytesToint_42 ?_
  exact gk_iret hQ hx hb hr hlocks (Nat.le_of_ble_eq_true rfl) (Nat.le_of_ble_eq_true rfl) hP hD hS () (gk_w_bc f o) [0] (by decide) rfl dX2_bytesToint_43

set_option maxHeartbeats 4000000 in
set_option maxRecDepth 100000 in
/-- intTobytes(v, f, o): a word into bytes, low byte first -/
theorem m_itb (l : Launch) (G : va_G) (c : gk_I) (X : gk_X) (h0 a1 n : Nat) (f : Nat → Int8) (o : Nat) (v : Int32) (sz : Nat) (hn : n ≤ 64) (ho : o + 4 ≤ n) : Met l yX2_intTobytes (ws_ yX2_intTobytes cX2_intTobytes 4 none) ({ frames := 0, cells := 0, slots := 0, locals := 0 } : Room) (va_Pc [.ref h0, .int v, .ref a1, .int (nI o)] (gk_U G c X [gk_xb c a1 n f] sz)) (va_Qv (fun _ : Unit => True) (gk_B G (fun _ : Unit => [gk_xb c a1 n (gk_put f o v)]) (va_A [gk_xb c a1 n f] sz)) (va_A [gk_xb c a1 n f] sz)) 0 0 (va_A [gk_xb c a1 n f] sz) := by
  refine gk_ofW (Qf := fun A => va_Qv (fun _ : Unit => True) (gk_B G (fun _ : Unit => [gk_xb c a1 n (gk_put f o v)]) A) A) (by decide) (Nat.le_of_ble_eq_true rfl) ?_
  intro p e s m below meth cd ls A Q hQ hx hb hr hlocks hml hown hts hin hK hC hA hP hD hS hl
  have hown : s.vm.findClass RX2 = some m.cls := hown
  have hl : lv_has ls 4 [(0, .ref h0), (1, .int v), (2, .ref a1), (3, .int (nI o))] := hl
  refine lv_aload_n hx hb dX2_intTobytes_0 rfl (lv_at hl 2 rfl) ?_
  refine lv_iload_n hx hb dX2_intTobytes_1 rfl (lv_at hl 3 rfl) ?_
  refine lv_iconst (v := 3) hx hb dX2_intTobytes_2 (by decide) ?_
  refine lv_iadd hx hb dX2_intTobytes_3 ?_
  refine lv_iload_n hx hb dX2_intTobytes_4 rfl (lv_at hl 1 rfl) ?_
  refine lv_bipush (v := 24) hx hb dX2_intTobytes_5 (by decide) ?_
  refine lv_iushr (v := gk_us v 24) hx hb dX2_intTobytes_7 rfl ?_
  refine lv_i2b (v := ((gk_us v 24).toInt8).toInt32) hx hb dX2_intTobytes_8 rfl ?_
  refine gk_bast hx hb hK hP hD hS 0 rfl (o + 3) (nI_add o 3) (by omega) (hn) (y := gk_by v 3) (gk_88 (gk_us_by v 24 3 (by decide +kernel))) dX2_intTobytes_9 (fun H locs hP hD hS => ?_)
  have hP : va_P G vwCl [gk_xb c a1 n (va_up f (o + 3) (gk_by v 3))] H := hP
  have hD : va_D A [gk_xb c a1 n (va_up f (o + 3) (gk_by v 3))] := hD
  refine lv_aload_n hx hb dX2_intTobytes_10 rfl (lv_at hl 2 rfl) ?_
  refine lv_iload_n hx hb dX2_intTobytes_11 rfl (lv_at hl 3 rfl) ?_
  refine lv_iconst (v := 2) hx hb dX2_intTobytes_12 (by decide) ?_
  refine lv_iadd hx hb dX2_intTobytes_13 ?_
  refine lv_iload_n hx hb dX2_intTobytes_14 rfl (lv_at hl 1 rfl) ?_
  refine lv_bipush (v := 16) hx hb dX2_intTobytes_15 (by decide) ?_
  refine lv_iushr (v := gk_us v 16) hx hb dX2_intTobytes_17 rfl ?_
  refine lv_i2b (v := ((gk_us v 16).toInt8).toInt32) hx hb dX2_intTobytes_18 rfl ?_
  refine gk_bast hx hb hK hP hD hS 0 rfl (o + 2) (nI_add o 2) (by omega) (hn) (y := gk_by v 2) (gk_88 (gk_us_by v 16 2 (by decide +kernel))) dX2_intTobytes_19 (fun H locs hP hD hS => ?_)
  have hP : va_P G vwCl [gk_xb c a1 n (va_up (va_up f (o + 3) (gk_by v 3)) (o + 2) (gk_by v 2))] H := hP
  have hD : va_D A [gk_xb c a1 n (va_up (va_up f (o + 3) (gk_by v 3)) (o + 2) (gk_by v 2))] := hD
  refine lv_aload_n hx hb dX2_intTobytes_20 rfl (lv_at hl 2 rfl) ?_
  refine lv_iload_n hx hb dX2_intTobytes_21 rfl (lv_at hl 3 rfl) ?_
  refine lv_iconst (v := 1) hx hb dX2_intTobytes_22 (by decide) ?_
  refine lv_iadd hx hb dX2_intTobytes_23 ?_
  refine lv_iload_n hx hb dX2_intTobytes_24 rfl (lv_at hl 1 rfl) ?_
  refine lv_bipush (v := 8) hx hb dX2_intTobytes_25 (by decide) ?_
  refine lv_iushr (v := gk_us v 8) hx hb dX2_intTobytes_27 rfl ?_
  refine lv_i2b (v := ((gk_us v 8).toInt8).toInt32) hx hb dX2_intTobytes_28 rfl ?_
  refine gk_bast hx hb hK hP hD hS 0 rfl (o + 1) (nI_add o 1) (by omega) (hn) (y := gk_by v 1) (gk_88 (gk_us_by v 8 1 (by decide +kernel))) dX2_intTobytes_29 (fun H locs hP hD hS => ?_)
  have hP : va_P G vwCl [gk_xb c a1 n (va_up (va_up (va_up f (o + 3) (gk_by v 3)) (o + 2) (gk_by v 2)) (o + 1) (gk_by v 1))] H := hP
  have hD : va_D A [gk_xb c a1 n (va_up (va_up (va_up f (o + 3) (gk_by v 3)) (o + 2) (gk_by v 2)) (o + 1) (gk_by v 1))] := hD
  refine lv_aload_n hx hb dX2_intTobytes_30 rfl (lv_at hl 2 rfl) ?_
  refine lv_iload_n hx hb dX2_intTobytes_31 rfl (lv_at hl 3 rfl) ?_
  refine lv_iload_n hx hb dX2_intTobytes_32 rfl (lv_at hl 1 rfl) ?_
  refine lv_i2b (v := (v.toInt8).toInt32) hx hb dX2_intTobytes_33 rfl ?_
  refine gk_bast hx hb hK hP hD hS 0 rfl o (rfl) (by omega) (hn) (y := gk_by v 0) (gk_88 (gk_by0 v)) dX2_intTobytes_34 (fun H locs hP hD hS => ?_)
  have hP : va_P G vwCl [gk_xb c a1 n (va_up (va_up (va_up (va_up f (o + 3) (gk_by v 3)) (o + 2) (gk_by v 2)) (o + 1) (gk_by v 1)) o (gk_by v 0))] H := hP
  have hD : va_D A [gk_xb c a1 n (va_up (va_up (va_up (va_up f (o + 3) (gk_by v 3)) (o + 2) (gk_by v 2)) (o + 1) (gk_by v 1)) o (gk_by v 0))] := hD
  have hP : va_P G vwCl [gk_xb c a1 n (gk_put f o v)] H := gk_ext hP 0 rfl (gk_put f o v) (fun j _ => congrFun (gk_put4 f o v) j)
  have hD : va_D A [gk_xb c a1 n (gk_put f o v)] := va_D.set (p := 0) hD rfl
  exact gk_vret hQ hx hb hr hlocks (Nat.le_of_ble_eq_true rfl) (Nat.le_of_ble_eq_true rfl) hP hD hS () (trivial) [0] (by decide) rfl dX2_intTobytes_35

set_option maxHeartbeats 4000000 in
set_option maxRecDepth 100000 in
/-- GOST28147_mainStep(n1, k): the round function -/
theorem m_ms (l : Launch) (G : va_G) (c : gk_I) (X : gk_X) (h0 : Nat) (wk : Value) (fe n1 k : Int32) (sz : Nat) : Met l yX2_GOST28147_mainStep (ws_ yX2_GOST28147_mainStep cX2_GOST28147_mainStep 5 (some .int)) ({ frames := 0, cells := 0, slots := 0, locals := 0 } : Room) (va_Pc [.ref h0, .int n1, .int k] (gk_U G c X [(h0, .inr (1, [wk, .int fe, .ref X.1]))] sz)) (va_Qi (fun (r : Int32) (_ : Unit) => r = gk_f (n1 + k)) (gk_B G (fun _ : Unit => [(h0, .inr (1, [wk, .int fe, .ref X.1]))]) (va_A [(h0, .inr (1, [wk, .int fe, .ref X.1]))] sz)) (va_A [(h0, .inr (1, [wk, .int fe, .ref X.1]))] sz)) 0 0 (va_A [(h0, .inr (1, [wk, .int fe, .ref X.1]))] sz) := by
  refine gk_ofW (Qf := fun A => va_Qi (fun (r : Int32) (_ : Unit) => r = gk_f (n1 + k)) (gk_B G (fun _ : Unit => [(h0, .inr (1, [wk, .int fe, .ref X.1]))]) A) A) (by decide) (Nat.le_of_ble_eq_true rfl) ?_
  intro p e s m below meth cd ls A Q hQ hx hb hr hlocks hml hown hts hin hK hC hA hP hD hS hl
  have hown : s.vm.findClass RX2 = some m.cls := hown
  have hl : lv_has ls 5 [(0, .ref h0), (1, .int n1), (2, .int k)] := hl
  refine lv_iload_n hx hb dX2_GOST28147_mainStep_0 rfl (lv_at hl 2 rfl) ?_
  refine lv_iload_n hx hb dX2_GOST28147_mainStep_1 rfl (lv_at hl 1 rfl) ?_
  refine lv_iadd hx hb dX2_GOST28147_mainStep_2 ?_
  refine lv_topi (fun v ev => ?_)
  refine lv_istore_n (lv' := [(3, .int v), (0, .ref h0), (1, .int n1), (2, .int k)]) hx hb dX2_GOST28147_mainStep_3 rfl hl (by decide) rfl (fun ls hl => ?_)
  refine lv_aload_n hx hb dX2_GOST28147_mainStep_4 rfl (lv_at hl 1 rfl) ?_
  refine va_get (D := G) (ci := 1) (v := .ref X.1) (C := RX2) (T := TX2) (N := 3) hx hb hts in_X2 hown hK hP 0 rfl rfl 2 (by decide) (hts _ q61) (fun _ h9 => h9) rfl dX2_GOST28147_mainStep_5 ?_
  refine lv_iconst (v := 0) hx hb dX2_GOST28147_mainStep_8 (by decide) ?_
  refine lv_iload_n hx hb dX2_GOST28147_mainStep_9 rfl (lv_at hl 0 rfl) ?_
  refine lv_iconst (v := 0) hx hb dX2_GOST28147_mainStep_10 (by decide) ?_
  refine lv_ishr hx hb dX2_GOST28147_mainStep_11 ?_
  refine lv_bipush (v := 15) hx hb dX2_GOST28147_mainStep_12 (by decide) ?_
  refine lv_iand hx hb dX2_GOST28147_mainStep_14 ?_
  refine gk_top (y := nI (gk_nb v 0)) (gk_sr_nb v (0 &&& 31) 0 (by decide) (by decide +kernel)) ?_
  refine lv_iadd hx hb dX2_GOST28147_mainStep_15 ?_
  refine gk_top (y := nI (16 * 0 + gk_nb v 0)) (nI_add 0 (gk_nb v 0)) ?_
  refine gk_tb hx hb hC hS (16 * 0 + gk_nb v 0) rfl (by have h9 := gk_nb_lt v 0; omega) dX2_GOST28147_mainStep_16 ?_
  refine lv_iconst (v := 0) hx hb dX2_GOST28147_mainStep_17 (by decide) ?_
  refine lv_ishl hx hb dX2_GOST28147_mainStep_18 ?_
  refine gk_top (y := nI (gk_sm v 1)) (gk_st0 v (0 &&& 31) (by decide +kernel)) ?_
  refine lv_istore (lv' := [(4, .int (nI (gk_sm v 1))), (3, .int v), (0, .ref h0), (1, .int n1), (2, .int k)]) hx hb dX2_GOST28147_mainStep_19 hl (by decide) rfl (fun ls hl => ?_)
  refine lv_iload hx hb dX2_GOST28147_mainStep_21 (lv_at hl 0 rfl) ?_
  refine lv_aload_n hx hb dX2_GOST28147_mainStep_23 rfl (lv_at hl 2 rfl) ?_
  refine va_get (D := G) (ci := 1) (v := .ref X.1) (C := RX2) (T := TX2) (N := 3) hx hb hts in_X2 hown hK hP 0 rfl rfl 2 (by decide) (hts _ q61) (fun _ h9 => h9) rfl dX2_GOST28147_mainStep_24 ?_
  refine lv_bipush (v := 16) hx hb dX2_GOST28147_mainStep_27 (by decide) ?_
  refine lv_iload_n hx hb dX2_GOST28147_mainStep_29 rfl (lv_at hl 1 rfl) ?_
  refine lv_iconst (v := 4) hx hb dX2_GOST28147_mainStep_30 (by decide) ?_
  refine lv_ishr hx hb dX2_GOST28147_mainStep_31 ?_
  refine lv_bipush (v := 15) hx hb dX2_GOST28147_mainStep_32 (by decide) ?_
  refine lv_iand hx hb dX2_GOST28147_mainStep_34 ?_
  refine gk_top (y := nI (gk_nb v 1)) (gk_sr_nb v (4 &&& 31) 1 (by decide) (by decide +kernel)) ?_
  refine lv_iadd hx hb dX2_GOST28147_mainStep_35 ?_
  refine gk_top (y := nI (16 * 1 + gk_nb v 1)) (nI_add 16 (gk_nb v 1)) ?_
  refine gk_tb hx hb hC hS (16 * 1 + gk_nb v 1) rfl (by have h9 := gk_nb_lt v 1; omega) dX2_GOST28147_mainStep_36 ?_
  refine lv_iconst (v := 4) hx hb dX2_GOST28147_mainStep_37 (by decide) ?_
  refine lv_ishl hx hb dX2_GOST28147_mainStep_38 ?_
  refine lv_iadd hx hb dX2_GOST28147_mainStep_39 ?_
  refine gk_top (y := nI (gk_sm v 2)) (gk_st v (4 &&& 31) 1 (by decide) (by decide +kernel)) ?_
  refine lv_istore (lv' := [(4, .int (nI (gk_sm v 2))), (3, .int v), (0, .ref h0), (1, .int n1), (2, .int k)]) hx hb dX2_GOST28147_mainStep_40 hl (by decide) rfl (fun ls hl => ?_)
  refine lv_iload hx hb dX2_GOST28147_mainStep_42 (lv_at hl 0 rfl) ?_
  refine lv_aload_n hx hb dX2_GOST28147_mainStep_44 rfl (lv_at hl 2 rfl) ?_
  refine va_get (D := G) (ci := 1) (v := .ref X.1) (C := RX2) (T := TX2) (N := 3) hx hb hts in_X2 hown hK hP 0 rfl rfl 2 (by decide) (hts _ q61) (fun _ h9 => h9) rfl dX2_GOST28147_mainStep_45 ?_
  refine lv_bipush (v := 32) hx hb dX2_GOST28147_mainStep_48 (by decide) ?_
  refine lv_iload_n hx hb dX2_GOST28147_mainStep_50 rfl (lv_at hl 1 rfl) ?_
  refine lv_bipush (v := 8) hx hb dX2_GOST28147_mainStep_51 (by decide) ?_
  refine lv_ishr hx hb dX2_GOST28147_mainStep_53 ?_
  refine lv_bipush (v := 15) hx hb dX2_GOST28147_mainStep_54 (by decide) ?_
  refine lv_iand hx hb dX2_GOST28147_mainStep_56 ?_
  refine gk_top (y := nI (gk_nb v 2)) (gk_sr_nb v (8 &&& 31) 2 (by decide) (by decide +kernel)) ?_
  refine lv_iadd hx hb dX2_GOST28147_mainStep_57 ?_
  refine gk_top (y := nI (16 * 2 + gk_nb v 2)) (nI_add 32 (gk_nb v 2)) ?_
  refine gk_tb hx hb hC hS (16 * 2 + gk_nb v 2) rfl (by have h9 := gk_nb_lt v 2; omega) dX2_GOST28147_mainStep_58 ?_
  refine lv_bipush (v := 8) hx hb dX2_GOST28147_mainStep_59 (by decide) ?_
  refine lv_ishl hx hb dX2_GOST28147_mainStep_61 ?_
  refine lv_iadd hx hb dX2_GOST28147_mainStep_62 ?_
  refine gk_top (y := nI (gk_sm v 3)) (gk_st v (8 &&& 31) 2 (by decide) (by decide +kernel)) ?_
  refine lv_istore (lv' := [(4, .int (nI (gk_sm v 3))), (3, .int v), (0, .ref h0), (1, .int n1), (2, .int k)]) hx hb dX2_GOST28147_mainStep_63 hl (by decide) rfl (fun ls hl => ?_)
  refine lv_iload hx hb dX2_GOST28147_mainStep_65 (lv_at hl 0 rfl) ?_
  refine lv_aload_n hx hb dX2_GOST28147_mainStep_67 rfl (lv_at hl 2 rfl) ?_
  refine va_get (D := G) (ci := 1) (v := .ref X.1) (C := RX2) (T := TX2) (N := 3) hx hb hts in_X2 hown hK hP 0 rfl rfl 2 (by decide) (hts _ q61) (fun _ h9 => h9) rfl dX2_GOST28147_mainStep_68 ?_
  refine lv_bipush (v := 48) hx hb dX2_GOST28147_mainStep_71 (by decide) ?_
  refine lv_iload_n hx hb dX2_GOST28147_mainStep_73 rfl (lv_at hl 1 rfl) ?_
  refine lv_bipush (v := 12) hx hb dX2_GOST28147_mainStep_74 (by decide) ?_
  refine lv_ishr hx hb dX2_GOST28147_mainStep_76 ?_
  refine lv_bipush (v := 15) hx hb dX2_GOST28147_mainStep_77 (by decide) ?_
  refine lv_iand hx hb dX2_GOST28147_mainStep_79 ?_
  refine gk_top (y := nI (gk_nb v 3)) (gk_sr_nb v (12 &&& 31) 3 (by decide) (by decide +kernel)) ?_
  refine lv_iadd hx hb dX2_GOST28147_mainStep_80 ?_
  refine gk_top (y := nI (16 * 3 + gk_nb v 3)) (nI_add 48 (gk_nb v 3)) ?_
  refine gk_tb hx hb hC hS (16 * 3 + gk_nb v 3) rfl (by have h9 := gk_nb_lt v 3; omega) dX2_GOST28147_mainStep_81 ?_
  refine lv_bipush (v := 12) hx hb dX2_GOST28147_mainStep_82 (by decide) ?_
  refine lv_ishl hx hb dX2_GOST28147_mainStep_84 ?_
  refine lv_iadd hx hb dX2_GOST28147_mainStep_85 ?_
  refine gk_top (y := nI (gk_sm v 4)) (gk_st v (12 &&& 31) 3 (by decide) (by decide +kernel)) ?_
  refine lv_istore (lv' := [(4, .int (nI (gk_sm v 4))), (3, .int v), (0, .ref h0), (1, .int n1), (2, .int k)]) hx hb dX2_GOST28147_mainStep_86 hl (by decide) rfl (fun ls hl => ?_)
  refine lv_iload hx hb dX2_GOST28147_mainStep_88 (lv_at hl 0 rfl) ?_
  refine lv_aload_n hx hb dX2_GOST28147_mainStep_90 rfl (lv_at hl 2 rfl) ?_
  refine va_get (D := G) (ci := 1) (v := .ref X.1) (C := RX2) (T := TX2) (N := 3) hx hb hts in_X2 hown hK hP 0 rfl rfl 2 (by decide) (hts _ q61) (fun _ h9 => h9) rfl dX2_GOST28147_mainStep_91 ?_
  refine lv_bipush (v := 64) hx hb dX2_GOST28147_mainStep_94 (by decide) ?_
  refine lv_iload_n hx hb dX2_GOST28147_mainStep_96 rfl (lv_at hl 1 rfl) ?_
  refine lv_bipush (v := 16) hx hb dX2_GOST28147_mainStep_97 (by decide) ?_
  refine lv_ishr hx hb dX2_GOST28147_mainStep_99 ?_
  refine lv_bipush (v := 15) hx hb dX2_GOST28147_mainStep_100 (by decide) ?_
  refine lv_iand hx hb dX2_GOST28147_mainStep_102 ?_
  refine gk_top (y := nI (gk_nb v 4)) (gk_sr_nb v (16 &&& 31) 4 (by decide) (by decide +kernel)) ?_
  refine lv_iadd hx hb dX2_GOST28147_mainStep_103 ?_
  refine gk_top (y := nI (16 * 4 + gk_nb v 4)) (nI_add 64 (gk_nb v 4)) ?_
  refine gk_tb hx hb hC hS (16 * 4 + gk_nb v 4) rfl (by have h9 := gk_nb_lt v 4; omega) dX2_GOST28147_mainStep_104 ?_
  refine lv_bipush (v := 16) hx hb dX2_GOST28147_mainStep_105 (by decide) ?_
  refine lv_ishl hx hb dX2_GOST28147_mainStep_107 ?_
  refine lv_iadd hx hb dX2_GOST28147_mainStep_108 ?_
  refine gk_top (y := nI (gk_sm v 5)) (gk_st v (16 &&& 31) 4 (by decide) (by decide +kernel)) ?_
  refine lv_istore (lv' := [(4, .int (nI (gk_sm v 5))), (3, .int v), (0, .ref h0), (1, .int n1), (2, .int k)]) hx hb dX2_GOST28147_mainStep_109 hl (by decide) rfl (fun ls hl => ?_)
  refine lv_iload hx hb dX2_GOST28147_mainStep_111 (lv_at hl 0 rfl) ?_
  refine lv_aload_n hx hb dX2_GOST28147_mainStep_113 rfl (lv_at hl 2 rfl) ?_
  refine va_get (D := G) (ci := 1) (v := .ref X.1) (C := RX2) (T := TX2) (N := 3) hx hb hts in_X2 hown hK hP 0 rfl rfl 2 (by decide) (hts _ q61) (fun _ h9 => h9) rfl dX2_GOST28147_mainStep_114 ?_
  refine lv_bipush (v := 80) hx hb dX2_GOST28147_mainStep_117 (by decide) ?_
  refine lv_iload_n hx hb dX2_GOST28147_mainStep_119 rfl (lv_at hl 1 rfl) ?_
  refine lv_bipush (v := 20) hx hb dX2_GOST28147_mainStep_120 (by decide) ?_
  refine lv_ishr hx hb dX2_GOST28147_mainStep_122 ?_
  refine lv_bipush (v := 15) hx hb dX2_GOST28147_mainStep_123 (by decide) ?_
  refine lv_iand hx hb dX2_GOST28147_mainStep_125 ?_
  refine gk_top (y := nI (gk_nb v 5)) (gk_sr_nb v (20 &&& 31) 5 (by decide) (by decide +kernel)) ?_
  refine lv_iadd hx hb dX2_GOST28147_mainStep_126 ?_
  refine gk_top (y := nI (16 * 5 + gk_nb v 5)) (nI_add 80 (gk_nb v 5)) ?_
  refine gk_tb hx hb hC hS (16 * 5 + gk_nb v 5) rfl (by have h9 := gk_nb_lt v 5; omega) dX2_GOST28147_mainStep_127 ?_
  refine lv_bipush (v := 20) hx hb dX2_GOST28147_mainStep_128 (by decide) ?_
  refine lv_ishl hx hb dX2_GOST28147_mainStep_130 ?_
  refine lv_iadd hx hb dX2_GOST28147_mainStep_131 ?_
  refine gk_top (y := nI (gk_sm v 6)) (gk_st v (20 &&& 31) 5 (by decide) (by decide +kernel)) ?_
  refine lv_istore (lv' := [(4, .int (nI (gk_sm v 6))), (3, .int v), (0, .ref h0), (1, .int n1), (2, .int k)]) hx hb dX2_GOST28147_mainStep_132 hl (by decide) rfl (fun ls hl => ?_)
  refine lv_iload hx hb dX2_GOST28147_mainStep_134 (lv_at hl 0 rfl) ?_
  refine lv_aload_n hx hb dX2_GOST28147_mainStep_136 rfl (lv_at hl 2 rfl) ?_
  refine va_get (D := G) (ci := 1) (v := .ref X.1) (C := RX2) (T := TX2) (N := 3) hx hb hts in_X2 hown hK hP 0 rfl rfl 2 (by decide) (hts _ q61) (fun _ h9 => h9) rfl dX2_GOST28147_mainStep_137 ?_
  refine lv_bipush (v := 96) hx hb dX2_GOST28147_mainStep_140 (by decide) ?_
  refine lv_iload_n hx hb dX2_GOST28147_mainStep_142 rfl (lv_at hl 1 rfl) ?_
  refine lv_bipush (v := 24) hx hb dX2_GOST28147_mainStep_143 (by decide) ?_
  refine lv_ishr hx hb dX2_GOST28147_mainStep_145 ?_
  refine lv_bipush (v := 15) hx hb dX2_GOST28147_mainStep_146 (by decide) ?_
  refine lv_iand hx hb dX2_GOST28147_mainStep_148 ?_
  refine gk_top (y := nI (gk_nb v 6)) (gk_sr_nb v (24 &&& 31) 6 (by decide) (by decide +kernel)) ?_
  refine lv_iadd hx hb dX2_GOST28147_mainStep_149 ?_
  refine gk_top (y := nI (16 * 6 + gk_nb v 6)) (nI_add 96 (gk_nb v 6)) ?_
  refine gk_tb hx hb hC hS (16 * 6 + gk_nb v 6) rfl (by have h9 := gk_nb_lt v 6; omega) dX2_GOST28147_mainStep_150 ?_
  refine lv_bipush (v := 24) hx hb dX2_GOST28147_mainStep_151 (by decide) ?_
  refine lv_ishl hx hb dX2_GOST28147_mainStep_153 ?_
  refine lv_iadd hx hb dX2_GOST28147_mainStep_154 ?_
  refine gk_top (y := nI (gk_sm v 7)) (gk_st v (24 &&& 31) 6 (by decide) (by decide +kernel)) ?_
  refine lv_istore (lv' := [(4, .int (nI (gk_sm v 7))), (3, .int v), (0, .ref h0), (1, .int n1), (2, .int k)]) hx hb dX2_GOST28147_mainStep_155 hl (by decide) rfl (fun ls hl => ?_)
  refine lv_iload hx hb dX2_GOST28147_mainStep_157 (lv_at hl 0 rfl) ?_
  refine lv_aload_n hx hb dX2_GOST28147_mainStep_159 rfl (lv_at hl 2 rfl) ?_
  refine va_get (D := G) (ci := 1) (v := .ref X.1) (C := RX2) (T := TX2) (N := 3) hx hb hts in_X2 hown hK hP 0 rfl rfl 2 (by decide) (hts _ q61) (fun _ h9 => h9) rfl dX2_GOST28147_mainStep_160 ?_
  refine lv_bipush (v := 112) hx hb dX2_GOST28147_mainStep_163 (by decide) ?_
  refine lv_iload_n hx hb dX2_GOST28147_mainStep_165 rfl (lv_at hl 1 rfl) ?_
  refine lv_bipush (v := 28) hx hb dX2_GOST28147_mainStep_166 (by decide) ?_
  refine lv_ishr hx hb dX2_GOST28147_mainStep_168 ?_
  refine lv_bipush (v := 15) hx hb dX2_GOST28147_mainStep_169 (by decide) ?_
  refine lv_iand hx hb dX2_GOST28147_mainStep_171 ?_
  refine gk_top (y := nI (gk_nb v 7)) (gk_sr_nb v (28 &&& 31) 7 (by decide) (by decide +kernel)) ?_
  refine lv_iadd hx hb dX2_GOST28147_mainStep_172 ?_
  refine gk_top (y := nI (16 * 7 + gk_nb v 7)) (nI_add 112 (gk_nb v 7)) ?_
  refine gk_tb hx hb hC hS (16 * 7 + gk_nb v 7) rfl (by have h9 := gk_nb_lt v 7; omega) dX2_GOST28147_mainStep_173 ?_
  refine lv_bipush (v := 28) hx hb dX2_GOST28147_mainStep_174 (by decide) ?_
  refine lv_ishl hx hb dX2_GOST28147_mainStep_176 ?_
  refine lv_iadd hx hb dX2_GOST28147_mainStep_177 ?_
  refine gk_top (y := nI (gk_sm v 8)) (gk_st v (28 &&& 31) 7 (by decide) (by decide +kernel)) ?_
  refine lv_istore (lv' := [(4, .int (nI (gk_sm v 8))), (3, .int v), (0, .ref h0), (1, .int n1), (2, .int k)]) hx hb dX2_GOST28147_mainStep_178 hl (by decide) rfl (fun ls hl => ?_)
  refine lv_iload hx hb dX2_GOST28147_mainStep_180 (lv_at hl 0 rfl) ?_
  refine lv_bipush (v := 11) hx hb dX2_GOST28147_mainStep_182 (by decide) ?_
  refine lv_ishl hx hb dX2_GOST28147_mainStep_184 ?_
  refine lv_iload hx hb dX2_GOST28147_mainStep_185 (lv_at hl 0 rfl) ?_
  refine lv_bipush (v := 21) hx hb dX2_GOST28147_mainStep_187 (by decide) ?_
  refine lv_iushr (v := gk_us (nI (gk_sm v 8)) 21) hx hb dX2_GOST28147_mainStep_189 rfl ?_
  refine lv_ior hx hb dX2_GOST28147_mainStep_190 ?_
  exact gk_iret hQ hx hb hr hlocks (Nat.le_of_ble_eq_true rfl) (Nat.le_of_ble_eq_true rfl) hP hD hS () (by rw [← Int32.add_comm k n1, ← ev]; rfl) [0] (by decide) rfl dX2_GOST28147_mainStep_191
end
section
/-! CONTRACTS: the engine: working key, init, the cipher, processBlock -/
set_option maxRecDepth 100000
set_option maxHeartbeats 4000000 in
set_option maxRecDepth 100000 in
/-- generateWorkingKey(o, f): the eight words -/
theorem m_gw (l : Launch) (G : va_G) (c : gk_I) (X : gk_X) (h0 kq : Nat) (f0 : Int32) (o : Bool) (f : Nat → Int8) (sz : Nat) : Met l yX2_generateWorkingKey (ws_ yX2_generateWorkingKey cX2_generateWorkingKey 5 (some (.array .int))) ({ frames := 1, cells := 1, slots := 8, locals := 22 } : Room) (va_Pc [.ref h0, .int (gk_fe o), .ref kq] (gk_U G c X [(h0, .inr (1, [.null, .int f0, .ref X.1])), gk_xb c kq 32 f] sz)) (va_Qr (fun _ : Unit => True) (gk_Br G (fun (_ : Unit) (r : Nat) => [(h0, .inr (1, [.null, .int (gk_fe o), .ref X.1])), gk_xb c kq 32 f, gk_xi c r 8 (gk_key f)]) (va_A [(h0, .inr (1, [.null, .int f0, .ref X.1])), gk_xb c kq 32 f] sz)) (va_A [(h0, .inr (1, [.null, .int f0, .ref X.1])), gk_xb c kq 32 f] sz)) 1 8 (va_A [(h0, .inr (1, [.null, .int f0, .ref X.1])), gk_xb c kq 32 f] sz) := by
  refine gk_ofW (Qf := fun A => va_Qr (fun _ : Unit => True) (gk_Br G (fun (_ : Unit) (r : Nat) => [(h0, .inr (1, [.null, .int (gk_fe o), .ref X.1])), gk_xb c kq 32 f, gk_xi c r 8 (gk_key f)]) A) A) (by decide) (Nat.le_of_ble_eq_true rfl) ?_
  intro p e s m below meth cd ls A Q hQ hx hb hr hlocks hml hown hts hin hK hC hA hP hD hS hl
  have hown : s.vm.findClass RX2 = some m.cls := hown
  have hl : lv_has ls 5 [(0, .ref h0), (1, .int (gk_fe o)), (2, .ref kq)] := hl
  refine lv_aload_n hx hb dX2_generateWorkingKey_0 rfl (lv_at hl 0 rfl) ?_
  refine lv_iload_n hx hb dX2_generateWorkingKey_1 rfl (lv_at hl 1 rfl) ?_
  refine va_put (D := G) (ci := 1) (v := .int (gk_fe o)) (ty := .boolean) (C := RX2) (T := TX2) (N := 3) hx hb hts in_X2 tyX2 tyX2_ok nmX2 hown hK hP hD hS 0 rfl rfl 1 (by decide) (hts _ q60) (fun _ h9 => h9) rfl (by decide +kernel) (gk_fe_n o) (gk_fe_f o) (Nat.le_of_ble_eq_true rfl) dX2_generateWorkingKey_2 (fun H locs hP hD hS => ?_)
  have hP : va_P G vwCl [(h0, .inr (1, [.null, .int (gk_fe o), .ref X.1])), gk_xb c kq 32 f] H := hP
  have hD : va_D A [(h0, .inr (1, [.null, .int (gk_fe o), .ref X.1])), gk_xb c kq 32 f] := hD
  refine lv_aload_n hx hb dX2_generateWorkingKey_5 rfl (lv_at hl 2 rfl) ?_
  refine va_alen (v := 32) hx hb hK hP 1 0 rfl rfl rfl dX2_generateWorkingKey_6 ?_
  refine lv_bipush (v := 32) hx hb dX2_generateWorkingKey_7 (by decide) ?_
  refine gk_jeq (tgt := 22) hx hb 32 32 rfl rfl (by decide) (by decide) dX2_generateWorkingKey_9 (by decide) (fun _ => ?_) (fun h => absurd rfl h)
  refine lv_bipush (v := 8) hx hb dX2_generateWorkingKey_22 (by decide) ?_
  refine gk_newi hx hb (hts _ q251) hK hP hD hS hA 8 (rfl) (by decide) (Nat.le_of_ble_eq_true rfl) (Nat.le_of_ble_eq_true rfl) dX2_generateWorkingKey_24 (fun q H hP hD hS => ?_)
  have hP : va_P G vwCl [(h0, .inr (1, [.null, .int (gk_fe o), .ref X.1])), gk_xb c kq 32 f, gk_xi c q 8 (fun _ => 0)] H := hP
  have hD : va_D A [(h0, .inr (1, [.null, .int (gk_fe o), .ref X.1])), gk_xb c kq 32 f, gk_xi c q 8 (fun _ => 0)] := hD
  refine lv_astore_n (lv' := [(3, .ref q), (0, .ref h0), (1, .int (gk_fe o)), (2, .ref kq)]) hx hb dX2_generateWorkingKey_26 rfl hl (by decide) rfl (fun ls hl => ?_)
  refine lv_iconst (v := 0) hx hb dX2_generateWorkingKey_27 (by decide) ?_
  refine lv_istore (lv' := [(4, .int 0), (3, .ref q), (0, .ref h0), (1, .int (gk_fe o)), (2, .ref kq)]) hx hb dX2_generateWorkingKey_28 hl (by decide) rfl (fun ls hl => ?_)
  have hP : va_P G vwCl [(h0, .inr (1, [.null, .int (gk_fe o), .ref X.1])), gk_xb c kq 32 f, gk_xi c q 8 (gk_cpi (gk_key f) (fun _ => 0) 0)] H := gk_extI hP 2 rfl (gk_cpi (gk_key f) (fun _ => 0) 0) (fun j _ => (congrFun (gk_cpi0 (gk_key f) (fun _ => 0)) j).symm)
  have hD : va_D A [(h0, .inr (1, [.null, .int (gk_fe o), .ref X.1])), gk_xb c kq 32 f, gk_xi c q 8 (gk_cpi (gk_key f) (fun _ => 0) 0)] := va_D.set (p := 2) hD rfl
  have loop : ∀ (n i : Nat), i + n = 8 → ∀ (H : Heap) (locs : List Loc), va_P G vwCl [(h0, .inr (1, [.null, .int (gk_fe o), .ref X.1])), gk_xb c kq 32 f, gk_xi c q 8 (gk_cpi (gk_key f) (fun _ => 0) i)] H → va_D A [(h0, .inr (1, [.null, .int (gk_fe o), .ref X.1])), gk_xb c kq 32 f, gk_xi c q 8 (gk_cpi (gk_key f) (fun _ => 0) i)] → va_S A s.heap H locs → ∀ ls : Array Slot, lv_has ls 5 [(4, .int (nI i)), (3, .ref q), (0, .ref h0), (1, .int (gk_fe o)), (2, .ref kq)] → W p l e ({ frames := 1, cells := 1, slots := 8, locals := 22 } : Room) s m ([.ref h0, .int (gk_fe o), .ref kq] : List Value).toArray below meth cd H locs (0 + 1) (0 + 8) Q (F0 m 30 ls []) := by
    intro n
    induction n with
    | zero =>
      intro i hi H locs hP hD hS ls hl
      refine lv_iload hx hb dX2_generateWorkingKey_30 (lv_at hl 0 rfl) ?_
      refine lv_bipush (v := 8) hx hb dX2_generateWorkingKey_32 (by decide) ?_
      refine gk_jeq (tgt := 56) hx hb i 8 rfl rfl (by omega) (by decide) dX2_generateWorkingKey_34 (by decide) (fun _ => ?_) (fun h => absurd (by omega) h)
      have hP : va_P G vwCl [(h0, .inr (1, [.null, .int (gk_fe o), .ref X.1])), gk_xb c kq 32 f, gk_xi c q 8 (gk_key f)] H := gk_extI hP 2 rfl (gk_key f) (fun j hj => gk_cpiN (gk_key f) (fun _ => 0) i j (by omega))
      have hD : va_D A [(h0, .inr (1, [.null, .int (gk_fe o), .ref X.1])), gk_xb c kq 32 f, gk_xi c q 8 (gk_key f)] := va_D.set (p := 2) hD rfl
      refine lv_aload_n hx hb dX2_generateWorkingKey_56 rfl (lv_at hl 1 rfl) ?_
      exact gk_aret hQ hx hb hr ⟨_, rfl⟩ hlocks (Nat.le_of_ble_eq_true rfl) (Nat.le_of_ble_eq_true rfl) hP hD hS () (trivial) [0, 1, 2] (by decide) rfl dX2_generateWorkingKey_57
    | succ n ih =>
      intro i hi H locs hP hD hS ls hl
      refine lv_iload hx hb dX2_generateWorkingKey_30 (lv_at hl 0 rfl) ?_
      refine lv_bipush (v := 8) hx hb dX2_generateWorkingKey_32 (by decide) ?_
      refine gk_jeq (tgt := 56) hx hb i 8 rfl rfl (by omega) (by decide) dX2_generateWorkingKey_34 (by decide) (fun h => absurd h (by omega)) (fun _ => ?_)
      refine lv_aload_n hx hb dX2_generateWorkingKey_37 rfl (lv_at hl 1 rfl) ?_
      refine lv_iload hx hb dX2_generateWorkingKey_38 (lv_at hl 0 rfl) ?_
      refine lv_aload_n hx hb dX2_generateWorkingKey_40 rfl (lv_at hl 2 rfl) ?_
      refine lv_aload_n hx hb dX2_generateWorkingKey_41 rfl (lv_at hl 4 rfl) ?_
      refine lv_iload hx hb dX2_generateWorkingKey_42 (lv_at hl 0 rfl) ?_
      refine lv_iconst (v := 4) hx hb dX2_generateWorkingKey_44 (by decide) ?_
      refine lv_imul hx hb dX2_generateWorkingKey_45 ?_
      refine gk_top (y := nI (4 * i)) ((pk_mul i 4).trans (congrArg nI (Nat.mul_comm i 4))) ?_
      refine gk_calli (wr := [(h0, .inr (1, [.null, .int (gk_fe o), .ref X.1])), gk_xi c q 8 (gk_cpi (gk_key f) (fun _ => 0) i)]) (va_runV (As := [.ref kq, .int (nI (4 * i))]) (rest := [.int (nI i), .ref q]) ⟨hx, hb, hml, hown, hts⟩ (m_bti l G c X h0 kq 32 f (4 * i) H.size (by decide) (by omega)) (cwV 2 hts (lw_V q211 q213 qs3 q9 q214) rfl rfl rfl (by decide +kernel) ⟨(Nat.le_of_ble_eq_true rfl), (Nat.le_of_ble_eq_true rfl)⟩) ⟨gk_blind, va_recv hK hP (ci := 1) (q0 := 0) rfl rfl, gk_pre hP hD hK hC hS hA [1] rfl (by decide)⟩ rfl rfl hl.1 rfl (lv_room (Nat.le_of_ble_eq_true rfl)) dX2_generateWorkingKey_46 ⟨(Nat.le_of_ble_eq_true rfl), (Nat.le_of_ble_eq_true rfl)⟩) hP hD hS hA [1] [0, 2] rfl rfl (by decide) (by decide) (fun r _ H locs hw hP hD hS => ?_)
      have hP : va_P G vwCl [(h0, .inr (1, [.null, .int (gk_fe o), .ref X.1])), gk_xi c q 8 (gk_cpi (gk_key f) (fun _ => 0) i), gk_xb c kq 32 f] H := hP
      have hD : va_D A [(h0, .inr (1, [.null, .int (gk_fe o), .ref X.1])), gk_xi c q 8 (gk_cpi (gk_key f) (fun _ => 0) i), gk_xb c kq 32 f] := hD
      have hw : r = gk_w f (4 * i) := hw
      subst hw
      refine gk_iast hx hb hK hP hD hS 1 rfl i (rfl) (by omega) (by decide) dX2_generateWorkingKey_49 (fun H locs hP hD hS => ?_)
      have hP : va_P G vwCl [(h0, .inr (1, [.null, .int (gk_fe o), .ref X.1])), gk_xi c q 8 (upd (gk_cpi (gk_key f) (fun _ => 0) i) i (gk_w f (4 * i))), gk_xb c kq 32 f] H := hP
      have hD : va_D A [(h0, .inr (1, [.null, .int (gk_fe o), .ref X.1])), gk_xi c q 8 (upd (gk_cpi (gk_key f) (fun _ => 0) i) i (gk_w f (4 * i))), gk_xb c kq 32 f] := hD
      have hP : va_P G vwCl [(h0, .inr (1, [.null, .int (gk_fe o), .ref X.1])), gk_xi c q 8 (gk_cpi (gk_key f) (fun _ => 0) (i + 1)), gk_xb c kq 32 f] H := gk_extI hP 1 rfl (gk_cpi (gk_key f) (fun _ => 0) (i + 1)) (fun j _ => congrFun (gk_cpi1 (gk_key f) (fun _ => 0) i) j)
      have hD : va_D A [(h0, .inr (1, [.null, .int (gk_fe o), .ref X.1])), gk_xi c q 8 (gk_cpi (gk_key f) (fun _ => 0) (i + 1)), gk_xb c kq 32 f] := va_D.set (p := 1) hD rfl
      refine lv_iinc (v := nI (i + 1)) (lv' := [(4, .int (nI (i + 1))), (3, .ref q), (0, .ref h0), (1, .int (gk_fe o)), (2, .ref kq)]) hx hb dX2_generateWorkingKey_50 hl (k := 0) rfl (gk_inc i) (by decide) rfl (fun ls hl => ?_)
      refine lv_goto (tgt := 30) hx hb dX2_generateWorkingKey_53 (by decide) ?_
      exact ih (i + 1) (by omega) _ _ (gk_Psub hP [0, 2, 1] rfl) (hD.sub [0, 2, 1] (by decide) rfl) hS ls (lv_sub hl [0, 1, 2, 3, 4] rfl)
  exact loop 8 0 rfl _ _ hP hD hS ls (lv_sub hl [0, 1, 2, 3, 4] rfl)

set_option maxHeartbeats 4000000 in
set_option maxRecDepth 100000 in
/-- init(o, key): the working key is made -/
theorem m_in (l : Launch) (G : va_G) (c : gk_I) (X : gk_X) (h0 h1 q : Nat) (f0 : Int32) (o : Bool) (f : Nat → Int8) (sz : Nat) : Met l yX2_init_2 (ws_ yX2_init_2 cX2_init_2 5 none) ({ frames := 2, cells := 1, slots := 8, locals := 46 } : Room) (va_Pc [.ref h0, .int (gk_fe o), .ref h1] (gk_U G c X [(h0, .inr (1, [.null, .int f0, .ref X.1])), (h1, .inr (2, [.ref q])), gk_xb c q 32 f] sz)) (va_Qv (fun u : (Nat × Nat) => True) (gk_B G (fun u : (Nat × Nat) => [(h0, .inr (1, [.ref u.1, .int (gk_fe o), .ref X.1])), (h1, .inr (2, [.ref u.2])), gk_xb c u.2 32 f, gk_xi c u.1 8 (gk_key f)]) (va_A [(h0, .inr (1, [.null, .int f0, .ref X.1])), (h1, .inr (2, [.ref q])), gk_xb c q 32 f] sz)) (va_A [(h0, .inr (1, [.null, .int f0, .ref X.1])), (h1, .inr (2, [.ref q])), gk_xb c q 32 f] sz)) 1 8 (va_A [(h0, .inr (1, [.null, .int f0, .ref X.1])), (h1, .inr (2, [.ref q])), gk_xb c q 32 f] sz) := by
  refine gk_ofW (Qf := fun A => va_Qv (fun u : (Nat × Nat) => True) (gk_B G (fun u : (Nat × Nat) => [(h0, .inr (1, [.ref u.1, .int (gk_fe o), .ref X.1])), (h1, .inr (2, [.ref u.2])), gk_xb c u.2 32 f, gk_xi c u.1 8 (gk_key f)]) A) A) (by decide) (Nat.le_of_ble_eq_true rfl) ?_
  intro p e s m below meth cd ls A Q hQ hx hb hr hlocks hml hown hts hin hK hC hA hP hD hS hl
  have hown : s.vm.findClass RX2 = some m.cls := hown
  have hl : lv_has ls 5 [(0, .ref h0), (1, .int (gk_fe o)), (2, .ref h1)] := hl
  have hin : meth.name = yX2_init_2.name := hin
  refine lv_aload_n hx hb dX2_init_2_0 rfl (lv_at hl 2 rfl) ?_
  refine va_instNo hx hb hown (hts _ q98) hC.2.2.2.2.2 (va_recv hK hP (ci := 2) (q0 := 1) rfl rfl) dX2_init_2_1 ?_
  refine lv_if_eq (tgt := 76) hx hb dX2_init_2_4 (by decide) (fun _ => ?_) (fun h => absurd rfl h)
  refine lv_aload_n hx hb dX2_init_2_76 rfl (lv_at hl 2 rfl) ?_
  refine va_instS hx hb hown (hts _ q201) (hK.1 2 _ rfl).2 (va_recv hK hP (ci := 2) (q0 := 1) rfl rfl) dX2_init_2_77 ?_
  refine lv_if_eq (tgt := 102) hx hb dX2_init_2_80 (by decide) (fun h => absurd h (by decide)) (fun _ => ?_)
  refine lv_aload_n hx hb dX2_init_2_83 rfl (lv_at hl 0 rfl) ?_
  refine lv_aload_n hx hb dX2_init_2_84 rfl (lv_at hl 0 rfl) ?_
  refine lv_iload_n hx hb dX2_init_2_85 rfl (lv_at hl 1 rfl) ?_
  refine lv_aload_n hx hb dX2_init_2_86 rfl (lv_at hl 2 rfl) ?_
  refine va_castS hx hb hown (hts _ q201) (hK.1 2 _ rfl).2 (va_recv hK hP (ci := 2) (q0 := 1) rfl rfl) dX2_init_2_87 ?_
  refine gk_callr (wr := [(h0, .inr (1, [.null, .int f0, .ref X.1]))]) (va_runV (As := []) (rest := [.int (gk_fe o), .ref h0, .ref h0]) ⟨hx, hb, hml, hown, hts⟩ (m_gk l G c X h1 q f s.heap.size) (cwV 0 hts (lw_V q202 q203 q204 q10 q205) rfl rfl rfl (by decide +kernel) ⟨(Nat.le_of_ble_eq_true rfl), (Nat.le_of_ble_eq_true rfl)⟩) ⟨gk_blind, va_recv hK hP (ci := 2) (q0 := 1) rfl rfl, gk_pre hP hD hK hC hS hA [1, 2] rfl (by decide)⟩ rfl rfl hl.1 rfl (lv_room (Nat.le_of_ble_eq_true rfl)) dX2_init_2_90 ⟨(Nat.le_of_ble_eq_true rfl), (Nat.le_of_ble_eq_true rfl)⟩) hP hD hS hA [1, 2] [0] rfl rfl (by decide) (by decide) (fun _ q2 H locs _ hP hD hS => ?_)
  have hP : va_P G vwCl [(h0, .inr (1, [.null, .int f0, .ref X.1])), (h1, .inr (2, [.ref q2])), gk_xb c q2 32 f] H := hP
  have hD : va_D A [(h0, .inr (1, [.null, .int f0, .ref X.1])), (h1, .inr (2, [.ref q2])), gk_xb c q2 32 f] := hD
  refine gk_callr (wr := [(h1, .inr (2, [.ref q2]))]) (va_runV (As := [.int (gk_fe o), .ref q2]) (rest := [.ref h0]) ⟨hx, hb, hml, hown, hts⟩ (m_gw l G c X h0 q2 f0 o f H.size) (cwV 2 hts (lw_V q206 q208 qs2 q9 q209) rfl rfl rfl (by decide +kernel) ⟨(Nat.le_of_ble_eq_true rfl), (Nat.le_of_ble_eq_true rfl)⟩) ⟨gk_blind, va_recv hK hP (ci := 1) (q0 := 0) rfl rfl, gk_pre hP hD hK hC hS hA [0, 2] rfl (by decide)⟩ rfl rfl hl.1 rfl (lv_room (Nat.le_of_ble_eq_true rfl)) dX2_init_2_93 ⟨(Nat.le_of_ble_eq_true rfl), (Nat.le_of_ble_eq_true rfl)⟩) hP hD hS hA [0, 2] [1] rfl rfl (by decide) (by decide) (fun _ wk H locs _ hP hD hS => ?_)
  have hP : va_P G vwCl [(h1, .inr (2, [.ref q2])), (h0, .inr (1, [.null, .int (gk_fe o), .ref X.1])), gk_xb c q2 32 f, gk_xi c wk 8 (gk_key f)] H := hP
  have hD : va_D A [(h1, .inr (2, [.ref q2])), (h0, .inr (1, [.null, .int (gk_fe o), .ref X.1])), gk_xb c q2 32 f, gk_xi c wk 8 (gk_key f)] := hD
  refine va_put (D := G) (ci := 1) (v := .ref wk) (ty := .array .int) (C := RX2) (T := TX2) (N := 3) hx hb hts in_X2 tyX2 tyX2_ok nmX2 hown hK hP hD hS 1 rfl rfl 0 (by decide) (hts _ q59) (fun _ h9 => h9) rfl (by decide +kernel) rfl rfl (Nat.le_of_ble_eq_true rfl) dX2_init_2_96 (fun H locs hP hD hS => ?_)
  have hP : va_P G vwCl [(h1, .inr (2, [.ref q2])), (h0, .inr (1, [.ref wk, .int (gk_fe o), .ref X.1])), gk_xb c q2 32 f, gk_xi c wk 8 (gk_key f)] H := hP
  have hD : va_D A [(h1, .inr (2, [.ref q2])), (h0, .inr (1, [.ref wk, .int (gk_fe o), .ref X.1])), gk_xb c q2 32 f, gk_xi c wk 8 (gk_key f)] := hD
  refine lv_goto (tgt := 116) hx hb dX2_init_2_99 (by decide) ?_
  exact gk_vret hQ hx hb hr hlocks (Nat.le_of_ble_eq_true rfl) (Nat.le_of_ble_eq_true rfl) hP hD hS (wk, q2) (trivial) [1, 0, 2, 3] (by decide) rfl dX2_init_2_116

theorem gk_ixA (k j : Nat) (hk : k < 3) (hj : j < 8) : gk_ix false (8 * k + j) = j := by
  unfold gk_ix
  rw [if_neg (by decide), if_pos (by omega)]
  omega
theorem gk_ixB (j : Nat) (hj : j < 7) : gk_ix false (31 - (j + 1)) = j + 1 := by
  unfold gk_ix
  rw [if_neg (by decide), if_neg (by omega)]
  omega
theorem gk_ixC (k m : Nat) (hk : k < 3) (hm : m < 8) : gk_ix true (16 + 8 * k - (m + 1)) = m := by
  unfold gk_ix
  rw [if_pos rfl, if_neg (by omega)]
  omega
theorem gk_ixD (j : Nat) (hj : j < 8) : gk_ix true j = j := by
  unfold gk_ix
  rw [if_pos rfl, if_pos hj]
theorem gk_put_out (O : Nat → Int8) (r : Int32 × Int32) (j : Nat) (hj : j < 8) : gk_put (gk_put O 0 r.1) 4 r.2 j = gk_out r j := by
  unfold gk_put gk_out
  by_cases h : j < 4
  · rw [if_neg (by omega), if_pos (by omega), if_pos h]
    rfl
  · rw [if_pos (by omega), if_neg h]
set_option maxHeartbeats 4000000 in
set_option maxRecDepth 100000 in
/-- GOST28147Func: the block through the 32 rounds -/
theorem m_fn (l : Launch) (G : va_G) (c : gk_I) (X : gk_X) (h0 wq iq oq : Nat) (o : Bool) (K : Nat → Int32) (B O : Nat → Int8) (sz : Nat) : Met l yX2_GOST28147Func (ws_ yX2_GOST28147Func cX2_GOST28147Func 11 none) ({ frames := 1, cells := 0, slots := 0, locals := 24 } : Room) (va_Pc [.ref h0, .ref wq, .ref iq, .int 0, .ref oq, .int 0] (gk_U G c X [(h0, .inr (1, [.ref wq, .int (gk_fe o), .ref X.1])), gk_xi c wq 8 K, gk_xb c iq 8 B, gk_xb c oq 8 O] sz)) (va_Qv (fun _ : Unit => True) (gk_B G (fun _ : Unit => [(h0, .inr (1, [.ref wq, .int (gk_fe o), .ref X.1])), gk_xi c wq 8 K, gk_xb c iq 8 B, gk_xb c oq 8 (gk_out (gk_run K o (gk_x B)))]) (va_A [(h0, .inr (1, [.ref wq, .int (gk_fe o), .ref X.1])), gk_xi c wq 8 K, gk_xb c iq 8 B, gk_xb c oq 8 O] sz)) (va_A [(h0, .inr (1, [.ref wq, .int (gk_fe o), .ref X.1])), gk_xi c wq 8 K, gk_xb c iq 8 B, gk_xb c oq 8 O] sz)) 0 0 (va_A [(h0, .inr (1, [.ref wq, .int (gk_fe o), .ref X.1])), gk_xi c wq 8 K, gk_xb c iq 8 B, gk_xb c oq 8 O] sz) := by
  refine gk_ofW (Qf := fun A => va_Qv (fun _ : Unit => True) (gk_B G (fun _ : Unit => [(h0, .inr (1, [.ref wq, .int (gk_fe o), .ref X.1])), gk_xi c wq 8 K, gk_xb c iq 8 B, gk_xb c oq 8 (gk_out (gk_run K o (gk_x B)))]) A) A) (by decide) (Nat.le_of_ble_eq_true rfl) ?_
  intro p e s m below meth cd ls A Q hQ hx hb hr hlocks hml hown hts hin hK hC hA hP hD hS hl
  have hown : s.vm.findClass RX2 = some m.cls := hown
  have hl : lv_has ls 11 [(0, .ref h0), (1, .ref wq), (2, .ref iq), (3, .int 0), (4, .ref oq), (5, .int 0)] := hl
  refine lv_aload_n hx hb dX2_GOST28147Func_0 rfl (lv_at hl 0 rfl) ?_
  refine lv_aload_n hx hb dX2_GOST28147Func_1 rfl (lv_at hl 2 rfl) ?_
  refine lv_iload_n hx hb dX2_GOST28147Func_2 rfl (lv_at hl 3 rfl) ?_
  refine gk_calli (wr := [(h0, .inr (1, [.ref wq, .int (gk_fe o), .ref X.1])), gk_xi c wq 8 K, gk_xb c oq 8 O]) (va_runV (As := [.ref iq, .int (nI (0))]) (rest := []) ⟨hx, hb, hml, hown, hts⟩ (m_bti l G c X h0 iq 8 B (0) s.heap.size (by decide) (by decide)) (cwV 2 hts (lw_V q211 q213 qs3 q9 q214) rfl rfl rfl (by decide +kernel) ⟨(Nat.le_of_ble_eq_true rfl), (Nat.le_of_ble_eq_true rfl)⟩) ⟨gk_blind, va_recv hK hP (ci := 1) (q0 := 0) rfl rfl, gk_pre hP hD hK hC hS hA [2] rfl (by decide)⟩ rfl rfl hl.1 rfl (lv_room (Nat.le_of_ble_eq_true rfl)) dX2_GOST28147Func_3 ⟨(Nat.le_of_ble_eq_true rfl), (Nat.le_of_ble_eq_true rfl)⟩) hP hD hS hA [2] [0, 1, 3] rfl rfl (by decide) (by decide) (fun r _ H locs hw hP hD hS => ?_)
  have hP : va_P G vwCl [(h0, .inr (1, [.ref wq, .int (gk_fe o), .ref X.1])), gk_xi c wq 8 K, gk_xb c oq 8 O, gk_xb c iq 8 B] H := hP
  have hD : va_D A [(h0, .inr (1, [.ref wq, .int (gk_fe o), .ref X.1])), gk_xi c wq 8 K, gk_xb c oq 8 O, gk_xb c iq 8 B] := hD
  have hw : r = gk_w B (0) := hw
  subst hw
  refine lv_istore (lv' := [(6, .int (gk_w B (0))), (0, .ref h0), (1, .ref wq), (2, .ref iq), (3, .int 0), (4, .ref oq), (5, .int 0)]) hx hb dX2_GOST28147Func_6 hl (by decide) rfl (fun ls hl => ?_)
  refine lv_aload_n hx hb dX2_GOST28147Func_8 rfl (lv_at hl 1 rfl) ?_
  refine lv_aload_n hx hb dX2_GOST28147Func_9 rfl (lv_at hl 3 rfl) ?_
  refine lv_iload_n hx hb dX2_GOST28147Func_10 rfl (lv_at hl 4 rfl) ?_
  refine lv_iconst (v := 4) hx hb dX2_GOST28147Func_11 (by decide) ?_
  refine lv_iadd hx hb dX2_GOST28147Func_12 ?_
  refine gk_top (y := nI 4) (by decide +kernel) ?_
  refine gk_calli (wr := [(h0, .inr (1, [.ref wq, .int (gk_fe o), .ref X.1])), gk_xi c wq 8 K, gk_xb c oq 8 O]) (va_runV (As := [.ref iq, .int (nI (4))]) (rest := []) ⟨hx, hb, hml, hown, hts⟩ (m_bti l G c X h0 iq 8 B (4) H.size (by decide) (by decide)) (cwV 2 hts (lw_V q211 q213 qs3 q9 q214) rfl rfl rfl (by decide +kernel) ⟨(Nat.le_of_ble_eq_true rfl), (Nat.le_of_ble_eq_true rfl)⟩) ⟨gk_blind, va_recv hK hP (ci := 1) (q0 := 0) rfl rfl, gk_pre hP hD hK hC hS hA [3] rfl (by decide)⟩ rfl rfl hl.1 rfl (lv_room (Nat.le_of_ble_eq_true rfl)) dX2_GOST28147Func_13 ⟨(Nat.le_of_ble_eq_true rfl), (Nat.le_of_ble_eq_true rfl)⟩) hP hD hS hA [3] [0, 1, 2] rfl rfl (by decide) (by decide) (fun r _ H locs hw hP hD hS => ?_)
  have hP : va_P G vwCl [(h0, .inr (1, [.ref wq, .int (gk_fe o), .ref X.1])), gk_xi c wq 8 K, gk_xb c oq 8 O, gk_xb c iq 8 B] H := hP
  have hD : va_D A [(h0, .inr (1, [.ref wq, .int (gk_fe o), .ref X.1])), gk_xi c wq 8 K, gk_xb c oq 8 O, gk_xb c iq 8 B] := hD
  have hw : r = gk_w B (4) := hw
  subst hw
  refine lv_istore (lv' := [(7, .int (gk_w B (4))), (6, .int (gk_w B (0))), (0, .ref h0), (1, .ref wq), (2, .ref iq), (3, .int 0), (4, .ref oq), (5, .int 0)]) hx hb dX2_GOST28147Func_16 hl (by decide) rfl (fun ls hl => ?_)
  have hP : va_P G vwCl [(h0, .inr (1, [.ref wq, .int (gk_fe o), .ref X.1])), gk_xi c wq 8 K, gk_xb c iq 8 B, gk_xb c oq 8 O] H := gk_Psub hP [0, 1, 3, 2] rfl
  have hD : va_D A [(h0, .inr (1, [.ref wq, .int (gk_fe o), .ref X.1])), gk_xi c wq 8 K, gk_xb c iq 8 B, gk_xb c oq 8 O] := hD.sub [0, 1, 3, 2] (by decide) rfl
  have tail : ∀ (H : Heap) (locs : List Loc), va_P G vwCl [(h0, .inr (1, [.ref wq, .int (gk_fe o), .ref X.1])), gk_xi c wq 8 K, gk_xb c iq 8 B, gk_xb c oq 8 O] H → va_D A [(h0, .inr (1, [.ref wq, .int (gk_fe o), .ref X.1])), gk_xi c wq 8 K, gk_xb c iq 8 B, gk_xb c oq 8 O] → va_S A s.heap H locs → ∀ ls : Array Slot, lv_has ls 11 [(0, .ref h0), (1, .ref wq), (2, .ref iq), (3, .int 0), (4, .ref oq), (5, .int 0), (6, .int ((gk_it K o (gk_x B) (31)).1)), (7, .int ((gk_it K o (gk_x B) (31)).2))] → W p l e ({ frames := 1, cells := 0, slots := 0, locals := 24 } : Room) s m ([.ref h0, .ref wq, .ref iq, .int 0, .ref oq, .int 0] : List Value).toArray below meth cd H locs 0 0 Q (F0 m 226 ls []) := by
    intro H locs hP hD hS ls hl
    refine lv_iload hx hb dX2_GOST28147Func_226 (lv_at hl 7 rfl) ?_
    refine lv_aload_n hx hb dX2_GOST28147Func_228 rfl (lv_at hl 0 rfl) ?_
    refine lv_iload hx hb dX2_GOST28147Func_229 (lv_at hl 6 rfl) ?_
    refine lv_aload_n hx hb dX2_GOST28147Func_231 rfl (lv_at hl 1 rfl) ?_
    refine lv_iconst (v := 0) hx hb dX2_GOST28147Func_232 (by decide) ?_
    refine gk_iald hx hb hK hP 1 rfl 0 (rfl) (by decide) (by decide) dX2_GOST28147Func_233 ?_
    refine gk_calli (wr := [gk_xi c wq 8 K, gk_xb c iq 8 B, gk_xb c oq 8 O]) (va_runV (As := [.int ((gk_it K o (gk_x B) (31)).1), .int (K 0)]) (rest := [.int ((gk_it K o (gk_x B) (31)).2)]) ⟨hx, hb, hml, hown, hts⟩ (m_ms l G c X h0 (.ref wq) (gk_fe o) ((gk_it K o (gk_x B) (31)).1) (K 0) H.size) (cwV 2 hts (lw_V q273 q275 qs5 q9 q276) rfl rfl rfl (by decide +kernel) ⟨(Nat.le_of_ble_eq_true rfl), (Nat.le_of_ble_eq_true rfl)⟩) ⟨gk_blind, va_recv hK hP (ci := 1) (q0 := 0) rfl rfl, gk_pre hP hD hK hC hS hA [0] rfl (by decide)⟩ rfl rfl hl.1 rfl (lv_room (Nat.le_of_ble_eq_true rfl)) dX2_GOST28147Func_234 ⟨(Nat.le_of_ble_eq_true rfl), (Nat.le_of_ble_eq_true rfl)⟩) hP hD hS hA [0] [1, 2, 3] rfl rfl (by decide) (by decide) (fun r _ H locs hw hP hD hS => ?_)
    have hP : va_P G vwCl [gk_xi c wq 8 K, gk_xb c iq 8 B, gk_xb c oq 8 O, (h0, .inr (1, [.ref wq, .int (gk_fe o), .ref X.1]))] H := hP
    have hD : va_D A [gk_xi c wq 8 K, gk_xb c iq 8 B, gk_xb c oq 8 O, (h0, .inr (1, [.ref wq, .int (gk_fe o), .ref X.1]))] := hD
    have hw : r = gk_f (((gk_it K o (gk_x B) (31)).1) + (K 0)) := hw
    subst hw
    have hP : va_P G vwCl [(h0, .inr (1, [.ref wq, .int (gk_fe o), .ref X.1])), gk_xi c wq 8 K, gk_xb c iq 8 B, gk_xb c oq 8 O] H := gk_Psub hP [3, 0, 1, 2] rfl
    have hD : va_D A [(h0, .inr (1, [.ref wq, .int (gk_fe o), .ref X.1])), gk_xi c wq 8 K, gk_xb c iq 8 B, gk_xb c oq 8 O] := hD.sub [3, 0, 1, 2] (by decide) rfl
    refine lv_ixor hx hb dX2_GOST28147Func_237 ?_
    refine gk_top (y := (gk_run K o (gk_x B)).2) (gk_runB K o (gk_x B)) ?_
    refine lv_istore (lv' := [(7, .int ((gk_run K o (gk_x B)).2)), (0, .ref h0), (1, .ref wq), (2, .ref iq), (3, .int 0), (4, .ref oq), (5, .int 0), (6, .int ((gk_it K o (gk_x B) (31)).1))]) hx hb dX2_GOST28147Func_238 hl (by decide) rfl (fun ls hl => ?_)
    refine lv_aload_n hx hb dX2_GOST28147Func_240 rfl (lv_at hl 1 rfl) ?_
    refine lv_iload hx hb dX2_GOST28147Func_241 (lv_at hl 7 rfl) ?_
    refine gk_top (y := (gk_run K o (gk_x B)).1) (gk_runA K o (gk_x B)) ?_
    refine lv_aload hx hb dX2_GOST28147Func_243 (lv_at hl 5 rfl) ?_
    refine lv_iload hx hb dX2_GOST28147Func_245 (lv_at hl 6 rfl) ?_
    refine gk_callv (wr := [(h0, .inr (1, [.ref wq, .int (gk_fe o), .ref X.1])), gk_xi c wq 8 K, gk_xb c iq 8 B]) (va_runV (As := [.int ((gk_run K o (gk_x B)).1), .ref oq, .int (nI 0)]) (rest := []) ⟨hx, hb, hml, hown, hts⟩ (m_itb l G c X h0 oq 8 O 0 ((gk_run K o (gk_x B)).1) H.size (by decide) (by decide)) (cwV 3 hts (lw_V q277 q279 qs6 q9 q280) rfl rfl rfl (by decide +kernel) ⟨(Nat.le_of_ble_eq_true rfl), (Nat.le_of_ble_eq_true rfl)⟩) ⟨gk_blind, va_recv hK hP (ci := 1) (q0 := 0) rfl rfl, gk_pre hP hD hK hC hS hA [3] rfl (by decide)⟩ rfl rfl hl.1 rfl (lv_room (Nat.le_of_ble_eq_true rfl)) dX2_GOST28147Func_247 ⟨(Nat.le_of_ble_eq_true rfl), (Nat.le_of_ble_eq_true rfl)⟩) hP hD hS hA [3] [0, 1, 2] rfl rfl (by decide) (by decide) (fun _ H locs _ hP hD hS => ?_)
    have hP : va_P G vwCl [(h0, .inr (1, [.ref wq, .int (gk_fe o), .ref X.1])), gk_xi c wq 8 K, gk_xb c iq 8 B, gk_xb c oq 8 (gk_put O 0 ((gk_run K o (gk_x B)).1))] H := hP
    have hD : va_D A [(h0, .inr (1, [.ref wq, .int (gk_fe o), .ref X.1])), gk_xi c wq 8 K, gk_xb c iq 8 B, gk_xb c oq 8 (gk_put O 0 ((gk_run K o (gk_x B)).1))] := hD
    refine lv_aload_n hx hb dX2_GOST28147Func_250 rfl (lv_at hl 1 rfl) ?_
    refine lv_iload hx hb dX2_GOST28147Func_251 (lv_at hl 0 rfl) ?_
    refine lv_aload hx hb dX2_GOST28147Func_253 (lv_at hl 5 rfl) ?_
    refine lv_iload hx hb dX2_GOST28147Func_255 (lv_at hl 6 rfl) ?_
    refine lv_iconst (v := 4) hx hb dX2_GOST28147Func_257 (by decide) ?_
    refine lv_iadd hx hb dX2_GOST28147Func_258 ?_
    refine gk_top (y := nI 4) (by decide +kernel) ?_
    refine gk_callv (wr := [(h0, .inr (1, [.ref wq, .int (gk_fe o), .ref X.1])), gk_xi c wq 8 K, gk_xb c iq 8 B]) (va_runV (As := [.int ((gk_run K o (gk_x B)).2), .ref oq, .int (nI 4)]) (rest := []) ⟨hx, hb, hml, hown, hts⟩ (m_itb l G c X h0 oq 8 (gk_put O 0 (gk_run K o (gk_x B)).1) 4 ((gk_run K o (gk_x B)).2) H.size (by decide) (by decide)) (cwV 3 hts (lw_V q277 q279 qs6 q9 q280) rfl rfl rfl (by decide +kernel) ⟨(Nat.le_of_ble_eq_true rfl), (Nat.le_of_ble_eq_true rfl)⟩) ⟨gk_blind, va_recv hK hP (ci := 1) (q0 := 0) rfl rfl, gk_pre hP hD hK hC hS hA [3] rfl (by decide)⟩ rfl rfl hl.1 rfl (lv_room (Nat.le_of_ble_eq_true rfl)) dX2_GOST28147Func_259 ⟨(Nat.le_of_ble_eq_true rfl), (Nat.le_of_ble_eq_true rfl)⟩) hP hD hS hA [3] [0, 1, 2] rfl rfl (by decide) (by decide) (fun _ H locs _ hP hD hS => ?_)
    have hP : va_P G vwCl [(h0, .inr (1, [.ref wq, .int (gk_fe o), .ref X.1])), gk_xi c wq 8 K, gk_xb c iq 8 B, gk_xb c oq 8 (gk_put (gk_put O 0 (gk_run K o (gk_x B)).1) 4 ((gk_run K o (gk_x B)).2))] H := hP
    have hD : va_D A [(h0, .inr (1, [.ref wq, .int (gk_fe o), .ref X.1])), gk_xi c wq 8 K, gk_xb c iq 8 B, gk_xb c oq 8 (gk_put (gk_put O 0 (gk_run K o (gk_x B)).1) 4 ((gk_run K o (gk_x B)).2))] := hD
    have hP : va_P G vwCl [(h0, .inr (1, [.ref wq, .int (gk_fe o), .ref X.1])), gk_xi c wq 8 K, gk_xb c iq 8 B, gk_xb c oq 8 (gk_out (gk_run K o (gk_x B)))] H := gk_ext hP 3 rfl (gk_out (gk_run K o (gk_x B))) (fun j hj => gk_put_out O (gk_run K o (gk_x B)) j hj)
    have hD : va_D A [(h0, .inr (1, [.ref wq, .int (gk_fe o), .ref X.1])), gk_xi c wq 8 K, gk_xb c iq 8 B, gk_xb c oq 8 (gk_out (gk_run K o (gk_x B)))] := va_D.set (p := 3) hD rfl
    exact gk_vret hQ hx hb hr hlocks (Nat.le_of_ble_eq_true rfl) (Nat.le_of_ble_eq_true rfl) hP hD hS () (trivial) [0, 1, 2, 3] (by decide) rfl dX2_GOST28147Func_262
  have hl : lv_has ls 11 [(0, .ref h0), (1, .ref wq), (2, .ref iq), (3, .int 0), (4, .ref oq), (5, .int 0), (6, .int ((gk_it K o (gk_x B) (0)).1)), (7, .int ((gk_it K o (gk_x B) (0)).2))] := lv_sub hl [2, 3, 4, 5, 6, 7, 1, 0] rfl
  cases o with
  | false =>
    have inner : ∀ k : Nat, k < 3 → (∀ (H : Heap) (locs : List Loc), va_P G vwCl [(h0, .inr (1, [.ref wq, .int (gk_fe false), .ref X.1])), gk_xi c wq 8 K, gk_xb c iq 8 B, gk_xb c oq 8 O] H → va_D A [(h0, .inr (1, [.ref wq, .int (gk_fe false), .ref X.1])), gk_xi c wq 8 K, gk_xb c iq 8 B, gk_xb c oq 8 O] → va_S A s.heap H locs → ∀ ls : Array Slot, lv_has ls 11 [(0, .ref h0), (1, .ref wq), (2, .ref iq), (3, .int 0), (4, .ref oq), (5, .int 0), (6, .int ((gk_it K false (gk_x B) (8 * k + 8)).1)), (7, .int ((gk_it K false (gk_x B) (8 * k + 8)).2)), (9, .int (nI k))] → W p l e ({ frames := 1, cells := 0, slots := 0, locals := 24 } : Room) s m ([.ref h0, .ref wq, .ref iq, .int 0, .ref oq, .int 0] : List Value).toArray below meth cd H locs 0 0 Q (F0 m 73 ls [])) → ∀ (n j : Nat), j + n = 8 → ∀ (H : Heap) (locs : List Loc), va_P G vwCl [(h0, .inr (1, [.ref wq, .int (gk_fe false), .ref X.1])), gk_xi c wq 8 K, gk_xb c iq 8 B, gk_xb c oq 8 O] H → va_D A [(h0, .inr (1, [.ref wq, .int (gk_fe false), .ref X.1])), gk_xi c wq 8 K, gk_xb c iq 8 B, gk_xb c oq 8 O] → va_S A s.heap H locs → ∀ ls : Array Slot, lv_has ls 11 [(0, .ref h0), (1, .ref wq), (2, .ref iq), (3, .int 0), (4, .ref oq), (5, .int 0), (6, .int ((gk_it K false (gk_x B) (8 * k + j)).1)), (7, .int ((gk_it K false (gk_x B) (8 * k + j)).2)), (9, .int (nI k)), (10, .int (nI j))] → W p l e ({ frames := 1, cells := 0, slots := 0, locals := 24 } : Room) s m ([.ref h0, .ref wq, .ref iq, .int 0, .ref oq, .int 0] : List Value).toArray below meth cd H locs 0 0 Q (F0 m 37 ls []) := by
      intro k hk hex n
      induction n with
      | zero =>
        intro j hj H locs hP hD hS ls hl
        obtain rfl : j = 8 := by omega
        refine lv_iload hx hb dX2_GOST28147Func_37 (lv_at hl 9 rfl) ?_
        refine lv_bipush (v := 8) hx hb dX2_GOST28147Func_39 (by decide) ?_
        refine gk_jge (tgt := 73) hx hb 8 8 rfl rfl (by decide) (by decide) dX2_GOST28147Func_41 (by decide) (fun _ => ?_) (fun h => absurd h (by decide))
        exact hex _ _ hP hD hS ls (lv_sub hl [0, 1, 2, 3, 4, 5, 6, 7, 8] rfl)
      | succ n ih =>
        intro j hj H locs hP hD hS ls hl
        refine lv_iload hx hb dX2_GOST28147Func_37 (lv_at hl 9 rfl) ?_
        refine lv_bipush (v := 8) hx hb dX2_GOST28147Func_39 (by decide) ?_
        refine gk_jge (tgt := 73) hx hb j 8 rfl rfl (by omega) (by decide) dX2_GOST28147Func_41 (by decide) (fun h => absurd h (by omega)) (fun _ => ?_)
        refine lv_iload hx hb dX2_GOST28147Func_44 (lv_at hl 6 rfl) ?_
        refine lv_istore (lv' := [(8, .int ((gk_it K false (gk_x B) (8 * k + j)).1)), (0, .ref h0), (1, .ref wq), (2, .ref iq), (3, .int 0), (4, .ref oq), (5, .int 0), (6, .int ((gk_it K false (gk_x B) (8 * k + j)).1)), (7, .int ((gk_it K false (gk_x B) (8 * k + j)).2)), (9, .int (nI k)), (10, .int (nI j))]) hx hb dX2_GOST28147Func_46 hl (by decide) rfl (fun ls hl => ?_)
        refine lv_iload hx hb dX2_GOST28147Func_48 (lv_at hl 8 rfl) ?_
        refine lv_aload_n hx hb dX2_GOST28147Func_50 rfl (lv_at hl 1 rfl) ?_
        refine lv_iload hx hb dX2_GOST28147Func_51 (lv_at hl 7 rfl) ?_
        refine lv_aload_n hx hb dX2_GOST28147Func_53 rfl (lv_at hl 2 rfl) ?_
        refine lv_iload hx hb dX2_GOST28147Func_54 (lv_at hl 10 rfl) ?_
        refine gk_iald hx hb hK hP 1 rfl j (rfl) (by omega) (by decide) dX2_GOST28147Func_56 ?_
        refine gk_calli (wr := [gk_xi c wq 8 K, gk_xb c iq 8 B, gk_xb c oq 8 O]) (va_runV (As := [.int ((gk_it K false (gk_x B) (8 * k + j)).1), .int (K j)]) (rest := [.int ((gk_it K false (gk_x B) (8 * k + j)).2)]) ⟨hx, hb, hml, hown, hts⟩ (m_ms l G c X h0 (.ref wq) (gk_fe false) ((gk_it K false (gk_x B) (8 * k + j)).1) (K j) H.size) (cwV 2 hts (lw_V q273 q275 qs5 q9 q276) rfl rfl rfl (by decide +kernel) ⟨(Nat.le_of_ble_eq_true rfl), (Nat.le_of_ble_eq_true rfl)⟩) ⟨gk_blind, va_recv hK hP (ci := 1) (q0 := 0) rfl rfl, gk_pre hP hD hK hC hS hA [0] rfl (by decide)⟩ rfl rfl hl.1 rfl (lv_room (Nat.le_of_ble_eq_true rfl)) dX2_GOST28147Func_57 ⟨(Nat.le_of_ble_eq_true rfl), (Nat.le_of_ble_eq_true rfl)⟩) hP hD hS hA [0] [1, 2, 3] rfl rfl (by decide) (by decide) (fun r _ H locs hw hP hD hS => ?_)
        have hP : va_P G vwCl [gk_xi c wq 8 K, gk_xb c iq 8 B, gk_xb c oq 8 O, (h0, .inr (1, [.ref wq, .int (gk_fe false), .ref X.1]))] H := hP
        have hD : va_D A [gk_xi c wq 8 K, gk_xb c iq 8 B, gk_xb c oq 8 O, (h0, .inr (1, [.ref wq, .int (gk_fe false), .ref X.1]))] := hD
        have hw : r = gk_f (((gk_it K false (gk_x B) (8 * k + j)).1) + (K j)) := hw
        subst hw
        have hP : va_P G vwCl [(h0, .inr (1, [.ref wq, .int (gk_fe false), .ref X.1])), gk_xi c wq 8 K, gk_xb c iq 8 B, gk_xb c oq 8 O] H := gk_Psub hP [3, 0, 1, 2] rfl
        have hD : va_D A [(h0, .inr (1, [.ref wq, .int (gk_fe false), .ref X.1])), gk_xi c wq 8 K, gk_xb c iq 8 B, gk_xb c oq 8 O] := hD.sub [3, 0, 1, 2] (by decide) rfl
        refine lv_ixor hx hb dX2_GOST28147Func_60 ?_
        refine gk_top (y := (gk_it K false (gk_x B) (8 * k + j + 1)).1) (gk_itA K false (gk_x B) (8 * k + j) j (gk_ixA k j hk (by omega))) ?_
        refine lv_istore (lv' := [(6, .int ((gk_it K false (gk_x B) (8 * k + j + 1)).1)), (8, .int ((gk_it K false (gk_x B) (8 * k + j)).1)), (0, .ref h0), (1, .ref wq), (2, .ref iq), (3, .int 0), (4, .ref oq), (5, .int 0), (7, .int ((gk_it K false (gk_x B) (8 * k + j)).2)), (9, .int (nI k)), (10, .int (nI j))]) hx hb dX2_GOST28147Func_61 hl (by decide) rfl (fun ls hl => ?_)
        refine lv_iload hx hb dX2_GOST28147Func_63 (lv_at hl 1 rfl) ?_
        refine gk_top (y := (gk_it K false (gk_x B) (8 * k + j + 1)).2) (rfl) ?_
        refine lv_istore (lv' := [(7, .int ((gk_it K false (gk_x B) (8 * k + j + 1)).2)), (6, .int ((gk_it K false (gk_x B) (8 * k + j + 1)).1)), (8, .int ((gk_it K false (gk_x B) (8 * k + j)).1)), (0, .ref h0), (1, .ref wq), (2, .ref iq), (3, .int 0), (4, .ref oq), (5, .int 0), (9, .int (nI k)), (10, .int (nI j))]) hx hb dX2_GOST28147Func_65 hl (by decide) rfl (fun ls hl => ?_)
        refine lv_iinc (v := nI (j + 1)) (lv' := [(10, .int (nI (j + 1))), (7, .int ((gk_it K false (gk_x B) (8 * k + j + 1)).2)), (6, .int ((gk_it K false (gk_x B) (8 * k + j + 1)).1)), (8, .int ((gk_it K false (gk_x B) (8 * k + j)).1)), (0, .ref h0), (1, .ref wq), (2, .ref iq), (3, .int 0), (4, .ref oq), (5, .int 0), (9, .int (nI k))]) hx hb dX2_GOST28147Func_67 hl (k := 10) rfl (gk_inc j) (by decide) rfl (fun ls hl => ?_)
        refine lv_goto (tgt := 37) hx hb dX2_GOST28147Func_70 (by decide) ?_
        exact ih (j + 1) (by omega) _ _ hP hD hS ls (lv_sub hl [4, 5, 6, 7, 8, 9, 2, 1, 10, 0] rfl)
    have last : ∀ j : Nat, j ≤ 7 → ∀ (H : Heap) (locs : List Loc), va_P G vwCl [(h0, .inr (1, [.ref wq, .int (gk_fe false), .ref X.1])), gk_xi c wq 8 K, gk_xb c iq 8 B, gk_xb c oq 8 O] H → va_D A [(h0, .inr (1, [.ref wq, .int (gk_fe false), .ref X.1])), gk_xi c wq 8 K, gk_xb c iq 8 B, gk_xb c oq 8 O] → va_S A s.heap H locs → ∀ ls : Array Slot, lv_has ls 11 [(0, .ref h0), (1, .ref wq), (2, .ref iq), (3, .int 0), (4, .ref oq), (5, .int 0), (6, .int ((gk_it K false (gk_x B) (31 - j)).1)), (7, .int ((gk_it K false (gk_x B) (31 - j)).2)), (9, .int (nI j))] → W p l e ({ frames := 1, cells := 0, slots := 0, locals := 24 } : Room) s m ([.ref h0, .ref wq, .ref iq, .int 0, .ref oq, .int 0] : List Value).toArray below meth cd H locs 0 0 Q (F0 m 83 ls []) := by
      intro j
      induction j with
      | zero =>
        intro hj H locs hP hD hS ls hl
        refine lv_iload hx hb dX2_GOST28147Func_83 (lv_at hl 8 rfl) ?_
        refine gk_zle (tgt := 117) hx hb 0 rfl (by decide) dX2_GOST28147Func_85 (by decide) (fun _ => ?_) (fun h => absurd h (by decide))
        refine lv_goto (tgt := 226) hx hb dX2_GOST28147Func_117 (by decide) ?_
        exact tail _ _ hP hD hS ls (lv_sub hl [0, 1, 2, 3, 4, 5, 6, 7] rfl)
      | succ j ih =>
        intro hj H locs hP hD hS ls hl
        refine lv_iload hx hb dX2_GOST28147Func_83 (lv_at hl 8 rfl) ?_
        refine gk_zle (tgt := 117) hx hb (j + 1) rfl (by omega) dX2_GOST28147Func_85 (by decide) (fun h => absurd h (by omega)) (fun _ => ?_)
        refine lv_iload hx hb dX2_GOST28147Func_88 (lv_at hl 6 rfl) ?_
        refine lv_istore (lv' := [(8, .int ((gk_it K false (gk_x B) (31 - (j + 1))).1)), (0, .ref h0), (1, .ref wq), (2, .ref iq), (3, .int 0), (4, .ref oq), (5, .int 0), (6, .int ((gk_it K false (gk_x B) (31 - (j + 1))).1)), (7, .int ((gk_it K false (gk_x B) (31 - (j + 1))).2)), (9, .int (nI (j + 1)))]) hx hb dX2_GOST28147Func_90 hl (by decide) rfl (fun ls hl => ?_)
        refine lv_iload hx hb dX2_GOST28147Func_92 (lv_at hl 8 rfl) ?_
        refine lv_aload_n hx hb dX2_GOST28147Func_94 rfl (lv_at hl 1 rfl) ?_
        refine lv_iload hx hb dX2_GOST28147Func_95 (lv_at hl 7 rfl) ?_
        refine lv_aload_n hx hb dX2_GOST28147Func_97 rfl (lv_at hl 2 rfl) ?_
        refine lv_iload hx hb dX2_GOST28147Func_98 (lv_at hl 9 rfl) ?_
        refine gk_iald hx hb hK hP 1 rfl (j + 1) (rfl) (by omega) (by decide) dX2_GOST28147Func_100 ?_
        refine gk_calli (wr := [gk_xi c wq 8 K, gk_xb c iq 8 B, gk_xb c oq 8 O]) (va_runV (As := [.int ((gk_it K false (gk_x B) (31 - (j + 1))).1), .int (K (j + 1))]) (rest := [.int ((gk_it K false (gk_x B) (31 - (j + 1))).2)]) ⟨hx, hb, hml, hown, hts⟩ (m_ms l G c X h0 (.ref wq) (gk_fe false) ((gk_it K false (gk_x B) (31 - (j + 1))).1) (K (j + 1)) H.size) (cwV 2 hts (lw_V q273 q275 qs5 q9 q276) rfl rfl rfl (by decide +kernel) ⟨(Nat.le_of_ble_eq_true rfl), (Nat.le_of_ble_eq_true rfl)⟩) ⟨gk_blind, va_recv hK hP (ci := 1) (q0 := 0) rfl rfl, gk_pre hP hD hK hC hS hA [0] rfl (by decide)⟩ rfl rfl hl.1 rfl (lv_room (Nat.le_of_ble_eq_true rfl)) dX2_GOST28147Func_101 ⟨(Nat.le_of_ble_eq_true rfl), (Nat.le_of_ble_eq_true rfl)⟩) hP hD hS hA [0] [1, 2, 3] rfl rfl (by decide) (by decide) (fun r _ H locs hw hP hD hS => ?_)
        have hP : va_P G vwCl [gk_xi c wq 8 K, gk_xb c iq 8 B, gk_xb c oq 8 O, (h0, .inr (1, [.ref wq, .int (gk_fe false), .ref X.1]))] H := hP
        have hD : va_D A [gk_xi c wq 8 K, gk_xb c iq 8 B, gk_xb c oq 8 O, (h0, .inr (1, [.ref wq, .int (gk_fe false), .ref X.1]))] := hD
        have hw : r = gk_f (((gk_it K false (gk_x B) (31 - (j + 1))).1) + (K (j + 1))) := hw
        subst hw
        have hP : va_P G vwCl [(h0, .inr (1, [.ref wq, .int (gk_fe false), .ref X.1])), gk_xi c wq 8 K, gk_xb c iq 8 B, gk_xb c oq 8 O] H := gk_Psub hP [3, 0, 1, 2] rfl
        have hD : va_D A [(h0, .inr (1, [.ref wq, .int (gk_fe false), .ref X.1])), gk_xi c wq 8 K, gk_xb c iq 8 B, gk_xb c oq 8 O] := hD.sub [3, 0, 1, 2] (by decide) rfl
        refine lv_ixor hx hb dX2_GOST28147Func_104 ?_
        refine gk_top (y := (gk_it K false (gk_x B) (31 - (j + 1) + 1)).1) (gk_itA K false (gk_x B) (31 - (j + 1)) (j + 1) (gk_ixB j (by omega))) ?_
        refine lv_istore (lv' := [(6, .int ((gk_it K false (gk_x B) (31 - (j + 1) + 1)).1)), (8, .int ((gk_it K false (gk_x B) (31 - (j + 1))).1)), (0, .ref h0), (1, .ref wq), (2, .ref iq), (3, .int 0), (4, .ref oq), (5, .int 0), (7, .int ((gk_it K false (gk_x B) (31 - (j + 1))).2)), (9, .int (nI (j + 1)))]) hx hb dX2_GOST28147Func_105 hl (by decide) rfl (fun ls hl => ?_)
        refine lv_iload hx hb dX2_GOST28147Func_107 (lv_at hl 1 rfl) ?_
        refine gk_top (y := (gk_it K false (gk_x B) (31 - (j + 1) + 1)).2) (rfl) ?_
        refine lv_istore (lv' := [(7, .int ((gk_it K false (gk_x B) (31 - (j + 1) + 1)).2)), (6, .int ((gk_it K false (gk_x B) (31 - (j + 1) + 1)).1)), (8, .int ((gk_it K false (gk_x B) (31 - (j + 1))).1)), (0, .ref h0), (1, .ref wq), (2, .ref iq), (3, .int 0), (4, .ref oq), (5, .int 0), (9, .int (nI (j + 1)))]) hx hb dX2_GOST28147Func_109 hl (by decide) rfl (fun ls hl => ?_)
        refine lv_iinc (v := nI j) (lv' := [(9, .int (nI j)), (7, .int ((gk_it K false (gk_x B) (31 - (j + 1) + 1)).2)), (6, .int ((gk_it K false (gk_x B) (31 - (j + 1) + 1)).1)), (8, .int ((gk_it K false (gk_x B) (31 - (j + 1))).1)), (0, .ref h0), (1, .ref wq), (2, .ref iq), (3, .int 0), (4, .ref oq), (5, .int 0)]) hx hb dX2_GOST28147Func_111 hl (k := 9) rfl (gk_dec j) (by decide) rfl (fun ls hl => ?_)
        refine lv_goto (tgt := 83) hx hb dX2_GOST28147Func_114 (by decide) ?_
        have e9 : 31 - (j + 1) + 1 = 31 - j := by omega
        rw [e9] at hl
        exact ih (by omega) _ _ hP hD hS ls (lv_sub hl [4, 5, 6, 7, 8, 9, 2, 1, 0] rfl)
    have outer : ∀ (n k : Nat), k + n = 3 → ∀ (H : Heap) (locs : List Loc), va_P G vwCl [(h0, .inr (1, [.ref wq, .int (gk_fe false), .ref X.1])), gk_xi c wq 8 K, gk_xb c iq 8 B, gk_xb c oq 8 O] H → va_D A [(h0, .inr (1, [.ref wq, .int (gk_fe false), .ref X.1])), gk_xi c wq 8 K, gk_xb c iq 8 B, gk_xb c oq 8 O] → va_S A s.heap H locs → ∀ ls : Array Slot, lv_has ls 11 [(0, .ref h0), (1, .ref wq), (2, .ref iq), (3, .int 0), (4, .ref oq), (5, .int 0), (6, .int ((gk_it K false (gk_x B) (8 * k)).1)), (7, .int ((gk_it K false (gk_x B) (8 * k)).2)), (9, .int (nI k))] → W p l e ({ frames := 1, cells := 0, slots := 0, locals := 24 } : Room) s m ([.ref h0, .ref wq, .ref iq, .int 0, .ref oq, .int 0] : List Value).toArray below meth cd H locs 0 0 Q (F0 m 28 ls []) := by
      intro n
      induction n with
      | zero =>
        intro k hk H locs hP hD hS ls hl
        obtain rfl : k = 3 := by omega
        refine lv_iload hx hb dX2_GOST28147Func_28 (lv_at hl 8 rfl) ?_
        refine lv_iconst (v := 3) hx hb dX2_GOST28147Func_30 (by decide) ?_
        refine gk_jge (tgt := 79) hx hb 3 3 rfl rfl (by decide) (by decide) dX2_GOST28147Func_31 (by decide) (fun _ => ?_) (fun h => absurd h (by decide))
        refine lv_bipush (v := 7) hx hb dX2_GOST28147Func_79 (by decide) ?_
        refine lv_istore (lv' := [(9, .int 7), (0, .ref h0), (1, .ref wq), (2, .ref iq), (3, .int 0), (4, .ref oq), (5, .int 0), (6, .int ((gk_it K false (gk_x B) (8 * 3)).1)), (7, .int ((gk_it K false (gk_x B) (8 * 3)).2))]) hx hb dX2_GOST28147Func_81 hl (by decide) rfl (fun ls hl => ?_)
        exact last 7 (by decide) _ _ hP hD hS ls (lv_sub hl [1, 2, 3, 4, 5, 6, 7, 8, 0] rfl)
      | succ n ih =>
        intro k hk H locs hP hD hS ls hl
        refine lv_iload hx hb dX2_GOST28147Func_28 (lv_at hl 8 rfl) ?_
        refine lv_iconst (v := 3) hx hb dX2_GOST28147Func_30 (by decide) ?_
        refine gk_jge (tgt := 79) hx hb k 3 rfl rfl (by omega) (by decide) dX2_GOST28147Func_31 (by decide) (fun h => absurd h (by omega)) (fun _ => ?_)
        refine lv_iconst (v := 0) hx hb dX2_GOST28147Func_34 (by decide) ?_
        refine lv_istore (lv' := [(10, .int 0), (0, .ref h0), (1, .ref wq), (2, .ref iq), (3, .int 0), (4, .ref oq), (5, .int 0), (6, .int ((gk_it K false (gk_x B) (8 * k)).1)), (7, .int ((gk_it K false (gk_x B) (8 * k)).2)), (9, .int (nI k))]) hx hb dX2_GOST28147Func_35 hl (by decide) rfl (fun ls hl => ?_)
        refine inner k (by omega) (fun H locs hP hD hS ls hl => ?_) 8 0 rfl _ _ hP hD hS ls (lv_sub hl [1, 2, 3, 4, 5, 6, 7, 8, 9, 0] rfl)
        refine lv_iinc (v := nI (k + 1)) (lv' := [(9, .int (nI (k + 1))), (0, .ref h0), (1, .ref wq), (2, .ref iq), (3, .int 0), (4, .ref oq), (5, .int 0), (6, .int ((gk_it K false (gk_x B) (8 * k + 8)).1)), (7, .int ((gk_it K false (gk_x B) (8 * k + 8)).2))]) hx hb dX2_GOST28147Func_73 hl (k := 8) rfl (gk_inc k) (by decide) rfl (fun ls hl => ?_)
        refine lv_goto (tgt := 28) hx hb dX2_GOST28147Func_76 (by decide) ?_
        exact ih (k + 1) (by omega) _ _ hP hD hS ls (lv_sub hl [1, 2, 3, 4, 5, 6, 7, 8, 0] rfl)
    refine lv_aload_n hx hb dX2_GOST28147Func_18 rfl (lv_at hl 0 rfl) ?_
    refine va_get (D := G) (ci := 1) (v := .int (gk_fe false)) (C := RX2) (T := TX2) (N := 3) hx hb hts in_X2 hown hK hP 0 rfl rfl 1 (by decide) (hts _ q60) (fun _ h9 => h9) rfl dX2_GOST28147Func_19 ?_
    refine lv_if_eq (tgt := 120) hx hb dX2_GOST28147Func_22 (by decide) (fun h => absurd h (by decide)) (fun _ => ?_)
    refine lv_iconst (v := 0) hx hb dX2_GOST28147Func_25 (by decide) ?_
    refine lv_istore (lv' := [(9, .int 0), (0, .ref h0), (1, .ref wq), (2, .ref iq), (3, .int 0), (4, .ref oq), (5, .int 0), (6, .int ((gk_it K false (gk_x B) (0)).1)), (7, .int ((gk_it K false (gk_x B) (0)).2))]) hx hb dX2_GOST28147Func_26 hl (by decide) rfl (fun ls hl => ?_)
    exact outer 3 0 rfl _ _ hP hD hS ls (lv_sub hl [1, 2, 3, 4, 5, 6, 7, 8, 0] rfl)
  | true =>
    have inner : ∀ k : Nat, k < 3 → (∀ (H : Heap) (locs : List Loc), va_P G vwCl [(h0, .inr (1, [.ref wq, .int (gk_fe true), .ref X.1])), gk_xi c wq 8 K, gk_xb c iq 8 B, gk_xb c oq 8 O] H → va_D A [(h0, .inr (1, [.ref wq, .int (gk_fe true), .ref X.1])), gk_xi c wq 8 K, gk_xb c iq 8 B, gk_xb c oq 8 O] → va_S A s.heap H locs → ∀ ls : Array Slot, lv_has ls 11 [(0, .ref h0), (1, .ref wq), (2, .ref iq), (3, .int 0), (4, .ref oq), (5, .int 0), (6, .int ((gk_it K true (gk_x B) (min (16 + 8 * k) 31)).1)), (7, .int ((gk_it K true (gk_x B) (min (16 + 8 * k) 31)).2)), (9, .int (nI k))] → W p l e ({ frames := 1, cells := 0, slots := 0, locals := 24 } : Room) s m ([.ref h0, .ref wq, .ref iq, .int 0, .ref oq, .int 0] : List Value).toArray below meth cd H locs 0 0 Q (F0 m 220 ls [])) → ∀ m1 : Nat, m1 ≤ 8 → (k = 2 → 1 ≤ m1) → ∀ (H : Heap) (locs : List Loc), va_P G vwCl [(h0, .inr (1, [.ref wq, .int (gk_fe true), .ref X.1])), gk_xi c wq 8 K, gk_xb c iq 8 B, gk_xb c oq 8 O] H → va_D A [(h0, .inr (1, [.ref wq, .int (gk_fe true), .ref X.1])), gk_xi c wq 8 K, gk_xb c iq 8 B, gk_xb c oq 8 O] → va_S A s.heap H locs → ∀ ls : Array Slot, lv_has ls 11 [(0, .ref h0), (1, .ref wq), (2, .ref iq), (3, .int 0), (4, .ref oq), (5, .int 0), (6, .int ((gk_it K true (gk_x B) (16 + 8 * k - m1)).1)), (7, .int ((gk_it K true (gk_x B) (16 + 8 * k - m1)).2)), (9, .int (nI k)), (10, .int (nI m1 + Int32.ofInt (-1)))] → W p l e ({ frames := 1, cells := 0, slots := 0, locals := 24 } : Room) s m ([.ref h0, .ref wq, .ref iq, .int 0, .ref oq, .int 0] : List Value).toArray below meth cd H locs 0 0 Q (F0 m 172 ls []) := by
      intro k hk hex m1
      induction m1 with
      | zero =>
        intro hm hk2 H locs hP hD hS ls hl
        refine lv_iload hx hb dX2_GOST28147Func_172 (lv_at hl 9 rfl) ?_
        refine lv_if_lt (tgt := 220) hx hb dX2_GOST28147Func_174 (by decide) (fun _ => ?_) (fun h => absurd (by decide +kernel) h)
        have e9 : 16 + 8 * k - 0 = min (16 + 8 * k) 31 := by omega
        rw [e9] at hl
        exact hex _ _ hP hD hS ls (lv_sub hl [0, 1, 2, 3, 4, 5, 6, 7, 8] rfl)
      | succ m1 ih =>
        intro hm hk2 H locs hP hD hS ls hl
        rw [gk_dec m1] at hl
        refine lv_iload hx hb dX2_GOST28147Func_172 (lv_at hl 9 rfl) ?_
        refine lv_if_lt (tgt := 220) hx hb dX2_GOST28147Func_174 (by decide) (fun h => absurd h (nI_pos (by omega))) (fun _ => ?_)
        have round : ∀ (H : Heap) (locs : List Loc), va_P G vwCl [(h0, .inr (1, [.ref wq, .int (gk_fe true), .ref X.1])), gk_xi c wq 8 K, gk_xb c iq 8 B, gk_xb c oq 8 O] H → va_D A [(h0, .inr (1, [.ref wq, .int (gk_fe true), .ref X.1])), gk_xi c wq 8 K, gk_xb c iq 8 B, gk_xb c oq 8 O] → va_S A s.heap H locs → ∀ ls : Array Slot, lv_has ls 11 [(0, .ref h0), (1, .ref wq), (2, .ref iq), (3, .int 0), (4, .ref oq), (5, .int 0), (6, .int ((gk_it K true (gk_x B) (16 + 8 * k - (m1 + 1))).1)), (7, .int ((gk_it K true (gk_x B) (16 + 8 * k - (m1 + 1))).2)), (9, .int (nI k)), (10, .int (nI m1))] → (k = 2 → 1 ≤ m1) → W p l e ({ frames := 1, cells := 0, slots := 0, locals := 24 } : Room) s m ([.ref h0, .ref wq, .ref iq, .int 0, .ref oq, .int 0] : List Value).toArray below meth cd H locs 0 0 Q (F0 m 191 ls []) := by
          intro H locs hP hD hS ls hl hk3
          refine lv_iload hx hb dX2_GOST28147Func_191 (lv_at hl 6 rfl) ?_
          refine lv_istore (lv' := [(8, .int ((gk_it K true (gk_x B) (16 + 8 * k - (m1 + 1))).1)), (0, .ref h0), (1, .ref wq), (2, .ref iq), (3, .int 0), (4, .ref oq), (5, .int 0), (6, .int ((gk_it K true (gk_x B) (16 + 8 * k - (m1 + 1))).1)), (7, .int ((gk_it K true (gk_x B) (16 + 8 * k - (m1 + 1))).2)), (9, .int (nI k)), (10, .int (nI m1))]) hx hb dX2_GOST28147Func_193 hl (by decide) rfl (fun ls hl => ?_)
          refine lv_iload hx hb dX2_GOST28147Func_195 (lv_at hl 8 rfl) ?_
          refine lv_aload_n hx hb dX2_GOST28147Func_197 rfl (lv_at hl 1 rfl) ?_
          refine lv_iload hx hb dX2_GOST28147Func_198 (lv_at hl 7 rfl) ?_
          refine lv_aload_n hx hb dX2_GOST28147Func_200 rfl (lv_at hl 2 rfl) ?_
          refine lv_iload hx hb dX2_GOST28147Func_201 (lv_at hl 10 rfl) ?_
          refine gk_iald hx hb hK hP 1 rfl m1 (rfl) (by omega) (by decide) dX2_GOST28147Func_203 ?_
          refine gk_calli (wr := [gk_xi c wq 8 K, gk_xb c iq 8 B, gk_xb c oq 8 O]) (va_runV (As := [.int ((gk_it K true (gk_x B) (16 + 8 * k - (m1 + 1))).1), .int (K m1)]) (rest := [.int ((gk_it K true (gk_x B) (16 + 8 * k - (m1 + 1))).2)]) ⟨hx, hb, hml, hown, hts⟩ (m_ms l G c X h0 (.ref wq) (gk_fe true) ((gk_it K true (gk_x B) (16 + 8 * k - (m1 + 1))).1) (K m1) H.size) (cwV 2 hts (lw_V q273 q275 qs5 q9 q276) rfl rfl rfl (by decide +kernel) ⟨(Nat.le_of_ble_eq_true rfl), (Nat.le_of_ble_eq_true rfl)⟩) ⟨gk_blind, va_recv hK hP (ci := 1) (q0 := 0) rfl rfl, gk_pre hP hD hK hC hS hA [0] rfl (by decide)⟩ rfl rfl hl.1 rfl (lv_room (Nat.le_of_ble_eq_true rfl)) dX2_GOST28147Func_204 ⟨(Nat.le_of_ble_eq_true rfl), (Nat.le_of_ble_eq_true rfl)⟩) hP hD hS hA [0] [1, 2, 3] rfl rfl (by decide) (by decide) (fun r _ H locs hw hP hD hS => ?_)
          have hP : va_P G vwCl [gk_xi c wq 8 K, gk_xb c iq 8 B, gk_xb c oq 8 O, (h0, .inr (1, [.ref wq, .int (gk_fe true), .ref X.1]))] H := hP
          have hD : va_D A [gk_xi c wq 8 K, gk_xb c iq 8 B, gk_xb c oq 8 O, (h0, .inr (1, [.ref wq, .int (gk_fe true), .ref X.1]))] := hD
          have hw : r = gk_f (((gk_it K true (gk_x B) (16 + 8 * k - (m1 + 1))).1) + (K m1)) := hw
          subst hw
          have hP : va_P G vwCl [(h0, .inr (1, [.ref wq, .int (gk_fe true), .ref X.1])), gk_xi c wq 8 K, gk_xb c iq 8 B, gk_xb c oq 8 O] H := gk_Psub hP [3, 0, 1, 2] rfl
          have hD : va_D A [(h0, .inr (1, [.ref wq, .int (gk_fe true), .ref X.1])), gk_xi c wq 8 K, gk_xb c iq 8 B, gk_xb c oq 8 O] := hD.sub [3, 0, 1, 2] (by decide) rfl
          refine lv_ixor hx hb dX2_GOST28147Func_207 ?_
          refine gk_top (y := (gk_it K true (gk_x B) (16 + 8 * k - (m1 + 1) + 1)).1) (gk_itA K true (gk_x B) (16 + 8 * k - (m1 + 1)) m1 (gk_ixC k m1 hk (by omega))) ?_
          refine lv_istore (lv' := [(6, .int ((gk_it K true (gk_x B) (16 + 8 * k - (m1 + 1) + 1)).1)), (8, .int ((gk_it K true (gk_x B) (16 + 8 * k - (m1 + 1))).1)), (0, .ref h0), (1, .ref wq), (2, .ref iq), (3, .int 0), (4, .ref oq), (5, .int 0), (7, .int ((gk_it K true (gk_x B) (16 + 8 * k - (m1 + 1))).2)), (9, .int (nI k)), (10, .int (nI m1))]) hx hb dX2_GOST28147Func_208 hl (by decide) rfl (fun ls hl => ?_)
          refine lv_iload hx hb dX2_GOST28147Func_210 (lv_at hl 1 rfl) ?_
          refine gk_top (y := (gk_it K true (gk_x B) (16 + 8 * k - (m1 + 1) + 1)).2) (rfl) ?_
          refine lv_istore (lv' := [(7, .int ((gk_it K true (gk_x B) (16 + 8 * k - (m1 + 1) + 1)).2)), (6, .int ((gk_it K true (gk_x B) (16 + 8 * k - (m1 + 1) + 1)).1)), (8, .int ((gk_it K true (gk_x B) (16 + 8 * k - (m1 + 1))).1)), (0, .ref h0), (1, .ref wq), (2, .ref iq), (3, .int 0), (4, .ref oq), (5, .int 0), (9, .int (nI k)), (10, .int (nI m1))]) hx hb dX2_GOST28147Func_212 hl (by decide) rfl (fun ls hl => ?_)
          refine lv_iinc (v := nI m1 + Int32.ofInt (-1)) (lv' := [(10, .int (nI m1 + Int32.ofInt (-1))), (7, .int ((gk_it K true (gk_x B) (16 + 8 * k - (m1 + 1) + 1)).2)), (6, .int ((gk_it K true (gk_x B) (16 + 8 * k - (m1 + 1) + 1)).1)), (8, .int ((gk_it K true (gk_x B) (16 + 8 * k - (m1 + 1))).1)), (0, .ref h0), (1, .ref wq), (2, .ref iq), (3, .int 0), (4, .ref oq), (5, .int 0), (9, .int (nI k))]) hx hb dX2_GOST28147Func_214 hl (k := 10) rfl (rfl) (by decide) rfl (fun ls hl => ?_)
          refine lv_goto (tgt := 172) hx hb dX2_GOST28147Func_217 (by decide) ?_
          have e9 : 16 + 8 * k - (m1 + 1) + 1 = 16 + 8 * k - m1 := by omega
          rw [e9] at hl
          exact ih (by omega) hk3 _ _ hP hD hS ls (lv_sub hl [4, 5, 6, 7, 8, 9, 2, 1, 10, 0] rfl)
        refine lv_iload hx hb dX2_GOST28147Func_177 (lv_at hl 8 rfl) ?_
        refine lv_iconst (v := 2) hx hb dX2_GOST28147Func_179 (by decide) ?_
        refine gk_jne (tgt := 191) hx hb k 2 rfl rfl (by omega) (by decide) dX2_GOST28147Func_180 (by decide) (fun h2 => ?_) (fun h2 => ?_)
        · exact round _ _ hP hD hS ls hl (fun h3 => absurd h3 h2)
        · skip
          refine lv_iload hx hb dX2_GOST28147Func_183 (lv_at hl 9 rfl) ?_
          refine gk_zne (tgt := 191) hx hb m1 rfl (by omega) dX2_GOST28147Func_185 (by decide) (fun h3 => ?_) (fun h3 => ?_)
          · exact round _ _ hP hD hS ls hl (fun _ => Nat.pos_of_ne_zero h3)
          · skip
            refine lv_goto (tgt := 220) hx hb dX2_GOST28147Func_188 (by decide) ?_
            have e9 : 16 + 8 * k - (m1 + 1) = min (16 + 8 * k) 31 := by omega
            rw [e9] at hl
            exact hex _ _ hP hD hS ls (lv_sub hl [0, 1, 2, 3, 4, 5, 6, 7, 8] rfl)
    have outer : ∀ (n k : Nat), k + n = 3 → ∀ (H : Heap) (locs : List Loc), va_P G vwCl [(h0, .inr (1, [.ref wq, .int (gk_fe true), .ref X.1])), gk_xi c wq 8 K, gk_xb c iq 8 B, gk_xb c oq 8 O] H → va_D A [(h0, .inr (1, [.ref wq, .int (gk_fe true), .ref X.1])), gk_xi c wq 8 K, gk_xb c iq 8 B, gk_xb c oq 8 O] → va_S A s.heap H locs → ∀ ls : Array Slot, lv_has ls 11 [(0, .ref h0), (1, .ref wq), (2, .ref iq), (3, .int 0), (4, .ref oq), (5, .int 0), (6, .int ((gk_it K true (gk_x B) (min (8 + 8 * k) 31)).1)), (7, .int ((gk_it K true (gk_x B) (min (8 + 8 * k) 31)).2)), (9, .int (nI k))] → W p l e ({ frames := 1, cells := 0, slots := 0, locals := 24 } : Room) s m ([.ref h0, .ref wq, .ref iq, .int 0, .ref oq, .int 0] : List Value).toArray below meth cd H locs 0 0 Q (F0 m 162 ls []) := by
      intro n
      induction n with
      | zero =>
        intro k hk H locs hP hD hS ls hl
        obtain rfl : k = 3 := by omega
        refine lv_iload hx hb dX2_GOST28147Func_162 (lv_at hl 8 rfl) ?_
        refine lv_iconst (v := 3) hx hb dX2_GOST28147Func_164 (by decide) ?_
        refine gk_jge (tgt := 226) hx hb 3 3 rfl rfl (by decide) (by decide) dX2_GOST28147Func_165 (by decide) (fun _ => ?_) (fun h => absurd h (by decide))
        have e9 : min (8 + 8 * 3) 31 = 31 := by decide
        rw [e9] at hl
        exact tail _ _ hP hD hS ls (lv_sub hl [0, 1, 2, 3, 4, 5, 6, 7] rfl)
      | succ n ih =>
        intro k hk H locs hP hD hS ls hl
        refine lv_iload hx hb dX2_GOST28147Func_162 (lv_at hl 8 rfl) ?_
        refine lv_iconst (v := 3) hx hb dX2_GOST28147Func_164 (by decide) ?_
        refine gk_jge (tgt := 226) hx hb k 3 rfl rfl (by omega) (by decide) dX2_GOST28147Func_165 (by decide) (fun h => absurd h (by omega)) (fun _ => ?_)
        refine lv_bipush (v := 7) hx hb dX2_GOST28147Func_168 (by decide) ?_
        refine lv_istore (lv' := [(10, .int 7), (0, .ref h0), (1, .ref wq), (2, .ref iq), (3, .int 0), (4, .ref oq), (5, .int 0), (6, .int ((gk_it K true (gk_x B) (min (8 + 8 * k) 31)).1)), (7, .int ((gk_it K true (gk_x B) (min (8 + 8 * k) 31)).2)), (9, .int (nI k))]) hx hb dX2_GOST28147Func_170 hl (by decide) rfl (fun ls hl => ?_)
        have e9 : min (8 + 8 * k) 31 = 16 + 8 * k - 8 := by omega
        rw [e9] at hl
        refine inner k (by omega) (fun H locs hP hD hS ls hl => ?_) 8 (by decide) (fun _ => by decide) _ _ hP hD hS ls (lv_sub hl [1, 2, 3, 4, 5, 6, 7, 8, 9, 0] rfl)
        refine lv_iinc (v := nI (k + 1)) (lv' := [(9, .int (nI (k + 1))), (0, .ref h0), (1, .ref wq), (2, .ref iq), (3, .int 0), (4, .ref oq), (5, .int 0), (6, .int ((gk_it K true (gk_x B) (min (16 + 8 * k) 31)).1)), (7, .int ((gk_it K true (gk_x B) (min (16 + 8 * k) 31)).2))]) hx hb dX2_GOST28147Func_220 hl (k := 8) rfl (gk_inc k) (by decide) rfl (fun ls hl => ?_)
        refine lv_goto (tgt := 162) hx hb dX2_GOST28147Func_223 (by decide) ?_
        have e9 : min (16 + 8 * k) 31 = min (8 + 8 * (k + 1)) 31 := by omega
        rw [e9] at hl
        exact ih (k + 1) (by omega) _ _ hP hD hS ls (lv_sub hl [1, 2, 3, 4, 5, 6, 7, 8, 0] rfl)
    have first : ∀ (n j : Nat), j + n = 8 → ∀ (H : Heap) (locs : List Loc), va_P G vwCl [(h0, .inr (1, [.ref wq, .int (gk_fe true), .ref X.1])), gk_xi c wq 8 K, gk_xb c iq 8 B, gk_xb c oq 8 O] H → va_D A [(h0, .inr (1, [.ref wq, .int (gk_fe true), .ref X.1])), gk_xi c wq 8 K, gk_xb c iq 8 B, gk_xb c oq 8 O] → va_S A s.heap H locs → ∀ ls : Array Slot, lv_has ls 11 [(0, .ref h0), (1, .ref wq), (2, .ref iq), (3, .int 0), (4, .ref oq), (5, .int 0), (6, .int ((gk_it K true (gk_x B) (j)).1)), (7, .int ((gk_it K true (gk_x B) (j)).2)), (9, .int (nI j))] → W p l e ({ frames := 1, cells := 0, slots := 0, locals := 24 } : Room) s m ([.ref h0, .ref wq, .ref iq, .int 0, .ref oq, .int 0] : List Value).toArray below meth cd H locs 0 0 Q (F0 m 123 ls []) := by
      intro n
      induction n with
      | zero =>
        intro j hj H locs hP hD hS ls hl
        obtain rfl : j = 8 := by omega
        refine lv_iload hx hb dX2_GOST28147Func_123 (lv_at hl 8 rfl) ?_
        refine lv_bipush (v := 8) hx hb dX2_GOST28147Func_125 (by decide) ?_
        refine gk_jge (tgt := 159) hx hb 8 8 rfl rfl (by decide) (by decide) dX2_GOST28147Func_127 (by decide) (fun _ => ?_) (fun h => absurd h (by decide))
        refine lv_iconst (v := 0) hx hb dX2_GOST28147Func_159 (by decide) ?_
        refine lv_istore (lv' := [(9, .int 0), (0, .ref h0), (1, .ref wq), (2, .ref iq), (3, .int 0), (4, .ref oq), (5, .int 0), (6, .int ((gk_it K true (gk_x B) (8)).1)), (7, .int ((gk_it K true (gk_x B) (8)).2))]) hx hb dX2_GOST28147Func_160 hl (by decide) rfl (fun ls hl => ?_)
        exact outer 3 0 rfl _ _ hP hD hS ls (lv_sub hl [1, 2, 3, 4, 5, 6, 7, 8, 0] rfl)
      | succ n ih =>
        intro j hj H locs hP hD hS ls hl
        refine lv_iload hx hb dX2_GOST28147Func_123 (lv_at hl 8 rfl) ?_
        refine lv_bipush (v := 8) hx hb dX2_GOST28147Func_125 (by decide) ?_
        refine gk_jge (tgt := 159) hx hb j 8 rfl rfl (by omega) (by decide) dX2_GOST28147Func_127 (by decide) (fun h => absurd h (by omega)) (fun _ => ?_)
        refine lv_iload hx hb dX2_GOST28147Func_130 (lv_at hl 6 rfl) ?_
        refine lv_istore (lv' := [(8, .int ((gk_it K true (gk_x B) (j)).1)), (0, .ref h0), (1, .ref wq), (2, .ref iq), (3, .int 0), (4, .ref oq), (5, .int 0), (6, .int ((gk_it K true (gk_x B) (j)).1)), (7, .int ((gk_it K true (gk_x B) (j)).2)), (9, .int (nI j))]) hx hb dX2_GOST28147Func_132 hl (by decide) rfl (fun ls hl => ?_)
        refine lv_iload hx hb dX2_GOST28147Func_134 (lv_at hl 8 rfl) ?_
        refine lv_aload_n hx hb dX2_GOST28147Func_136 rfl (lv_at hl 1 rfl) ?_
        refine lv_iload hx hb dX2_GOST28147Func_137 (lv_at hl 7 rfl) ?_
        refine lv_aload_n hx hb dX2_GOST28147Func_139 rfl (lv_at hl 2 rfl) ?_
        refine lv_iload hx hb dX2_GOST28147Func_140 (lv_at hl 9 rfl) ?_
        refine gk_iald hx hb hK hP 1 rfl j (rfl) (by omega) (by decide) dX2_GOST28147Func_142 ?_
        refine gk_calli (wr := [gk_xi c wq 8 K, gk_xb c iq 8 B, gk_xb c oq 8 O]) (va_runV (As := [.int ((gk_it K true (gk_x B) (j)).1), .int (K j)]) (rest := [.int ((gk_it K true (gk_x B) (j)).2)]) ⟨hx, hb, hml, hown, hts⟩ (m_ms l G c X h0 (.ref wq) (gk_fe true) ((gk_it K true (gk_x B) (j)).1) (K j) H.size) (cwV 2 hts (lw_V q273 q275 qs5 q9 q276) rfl rfl rfl (by decide +kernel) ⟨(Nat.le_of_ble_eq_true rfl), (Nat.le_of_ble_eq_true rfl)⟩) ⟨gk_blind, va_recv hK hP (ci := 1) (q0 := 0) rfl rfl, gk_pre hP hD hK hC hS hA [0] rfl (by decide)⟩ rfl rfl hl.1 rfl (lv_room (Nat.le_of_ble_eq_true rfl)) dX2_GOST28147Func_143 ⟨(Nat.le_of_ble_eq_true rfl), (Nat.le_of_ble_eq_true rfl)⟩) hP hD hS hA [0] [1, 2, 3] rfl rfl (by decide) (by decide) (fun r _ H locs hw hP hD hS => ?_)
        have hP : va_P G vwCl [gk_xi c wq 8 K, gk_xb c iq 8 B, gk_xb c oq 8 O, (h0, .inr (1, [.ref wq, .int (gk_fe true), .ref X.1]))] H := hP
        have hD : va_D A [gk_xi c wq 8 K, gk_xb c iq 8 B, gk_xb c oq 8 O, (h0, .inr (1, [.ref wq, .int (gk_fe true), .ref X.1]))] := hD
        have hw : r = gk_f (((gk_it K true (gk_x B) (j)).1) + (K j)) := hw
        subst hw
        have hP : va_P G vwCl [(h0, .inr (1, [.ref wq, .int (gk_fe true), .ref X.1])), gk_xi c wq 8 K, gk_xb c iq 8 B, gk_xb c oq 8 O] H := gk_Psub hP [3, 0, 1, 2] rfl
        have hD : va_D A [(h0, .inr (1, [.ref wq, .int (gk_fe true), .ref X.1])), gk_xi c wq 8 K, gk_xb c iq 8 B, gk_xb c oq 8 O] := hD.sub [3, 0, 1, 2] (by decide) rfl
        refine lv_ixor hx hb dX2_GOST28147Func_146 ?_
        refine gk_top (y := (gk_it K true (gk_x B) (j + 1)).1) (gk_itA K true (gk_x B) (j) j (gk_ixD j (by omega))) ?_
        refine lv_istore (lv' := [(6, .int ((gk_it K true (gk_x B) (j + 1)).1)), (8, .int ((gk_it K true (gk_x B) (j)).1)), (0, .ref h0), (1, .ref wq), (2, .ref iq), (3, .int 0), (4, .ref oq), (5, .int 0), (7, .int ((gk_it K true (gk_x B) (j)).2)), (9, .int (nI j))]) hx hb dX2_GOST28147Func_147 hl (by decide) rfl (fun ls hl => ?_)
        refine lv_iload hx hb dX2_GOST28147Func_149 (lv_at hl 1 rfl) ?_
        refine gk_top (y := (gk_it K true (gk_x B) (j + 1)).2) (rfl) ?_
        refine lv_istore (lv' := [(7, .int ((gk_it K true (gk_x B) (j + 1)).2)), (6, .int ((gk_it K true (gk_x B) (j + 1)).1)), (8, .int ((gk_it K true (gk_x B) (j)).1)), (0, .ref h0), (1, .ref wq), (2, .ref iq), (3, .int 0), (4, .ref oq), (5, .int 0), (9, .int (nI j))]) hx hb dX2_GOST28147Func_151 hl (by decide) rfl (fun ls hl => ?_)
        refine lv_iinc (v := nI (j + 1)) (lv' := [(9, .int (nI (j + 1))), (7, .int ((gk_it K true (gk_x B) (j + 1)).2)), (6, .int ((gk_it K true (gk_x B) (j + 1)).1)), (8, .int ((gk_it K true (gk_x B) (j)).1)), (0, .ref h0), (1, .ref wq), (2, .ref iq), (3, .int 0), (4, .ref oq), (5, .int 0)]) hx hb dX2_GOST28147Func_153 hl (k := 9) rfl (gk_inc j) (by decide) rfl (fun ls hl => ?_)
        refine lv_goto (tgt := 123) hx hb dX2_GOST28147Func_156 (by decide) ?_
        exact ih (j + 1) (by omega) _ _ hP hD hS ls (lv_sub hl [4, 5, 6, 7, 8, 9, 2, 1, 0] rfl)
    refine lv_aload_n hx hb dX2_GOST28147Func_18 rfl (lv_at hl 0 rfl) ?_
    refine va_get (D := G) (ci := 1) (v := .int (gk_fe true)) (C := RX2) (T := TX2) (N := 3) hx hb hts in_X2 hown hK hP 0 rfl rfl 1 (by decide) (hts _ q60) (fun _ h9 => h9) rfl dX2_GOST28147Func_19 ?_
    refine lv_if_eq (tgt := 120) hx hb dX2_GOST28147Func_22 (by decide) (fun _ => ?_) (fun h => absurd rfl h)
    refine lv_iconst (v := 0) hx hb dX2_GOST28147Func_120 (by decide) ?_
    refine lv_istore (lv' := [(9, .int 0), (0, .ref h0), (1, .ref wq), (2, .ref iq), (3, .int 0), (4, .ref oq), (5, .int 0), (6, .int ((gk_it K true (gk_x B) (0)).1)), (7, .int ((gk_it K true (gk_x B) (0)).2))]) hx hb dX2_GOST28147Func_121 hl (by decide) rfl (fun ls hl => ?_)
    exact first 8 0 rfl _ _ hP hD hS ls (lv_sub hl [1, 2, 3, 4, 5, 6, 7, 8, 0] rfl)

set_option maxHeartbeats 4000000 in
set_option maxRecDepth 100000 in
/-- processBlock: the block of in, through the rounds, into out -/
theorem m_pb (l : Launch) (G : va_G) (c : gk_I) (X : gk_X) (h0 wq iq oq : Nat) (o : Bool) (K : Nat → Int32) (B O : Nat → Int8) (sz : Nat) : Met l yX2_processBlock (ws_ yX2_processBlock cX2_processBlock 5 (some .int)) ({ frames := 2, cells := 0, slots := 0, locals := 54 } : Room) (va_Pc [.ref h0, .ref iq, .int 0, .ref oq, .int 0] (gk_U G c X [(h0, .inr (1, [.ref wq, .int (gk_fe o), .ref X.1])), gk_xi c wq 8 K, gk_xb c iq 8 B, gk_xb c oq 8 O] sz)) (va_Qi (fun (r : Int32) (_ : Unit) => r = 8) (gk_B G (fun _ : Unit => [(h0, .inr (1, [.ref wq, .int (gk_fe o), .ref X.1])), gk_xi c wq 8 K, gk_xb c iq 8 B, gk_xb c oq 8 (gk_out (gk_run K o (gk_x B)))]) (va_A [(h0, .inr (1, [.ref wq, .int (gk_fe o), .ref X.1])), gk_xi c wq 8 K, gk_xb c iq 8 B, gk_xb c oq 8 O] sz)) (va_A [(h0, .inr (1, [.ref wq, .int (gk_fe o), .ref X.1])), gk_xi c wq 8 K, gk_xb c iq 8 B, gk_xb c oq 8 O] sz)) 0 0 (va_A [(h0, .inr (1, [.ref wq, .int (gk_fe o), .ref X.1])), gk_xi c wq 8 K, gk_xb c iq 8 B, gk_xb c oq 8 O] sz) := by
  refine gk_ofW (Qf := fun A => va_Qi (fun (r : Int32) (_ : Unit) => r = 8) (gk_B G (fun _ : Unit => [(h0, .inr (1, [.ref wq, .int (gk_fe o), .ref X.1])), gk_xi c wq 8 K, gk_xb c iq 8 B, gk_xb c oq 8 (gk_out (gk_run K o (gk_x B)))]) A) A) (by decide) (Nat.le_of_ble_eq_true rfl) ?_
  intro p e s m below meth cd ls A Q hQ hx hb hr hlocks hml hown hts hin hK hC hA hP hD hS hl
  have hown : s.vm.findClass RX2 = some m.cls := hown
  have hl : lv_has ls 5 [(0, .ref h0), (1, .ref iq), (2, .int 0), (3, .ref oq), (4, .int 0)] := hl
  refine lv_aload_n hx hb dX2_processBlock_0 rfl (lv_at hl 0 rfl) ?_
  refine va_get (D := G) (ci := 1) (v := .ref wq) (C := RX2) (T := TX2) (N := 3) hx hb hts in_X2 hown hK hP 0 rfl rfl 0 (by decide) (hts _ q59) (fun _ h9 => h9) rfl dX2_processBlock_1 ?_
  refine lv_ifnonnull (tgt := 17) hx hb dX2_processBlock_4 (by decide) ?_
  refine lv_iload_n hx hb dX2_processBlock_17 rfl (lv_at hl 2 rfl) ?_
  refine lv_bipush (v := 8) hx hb dX2_processBlock_18 (by decide) ?_
  refine lv_iadd hx hb dX2_processBlock_20 ?_
  refine lv_aload_n hx hb dX2_processBlock_21 rfl (lv_at hl 1 rfl) ?_
  refine va_alen (v := 8) hx hb hK hP 2 0 rfl rfl rfl dX2_processBlock_22 ?_
  refine gk_jle (tgt := 36) hx hb 8 8 (by decide +kernel) rfl (by decide) (by decide) dX2_processBlock_23 (by decide) (fun _ => ?_) (fun h => absurd h (by decide))
  refine lv_iload hx hb dX2_processBlock_36 (lv_at hl 4 rfl) ?_
  refine lv_bipush (v := 8) hx hb dX2_processBlock_38 (by decide) ?_
  refine lv_iadd hx hb dX2_processBlock_40 ?_
  refine lv_aload_n hx hb dX2_processBlock_41 rfl (lv_at hl 3 rfl) ?_
  refine va_alen (v := 8) hx hb hK hP 3 0 rfl rfl rfl dX2_processBlock_42 ?_
  refine gk_jle (tgt := 56) hx hb 8 8 (by decide +kernel) rfl (by decide) (by decide) dX2_processBlock_43 (by decide) (fun _ => ?_) (fun h => absurd h (by decide))
  refine lv_aload_n hx hb dX2_processBlock_56 rfl (lv_at hl 0 rfl) ?_
  refine lv_aload_n hx hb dX2_processBlock_57 rfl (lv_at hl 0 rfl) ?_
  refine va_get (D := G) (ci := 1) (v := .ref wq) (C := RX2) (T := TX2) (N := 3) hx hb hts in_X2 hown hK hP 0 rfl rfl 0 (by decide) (hts _ q59) (fun _ h9 => h9) rfl dX2_processBlock_58 ?_
  refine lv_aload_n hx hb dX2_processBlock_61 rfl (lv_at hl 1 rfl) ?_
  refine lv_iload_n hx hb dX2_processBlock_62 rfl (lv_at hl 2 rfl) ?_
  refine lv_aload_n hx hb dX2_processBlock_63 rfl (lv_at hl 3 rfl) ?_
  refine lv_iload hx hb dX2_processBlock_64 (lv_at hl 4 rfl) ?_
  refine gk_callv (wr := []) (va_runV (As := [.ref wq, .ref iq, .int 0, .ref oq, .int 0]) (rest := []) ⟨hx, hb, hml, hown, hts⟩ (m_fn l G c X h0 wq iq oq o K B O s.heap.size) (cwV 5 hts (lw_V q269 q271 qs4 q9 q272) rfl rfl rfl (by decide +kernel) ⟨(Nat.le_of_ble_eq_true rfl), (Nat.le_of_ble_eq_true rfl)⟩) ⟨gk_blind, va_recv hK hP (ci := 1) (q0 := 0) rfl rfl, gk_pre hP hD hK hC hS hA [0, 1, 2, 3] rfl (by decide)⟩ rfl rfl hl.1 rfl (lv_room (Nat.le_of_ble_eq_true rfl)) dX2_processBlock_66 ⟨(Nat.le_of_ble_eq_true rfl), (Nat.le_of_ble_eq_true rfl)⟩) hP hD hS hA [0, 1, 2, 3] [] rfl rfl (by decide) (by decide) (fun _ H locs _ hP hD hS => ?_)
  have hP : va_P G vwCl [(h0, .inr (1, [.ref wq, .int (gk_fe o), .ref X.1])), gk_xi c wq 8 K, gk_xb c iq 8 B, gk_xb c oq 8 (gk_out (gk_run K o (gk_x B)))] H := hP
  have hD : va_D A [(h0, .inr (1, [.ref wq, .int (gk_fe o), .ref X.1])), gk_xi c wq 8 K, gk_xb c iq 8 B, gk_xb c oq 8 (gk_out (gk_run K o (gk_x B)))] := hD
  refine lv_bipush (v := 8) hx hb dX2_processBlock_69 (by decide) ?_
  exact gk_iret hQ hx hb hr hlocks (Nat.le_of_ble_eq_true rfl) (Nat.le_of_ble_eq_true rfl) hP hD hS () (rfl) [0, 1, 2, 3] (by decide) rfl dX2_processBlock_71
end
section
/-! CONTRACTS: GostDesk -/
set_option maxRecDepth 100000
set_option maxHeartbeats 4000000 in
set_option maxRecDepth 100000 in
/-- GostDesk(): three arrays of zeros -/
theorem m_di (l : Launch) (G : va_G) (c : gk_I) (X : gk_X) (h0 : Nat) (sz : Nat) : Met l yX1_init (ws_ yX1_init cX1_init 1 none) ({ frames := 1, cells := 3, slots := 48, locals := 12 } : Room) (va_Pc [.ref h0] (gk_U G c X [(h0, .inr (0, [.null, .null, .null]))] sz)) (va_Qv (fun u : (Nat × Nat × Nat) => True) (gk_B G (fun u : (Nat × Nat × Nat) => [(h0, .inr (0, [.ref u.1, .ref u.2.1, .ref u.2.2])), gk_xb c u.1 32 (fun _ => 0), gk_xb c u.2.1 8 (fun _ => 0), gk_xb c u.2.2 8 (fun _ => 0)]) (va_A [(h0, .inr (0, [.null, .null, .null]))] sz)) (va_A [(h0, .inr (0, [.null, .null, .null]))] sz)) 3 48 (va_A [(h0, .inr (0, [.null, .null, .null]))] sz) := by
  refine gk_ofW (Qf := fun A => va_Qv (fun u : (Nat × Nat × Nat) => True) (gk_B G (fun u : (Nat × Nat × Nat) => [(h0, .inr (0, [.ref u.1, .ref u.2.1, .ref u.2.2])), gk_xb c u.1 32 (fun _ => 0), gk_xb c u.2.1 8 (fun _ => 0), gk_xb c u.2.2 8 (fun _ => 0)]) A) A) (by decide) (Nat.le_of_ble_eq_true rfl) ?_
  intro p e s m below meth cd ls A Q hQ hx hb hr hlocks hml hown hts hin hK hC hA hP hD hS hl
  have hown : s.vm.findClass RX1 = some m.cls := hown
  have hl : lv_has ls 1 [(0, .ref h0)] := hl
  have hin : meth.name = "<init>" := hin
  refine lv_aload_n hx hb dX1_init_0 rfl (lv_at hl 0 rfl) ?_
  refine W.objInit hx hb hown (hts _ q26) (hts _ q27) (hts _ q28) rfl (by rw [hml]; exact hl.1) rfl dX1_init_1 (Nat.le_of_ble_eq_true rfl) (Nat.le_of_ble_eq_true rfl) ?_
  refine W.eq (g2 := F0 m 4 ls []) rfl ?_
  refine lv_aload_n hx hb dX1_init_4 rfl (lv_at hl 0 rfl) ?_
  refine lv_bipush (v := 32) hx hb dX1_init_5 (by decide) ?_
  refine gk_newb hx hb (hts _ q39) hK hP hD hS hA 32 (rfl) (by decide) (Nat.le_of_ble_eq_true rfl) (Nat.le_of_ble_eq_true rfl) dX1_init_7 (fun kq H hP hD hS => ?_)
  have hP : va_P G vwCl [(h0, .inr (0, [.null, .null, .null])), gk_xb c kq 32 (fun _ => 0)] H := hP
  have hD : va_D A [(h0, .inr (0, [.null, .null, .null])), gk_xb c kq 32 (fun _ => 0)] := hD
  refine va_putF (D := G) (ci := 0) (v := .ref kq) (ty := .array .byte) (C := RX1) (T := TX1) (N := 3) hx hb hts in_X1 tyX1 tyX1_ok nmX1 hown hK hP hD hS 0 rfl rfl 0 (by decide) (hts _ q29) (fun _ h9 => h9) rfl hin rfl (by decide +kernel) rfl rfl (Nat.le_of_ble_eq_true rfl) dX1_init_9 (fun H locs hP hD hS => ?_)
  have hP : va_P G vwCl [(h0, .inr (0, [.ref kq, .null, .null])), gk_xb c kq 32 (fun _ => 0)] H := hP
  have hD : va_D A [(h0, .inr (0, [.ref kq, .null, .null])), gk_xb c kq 32 (fun _ => 0)] := hD
  refine lv_aload_n hx hb dX1_init_12 rfl (lv_at hl 0 rfl) ?_
  refine lv_bipush (v := 8) hx hb dX1_init_13 (by decide) ?_
  refine gk_newb hx hb (hts _ q39) hK hP hD hS hA 8 (rfl) (by decide) (Nat.le_of_ble_eq_true rfl) (Nat.le_of_ble_eq_true rfl) dX1_init_15 (fun bq H hP hD hS => ?_)
  have hP : va_P G vwCl [(h0, .inr (0, [.ref kq, .null, .null])), gk_xb c kq 32 (fun _ => 0), gk_xb c bq 8 (fun _ => 0)] H := hP
  have hD : va_D A [(h0, .inr (0, [.ref kq, .null, .null])), gk_xb c kq 32 (fun _ => 0), gk_xb c bq 8 (fun _ => 0)] := hD
  refine va_putF (D := G) (ci := 0) (v := .ref bq) (ty := .array .byte) (C := RX1) (T := TX1) (N := 3) hx hb hts in_X1 tyX1 tyX1_ok nmX1 hown hK hP hD hS 0 rfl rfl 1 (by decide) (hts _ q30) (fun _ h9 => h9) rfl hin rfl (by decide +kernel) rfl rfl (Nat.le_of_ble_eq_true rfl) dX1_init_17 (fun H locs hP hD hS => ?_)
  have hP : va_P G vwCl [(h0, .inr (0, [.ref kq, .ref bq, .null])), gk_xb c kq 32 (fun _ => 0), gk_xb c bq 8 (fun _ => 0)] H := hP
  have hD : va_D A [(h0, .inr (0, [.ref kq, .ref bq, .null])), gk_xb c kq 32 (fun _ => 0), gk_xb c bq 8 (fun _ => 0)] := hD
  refine lv_aload_n hx hb dX1_init_20 rfl (lv_at hl 0 rfl) ?_
  refine lv_bipush (v := 8) hx hb dX1_init_21 (by decide) ?_
  refine gk_newb hx hb (hts _ q39) hK hP hD hS hA 8 (rfl) (by decide) (Nat.le_of_ble_eq_true rfl) (Nat.le_of_ble_eq_true rfl) dX1_init_23 (fun oq H hP hD hS => ?_)
  have hP : va_P G vwCl [(h0, .inr (0, [.ref kq, .ref bq, .null])), gk_xb c kq 32 (fun _ => 0), gk_xb c bq 8 (fun _ => 0), gk_xb c oq 8 (fun _ => 0)] H := hP
  have hD : va_D A [(h0, .inr (0, [.ref kq, .ref bq, .null])), gk_xb c kq 32 (fun _ => 0), gk_xb c bq 8 (fun _ => 0), gk_xb c oq 8 (fun _ => 0)] := hD
  refine va_putF (D := G) (ci := 0) (v := .ref oq) (ty := .array .byte) (C := RX1) (T := TX1) (N := 3) hx hb hts in_X1 tyX1 tyX1_ok nmX1 hown hK hP hD hS 0 rfl rfl 2 (by decide) (hts _ q31) (fun _ h9 => h9) rfl hin rfl (by decide +kernel) rfl rfl (Nat.le_of_ble_eq_true rfl) dX1_init_25 (fun H locs hP hD hS => ?_)
  have hP : va_P G vwCl [(h0, .inr (0, [.ref kq, .ref bq, .ref oq])), gk_xb c kq 32 (fun _ => 0), gk_xb c bq 8 (fun _ => 0), gk_xb c oq 8 (fun _ => 0)] H := hP
  have hD : va_D A [(h0, .inr (0, [.ref kq, .ref bq, .ref oq])), gk_xb c kq 32 (fun _ => 0), gk_xb c bq 8 (fun _ => 0), gk_xb c oq 8 (fun _ => 0)] := hD
  exact gk_vret hQ hx hb hr hlocks (Nat.le_of_ble_eq_true rfl) (Nat.le_of_ble_eq_true rfl) hP hD hS (kq, bq, oq) (trivial) [0, 1, 2, 3] (by decide) rfl dX1_init_28

set_option maxHeartbeats 4000000 in
set_option maxRecDepth 100000 in
/-- GostDesk.word(f, o, v): a word into bytes, high byte first -/
theorem m_dw (l : Launch) (G : va_G) (c : gk_I) (X : gk_X) (a1 n : Nat) (f : Nat → Int8) (o : Nat) (v : Int32) (sz : Nat) (hn : n ≤ 64) (ho : o + 4 ≤ n) : Met l yX1_word (ws_ yX1_word cX1_word 3 none) ({ frames := 0, cells := 0, slots := 0, locals := 0 } : Room) (va_Pc [.ref a1, .int (nI o), .int v] (gk_U G c X [gk_xb c a1 n f] sz)) (va_Qv (fun _ : Unit => True) (gk_B G (fun _ : Unit => [gk_xb c a1 n (gk_lay f o v)]) (va_A [gk_xb c a1 n f] sz)) (va_A [gk_xb c a1 n f] sz)) 0 0 (va_A [gk_xb c a1 n f] sz) := by
  refine gk_ofW (Qf := fun A => va_Qv (fun _ : Unit => True) (gk_B G (fun _ : Unit => [gk_xb c a1 n (gk_lay f o v)]) A) A) (by decide) (Nat.le_of_ble_eq_true rfl) ?_
  intro p e s m below meth cd ls A Q hQ hx hb hr hlocks hml hown hts hin hK hC hA hP hD hS hl
  have hown : s.vm.findClass RX1 = some m.cls := hown
  have hl : lv_has ls 3 [(0, .ref a1), (1, .int (nI o)), (2, .int v)] := hl
  refine lv_aload_n hx hb dX1_word_0 rfl (lv_at hl 0 rfl) ?_
  refine lv_iload_n hx hb dX1_word_1 rfl (lv_at hl 1 rfl) ?_
  refine lv_iload_n hx hb dX1_word_2 rfl (lv_at hl 2 rfl) ?_
  refine lv_bipush (v := 24) hx hb dX1_word_3 (by decide) ?_
  refine lv_ishr hx hb dX1_word_5 ?_
  refine lv_i2b (v := ((v >>> (24 &&& 31)).toInt8).toInt32) hx hb dX1_word_6 rfl ?_
  refine gk_bast hx hb hK hP hD hS 0 rfl o (rfl) (by omega) (hn) (y := gk_by v 3) (gk_88 (gk_sr_by v (24 &&& 31) 3 (by decide) (by decide +kernel))) dX1_word_7 (fun H locs hP hD hS => ?_)
  have hP : va_P G vwCl [gk_xb c a1 n (va_up f o (gk_by v 3))] H := hP
  have hD : va_D A [gk_xb c a1 n (va_up f o (gk_by v 3))] := hD
  refine lv_aload_n hx hb dX1_word_8 rfl (lv_at hl 0 rfl) ?_
  refine lv_iload_n hx hb dX1_word_9 rfl (lv_at hl 1 rfl) ?_
  refine lv_iconst (v := 1) hx hb dX1_word_10 (by decide) ?_
  refine lv_iadd hx hb dX1_word_11 ?_
  refine lv_iload_n hx hb dX1_word_12 rfl (lv_at hl 2 rfl) ?_
  refine lv_bipush (v := 16) hx hb dX1_word_13 (by decide) ?_
  refine lv_ishr hx hb dX1_word_15 ?_
  refine lv_i2b (v := ((v >>> (16 &&& 31)).toInt8).toInt32) hx hb dX1_word_16 rfl ?_
  refine gk_bast hx hb hK hP hD hS 0 rfl (o + 1) (nI_add o 1) (by omega) (hn) (y := gk_by v 2) (gk_88 (gk_sr_by v (16 &&& 31) 2 (by decide) (by decide +kernel))) dX1_word_17 (fun H locs hP hD hS => ?_)
  have hP : va_P G vwCl [gk_xb c a1 n (va_up (va_up f o (gk_by v 3)) (o + 1) (gk_by v 2))] H := hP
  have hD : va_D A [gk_xb c a1 n (va_up (va_up f o (gk_by v 3)) (o + 1) (gk_by v 2))] := hD
  refine lv_aload_n hx hb dX1_word_18 rfl (lv_at hl 0 rfl) ?_
  refine lv_iload_n hx hb dX1_word_19 rfl (lv_at hl 1 rfl) ?_
  refine lv_iconst (v := 2) hx hb dX1_word_20 (by decide) ?_
  refine lv_iadd hx hb dX1_word_21 ?_
  refine lv_iload_n hx hb dX1_word_22 rfl (lv_at hl 2 rfl) ?_
  refine lv_bipush (v := 8) hx hb dX1_word_23 (by decide) ?_
  refine lv_ishr hx hb dX1_word_25 ?_
  refine lv_i2b (v := ((v >>> (8 &&& 31)).toInt8).toInt32) hx hb dX1_word_26 rfl ?_
  refine gk_bast hx hb hK hP hD hS 0 rfl (o + 2) (nI_add o 2) (by omega) (hn) (y := gk_by v 1) (gk_88 (gk_sr_by v (8 &&& 31) 1 (by decide) (by decide +kernel))) dX1_word_27 (fun H locs hP hD hS => ?_)
  have hP : va_P G vwCl [gk_xb c a1 n (va_up (va_up (va_up f o (gk_by v 3)) (o + 1) (gk_by v 2)) (o + 2) (gk_by v 1))] H := hP
  have hD : va_D A [gk_xb c a1 n (va_up (va_up (va_up f o (gk_by v 3)) (o + 1) (gk_by v 2)) (o + 2) (gk_by v 1))] := hD
  refine lv_aload_n hx hb dX1_word_28 rfl (lv_at hl 0 rfl) ?_
  refine lv_iload_n hx hb dX1_word_29 rfl (lv_at hl 1 rfl) ?_
  refine lv_iconst (v := 3) hx hb dX1_word_30 (by decide) ?_
  refine lv_iadd hx hb dX1_word_31 ?_
  refine lv_iload_n hx hb dX1_word_32 rfl (lv_at hl 2 rfl) ?_
  refine lv_i2b (v := (v.toInt8).toInt32) hx hb dX1_word_33 rfl ?_
  refine gk_bast hx hb hK hP hD hS 0 rfl (o + 3) (nI_add o 3) (by omega) (hn) (y := gk_by v 0) (gk_88 (gk_by0 v)) dX1_word_34 (fun H locs hP hD hS => ?_)
  have hP : va_P G vwCl [gk_xb c a1 n (va_up (va_up (va_up (va_up f o (gk_by v 3)) (o + 1) (gk_by v 2)) (o + 2) (gk_by v 1)) (o + 3) (gk_by v 0))] H := hP
  have hD : va_D A [gk_xb c a1 n (va_up (va_up (va_up (va_up f o (gk_by v 3)) (o + 1) (gk_by v 2)) (o + 2) (gk_by v 1)) (o + 3) (gk_by v 0))] := hD
  have hP : va_P G vwCl [gk_xb c a1 n (gk_lay f o v)] H := gk_ext hP 0 rfl (gk_lay f o v) (fun j _ => congrFun (gk_lay4 f o v) j)
  have hD : va_D A [gk_xb c a1 n (gk_lay f o v)] := va_D.set (p := 0) hD rfl
  exact gk_vret hQ hx hb hr hlocks (Nat.le_of_ble_eq_true rfl) (Nat.le_of_ble_eq_true rfl) hP hD hS () (trivial) [0] (by decide) rfl dX1_word_35

set_option maxHeartbeats 4000000 in
set_option maxRecDepth 100000 in
/-- key(h, a, b, c, d): half of the key -/
theorem m_dk (l : Launch) (G : va_G) (c : gk_I) (X : gk_X) (h0 kq bq oq : Nat) (K : Nat → Int8) (hf a b e1 e2 : Int32) (sz : Nat) : Met l yX1_key (ws_ yX1_key cX1_key 7 none) ({ frames := 1, cells := 0, slots := 0, locals := 22 } : Room) (va_Pc [.ref h0, .int hf, .int a, .int b, .int e1, .int e2] (gk_U G c X [(h0, .inr (0, [.ref kq, .ref bq, .ref oq])), gk_xb c kq 32 K] sz)) (va_Qv (fun _ : Unit => True) (gk_B G (fun _ : Unit => [(h0, .inr (0, [.ref kq, .ref bq, .ref oq])), gk_xb c kq 32 (gk_l4 K (gk_hf hf) a b e1 e2)]) (va_A [(h0, .inr (0, [.ref kq, .ref bq, .ref oq])), gk_xb c kq 32 K] sz)) (va_A [(h0, .inr (0, [.ref kq, .ref bq, .ref oq])), gk_xb c kq 32 K] sz)) 0 0 (va_A [(h0, .inr (0, [.ref kq, .ref bq, .ref oq])), gk_xb c kq 32 K] sz) := by
  refine gk_ofW (Qf := fun A => va_Qv (fun _ : Unit => True) (gk_B G (fun _ : Unit => [(h0, .inr (0, [.ref kq, .ref bq, .ref oq])), gk_xb c kq 32 (gk_l4 K (gk_hf hf) a b e1 e2)]) A) A) (by decide) (Nat.le_of_ble_eq_true rfl) ?_
  intro p e s m below meth cd ls A Q hQ hx hb hr hlocks hml hown hts hin hK hC hA hP hD hS hl
  have hown : s.vm.findClass RX1 = some m.cls := hown
  have hl : lv_has ls 7 [(0, .ref h0), (1, .int hf), (2, .int a), (3, .int b), (4, .int e1), (5, .int e2)] := hl
  have h16 := gk_hf_lt hf
  refine lv_iload_n hx hb dX1_key_0 rfl (lv_at hl 1 rfl) ?_
  refine lv_iconst (v := 1) hx hb dX1_key_1 (by decide) ?_
  refine lv_iand hx hb dX1_key_2 ?_
  refine lv_iconst (v := 4) hx hb dX1_key_3 (by decide) ?_
  refine lv_ishl hx hb dX1_key_4 ?_
  refine gk_top (y := nI (gk_hf hf)) (gk_hfS hf) ?_
  refine lv_istore (lv' := [(6, .int (nI (gk_hf hf))), (0, .ref h0), (1, .int hf), (2, .int a), (3, .int b), (4, .int e1), (5, .int e2)]) hx hb dX1_key_5 hl (by decide) rfl (fun ls hl => ?_)
  refine lv_aload_n hx hb dX1_key_7 rfl (lv_at hl 1 rfl) ?_
  refine va_get (D := G) (ci := 0) (v := .ref kq) (C := RX1) (T := TX1) (N := 3) hx hb hts in_X1 hown hK hP 0 rfl rfl 0 (by decide) (hts _ q29) (fun _ h9 => h9) rfl dX1_key_8 ?_
  refine lv_iload hx hb dX1_key_11 (lv_at hl 0 rfl) ?_
  refine lv_iload_n hx hb dX1_key_13 rfl (lv_at hl 3 rfl) ?_
  refine gk_callv (wr := [(h0, .inr (0, [.ref kq, .ref bq, .ref oq]))]) (va_runS (As := [.ref kq, .int (nI (gk_hf hf)), .int a]) (rest := []) ⟨hx, hb, hml, hown, hts⟩ (m_dw l G c X kq 32 K (gk_hf hf) a s.heap.size (by decide) (by omega)) (va_cwS 3 hts (lw_S q322 q323 q8 q324) rfl rfl rfl (by decide +kernel) ⟨(Nat.le_of_ble_eq_true rfl), (Nat.le_of_ble_eq_true rfl)⟩) ⟨gk_blind, gk_pre hP hD hK hC hS hA [1] rfl (by decide)⟩ rfl rfl hl.1 rfl (lv_room (Nat.le_of_ble_eq_true rfl)) dX1_key_14 ⟨(Nat.le_of_ble_eq_true rfl), (Nat.le_of_ble_eq_true rfl)⟩) hP hD hS hA [1] [0] rfl rfl (by decide) (by decide) (fun _ H locs _ hP hD hS => ?_)
  have hP : va_P G vwCl [(h0, .inr (0, [.ref kq, .ref bq, .ref oq])), gk_xb c kq 32 (gk_lay K (gk_hf hf) a)] H := hP
  have hD : va_D A [(h0, .inr (0, [.ref kq, .ref bq, .ref oq])), gk_xb c kq 32 (gk_lay K (gk_hf hf) a)] := hD
  refine lv_aload_n hx hb dX1_key_17 rfl (lv_at hl 1 rfl) ?_
  refine va_get (D := G) (ci := 0) (v := .ref kq) (C := RX1) (T := TX1) (N := 3) hx hb hts in_X1 hown hK hP 0 rfl rfl 0 (by decide) (hts _ q29) (fun _ h9 => h9) rfl dX1_key_18 ?_
  refine lv_iload hx hb dX1_key_21 (lv_at hl 0 rfl) ?_
  refine lv_iconst (v := 4) hx hb dX1_key_23 (by decide) ?_
  refine lv_iadd hx hb dX1_key_24 ?_
  refine gk_top (y := nI (gk_hf hf + 4)) (nI_add (gk_hf hf) 4) ?_
  refine lv_iload_n hx hb dX1_key_25 rfl (lv_at hl 4 rfl) ?_
  refine gk_callv (wr := [(h0, .inr (0, [.ref kq, .ref bq, .ref oq]))]) (va_runS (As := [.ref kq, .int (nI (gk_hf hf + 4)), .int b]) (rest := []) ⟨hx, hb, hml, hown, hts⟩ (m_dw l G c X kq 32 (gk_lay K (gk_hf hf) a) (gk_hf hf + 4) b H.size (by decide) (by omega)) (va_cwS 3 hts (lw_S q322 q323 q8 q324) rfl rfl rfl (by decide +kernel) ⟨(Nat.le_of_ble_eq_true rfl), (Nat.le_of_ble_eq_true rfl)⟩) ⟨gk_blind, gk_pre hP hD hK hC hS hA [1] rfl (by decide)⟩ rfl rfl hl.1 rfl (lv_room (Nat.le_of_ble_eq_true rfl)) dX1_key_26 ⟨(Nat.le_of_ble_eq_true rfl), (Nat.le_of_ble_eq_true rfl)⟩) hP hD hS hA [1] [0] rfl rfl (by decide) (by decide) (fun _ H locs _ hP hD hS => ?_)
  have hP : va_P G vwCl [(h0, .inr (0, [.ref kq, .ref bq, .ref oq])), gk_xb c kq 32 (gk_lay (gk_lay K (gk_hf hf) a) (gk_hf hf + 4) b)] H := hP
  have hD : va_D A [(h0, .inr (0, [.ref kq, .ref bq, .ref oq])), gk_xb c kq 32 (gk_lay (gk_lay K (gk_hf hf) a) (gk_hf hf + 4) b)] := hD
  refine lv_aload_n hx hb dX1_key_29 rfl (lv_at hl 1 rfl) ?_
  refine va_get (D := G) (ci := 0) (v := .ref kq) (C := RX1) (T := TX1) (N := 3) hx hb hts in_X1 hown hK hP 0 rfl rfl 0 (by decide) (hts _ q29) (fun _ h9 => h9) rfl dX1_key_30 ?_
  refine lv_iload hx hb dX1_key_33 (lv_at hl 0 rfl) ?_
  refine lv_bipush (v := 8) hx hb dX1_key_35 (by decide) ?_
  refine lv_iadd hx hb dX1_key_37 ?_
  refine gk_top (y := nI (gk_hf hf + 8)) (nI_add (gk_hf hf) 8) ?_
  refine lv_iload hx hb dX1_key_38 (lv_at hl 5 rfl) ?_
  refine gk_callv (wr := [(h0, .inr (0, [.ref kq, .ref bq, .ref oq]))]) (va_runS (As := [.ref kq, .int (nI (gk_hf hf + 8)), .int e1]) (rest := []) ⟨hx, hb, hml, hown, hts⟩ (m_dw l G c X kq 32 (gk_lay (gk_lay K (gk_hf hf) a) (gk_hf hf + 4) b) (gk_hf hf + 8) e1 H.size (by decide) (by omega)) (va_cwS 3 hts (lw_S q322 q323 q8 q324) rfl rfl rfl (by decide +kernel) ⟨(Nat.le_of_ble_eq_true rfl), (Nat.le_of_ble_eq_true rfl)⟩) ⟨gk_blind, gk_pre hP hD hK hC hS hA [1] rfl (by decide)⟩ rfl rfl hl.1 rfl (lv_room (Nat.le_of_ble_eq_true rfl)) dX1_key_40 ⟨(Nat.le_of_ble_eq_true rfl), (Nat.le_of_ble_eq_true rfl)⟩) hP hD hS hA [1] [0] rfl rfl (by decide) (by decide) (fun _ H locs _ hP hD hS => ?_)
  have hP : va_P G vwCl [(h0, .inr (0, [.ref kq, .ref bq, .ref oq])), gk_xb c kq 32 (gk_lay (gk_lay (gk_lay K (gk_hf hf) a) (gk_hf hf + 4) b) (gk_hf hf + 8) e1)] H := hP
  have hD : va_D A [(h0, .inr (0, [.ref kq, .ref bq, .ref oq])), gk_xb c kq 32 (gk_lay (gk_lay (gk_lay K (gk_hf hf) a) (gk_hf hf + 4) b) (gk_hf hf + 8) e1)] := hD
  refine lv_aload_n hx hb dX1_key_43 rfl (lv_at hl 1 rfl) ?_
  refine va_get (D := G) (ci := 0) (v := .ref kq) (C := RX1) (T := TX1) (N := 3) hx hb hts in_X1 hown hK hP 0 rfl rfl 0 (by decide) (hts _ q29) (fun _ h9 => h9) rfl dX1_key_44 ?_
  refine lv_iload hx hb dX1_key_47 (lv_at hl 0 rfl) ?_
  refine lv_bipush (v := 12) hx hb dX1_key_49 (by decide) ?_
  refine lv_iadd hx hb dX1_key_51 ?_
  refine gk_top (y := nI (gk_hf hf + 12)) (nI_add (gk_hf hf) 12) ?_
  refine lv_iload hx hb dX1_key_52 (lv_at hl 6 rfl) ?_
  refine gk_callv (wr := [(h0, .inr (0, [.ref kq, .ref bq, .ref oq]))]) (va_runS (As := [.ref kq, .int (nI (gk_hf hf + 12)), .int e2]) (rest := []) ⟨hx, hb, hml, hown, hts⟩ (m_dw l G c X kq 32 (gk_lay (gk_lay (gk_lay K (gk_hf hf) a) (gk_hf hf + 4) b) (gk_hf hf + 8) e1) (gk_hf hf + 12) e2 H.size (by decide) (by omega)) (va_cwS 3 hts (lw_S q322 q323 q8 q324) rfl rfl rfl (by decide +kernel) ⟨(Nat.le_of_ble_eq_true rfl), (Nat.le_of_ble_eq_true rfl)⟩) ⟨gk_blind, gk_pre hP hD hK hC hS hA [1] rfl (by decide)⟩ rfl rfl hl.1 rfl (lv_room (Nat.le_of_ble_eq_true rfl)) dX1_key_54 ⟨(Nat.le_of_ble_eq_true rfl), (Nat.le_of_ble_eq_true rfl)⟩) hP hD hS hA [1] [0] rfl rfl (by decide) (by decide) (fun _ H locs _ hP hD hS => ?_)
  have hP : va_P G vwCl [(h0, .inr (0, [.ref kq, .ref bq, .ref oq])), gk_xb c kq 32 (gk_lay (gk_lay (gk_lay (gk_lay K (gk_hf hf) a) (gk_hf hf + 4) b) (gk_hf hf + 8) e1) (gk_hf hf + 12) e2)] H := hP
  have hD : va_D A [(h0, .inr (0, [.ref kq, .ref bq, .ref oq])), gk_xb c kq 32 (gk_lay (gk_lay (gk_lay (gk_lay K (gk_hf hf) a) (gk_hf hf + 4) b) (gk_hf hf + 8) e1) (gk_hf hf + 12) e2)] := hD
  exact gk_vret hQ hx hb hr hlocks (Nat.le_of_ble_eq_true rfl) (Nat.le_of_ble_eq_true rfl) hP hD hS () (trivial) [0, 1] (by decide) rfl dX1_key_57

set_option maxHeartbeats 4000000 in
set_option maxRecDepth 100000 in
/-- block(a, b) -/
theorem m_db (l : Launch) (G : va_G) (c : gk_I) (X : gk_X) (h0 kq bq oq : Nat) (B : Nat → Int8) (a b : Int32) (sz : Nat) : Met l yX1_block (ws_ yX1_block cX1_block 3 none) ({ frames := 1, cells := 0, slots := 0, locals := 22 } : Room) (va_Pc [.ref h0, .int a, .int b] (gk_U G c X [(h0, .inr (0, [.ref kq, .ref bq, .ref oq])), gk_xb c bq 8 B] sz)) (va_Qv (fun _ : Unit => True) (gk_B G (fun _ : Unit => [(h0, .inr (0, [.ref kq, .ref bq, .ref oq])), gk_xb c bq 8 (gk_l2 B a b)]) (va_A [(h0, .inr (0, [.ref kq, .ref bq, .ref oq])), gk_xb c bq 8 B] sz)) (va_A [(h0, .inr (0, [.ref kq, .ref bq, .ref oq])), gk_xb c bq 8 B] sz)) 0 0 (va_A [(h0, .inr (0, [.ref kq, .ref bq, .ref oq])), gk_xb c bq 8 B] sz) := by
  refine gk_ofW (Qf := fun A => va_Qv (fun _ : Unit => True) (gk_B G (fun _ : Unit => [(h0, .inr (0, [.ref kq, .ref bq, .ref oq])), gk_xb c bq 8 (gk_l2 B a b)]) A) A) (by decide) (Nat.le_of_ble_eq_true rfl) ?_
  intro p e s m below meth cd ls A Q hQ hx hb hr hlocks hml hown hts hin hK hC hA hP hD hS hl
  have hown : s.vm.findClass RX1 = some m.cls := hown
  have hl : lv_has ls 3 [(0, .ref h0), (1, .int a), (2, .int b)] := hl
  refine lv_aload_n hx hb dX1_block_0 rfl (lv_at hl 0 rfl) ?_
  refine va_get (D := G) (ci := 0) (v := .ref bq) (C := RX1) (T := TX1) (N := 3) hx hb hts in_X1 hown hK hP 0 rfl rfl 1 (by decide) (hts _ q30) (fun _ h9 => h9) rfl dX1_block_1 ?_
  refine lv_iconst (v := 0) hx hb dX1_block_4 (by decide) ?_
  refine lv_iload_n hx hb dX1_block_5 rfl (lv_at hl 1 rfl) ?_
  refine gk_callv (wr := [(h0, .inr (0, [.ref kq, .ref bq, .ref oq]))]) (va_runS (As := [.ref bq, .int (nI (0)), .int a]) (rest := []) ⟨hx, hb, hml, hown, hts⟩ (m_dw l G c X bq 8 B (0) a s.heap.size (by decide) (by decide)) (va_cwS 3 hts (lw_S q322 q323 q8 q324) rfl rfl rfl (by decide +kernel) ⟨(Nat.le_of_ble_eq_true rfl), (Nat.le_of_ble_eq_true rfl)⟩) ⟨gk_blind, gk_pre hP hD hK hC hS hA [1] rfl (by decide)⟩ rfl rfl hl.1 rfl (lv_room (Nat.le_of_ble_eq_true rfl)) dX1_block_6 ⟨(Nat.le_of_ble_eq_true rfl), (Nat.le_of_ble_eq_true rfl)⟩) hP hD hS hA [1] [0] rfl rfl (by decide) (by decide) (fun _ H locs _ hP hD hS => ?_)
  have hP : va_P G vwCl [(h0, .inr (0, [.ref kq, .ref bq, .ref oq])), gk_xb c bq 8 (gk_lay B (0) a)] H := hP
  have hD : va_D A [(h0, .inr (0, [.ref kq, .ref bq, .ref oq])), gk_xb c bq 8 (gk_lay B (0) a)] := hD
  refine lv_aload_n hx hb dX1_block_9 rfl (lv_at hl 0 rfl) ?_
  refine va_get (D := G) (ci := 0) (v := .ref bq) (C := RX1) (T := TX1) (N := 3) hx hb hts in_X1 hown hK hP 0 rfl rfl 1 (by decide) (hts _ q30) (fun _ h9 => h9) rfl dX1_block_10 ?_
  refine lv_iconst (v := 4) hx hb dX1_block_13 (by decide) ?_
  refine lv_iload_n hx hb dX1_block_14 rfl (lv_at hl 2 rfl) ?_
  refine gk_callv (wr := [(h0, .inr (0, [.ref kq, .ref bq, .ref oq]))]) (va_runS (As := [.ref bq, .int (nI (4)), .int b]) (rest := []) ⟨hx, hb, hml, hown, hts⟩ (m_dw l G c X bq 8 (gk_lay B (0) a) (4) b H.size (by decide) (by decide)) (va_cwS 3 hts (lw_S q322 q323 q8 q324) rfl rfl rfl (by decide +kernel) ⟨(Nat.le_of_ble_eq_true rfl), (Nat.le_of_ble_eq_true rfl)⟩) ⟨gk_blind, gk_pre hP hD hK hC hS hA [1] rfl (by decide)⟩ rfl rfl hl.1 rfl (lv_room (Nat.le_of_ble_eq_true rfl)) dX1_block_15 ⟨(Nat.le_of_ble_eq_true rfl), (Nat.le_of_ble_eq_true rfl)⟩) hP hD hS hA [1] [0] rfl rfl (by decide) (by decide) (fun _ H locs _ hP hD hS => ?_)
  have hP : va_P G vwCl [(h0, .inr (0, [.ref kq, .ref bq, .ref oq])), gk_xb c bq 8 (gk_lay (gk_lay B (0) a) (4) b)] H := hP
  have hD : va_D A [(h0, .inr (0, [.ref kq, .ref bq, .ref oq])), gk_xb c bq 8 (gk_lay (gk_lay B (0) a) (4) b)] := hD
  exact gk_vret hQ hx hb hr hlocks (Nat.le_of_ble_eq_true rfl) (Nat.le_of_ble_eq_true rfl) hP hD hS () (trivial) [0, 1] (by decide) rfl dX1_block_18

set_option maxHeartbeats 4000000 in
set_option maxRecDepth 100000 in
/-- size: 32 -/
theorem m_sz (l : Launch) (G : va_G) (c : gk_I) (X : gk_X) (v : Int32) (sz : Nat) : Met l yX1_size (ws_ yX1_size cX1_size 1 (some .int)) ({ frames := 0, cells := 0, slots := 0, locals := 0 } : Room) (va_Pc [.int v] (gk_U G c X [] sz)) (va_Qi (fun (r : Int32) (_ : Unit) => r = 32) (gk_B G (fun _ : Unit => []) (va_A [] sz)) (va_A [] sz)) 0 0 (va_A [] sz) := by
  refine gk_ofW (Qf := fun A => va_Qi (fun (r : Int32) (_ : Unit) => r = 32) (gk_B G (fun _ : Unit => []) A) A) (by decide) (Nat.le_of_ble_eq_true rfl) ?_
  intro p e s m below meth cd ls A Q hQ hx hb hr hlocks hml hown hts hin hK hC hA hP hD hS hl
  have hown : s.vm.findClass RX1 = some m.cls := hown
  have hl : lv_has ls 1 [(0, .int v)] := hl
  refine lv_bipush (v := 32) hx hb dX1_size_0 (by decide) ?_
  exact gk_iret hQ hx hb hr hlocks (Nat.le_of_ble_eq_true rfl) (Nat.le_of_ble_eq_true rfl) hP hD hS () (rfl) [] (by decide) rfl dX1_size_2

set_option maxHeartbeats 4000000 in
set_option maxRecDepth 100000 in
/-- run(o, kind): the block through the cipher into out -/
theorem m_rn (l : Launch) (G : va_G) (c : gk_I) (X : gk_X) (h0 kq bq oq : Nat) (K B O : Nat → Int8) (o : Bool) (kd : Int32) (sz : Nat) : Met l yX1_run (ws_ yX1_run cX1_run 6 none) ({ frames := 4, cells := 5, slots := 76, locals := 112 } : Room) (va_Pc [.ref h0, .int (gk_fe o), .int kd] (gk_U G c X [(h0, .inr (0, [.ref kq, .ref bq, .ref oq])), gk_xb c kq 32 K, gk_xb c bq 8 B, gk_xb c oq 8 O] sz)) (va_Qv (fun _ : Unit => True) (gk_B G (fun _ : Unit => [(h0, .inr (0, [.ref kq, .ref bq, .ref oq])), gk_xb c kq 32 K, gk_xb c bq 8 B, gk_xb c oq 8 (gk_cry K B o)]) (va_A [(h0, .inr (0, [.ref kq, .ref bq, .ref oq])), gk_xb c kq 32 K, gk_xb c bq 8 B, gk_xb c oq 8 O] sz)) (va_A [(h0, .inr (0, [.ref kq, .ref bq, .ref oq])), gk_xb c kq 32 K, gk_xb c bq 8 B, gk_xb c oq 8 O] sz)) 5 76 (va_A [(h0, .inr (0, [.ref kq, .ref bq, .ref oq])), gk_xb c kq 32 K, gk_xb c bq 8 B, gk_xb c oq 8 O] sz) := by
  refine gk_ofW (Qf := fun A => va_Qv (fun _ : Unit => True) (gk_B G (fun _ : Unit => [(h0, .inr (0, [.ref kq, .ref bq, .ref oq])), gk_xb c kq 32 K, gk_xb c bq 8 B, gk_xb c oq 8 (gk_cry K B o)]) A) A) (by decide) (Nat.le_of_ble_eq_true rfl) ?_
  intro p e s m below meth cd ls A Q hQ hx hb hr hlocks hml hown hts hin hK hC hA hP hD hS hl
  have hown : s.vm.findClass RX1 = some m.cls := hown
  have hl : lv_has ls 6 [(0, .ref h0), (1, .int (gk_fe o)), (2, .int kd)] := hl
  refine lv_iload_n hx hb dX1_run_0 rfl (lv_at hl 2 rfl) ?_
  refine lv_iconst (v := 3) hx hb dX1_run_1 (by decide) ?_
  refine lv_iand hx hb dX1_run_2 ?_
  refine gk_calli (wr := [(h0, .inr (0, [.ref kq, .ref bq, .ref oq])), gk_xb c kq 32 K, gk_xb c bq 8 B, gk_xb c oq 8 O]) (va_runS (As := [.int (kd &&& 3)]) (rest := []) ⟨hx, hb, hml, hown, hts⟩ (m_sz l G c X (kd &&& 3) s.heap.size) (va_cwS 1 hts (lw_S q48 q49 q8 q50) rfl rfl rfl (by decide +kernel) ⟨(Nat.le_of_ble_eq_true rfl), (Nat.le_of_ble_eq_true rfl)⟩) ⟨gk_blind, gk_pre hP hD hK hC hS hA [] rfl (by decide)⟩ rfl rfl hl.1 rfl (lv_room (Nat.le_of_ble_eq_true rfl)) dX1_run_3 ⟨(Nat.le_of_ble_eq_true rfl), (Nat.le_of_ble_eq_true rfl)⟩) hP hD hS hA [] [0, 1, 2, 3] rfl rfl (by decide) (by decide) (fun r _ H locs hw hP hD hS => ?_)
  have hP : va_P G vwCl [(h0, .inr (0, [.ref kq, .ref bq, .ref oq])), gk_xb c kq 32 K, gk_xb c bq 8 B, gk_xb c oq 8 O] H := hP
  have hD : va_D A [(h0, .inr (0, [.ref kq, .ref bq, .ref oq])), gk_xb c kq 32 K, gk_xb c bq 8 B, gk_xb c oq 8 O] := hD
  have hw : r = 32 := hw
  subst hw
  refine lv_istore_n (lv' := [(3, .int 32), (0, .ref h0), (1, .int (gk_fe o)), (2, .int kd)]) hx hb dX1_run_6 rfl hl (by decide) rfl (fun ls hl => ?_)
  refine lv_iload_n hx hb dX1_run_7 rfl (lv_at hl 0 rfl) ?_
  refine gk_newb hx hb (hts _ q39) hK hP hD hS hA 32 (rfl) (by decide) (Nat.le_of_ble_eq_true rfl) (Nat.le_of_ble_eq_true rfl) dX1_run_8 (fun k4 H hP hD hS => ?_)
  have hP : va_P G vwCl [(h0, .inr (0, [.ref kq, .ref bq, .ref oq])), gk_xb c kq 32 K, gk_xb c bq 8 B, gk_xb c oq 8 O, gk_xb c k4 32 (fun _ => 0)] H := hP
  have hD : va_D A [(h0, .inr (0, [.ref kq, .ref bq, .ref oq])), gk_xb c kq 32 K, gk_xb c bq 8 B, gk_xb c oq 8 O, gk_xb c k4 32 (fun _ => 0)] := hD
  refine lv_astore (lv' := [(4, .ref k4), (3, .int 32), (0, .ref h0), (1, .int (gk_fe o)), (2, .int kd)]) hx hb dX1_run_10 hl (by decide) rfl (fun ls hl => ?_)
  refine lv_iconst (v := 0) hx hb dX1_run_12 (by decide) ?_
  refine lv_istore (lv' := [(5, .int 0), (4, .ref k4), (3, .int 32), (0, .ref h0), (1, .int (gk_fe o)), (2, .int kd)]) hx hb dX1_run_13 hl (by decide) rfl (fun ls hl => ?_)
  have hP : va_P G vwCl [(h0, .inr (0, [.ref kq, .ref bq, .ref oq])), gk_xb c kq 32 K, gk_xb c bq 8 B, gk_xb c oq 8 O, gk_xb c k4 32 (gk_cpy K (fun _ => 0) 0)] H := gk_ext hP 4 rfl (gk_cpy K (fun _ => 0) 0) (fun j _ => (congrFun (gk_cpy0 K (fun _ => 0)) j).symm)
  have hD : va_D A [(h0, .inr (0, [.ref kq, .ref bq, .ref oq])), gk_xb c kq 32 K, gk_xb c bq 8 B, gk_xb c oq 8 O, gk_xb c k4 32 (gk_cpy K (fun _ => 0) 0)] := va_D.set (p := 4) hD rfl
  have hl : lv_has ls 6 [(5, .int (nI 0)), (4, .ref k4), (3, .int 32), (0, .ref h0), (1, .int (gk_fe o)), (2, .int kd)] := (lv_sub hl [0, 1, 2, 3, 4, 5] rfl)
  have loop : ∀ (n i : Nat), i + n = 32 → ∀ (H : Heap) (locs : List Loc), va_P G vwCl [(h0, .inr (0, [.ref kq, .ref bq, .ref oq])), gk_xb c kq 32 K, gk_xb c bq 8 B, gk_xb c oq 8 O, gk_xb c k4 32 (gk_cpy K (fun _ => 0) i)] H → va_D A [(h0, .inr (0, [.ref kq, .ref bq, .ref oq])), gk_xb c kq 32 K, gk_xb c bq 8 B, gk_xb c oq 8 O, gk_xb c k4 32 (gk_cpy K (fun _ => 0) i)] → va_S A s.heap H locs → ∀ ls : Array Slot, lv_has ls 6 [(5, .int (nI i)), (4, .ref k4), (3, .int 32), (0, .ref h0), (1, .int (gk_fe o)), (2, .int kd)] → W p l e ({ frames := 4, cells := 5, slots := 76, locals := 112 } : Room) s m ([.ref h0, .int (gk_fe o), .int kd] : List Value).toArray below meth cd H locs ((0 + 0) + 1) ((0 + 0) + 32) Q (F0 m 15 ls []) := by
    intro n
    induction n with
    | zero =>
      intro i hi H locs hP hD hS ls hl
      obtain rfl : i = 32 := by omega
      refine lv_iload hx hb dX1_run_15 (lv_at hl 0 rfl) ?_
      refine lv_iload_n hx hb dX1_run_17 rfl (lv_at hl 2 rfl) ?_
      refine gk_jge (tgt := 39) hx hb 32 32 rfl rfl (by decide) (by decide) dX1_run_18 (by decide) (fun _ => ?_) (fun h => absurd h (by decide))
      have hP : va_P G vwCl [(h0, .inr (0, [.ref kq, .ref bq, .ref oq])), gk_xb c kq 32 K, gk_xb c bq 8 B, gk_xb c oq 8 O, gk_xb c k4 32 K] H := gk_ext hP 4 rfl K (fun j hj => gk_cpyN K (fun _ => 0) 32 j hj)
      have hD : va_D A [(h0, .inr (0, [.ref kq, .ref bq, .ref oq])), gk_xb c kq 32 K, gk_xb c bq 8 B, gk_xb c oq 8 O, gk_xb c k4 32 K] := va_D.set (p := 4) hD rfl
      refine va_new (D := G) (ci := 1) (fs := [.null, .int 0, .null]) (C := RX2) (T := TX2) (N := 3) hx hb hts in_X2 tyX2 tyX2_ok hown (hts _ q51) (hts _ q52) (hts _ q9) hK hP hD hS hA rfl (fun j hj => by rcases (show j = 0 ∨ j = 1 ∨ j = 2 by omega) with rfl | rfl | rfl <;> rfl) (Nat.le_of_ble_eq_true rfl) (Nat.le_of_ble_eq_true rfl) dX1_run_39 (fun en H hP hD hS => ?_)
      have hP : va_P G vwCl [(h0, .inr (0, [.ref kq, .ref bq, .ref oq])), gk_xb c kq 32 K, gk_xb c bq 8 B, gk_xb c oq 8 O, gk_xb c k4 32 K, (en, .inr (1, [.null, .int 0, .null]))] H := hP
      have hD : va_D A [(h0, .inr (0, [.ref kq, .ref bq, .ref oq])), gk_xb c kq 32 K, gk_xb c bq 8 B, gk_xb c oq 8 O, gk_xb c k4 32 K, (en, .inr (1, [.null, .int 0, .null]))] := hD
      refine lv_dup hx hb dX1_run_42 rfl ?_
      refine gk_callv (wr := [(h0, .inr (0, [.ref kq, .ref bq, .ref oq])), gk_xb c kq 32 K, gk_xb c bq 8 B, gk_xb c oq 8 O, gk_xb c k4 32 K]) (va_runI (As := []) (rest := [.ref en]) ⟨hx, hb, hml, hown, hts⟩ (m_ei l G c X en H.size) (cwI 0 hts (lw_meth q55) rfl rfl rfl (hts _ q9) (hts _ q53) (hts _ q54) rfl (by decide +kernel) ⟨(Nat.le_of_ble_eq_true rfl), (Nat.le_of_ble_eq_true rfl)⟩) ⟨gk_blind, gk_pre hP hD hK hC hS hA [5] rfl (by decide)⟩ rfl rfl hl.1 rfl (lv_room (Nat.le_of_ble_eq_true rfl)) dX1_run_43 ⟨(Nat.le_of_ble_eq_true rfl), (Nat.le_of_ble_eq_true rfl)⟩) hP hD hS hA [5] [0, 1, 2, 3, 4] rfl rfl (by decide) (by decide) (fun _ H locs _ hP hD hS => ?_)
      have hP : va_P G vwCl [(h0, .inr (0, [.ref kq, .ref bq, .ref oq])), gk_xb c kq 32 K, gk_xb c bq 8 B, gk_xb c oq 8 O, gk_xb c k4 32 K, (en, .inr (1, [.null, .int 0, .ref X.1]))] H := hP
      have hD : va_D A [(h0, .inr (0, [.ref kq, .ref bq, .ref oq])), gk_xb c kq 32 K, gk_xb c bq 8 B, gk_xb c oq 8 O, gk_xb c k4 32 K, (en, .inr (1, [.null, .int 0, .ref X.1]))] := hD
      refine lv_astore (lv' := [(5, .ref en), (4, .ref k4), (3, .int 32), (0, .ref h0), (1, .int (gk_fe o)), (2, .int kd)]) hx hb dX1_run_46 hl (by decide) rfl (fun ls hl => ?_)
      refine lv_aload hx hb dX1_run_48 (lv_at hl 0 rfl) ?_
      refine lv_iload_n hx hb dX1_run_50 rfl (lv_at hl 4 rfl) ?_
      refine va_new (D := G) (ci := 2) (fs := [.null]) (C := RX3) (T := TX3) (N := 1) hx hb hts in_X3 tyX3 tyX3_ok hown (hts _ q69) (hts _ q70) (hts _ q10) hK hP hD hS hA rfl (fun j hj => by rcases (show j = 0 by omega) with rfl <;> rfl) (Nat.le_of_ble_eq_true rfl) (Nat.le_of_ble_eq_true rfl) dX1_run_51 (fun kp H hP hD hS => ?_)
      have hP : va_P G vwCl [(h0, .inr (0, [.ref kq, .ref bq, .ref oq])), gk_xb c kq 32 K, gk_xb c bq 8 B, gk_xb c oq 8 O, gk_xb c k4 32 K, (en, .inr (1, [.null, .int 0, .ref X.1])), (kp, .inr (2, [.null]))] H := hP
      have hD : va_D A [(h0, .inr (0, [.ref kq, .ref bq, .ref oq])), gk_xb c kq 32 K, gk_xb c bq 8 B, gk_xb c oq 8 O, gk_xb c k4 32 K, (en, .inr (1, [.null, .int 0, .ref X.1])), (kp, .inr (2, [.null]))] := hD
      refine lv_dup hx hb dX1_run_54 rfl ?_
      refine lv_aload hx hb dX1_run_55 (lv_at hl 1 rfl) ?_
      refine gk_callv (wr := [(h0, .inr (0, [.ref kq, .ref bq, .ref oq])), gk_xb c kq 32 K, gk_xb c bq 8 B, gk_xb c oq 8 O, (en, .inr (1, [.null, .int 0, .ref X.1]))]) (va_runI (As := [.ref k4]) (rest := [.ref kp, .int (gk_fe o), .ref en]) ⟨hx, hb, hml, hown, hts⟩ (m_kp l G c X kp k4 K H.size) (cwI 1 hts (lw_meth q73) rfl rfl rfl (hts _ q10) (hts _ q71) (hts _ q72) rfl (by decide +kernel) ⟨(Nat.le_of_ble_eq_true rfl), (Nat.le_of_ble_eq_true rfl)⟩) ⟨gk_blind, gk_pre hP hD hK hC hS hA [6, 4] rfl (by decide)⟩ rfl rfl hl.1 rfl (lv_room (Nat.le_of_ble_eq_true rfl)) dX1_run_57 ⟨(Nat.le_of_ble_eq_true rfl), (Nat.le_of_ble_eq_true rfl)⟩) hP hD hS hA [6, 4] [0, 1, 2, 3, 5] rfl rfl (by decide) (by decide) (fun kk H locs _ hP hD hS => ?_)
      have hP : va_P G vwCl [(h0, .inr (0, [.ref kq, .ref bq, .ref oq])), gk_xb c kq 32 K, gk_xb c bq 8 B, gk_xb c oq 8 O, (en, .inr (1, [.null, .int 0, .ref X.1])), (kp, .inr (2, [.ref kk])), gk_xb c k4 32 K, gk_xb c kk 32 K] H := hP
      have hD : va_D A [(h0, .inr (0, [.ref kq, .ref bq, .ref oq])), gk_xb c kq 32 K, gk_xb c bq 8 B, gk_xb c oq 8 O, (en, .inr (1, [.null, .int 0, .ref X.1])), (kp, .inr (2, [.ref kk])), gk_xb c k4 32 K, gk_xb c kk 32 K] := hD
      refine gk_callFv (wr := [(h0, .inr (0, [.ref kq, .ref bq, .ref oq])), gk_xb c kq 32 K, gk_xb c bq 8 B, gk_xb c oq 8 O, gk_xb c k4 32 K]) (va_runF (As := [.int (gk_fe o), .ref kp]) (rest := []) (hK.1 1 _ rfl).2 ⟨hx, hb, hml, hown, hts⟩ (m_in l G c X en kp kk 0 o K H.size) (va_cwF 2 hts (lw_F q89 q93 q95 q9 q97) rfl rfl rfl hC.2.2.2.1 (by decide +kernel) ⟨(Nat.le_of_ble_eq_true rfl), (Nat.le_of_ble_eq_true rfl)⟩) ⟨gk_blind, va_recv hK hP (ci := 1) (q0 := 4) rfl rfl, gk_pre hP hD hK hC hS hA [4, 5, 7] rfl (by decide)⟩ rfl rfl hl.1 rfl (lv_room (Nat.le_of_ble_eq_true rfl)) dX1_run_60 ⟨(Nat.le_of_ble_eq_true rfl), (Nat.le_of_ble_eq_true rfl)⟩) hP hD hS hA [4, 5, 7] [0, 1, 2, 3, 6] rfl rfl (by decide) (by decide) (fun u H locs _ hP hD hS => ?_)
      have hP : va_P G vwCl [(h0, .inr (0, [.ref kq, .ref bq, .ref oq])), gk_xb c kq 32 K, gk_xb c bq 8 B, gk_xb c oq 8 O, gk_xb c k4 32 K, (en, .inr (1, [.ref u.1, .int (gk_fe o), .ref X.1])), (kp, .inr (2, [.ref u.2])), gk_xb c u.2 32 K, gk_xi c u.1 8 (gk_key K)] H := hP
      have hD : va_D A [(h0, .inr (0, [.ref kq, .ref bq, .ref oq])), gk_xb c kq 32 K, gk_xb c bq 8 B, gk_xb c oq 8 O, gk_xb c k4 32 K, (en, .inr (1, [.ref u.1, .int (gk_fe o), .ref X.1])), (kp, .inr (2, [.ref u.2])), gk_xb c u.2 32 K, gk_xi c u.1 8 (gk_key K)] := hD
      refine lv_aload hx hb dX1_run_65 (lv_at hl 0 rfl) ?_
      refine lv_aload_n hx hb dX1_run_67 rfl (lv_at hl 3 rfl) ?_
      refine va_get (D := G) (ci := 0) (v := .ref bq) (C := RX1) (T := TX1) (N := 3) hx hb hts in_X1 hown hK hP 0 rfl rfl 1 (by decide) (hts _ q30) (fun _ h9 => h9) rfl dX1_run_68 ?_
      refine lv_iconst (v := 0) hx hb dX1_run_71 (by decide) ?_
      refine lv_aload_n hx hb dX1_run_72 rfl (lv_at hl 3 rfl) ?_
      refine va_get (D := G) (ci := 0) (v := .ref oq) (C := RX1) (T := TX1) (N := 3) hx hb hts in_X1 hown hK hP 0 rfl rfl 2 (by decide) (hts _ q31) (fun _ h9 => h9) rfl dX1_run_73 ?_
      refine lv_iconst (v := 0) hx hb dX1_run_76 (by decide) ?_
      refine gk_callFi (wr := [(h0, .inr (0, [.ref kq, .ref bq, .ref oq])), gk_xb c kq 32 K, gk_xb c k4 32 K, (kp, .inr (2, [.ref u.2])), gk_xb c u.2 32 K]) (va_runF (As := [.ref bq, .int 0, .ref oq, .int 0]) (rest := []) (hK.1 1 _ rfl).2 ⟨hx, hb, hml, hown, hts⟩ (m_pb l G c X en u.1 bq oq o (gk_key K) B O H.size) (va_cwF 4 hts (lw_F q220 q223 q225 q9 q227) rfl rfl rfl hC.2.2.2.2.1 (by decide +kernel) ⟨(Nat.le_of_ble_eq_true rfl), (Nat.le_of_ble_eq_true rfl)⟩) ⟨gk_blind, va_recv hK hP (ci := 1) (q0 := 5) rfl rfl, gk_pre hP hD hK hC hS hA [5, 8, 2, 3] rfl (by decide)⟩ rfl rfl hl.1 rfl (lv_room (Nat.le_of_ble_eq_true rfl)) dX1_run_77 ⟨(Nat.le_of_ble_eq_true rfl), (Nat.le_of_ble_eq_true rfl)⟩) hP hD hS hA [5, 8, 2, 3] [0, 1, 4, 6, 7] rfl rfl (by decide) (by decide) (fun r _ H locs hw hP hD hS => ?_)
      have hP : va_P G vwCl [(h0, .inr (0, [.ref kq, .ref bq, .ref oq])), gk_xb c kq 32 K, gk_xb c k4 32 K, (kp, .inr (2, [.ref u.2])), gk_xb c u.2 32 K, (en, .inr (1, [.ref u.1, .int (gk_fe o), .ref X.1])), gk_xi c u.1 8 (gk_key K), gk_xb c bq 8 B, gk_xb c oq 8 (gk_out (gk_run (gk_key K) o (gk_x B)))] H := hP
      have hD : va_D A [(h0, .inr (0, [.ref kq, .ref bq, .ref oq])), gk_xb c kq 32 K, gk_xb c k4 32 K, (kp, .inr (2, [.ref u.2])), gk_xb c u.2 32 K, (en, .inr (1, [.ref u.1, .int (gk_fe o), .ref X.1])), gk_xi c u.1 8 (gk_key K), gk_xb c bq 8 B, gk_xb c oq 8 (gk_out (gk_run (gk_key K) o (gk_x B)))] := hD
      have hw : r = 8 := hw
      subst hw
      refine lv_pop hx hb dX1_run_82 rfl ?_
      exact gk_vret hQ hx hb hr hlocks (Nat.le_of_ble_eq_true rfl) (Nat.le_of_ble_eq_true rfl) hP hD hS () (trivial) [0, 1, 7, 8] (by decide) rfl dX1_run_83
    | succ n ih =>
      intro i hi H locs hP hD hS ls hl
      refine lv_iload hx hb dX1_run_15 (lv_at hl 0 rfl) ?_
      refine lv_iload_n hx hb dX1_run_17 rfl (lv_at hl 2 rfl) ?_
      refine gk_jge (tgt := 39) hx hb i 32 rfl rfl (by omega) (by decide) dX1_run_18 (by decide) (fun h => absurd h (by omega)) (fun _ => ?_)
      refine lv_aload hx hb dX1_run_21 (lv_at hl 1 rfl) ?_
      refine lv_iload hx hb dX1_run_23 (lv_at hl 0 rfl) ?_
      refine lv_aload_n hx hb dX1_run_25 rfl (lv_at hl 3 rfl) ?_
      refine va_get (D := G) (ci := 0) (v := .ref kq) (C := RX1) (T := TX1) (N := 3) hx hb hts in_X1 hown hK hP 0 rfl rfl 0 (by decide) (hts _ q29) (fun _ h9 => h9) rfl dX1_run_26 ?_
      refine lv_iload hx hb dX1_run_29 (lv_at hl 0 rfl) ?_
      refine gk_bald hx hb hK hP 1 rfl i (rfl) (by omega) (by decide) dX1_run_31 ?_
      refine gk_bast hx hb hK hP hD hS 4 rfl i (rfl) (by omega) (by decide) (y := K i) (gk_88 rfl) dX1_run_32 (fun H locs hP hD hS => ?_)
      have hP : va_P G vwCl [(h0, .inr (0, [.ref kq, .ref bq, .ref oq])), gk_xb c kq 32 K, gk_xb c bq 8 B, gk_xb c oq 8 O, gk_xb c k4 32 (va_up (gk_cpy K (fun _ => 0) i) i (K i))] H := hP
      have hD : va_D A [(h0, .inr (0, [.ref kq, .ref bq, .ref oq])), gk_xb c kq 32 K, gk_xb c bq 8 B, gk_xb c oq 8 O, gk_xb c k4 32 (va_up (gk_cpy K (fun _ => 0) i) i (K i))] := hD
      have hP : va_P G vwCl [(h0, .inr (0, [.ref kq, .ref bq, .ref oq])), gk_xb c kq 32 K, gk_xb c bq 8 B, gk_xb c oq 8 O, gk_xb c k4 32 (gk_cpy K (fun _ => 0) (i + 1))] H := gk_ext hP 4 rfl (gk_cpy K (fun _ => 0) (i + 1)) (fun j _ => congrFun (gk_cpy1 K (fun _ => 0) i) j)
      have hD : va_D A [(h0, .inr (0, [.ref kq, .ref bq, .ref oq])), gk_xb c kq 32 K, gk_xb c bq 8 B, gk_xb c oq 8 O, gk_xb c k4 32 (gk_cpy K (fun _ => 0) (i + 1))] := va_D.set (p := 4) hD rfl
      refine lv_iinc (v := nI (i + 1)) (lv' := [(5, .int (nI (i + 1))), (4, .ref k4), (3, .int 32), (0, .ref h0), (1, .int (gk_fe o)), (2, .int kd)]) hx hb dX1_run_33 hl (k := 0) rfl (gk_inc i) (by decide) rfl (fun ls hl => ?_)
      refine lv_goto (tgt := 15) hx hb dX1_run_36 (by decide) ?_
      exact ih (i + 1) (by omega) _ _ hP hD hS ls (lv_sub hl [0, 1, 2, 3, 4, 5] rfl)
  exact loop 32 0 rfl _ _ hP hD hS ls hl

set_option maxHeartbeats 4000000 in
set_option maxRecDepth 100000 in
/-- lock(kind): out becomes the block through the cipher -/
theorem m_lk (l : Launch) (G : va_G) (c : gk_I) (X : gk_X) (h0 kq bq oq : Nat) (K B O : Nat → Int8) (kd : Int32) (sz : Nat) : Met l yX1_lock (ws_ yX1_lock cX1_lock 2 none) ({ frames := 5, cells := 5, slots := 76, locals := 137 } : Room) (va_Pc [.ref h0, .int kd] (gk_U G c X [(h0, .inr (0, [.ref kq, .ref bq, .ref oq])), gk_xb c kq 32 K, gk_xb c bq 8 B, gk_xb c oq 8 O] sz)) (va_Qv (fun _ : Unit => True) (gk_B G (fun _ : Unit => [(h0, .inr (0, [.ref kq, .ref bq, .ref oq])), gk_xb c kq 32 K, gk_xb c bq 8 B, gk_xb c oq 8 (gk_cry K B false)]) (va_A [(h0, .inr (0, [.ref kq, .ref bq, .ref oq])), gk_xb c kq 32 K, gk_xb c bq 8 B, gk_xb c oq 8 O] sz)) (va_A [(h0, .inr (0, [.ref kq, .ref bq, .ref oq])), gk_xb c kq 32 K, gk_xb c bq 8 B, gk_xb c oq 8 O] sz)) 5 76 (va_A [(h0, .inr (0, [.ref kq, .ref bq, .ref oq])), gk_xb c kq 32 K, gk_xb c bq 8 B, gk_xb c oq 8 O] sz) := by
  refine gk_ofW (Qf := fun A => va_Qv (fun _ : Unit => True) (gk_B G (fun _ : Unit => [(h0, .inr (0, [.ref kq, .ref bq, .ref oq])), gk_xb c kq 32 K, gk_xb c bq 8 B, gk_xb c oq 8 (gk_cry K B false)]) A) A) (by decide) (Nat.le_of_ble_eq_true rfl) ?_
  intro p e s m below meth cd ls A Q hQ hx hb hr hlocks hml hown hts hin hK hC hA hP hD hS hl
  have hown : s.vm.findClass RX1 = some m.cls := hown
  have hl : lv_has ls 2 [(0, .ref h0), (1, .int kd)] := hl
  refine lv_aload_n hx hb dX1_lock_0 rfl (lv_at hl 0 rfl) ?_
  refine lv_iconst (v := 1) hx hb dX1_lock_1 (by decide) ?_
  refine lv_iload_n hx hb dX1_lock_2 rfl (lv_at hl 1 rfl) ?_
  refine gk_callv (wr := []) (va_runV (As := [.int (gk_fe false), .int kd]) (rest := []) ⟨hx, hb, hml, hown, hts⟩ (m_rn l G c X h0 kq bq oq K B O false kd s.heap.size) (cwV 2 hts (lw_V q44 q46 qs0 q8 q47) rfl rfl rfl (by decide +kernel) ⟨(Nat.le_of_ble_eq_true rfl), (Nat.le_of_ble_eq_true rfl)⟩) ⟨gk_blind, va_recv hK hP (ci := 0) (q0 := 0) rfl rfl, gk_pre hP hD hK hC hS hA [0, 1, 2, 3] rfl (by decide)⟩ rfl rfl hl.1 rfl (lv_room (Nat.le_of_ble_eq_true rfl)) dX1_lock_3 ⟨(Nat.le_of_ble_eq_true rfl), (Nat.le_of_ble_eq_true rfl)⟩) hP hD hS hA [0, 1, 2, 3] [] rfl rfl (by decide) (by decide) (fun _ H locs _ hP hD hS => ?_)
  have hP : va_P G vwCl [(h0, .inr (0, [.ref kq, .ref bq, .ref oq])), gk_xb c kq 32 K, gk_xb c bq 8 B, gk_xb c oq 8 (gk_cry K B false)] H := hP
  have hD : va_D A [(h0, .inr (0, [.ref kq, .ref bq, .ref oq])), gk_xb c kq 32 K, gk_xb c bq 8 B, gk_xb c oq 8 (gk_cry K B false)] := hD
  exact gk_vret hQ hx hb hr hlocks (Nat.le_of_ble_eq_true rfl) (Nat.le_of_ble_eq_true rfl) hP hD hS () (trivial) [0, 1, 2, 3] (by decide) rfl dX1_lock_6

set_option maxHeartbeats 4000000 in
set_option maxRecDepth 100000 in
/-- open(kind): out becomes the block through the cipher -/
theorem m_op (l : Launch) (G : va_G) (c : gk_I) (X : gk_X) (h0 kq bq oq : Nat) (K B O : Nat → Int8) (kd : Int32) (sz : Nat) : Met l yX1_open (ws_ yX1_open cX1_open 2 none) ({ frames := 5, cells := 5, slots := 76, locals := 137 } : Room) (va_Pc [.ref h0, .int kd] (gk_U G c X [(h0, .inr (0, [.ref kq, .ref bq, .ref oq])), gk_xb c kq 32 K, gk_xb c bq 8 B, gk_xb c oq 8 O] sz)) (va_Qv (fun _ : Unit => True) (gk_B G (fun _ : Unit => [(h0, .inr (0, [.ref kq, .ref bq, .ref oq])), gk_xb c kq 32 K, gk_xb c bq 8 B, gk_xb c oq 8 (gk_cry K B true)]) (va_A [(h0, .inr (0, [.ref kq, .ref bq, .ref oq])), gk_xb c kq 32 K, gk_xb c bq 8 B, gk_xb c oq 8 O] sz)) (va_A [(h0, .inr (0, [.ref kq, .ref bq, .ref oq])), gk_xb c kq 32 K, gk_xb c bq 8 B, gk_xb c oq 8 O] sz)) 5 76 (va_A [(h0, .inr (0, [.ref kq, .ref bq, .ref oq])), gk_xb c kq 32 K, gk_xb c bq 8 B, gk_xb c oq 8 O] sz) := by
  refine gk_ofW (Qf := fun A => va_Qv (fun _ : Unit => True) (gk_B G (fun _ : Unit => [(h0, .inr (0, [.ref kq, .ref bq, .ref oq])), gk_xb c kq 32 K, gk_xb c bq 8 B, gk_xb c oq 8 (gk_cry K B true)]) A) A) (by decide) (Nat.le_of_ble_eq_true rfl) ?_
  intro p e s m below meth cd ls A Q hQ hx hb hr hlocks hml hown hts hin hK hC hA hP hD hS hl
  have hown : s.vm.findClass RX1 = some m.cls := hown
  have hl : lv_has ls 2 [(0, .ref h0), (1, .int kd)] := hl
  refine lv_aload_n hx hb dX1_open_0 rfl (lv_at hl 0 rfl) ?_
  refine lv_iconst (v := 0) hx hb dX1_open_1 (by decide) ?_
  refine lv_iload_n hx hb dX1_open_2 rfl (lv_at hl 1 rfl) ?_
  refine gk_callv (wr := []) (va_runV (As := [.int (gk_fe true), .int kd]) (rest := []) ⟨hx, hb, hml, hown, hts⟩ (m_rn l G c X h0 kq bq oq K B O true kd s.heap.size) (cwV 2 hts (lw_V q44 q46 qs0 q8 q47) rfl rfl rfl (by decide +kernel) ⟨(Nat.le_of_ble_eq_true rfl), (Nat.le_of_ble_eq_true rfl)⟩) ⟨gk_blind, va_recv hK hP (ci := 0) (q0 := 0) rfl rfl, gk_pre hP hD hK hC hS hA [0, 1, 2, 3] rfl (by decide)⟩ rfl rfl hl.1 rfl (lv_room (Nat.le_of_ble_eq_true rfl)) dX1_open_3 ⟨(Nat.le_of_ble_eq_true rfl), (Nat.le_of_ble_eq_true rfl)⟩) hP hD hS hA [0, 1, 2, 3] [] rfl rfl (by decide) (by decide) (fun _ H locs _ hP hD hS => ?_)
  have hP : va_P G vwCl [(h0, .inr (0, [.ref kq, .ref bq, .ref oq])), gk_xb c kq 32 K, gk_xb c bq 8 B, gk_xb c oq 8 (gk_cry K B true)] H := hP
  have hD : va_D A [(h0, .inr (0, [.ref kq, .ref bq, .ref oq])), gk_xb c kq 32 K, gk_xb c bq 8 B, gk_xb c oq 8 (gk_cry K B true)] := hD
  exact gk_vret hQ hx hb hr hlocks (Nat.le_of_ble_eq_true rfl) (Nat.le_of_ble_eq_true rfl) hP hD hS () (trivial) [0, 1, 2, 3] (by decide) rfl dX1_open_6

set_option maxHeartbeats 4000000 in
set_option maxRecDepth 100000 in
/-- again(): the block becomes out -/
theorem m_ag (l : Launch) (G : va_G) (c : gk_I) (X : gk_X) (h0 kq bq oq : Nat) (B O : Nat → Int8) (sz : Nat) : Met l yX1_again (ws_ yX1_again cX1_again 2 none) ({ frames := 0, cells := 0, slots := 0, locals := 0 } : Room) (va_Pc [.ref h0] (gk_U G c X [(h0, .inr (0, [.ref kq, .ref bq, .ref oq])), gk_xb c bq 8 B, gk_xb c oq 8 O] sz)) (va_Qv (fun _ : Unit => True) (gk_B G (fun _ : Unit => [(h0, .inr (0, [.ref kq, .ref bq, .ref oq])), gk_xb c bq 8 O, gk_xb c oq 8 O]) (va_A [(h0, .inr (0, [.ref kq, .ref bq, .ref oq])), gk_xb c bq 8 B, gk_xb c oq 8 O] sz)) (va_A [(h0, .inr (0, [.ref kq, .ref bq, .ref oq])), gk_xb c bq 8 B, gk_xb c oq 8 O] sz)) 0 0 (va_A [(h0, .inr (0, [.ref kq, .ref bq, .ref oq])), gk_xb c bq 8 B, gk_xb c oq 8 O] sz) := by
  refine gk_ofW (Qf := fun A => va_Qv (fun _ : Unit => True) (gk_B G (fun _ : Unit => [(h0, .inr (0, [.ref kq, .ref bq, .ref oq])), gk_xb c bq 8 O, gk_xb c oq 8 O]) A) A) (by decide) (Nat.le_of_ble_eq_true rfl) ?_
  intro p e s m below meth cd ls A Q hQ hx hb hr hlocks hml hown hts hin hK hC hA hP hD hS hl
  have hown : s.vm.findClass RX1 = some m.cls := hown
  have hl : lv_has ls 2 [(0, .ref h0)] := hl
  refine lv_iconst (v := 0) hx hb dX1_again_0 (by decide) ?_
  refine lv_istore_n (lv' := [(1, .int 0), (0, .ref h0)]) hx hb dX1_again_1 rfl hl (by decide) rfl (fun ls hl => ?_)
  have loop : ∀ (n i : Nat), i + n = 8 → ∀ (H : Heap) (locs : List Loc), va_P G vwCl [(h0, .inr (0, [.ref kq, .ref bq, .ref oq])), gk_xb c bq 8 (gk_cpy O B i), gk_xb c oq 8 O] H → va_D A [(h0, .inr (0, [.ref kq, .ref bq, .ref oq])), gk_xb c bq 8 (gk_cpy O B i), gk_xb c oq 8 O] → va_S A s.heap H locs → ∀ ls : Array Slot, lv_has ls 2 [(1, .int (nI i)), (0, .ref h0)] → W p l e ({ frames := 0, cells := 0, slots := 0, locals := 0 } : Room) s m ([.ref h0] : List Value).toArray below meth cd H locs 0 0 Q (F0 m 2 ls []) := by
    intro n
    induction n with
    | zero =>
      intro i hi H locs hP hD hS ls hl
      obtain rfl : i = 8 := by omega
      refine lv_iload_n hx hb dX1_again_2 rfl (lv_at hl 0 rfl) ?_
      refine lv_bipush (v := 8) hx hb dX1_again_3 (by decide) ?_
      refine gk_jge (tgt := 26) hx hb 8 8 rfl rfl (by decide) (by decide) dX1_again_5 (by decide) (fun _ => ?_) (fun h => absurd h (by decide))
      have hP : va_P G vwCl [(h0, .inr (0, [.ref kq, .ref bq, .ref oq])), gk_xb c bq 8 O, gk_xb c oq 8 O] H := gk_ext hP 1 rfl O (fun j hj => gk_cpyN O B 8 j hj)
      have hD : va_D A [(h0, .inr (0, [.ref kq, .ref bq, .ref oq])), gk_xb c bq 8 O, gk_xb c oq 8 O] := va_D.set (p := 1) hD rfl
      exact gk_vret hQ hx hb hr hlocks (Nat.le_of_ble_eq_true rfl) (Nat.le_of_ble_eq_true rfl) hP hD hS () (trivial) [0, 1, 2] (by decide) rfl dX1_again_26
    | succ n ih =>
      intro i hi H locs hP hD hS ls hl
      refine lv_iload_n hx hb dX1_again_2 rfl (lv_at hl 0 rfl) ?_
      refine lv_bipush (v := 8) hx hb dX1_again_3 (by decide) ?_
      refine gk_jge (tgt := 26) hx hb i 8 rfl rfl (by omega) (by decide) dX1_again_5 (by decide) (fun h => absurd h (by omega)) (fun _ => ?_)
      refine lv_aload_n hx hb dX1_again_8 rfl (lv_at hl 1 rfl) ?_
      refine va_get (D := G) (ci := 0) (v := .ref bq) (C := RX1) (T := TX1) (N := 3) hx hb hts in_X1 hown hK hP 0 rfl rfl 1 (by decide) (hts _ q30) (fun _ h9 => h9) rfl dX1_again_9 ?_
      refine lv_iload_n hx hb dX1_again_12 rfl (lv_at hl 0 rfl) ?_
      refine lv_aload_n hx hb dX1_again_13 rfl (lv_at hl 1 rfl) ?_
      refine va_get (D := G) (ci := 0) (v := .ref oq) (C := RX1) (T := TX1) (N := 3) hx hb hts in_X1 hown hK hP 0 rfl rfl 2 (by decide) (hts _ q31) (fun _ h9 => h9) rfl dX1_again_14 ?_
      refine lv_iload_n hx hb dX1_again_17 rfl (lv_at hl 0 rfl) ?_
      refine gk_bald hx hb hK hP 2 rfl i (rfl) (by omega) (by decide) dX1_again_18 ?_
      refine gk_bast hx hb hK hP hD hS 1 rfl i (rfl) (by omega) (by decide) (y := O i) (gk_88 rfl) dX1_again_19 (fun H locs hP hD hS => ?_)
      have hP : va_P G vwCl [(h0, .inr (0, [.ref kq, .ref bq, .ref oq])), gk_xb c bq 8 (va_up (gk_cpy O B i) i (O i)), gk_xb c oq 8 O] H := hP
      have hD : va_D A [(h0, .inr (0, [.ref kq, .ref bq, .ref oq])), gk_xb c bq 8 (va_up (gk_cpy O B i) i (O i)), gk_xb c oq 8 O] := hD
      have hP : va_P G vwCl [(h0, .inr (0, [.ref kq, .ref bq, .ref oq])), gk_xb c bq 8 (gk_cpy O B (i + 1)), gk_xb c oq 8 O] H := gk_ext hP 1 rfl (gk_cpy O B (i + 1)) (fun j _ => congrFun (gk_cpy1 O B i) j)
      have hD : va_D A [(h0, .inr (0, [.ref kq, .ref bq, .ref oq])), gk_xb c bq 8 (gk_cpy O B (i + 1)), gk_xb c oq 8 O] := va_D.set (p := 1) hD rfl
      refine lv_iinc (v := nI (i + 1)) (lv' := [(1, .int (nI (i + 1))), (0, .ref h0)]) hx hb dX1_again_20 hl (k := 0) rfl (gk_inc i) (by decide) rfl (fun ls hl => ?_)
      refine lv_goto (tgt := 2) hx hb dX1_again_23 (by decide) ?_
      exact ih (i + 1) (by omega) _ _ hP hD hS ls (lv_sub hl [0, 1] rfl)
  have hP : va_P G vwCl [(h0, .inr (0, [.ref kq, .ref bq, .ref oq])), gk_xb c bq 8 (gk_cpy O B 0), gk_xb c oq 8 O] s.heap := gk_ext hP 1 rfl (gk_cpy O B 0) (fun j _ => (congrFun (gk_cpy0 O B) j).symm)
  have hD : va_D A [(h0, .inr (0, [.ref kq, .ref bq, .ref oq])), gk_xb c bq 8 (gk_cpy O B 0), gk_xb c oq 8 O] := va_D.set (p := 1) hD rfl
  exact loop 8 0 rfl _ _ hP hD hS ls (lv_sub hl [0, 1] rfl)

set_option maxHeartbeats 4000000 in
set_option maxRecDepth 100000 in
/-- out(x): the byte at x & 7 -/
theorem m_ou (l : Launch) (G : va_G) (c : gk_I) (X : gk_X) (h0 kq bq oq : Nat) (O : Nat → Int8) (x : Int32) (sz : Nat) : Met l yX1_out (ws_ yX1_out cX1_out 2 (some .int)) ({ frames := 0, cells := 0, slots := 0, locals := 0 } : Room) (va_Pc [.ref h0, .int x] (gk_U G c X [(h0, .inr (0, [.ref kq, .ref bq, .ref oq])), gk_xb c oq 8 O] sz)) (va_Qi (fun (r : Int32) (_ : Unit) => r = (O (gk_n x % 8)).toInt32 &&& 255) (gk_B G (fun _ : Unit => [(h0, .inr (0, [.ref kq, .ref bq, .ref oq])), gk_xb c oq 8 O]) (va_A [(h0, .inr (0, [.ref kq, .ref bq, .ref oq])), gk_xb c oq 8 O] sz)) (va_A [(h0, .inr (0, [.ref kq, .ref bq, .ref oq])), gk_xb c oq 8 O] sz)) 0 0 (va_A [(h0, .inr (0, [.ref kq, .ref bq, .ref oq])), gk_xb c oq 8 O] sz) := by
  refine gk_ofW (Qf := fun A => va_Qi (fun (r : Int32) (_ : Unit) => r = (O (gk_n x % 8)).toInt32 &&& 255) (gk_B G (fun _ : Unit => [(h0, .inr (0, [.ref kq, .ref bq, .ref oq])), gk_xb c oq 8 O]) A) A) (by decide) (Nat.le_of_ble_eq_true rfl) ?_
  intro p e s m below meth cd ls A Q hQ hx hb hr hlocks hml hown hts hin hK hC hA hP hD hS hl
  have hown : s.vm.findClass RX1 = some m.cls := hown
  have hl : lv_has ls 2 [(0, .ref h0), (1, .int x)] := hl
  refine lv_aload_n hx hb dX1_out_0 rfl (lv_at hl 0 rfl) ?_
  refine va_get (D := G) (ci := 0) (v := .ref oq) (C := RX1) (T := TX1) (N := 3) hx hb hts in_X1 hown hK hP 0 rfl rfl 2 (by decide) (hts _ q31) (fun _ h9 => h9) rfl dX1_out_1 ?_
  refine lv_iload_n hx hb dX1_out_4 rfl (lv_at hl 1 rfl) ?_
  refine lv_bipush (v := 7) hx hb dX1_out_5 (by decide) ?_
  refine lv_iand hx hb dX1_out_7 ?_
  refine gk_bald hx hb hK hP 1 rfl (gk_n x % 8) (gk_and7 x) (Nat.mod_lt _ (by decide)) (by decide) dX1_out_8 ?_
  refine lv_sipush (v := 255) hx hb dX1_out_9 (by decide) ?_
  refine lv_iand hx hb dX1_out_12 ?_
  exact gk_iret hQ hx hb hr hlocks (Nat.le_of_ble_eq_true rfl) (Nat.le_of_ble_eq_true rfl) hP hD hS () (rfl) [0, 1] (by decide) rfl dX1_out_13
end
section
/-! CONTRACTS: the law's helpers -/
set_option maxRecDepth 100000
set_option maxHeartbeats 4000000 in
set_option maxRecDepth 100000 in
/-- cell(s, k) -/
theorem m_cl (l : Launch) (G : va_G) (c : gk_I) (X : gk_X) (k : Nat) (sz : Nat) (hL : X.2.2.1 ≤ 96) (hk : k ≤ 200) : Met l yX0_cell (ws_ yX0_cell cX0_cell 2 (some .int)) ({ frames := 0, cells := 0, slots := 0, locals := 0 } : Room) (va_Pc [.ref X.2.1, .int (nI k)] (gk_U G c X [] sz)) (va_Qi (fun (r : Int32) (_ : Unit) => r = gk_ce X k) (gk_B G (fun _ : Unit => []) (va_A [] sz)) (va_A [] sz)) 0 0 (va_A [] sz) := by
  refine gk_ofW (Qf := fun A => va_Qi (fun (r : Int32) (_ : Unit) => r = gk_ce X k) (gk_B G (fun _ : Unit => []) A) A) (by decide) (Nat.le_of_ble_eq_true rfl) ?_
  intro p e s m below meth cd ls A Q hQ hx hb hr hlocks hml hown hts hin hK hC hA hP hD hS hl
  have hown : s.vm.findClass RX0 = some m.cls := hown
  have hl : lv_has ls 2 [(0, .ref X.2.1), (1, .int (nI k))] := hl
  refine lv_iload_n hx hb dX0_cell_0 rfl (lv_at hl 1 rfl) ?_
  refine lv_aload_n hx hb dX0_cell_1 rfl (lv_at hl 0 rfl) ?_
  refine va_slen hx hb hC.2.2.1.1 hC.2.2.1.2.1 hC.2.2.1.2.2 hS dX0_cell_2 ?_
  refine gk_jge (tgt := 12) hx hb k X.2.2.1 rfl rfl (by omega) (by omega) dX0_cell_3 (by decide) (fun h => ?_) (fun h => ?_)
  · skip
    refine lv_iconst (v := 0) hx hb dX0_cell_12 (by decide) ?_
    exact gk_iret hQ hx hb hr hlocks (Nat.le_of_ble_eq_true rfl) (Nat.le_of_ble_eq_true rfl) hP hD hS () (by unfold gk_ce; rw [if_neg (by omega)]) [] (by decide) rfl dX0_cell_13
  · skip
    refine lv_aload_n hx hb dX0_cell_6 rfl (lv_at hl 0 rfl) ?_
    refine lv_iload_n hx hb dX0_cell_7 rfl (lv_at hl 1 rfl) ?_
    refine va_sld hx hb hC.2.2.1.1 hC.2.2.1.2.1 hC.2.2.1.2.2 hS (vp_in_nI h (by omega)) dX0_cell_8 ?_
    refine gk_top (y := X.2.2.2 k) (congrArg X.2.2.2 (nI_clamp (by omega))) ?_
    refine lv_goto (tgt := 13) hx hb dX0_cell_9 (by decide) ?_
    exact gk_iret hQ hx hb hr hlocks (Nat.le_of_ble_eq_true rfl) (Nat.le_of_ble_eq_true rfl) hP hD hS () (by unfold gk_ce; rw [if_pos h]) [] (by decide) rfl dX0_cell_13

set_option maxHeartbeats 4000000 in
set_option maxRecDepth 100000 in
/-- mod(v, 10): some int -/
theorem m_md (l : Launch) (G : va_G) (c : gk_I) (X : gk_X) (v : Int32) (sz : Nat) : Met l yX0_mod (ws_ yX0_mod cX0_mod 2 (some .int)) ({ frames := 0, cells := 0, slots := 0, locals := 0 } : Room) (va_Pc [.int v, .int 10] (gk_U G c X [] sz)) (va_Qi (fun (r : Int32) (_ : Unit) => True) (gk_B G (fun _ : Unit => []) (va_A [] sz)) (va_A [] sz)) 0 0 (va_A [] sz) := by
  refine gk_ofW (Qf := fun A => va_Qi (fun (r : Int32) (_ : Unit) => True) (gk_B G (fun _ : Unit => []) A) A) (by decide) (Nat.le_of_ble_eq_true rfl) ?_
  intro p e s m below meth cd ls A Q hQ hx hb hr hlocks hml hown hts hin hK hC hA hP hD hS hl
  have hown : s.vm.findClass RX0 = some m.cls := hown
  have hl : lv_has ls 2 [(0, .int v), (1, .int 10)] := hl
  refine lv_iload_n hx hb dX0_mod_0 rfl (lv_at hl 0 rfl) ?_
  refine lv_ldc hx hb hown (hts _ q295) dX0_mod_1 ?_
  refine lv_iand hx hb dX0_mod_3 ?_
  refine lv_iload_n hx hb dX0_mod_4 rfl (lv_at hl 1 rfl) ?_
  refine lv_irem hx hb dX0_mod_5 (by decide) ?_
  exact gk_iret hQ hx hb hr hlocks (Nat.le_of_ble_eq_true rfl) (Nat.le_of_ble_eq_true rfl) hP hD hS () (trivial) [] (by decide) rfl dX0_mod_6

set_option maxHeartbeats 4000000 in
set_option maxRecDepth 100000 in
/-- word(f, o): low byte first -/
theorem m_wd (l : Launch) (G : va_G) (c : gk_I) (X : gk_X) (a1 n : Nat) (f : Nat → Int8) (o : Nat) (sz : Nat) (hn : n ≤ 64) (ho : o + 4 ≤ n) : Met l yX0_word (ws_ yX0_word cX0_word 2 (some .int)) ({ frames := 0, cells := 0, slots := 0, locals := 0 } : Room) (va_Pc [.ref a1, .int (nI o)] (gk_U G c X [gk_xb c a1 n f] sz)) (va_Qi (fun (r : Int32) (_ : Unit) => r = gk_w f o) (gk_B G (fun _ : Unit => [gk_xb c a1 n f]) (va_A [gk_xb c a1 n f] sz)) (va_A [gk_xb c a1 n f] sz)) 0 0 (va_A [gk_xb c a1 n f] sz) := by
  refine gk_ofW (Qf := fun A => va_Qi (fun (r : Int32) (_ : Unit) => r = gk_w f o) (gk_B G (fun _ : Unit => [gk_xb c a1 n f]) A) A) (by decide) (Nat.le_of_ble_eq_true rfl) ?_
  intro p e s m below meth cd ls A Q hQ hx hb hr hlocks hml hown hts hin hK hC hA hP hD hS hl
  have hown : s.vm.findClass RX0 = some m.cls := hown
  have hl : lv_has ls 2 [(0, .ref a1), (1, .int (nI o))] := hl
  refine lv_aload_n hx hb dX0_word_0 rfl (lv_at hl 0 rfl) ?_
  refine lv_iload_n hx hb dX0_word_1 rfl (lv_at hl 1 rfl) ?_
  refine gk_bald hx hb hK hP 0 rfl o (rfl) (by omega) (hn) dX0_word_2 ?_
  refine lv_sipush (v := 255) hx hb dX0_word_3 (by decide) ?_
  refine lv_iand hx hb dX0_word_6 ?_
  refine lv_aload_n hx hb dX0_word_7 rfl (lv_at hl 0 rfl) ?_
  refine lv_iload_n hx hb dX0_word_8 rfl (lv_at hl 1 rfl) ?_
  refine lv_iconst (v := 1) hx hb dX0_word_9 (by decide) ?_
  refine lv_iadd hx hb dX0_word_10 ?_
  refine gk_bald hx hb hK hP 0 rfl (o + 1) (nI_add o 1) (by omega) (hn) dX0_word_11 ?_
  refine lv_sipush (v := 255) hx hb dX0_word_12 (by decide) ?_
  refine lv_iand hx hb dX0_word_15 ?_
  refine lv_bipush (v := 8) hx hb dX0_word_16 (by decide) ?_
  refine lv_ishl hx hb dX0_word_18 ?_
  refine lv_ior hx hb dX0_word_19 ?_
  refine lv_aload_n hx hb dX0_word_20 rfl (lv_at hl 0 rfl) ?_
  refine lv_iload_n hx hb dX0_word_21 rfl (lv_at hl 1 rfl) ?_
  refine lv_iconst (v := 2) hx hb dX0_word_22 (by decide) ?_
  refine lv_iadd hx hb dX0_word_23 ?_
  refine gk_bald hx hb hK hP 0 rfl (o + 2) (nI_add o 2) (by omega) (hn) dX0_word_24 ?_
  refine lv_sipush (v := 255) hx hb dX0_word_25 (by decide) ?_
  refine lv_iand hx hb dX0_word_28 ?_
  refine lv_bipush (v := 16) hx hb dX0_word_29 (by decide) ?_
  refine lv_ishl hx hb dX0_word_31 ?_
  refine lv_ior hx hb dX0_word_32 ?_
  refine lv_aload_n hx hb dX0_word_33 rfl (lv_at hl 0 rfl) ?_
  refine lv_iload_n hx hb dX0_word_34 rfl (lv_at hl 1 rfl) ?_
  refine lv_iconst (v := 3) hx hb dX0_word_35 (by decide) ?_
  refine lv_iadd hx hb dX0_word_36 ?_
  refine gk_bald hx hb hK hP 0 rfl (o + 3) (nI_add o 3) (by omega) (hn) dX0_word_37 ?_
  refine lv_bipush (v := 24) hx hb dX0_word_38 (by decide) ?_
  refine lv_ishl hx hb dX0_word_40 ?_
  refine lv_ior hx hb dX0_word_41 ?_
  exact gk_iret hQ hx hb hr hlocks (Nat.le_of_ble_eq_true rfl) (Nat.le_of_ble_eq_true rfl) hP hD hS () (gk_w_law f o) [0] (by decide) rfl dX0_word_42

def gk_bl : List Int64 := [5373594861844594515, -1491696455461566631, 6349410557548257435, 9052526208816558675, 7814132211033965490, 5449481018912644350, -2647765454249564116, 2292428574671399820]
def gk_bx (k : Nat) : Int64 := gk_bl.getD k 0
abbrev gk_ls (x : Int64) (y : Int32) : Int64 := (x.toUInt64 >>> (y.toInt64.toUInt64 &&& Int64.toUInt64 63)).toInt64
theorem gk_box : ∀ k, k < 8 → ∀ n, n < 16 → (gk_ls (gk_bx k) (60 - (4 * nI n)) &&& 15).toInt32 = nI (gk_sn (16 * k + n)) := by decide +kernel
theorem gk_hs1 : ∀ k, k < 8 → (((4 * nI k).toUInt32 &&& Int32.toUInt32 31).toBitVec % 32).toNat = 4 * k := by decide +kernel
theorem gk_hs2 : ∀ k, k < 8 → (((4 * nI k) &&& 31).toBitVec.smod 32).toNat = 4 * k := by decide +kernel
theorem gk_hs8 : ∀ k, k < 4 → (((8 * nI k).toUInt32 &&& Int32.toUInt32 31).toBitVec % 32).toNat = 8 * k := by decide +kernel
theorem gk_hsL : ∀ k, k < 4 → (((24 - (8 * nI k)) &&& 31).toBitVec.smod 32).toNat = 8 * (3 - k) := by decide +kernel
theorem gk_b255 (b : Int8) : (b.toInt32 &&& 255).toInt8 = b := gk_all (P := fun b _ => (b.toInt32 &&& 255).toInt8 = b) (by decide +kernel) b
set_option maxHeartbeats 4000000 in
set_option maxRecDepth 100000 in
/-- boxed(v): the round function by the law's boxes -/
theorem m_bx (l : Launch) (G : va_G) (c : gk_I) (X : gk_X) (v : Int32) (sz : Nat) : Met l yX0_boxed (ws_ yX0_boxed cX0_boxed 4 (some .int)) ({ frames := 0, cells := 1, slots := 8, locals := 0 } : Room) (va_Pc [.int v] (gk_U G c X [] sz)) (va_Qi (fun (r : Int32) (_ : Unit) => r = gk_f v) (gk_B G (fun _ : Unit => []) (va_A [] sz)) (va_A [] sz)) 1 8 (va_A [] sz) := by
  refine gk_ofW (Qf := fun A => va_Qi (fun (r : Int32) (_ : Unit) => r = gk_f v) (gk_B G (fun _ : Unit => []) A) A) (by decide) (Nat.le_of_ble_eq_true rfl) ?_
  intro p e s m below meth cd ls A Q hQ hx hb hr hlocks hml hown hts hin hK hC hA hP hD hS hl
  have hown : s.vm.findClass RX0 = some m.cls := hown
  have hl : lv_has ls 4 [(0, .int v)] := hl
  refine lv_bipush (v := 8) hx hb dX0_boxed_0 (by decide) ?_
  refine gk_newl hx hb (hts _ q314) hK hP hD hS hA 8 (rfl) (by decide) (Nat.le_of_ble_eq_true rfl) (Nat.le_of_ble_eq_true rfl) dX0_boxed_2 (fun q H hP hD hS => ?_)
  have hP : va_P G vwCl [gk_xl c q 8 (fun _ => 0)] H := hP
  have hD : va_D A [gk_xl c q 8 (fun _ => 0)] := hD
  refine lv_dup hx hb dX0_boxed_4 rfl ?_
  refine lv_iconst (v := 0) hx hb dX0_boxed_5 (by decide) ?_
  refine lv_ldc2 hx hb hown (hts _ q305) dX0_boxed_6 ?_
  refine gk_last hx hb hK hP hD hS 0 rfl 0 (rfl) (by decide) (by decide) dX0_boxed_9 (fun H locs hP hD hS => ?_)
  have hP : va_P G vwCl [gk_xl c q 8 (vp_updL (fun _ => 0) 0 5373594861844594515)] H := hP
  have hD : va_D A [gk_xl c q 8 (vp_updL (fun _ => 0) 0 5373594861844594515)] := hD
  refine lv_dup hx hb dX0_boxed_10 rfl ?_
  refine lv_iconst (v := 1) hx hb dX0_boxed_11 (by decide) ?_
  refine lv_ldc2 hx hb hown (hts _ q306) dX0_boxed_12 ?_
  refine gk_last hx hb hK hP hD hS 0 rfl 1 (rfl) (by decide) (by decide) dX0_boxed_15 (fun H locs hP hD hS => ?_)
  have hP : va_P G vwCl [gk_xl c q 8 (vp_updL (vp_updL (fun _ => 0) 0 5373594861844594515) 1 (-1491696455461566631))] H := hP
  have hD : va_D A [gk_xl c q 8 (vp_updL (vp_updL (fun _ => 0) 0 5373594861844594515) 1 (-1491696455461566631))] := hD
  refine lv_dup hx hb dX0_boxed_16 rfl ?_
  refine lv_iconst (v := 2) hx hb dX0_boxed_17 (by decide) ?_
  refine lv_ldc2 hx hb hown (hts _ q307) dX0_boxed_18 ?_
  refine gk_last hx hb hK hP hD hS 0 rfl 2 (rfl) (by decide) (by decide) dX0_boxed_21 (fun H locs hP hD hS => ?_)
  have hP : va_P G vwCl [gk_xl c q 8 (vp_updL (vp_updL (vp_updL (fun _ => 0) 0 5373594861844594515) 1 (-1491696455461566631)) 2 6349410557548257435)] H := hP
  have hD : va_D A [gk_xl c q 8 (vp_updL (vp_updL (vp_updL (fun _ => 0) 0 5373594861844594515) 1 (-1491696455461566631)) 2 6349410557548257435)] := hD
  refine lv_dup hx hb dX0_boxed_22 rfl ?_
  refine lv_iconst (v := 3) hx hb dX0_boxed_23 (by decide) ?_
  refine lv_ldc2 hx hb hown (hts _ q308) dX0_boxed_24 ?_
  refine gk_last hx hb hK hP hD hS 0 rfl 3 (rfl) (by decide) (by decide) dX0_boxed_27 (fun H locs hP hD hS => ?_)
  have hP : va_P G vwCl [gk_xl c q 8 (vp_updL (vp_updL (vp_updL (vp_updL (fun _ => 0) 0 5373594861844594515) 1 (-1491696455461566631)) 2 6349410557548257435) 3 9052526208816558675)] H := hP
  have hD : va_D A [gk_xl c q 8 (vp_updL (vp_updL (vp_updL (vp_updL (fun _ => 0) 0 5373594861844594515) 1 (-1491696455461566631)) 2 6349410557548257435) 3 9052526208816558675)] := hD
  refine lv_dup hx hb dX0_boxed_28 rfl ?_
  refine lv_iconst (v := 4) hx hb dX0_boxed_29 (by decide) ?_
  refine lv_ldc2 hx hb hown (hts _ q309) dX0_boxed_30 ?_
  refine gk_last hx hb hK hP hD hS 0 rfl 4 (rfl) (by decide) (by decide) dX0_boxed_33 (fun H locs hP hD hS => ?_)
  have hP : va_P G vwCl [gk_xl c q 8 (vp_updL (vp_updL (vp_updL (vp_updL (vp_updL (fun _ => 0) 0 5373594861844594515) 1 (-1491696455461566631)) 2 6349410557548257435) 3 9052526208816558675) 4 7814132211033965490)] H := hP
  have hD : va_D A [gk_xl c q 8 (vp_updL (vp_updL (vp_updL (vp_updL (vp_updL (fun _ => 0) 0 5373594861844594515) 1 (-1491696455461566631)) 2 6349410557548257435) 3 9052526208816558675) 4 7814132211033965490)] := hD
  refine lv_dup hx hb dX0_boxed_34 rfl ?_
  refine lv_iconst (v := 5) hx hb dX0_boxed_35 (by decide) ?_
  refine lv_ldc2 hx hb hown (hts _ q310) dX0_boxed_36 ?_
  refine gk_last hx hb hK hP hD hS 0 rfl 5 (rfl) (by decide) (by decide) dX0_boxed_39 (fun H locs hP hD hS => ?_)
  have hP : va_P G vwCl [gk_xl c q 8 (vp_updL (vp_updL (vp_updL (vp_updL (vp_updL (vp_updL (fun _ => 0) 0 5373594861844594515) 1 (-1491696455461566631)) 2 6349410557548257435) 3 9052526208816558675) 4 7814132211033965490) 5 5449481018912644350)] H := hP
  have hD : va_D A [gk_xl c q 8 (vp_updL (vp_updL (vp_updL (vp_updL (vp_updL (vp_updL (fun _ => 0) 0 5373594861844594515) 1 (-1491696455461566631)) 2 6349410557548257435) 3 9052526208816558675) 4 7814132211033965490) 5 5449481018912644350)] := hD
  refine lv_dup hx hb dX0_boxed_40 rfl ?_
  refine lv_bipush (v := 6) hx hb dX0_boxed_41 (by decide) ?_
  refine lv_ldc2 hx hb hown (hts _ q311) dX0_boxed_43 ?_
  refine gk_last hx hb hK hP hD hS 0 rfl 6 (rfl) (by decide) (by decide) dX0_boxed_46 (fun H locs hP hD hS => ?_)
  have hP : va_P G vwCl [gk_xl c q 8 (vp_updL (vp_updL (vp_updL (vp_updL (vp_updL (vp_updL (vp_updL (fun _ => 0) 0 5373594861844594515) 1 (-1491696455461566631)) 2 6349410557548257435) 3 9052526208816558675) 4 7814132211033965490) 5 5449481018912644350) 6 (-2647765454249564116))] H := hP
  have hD : va_D A [gk_xl c q 8 (vp_updL (vp_updL (vp_updL (vp_updL (vp_updL (vp_updL (vp_updL (fun _ => 0) 0 5373594861844594515) 1 (-1491696455461566631)) 2 6349410557548257435) 3 9052526208816558675) 4 7814132211033965490) 5 5449481018912644350) 6 (-2647765454249564116))] := hD
  refine lv_dup hx hb dX0_boxed_47 rfl ?_
  refine lv_bipush (v := 7) hx hb dX0_boxed_48 (by decide) ?_
  refine lv_ldc2 hx hb hown (hts _ q312) dX0_boxed_50 ?_
  refine gk_last hx hb hK hP hD hS 0 rfl 7 (rfl) (by decide) (by decide) dX0_boxed_53 (fun H locs hP hD hS => ?_)
  have hP : va_P G vwCl [gk_xl c q 8 (vp_updL (vp_updL (vp_updL (vp_updL (vp_updL (vp_updL (vp_updL (vp_updL (fun _ => 0) 0 5373594861844594515) 1 (-1491696455461566631)) 2 6349410557548257435) 3 9052526208816558675) 4 7814132211033965490) 5 5449481018912644350) 6 (-2647765454249564116)) 7 2292428574671399820)] H := hP
  have hD : va_D A [gk_xl c q 8 (vp_updL (vp_updL (vp_updL (vp_updL (vp_updL (vp_updL (vp_updL (vp_updL (fun _ => 0) 0 5373594861844594515) 1 (-1491696455461566631)) 2 6349410557548257435) 3 9052526208816558675) 4 7814132211033965490) 5 5449481018912644350) 6 (-2647765454249564116)) 7 2292428574671399820)] := hD
  have hP : va_P G vwCl [gk_xl c q 8 gk_bx] H := gk_extL hP 0 rfl gk_bx (fun j hj => by rcases (show j = 0 ∨ j = 1 ∨ j = 2 ∨ j = 3 ∨ j = 4 ∨ j = 5 ∨ j = 6 ∨ j = 7 by omega) with rfl | rfl | rfl | rfl | rfl | rfl | rfl | rfl <;> rfl)
  have hD : va_D A [gk_xl c q 8 gk_bx] := va_D.set (p := 0) hD rfl
  refine lv_astore_n (lv' := [(1, .ref q), (0, .int v)]) hx hb dX0_boxed_54 rfl hl (by decide) rfl (fun ls hl => ?_)
  refine lv_iconst (v := 0) hx hb dX0_boxed_55 (by decide) ?_
  refine lv_istore_n (lv' := [(2, .int 0), (1, .ref q), (0, .int v)]) hx hb dX0_boxed_56 rfl hl (by decide) rfl (fun ls hl => ?_)
  refine lv_iconst (v := 0) hx hb dX0_boxed_57 (by decide) ?_
  refine lv_istore_n (lv' := [(3, .int 0), (2, .int 0), (1, .ref q), (0, .int v)]) hx hb dX0_boxed_58 rfl hl (by decide) rfl (fun ls hl => ?_)
  have loop : ∀ (n k : Nat), k + n = 8 → ∀ (H : Heap) (locs : List Loc), va_P G vwCl [gk_xl c q 8 gk_bx] H → va_D A [gk_xl c q 8 gk_bx] → va_S A s.heap H locs → ∀ ls : Array Slot, lv_has ls 4 [(3, .int (nI k)), (2, .int (nI (gk_sm v k))), (1, .ref q), (0, .int v)] → W p l e ({ frames := 0, cells := 1, slots := 8, locals := 0 } : Room) s m ([.int v] : List Value).toArray below meth cd H locs (0 + 1) (0 + 8) Q (F0 m 59 ls []) := by
    intro n
    induction n with
    | zero =>
      intro k hk H locs hP hD hS ls hl
      obtain rfl : k = 8 := by omega
      refine lv_iload_n hx hb dX0_boxed_59 rfl (lv_at hl 0 rfl) ?_
      refine lv_bipush (v := 8) hx hb dX0_boxed_60 (by decide) ?_
      refine gk_jge (tgt := 100) hx hb 8 8 rfl rfl (by decide) (by decide) dX0_boxed_62 (by decide) (fun _ => ?_) (fun h => absurd h (by decide))
      refine lv_iload_n hx hb dX0_boxed_100 rfl (lv_at hl 1 rfl) ?_
      refine lv_bipush (v := 11) hx hb dX0_boxed_101 (by decide) ?_
      refine lv_ishl hx hb dX0_boxed_103 ?_
      refine lv_iload_n hx hb dX0_boxed_104 rfl (lv_at hl 1 rfl) ?_
      refine lv_bipush (v := 21) hx hb dX0_boxed_105 (by decide) ?_
      refine lv_iushr (v := gk_us (nI (gk_sm v 8)) 21) hx hb dX0_boxed_107 rfl ?_
      refine lv_ior hx hb dX0_boxed_108 ?_
      exact gk_iret hQ hx hb hr hlocks (Nat.le_of_ble_eq_true rfl) (Nat.le_of_ble_eq_true rfl) hP hD hS () (rfl) [] (by decide) rfl dX0_boxed_109
    | succ n ih =>
      intro k hk H locs hP hD hS ls hl
      refine lv_iload_n hx hb dX0_boxed_59 rfl (lv_at hl 0 rfl) ?_
      refine lv_bipush (v := 8) hx hb dX0_boxed_60 (by decide) ?_
      refine gk_jge (tgt := 100) hx hb k 8 rfl rfl (by omega) (by decide) dX0_boxed_62 (by decide) (fun h => absurd h (by omega)) (fun h8 => ?_)
      refine lv_iload_n hx hb dX0_boxed_65 rfl (lv_at hl 1 rfl) ?_
      refine lv_aload_n hx hb dX0_boxed_66 rfl (lv_at hl 2 rfl) ?_
      refine lv_iload_n hx hb dX0_boxed_67 rfl (lv_at hl 0 rfl) ?_
      refine gk_lald hx hb hK hP 0 rfl k (rfl) (by omega) (by decide) dX0_boxed_68 ?_
      refine lv_bipush (v := 60) hx hb dX0_boxed_69 (by decide) ?_
      refine lv_iconst (v := 4) hx hb dX0_boxed_71 (by decide) ?_
      refine lv_iload_n hx hb dX0_boxed_72 rfl (lv_at hl 3 rfl) ?_
      refine lv_iconst (v := 4) hx hb dX0_boxed_73 (by decide) ?_
      refine lv_iload_n hx hb dX0_boxed_74 rfl (lv_at hl 0 rfl) ?_
      refine lv_imul hx hb dX0_boxed_75 ?_
      refine lv_iushr (v := gk_us v (4 * (nI k))) hx hb dX0_boxed_76 rfl ?_
      refine lv_bipush (v := 15) hx hb dX0_boxed_77 (by decide) ?_
      refine lv_iand hx hb dX0_boxed_79 ?_
      refine gk_top (y := nI (gk_nb v k)) (gk_us_nb v (4 * nI k) k (gk_hs1 k h8)) ?_
      refine lv_imul hx hb dX0_boxed_80 ?_
      refine lv_isub hx hb dX0_boxed_81 ?_
      refine lv_lushr (v := gk_ls (gk_bx k) (60 - (4 * (nI (gk_nb v k))))) hx hb dX0_boxed_82 rfl ?_
      refine lv_ldc2 hx hb hown (hts _ q313) dX0_boxed_83 ?_
      refine lv_land hx hb dX0_boxed_86 ?_
      refine lv_l2i (v := (gk_ls (gk_bx k) (60 - (4 * (nI (gk_nb v k)))) &&& 15).toInt32) hx hb dX0_boxed_87 rfl ?_
      refine gk_top (y := nI (gk_sn (16 * k + gk_nb v k))) (gk_box k h8 (gk_nb v k) (gk_nb_lt v k)) ?_
      refine lv_iconst (v := 4) hx hb dX0_boxed_88 (by decide) ?_
      refine lv_iload_n hx hb dX0_boxed_89 rfl (lv_at hl 0 rfl) ?_
      refine lv_imul hx hb dX0_boxed_90 ?_
      refine lv_ishl hx hb dX0_boxed_91 ?_
      refine lv_ior hx hb dX0_boxed_92 ?_
      refine gk_top (y := nI (gk_sm v (k + 1))) (gk_so v ((4 * nI k) &&& 31) k h8 (gk_hs2 k h8)) ?_
      refine lv_istore_n (lv' := [(2, .int (nI (gk_sm v (k + 1)))), (3, .int (nI k)), (1, .ref q), (0, .int v)]) hx hb dX0_boxed_93 rfl hl (by decide) rfl (fun ls hl => ?_)
      refine lv_iinc (v := nI (k + 1)) (lv' := [(3, .int (nI (k + 1))), (2, .int (nI (gk_sm v (k + 1)))), (1, .ref q), (0, .int v)]) hx hb dX0_boxed_94 hl (k := 1) rfl (gk_inc k) (by decide) rfl (fun ls hl => ?_)
      refine lv_goto (tgt := 59) hx hb dX0_boxed_97 (by decide) ?_
      exact ih (k + 1) (by omega) _ _ hP hD hS ls (lv_sub hl [0, 1, 2, 3] rfl)
  exact loop 8 0 rfl _ _ hP hD hS ls (lv_sub hl [0, 1, 2, 3] rfl)

def gk_du (K : Nat → Int32) (o : Bool) (x : Int32 × Int32) (k : Nat) : Int32 × Int32 := if k ≤ 31 then gk_it K o x k else gk_run K o x
theorem gk_duI (K : Nat → Int32) (o : Bool) (x : Int32 × Int32) (k : Nat) (h : k ≤ 31) : gk_du K o x k = gk_it K o x k := by
  unfold gk_du
  rw [if_pos h]
theorem gk_duR (K : Nat → Int32) (o : Bool) (x : Int32 × Int32) (k : Nat) (h : k = 32) : gk_du K o x k = gk_run K o x := by
  unfold gk_du
  rw [if_neg (by omega)]
theorem gk_zr (K : Nat → Int8) (o : Bool) (x : Int32 × Int32) : (gk_it (gk_key K) o x 31).2 ^^^ gk_f ((gk_it (gk_key K) o x 31).1 + gk_w K (4 * gk_ix o 31)) = (gk_run (gk_key K) o x).2 := by
  rw [gk_ix31]
  exact gk_runB (gk_key K) o x
theorem gk_zi (K : Nat → Int8) (o : Bool) (x : Int32 × Int32) (k : Nat) : (gk_it (gk_key K) o x k).2 ^^^ gk_f ((gk_it (gk_key K) o x k).1 + gk_w K (4 * gk_ix o k)) = (gk_it (gk_key K) o x (k + 1)).1 := gk_itA (gk_key K) o x k (gk_ix o k) rfl
def gk_dub (r : Int32 × Int32) (j : Nat) : Nat → Int8 := fun i => if i < j then gk_by r.1 i else if 4 ≤ i ∧ i < 4 + j then gk_by r.2 (i - 4) else 0
theorem gk_dub0 (r : Int32 × Int32) : gk_dub r 0 = fun _ => 0 := by
  funext i
  unfold gk_dub
  rw [if_neg (by omega), if_neg (by omega)]
theorem gk_dub1 (r : Int32 × Int32) (j : Nat) (hj : j < 4) : va_up (va_up (gk_dub r j) j (gk_by r.1 j)) (j + 4) (gk_by r.2 j) = gk_dub r (j + 1) := by
  funext i
  show (if i = j + 4 then gk_by r.2 j else if i = j then gk_by r.1 j else if i < j then gk_by r.1 i else if 4 ≤ i ∧ i < 4 + j then gk_by r.2 (i - 4) else 0) = if i < j + 1 then gk_by r.1 i else if 4 ≤ i ∧ i < 4 + (j + 1) then gk_by r.2 (i - 4) else 0
  by_cases h1 : i = j + 4
  · rw [if_pos h1, if_neg (by omega), if_pos (by omega)]
    exact congrArg (gk_by r.2) (by omega)
  rw [if_neg h1]
  by_cases h2 : i = j
  · rw [if_pos h2, if_pos (by omega), h2]
  rw [if_neg h2]
  by_cases h3 : i < j
  · rw [if_pos h3, if_pos (by omega)]
  rw [if_neg h3]
  by_cases h4 : 4 ≤ i ∧ i < 4 + j
  · rw [if_pos h4, if_neg (by omega), if_pos (by omega)]
  · rw [if_neg h4, if_neg (by omega), if_neg (by omega)]
theorem gk_dub4 (r : Int32 × Int32) (i : Nat) (hi : i < 8) : gk_dub r 4 i = gk_out r i := by
  unfold gk_dub gk_out
  by_cases h : i < 4
  · rw [if_pos h, if_pos h]
  · rw [if_neg h, if_neg h, if_pos (by omega)]
set_option maxHeartbeats 4000000 in
set_option maxRecDepth 100000 in
/-- due(K, B, o): the cipher, reckoned by the law -/
theorem m_du (l : Launch) (G : va_G) (c : gk_I) (X : gk_X) (kq bq : Nat) (K B : Nat → Int8) (o : Bool) (sz : Nat) : Met l yX0_due (ws_ yX0_due cX0_due 8 (some (.array .byte))) ({ frames := 1, cells := 33, slots := 264, locals := 23 } : Room) (va_Pc [.ref kq, .ref bq, .int (gk_oi o)] (gk_U G c X [gk_xb c kq 32 K, gk_xb c bq 8 B] sz)) (va_Qr (fun _ : Unit => True) (gk_Br G (fun (_ : Unit) (r : Nat) => [gk_xb c kq 32 K, gk_xb c bq 8 B, gk_xb c r 8 (gk_cry K B o)]) (va_A [gk_xb c kq 32 K, gk_xb c bq 8 B] sz)) (va_A [gk_xb c kq 32 K, gk_xb c bq 8 B] sz)) 33 264 (va_A [gk_xb c kq 32 K, gk_xb c bq 8 B] sz) := by
  refine gk_ofW (Qf := fun A => va_Qr (fun _ : Unit => True) (gk_Br G (fun (_ : Unit) (r : Nat) => [gk_xb c kq 32 K, gk_xb c bq 8 B, gk_xb c r 8 (gk_cry K B o)]) A) A) (by decide) (Nat.le_of_ble_eq_true rfl) ?_
  intro p e s m below meth cd ls A Q hQ hx hb hr hlocks hml hown hts hin hK hC hA hP hD hS hl
  have hown : s.vm.findClass RX0 = some m.cls := hown
  have hl : lv_has ls 8 [(0, .ref kq), (1, .ref bq), (2, .int (gk_oi o))] := hl
  refine lv_aload_n hx hb dX0_due_0 rfl (lv_at hl 1 rfl) ?_
  refine lv_iconst (v := 0) hx hb dX0_due_1 (by decide) ?_
  refine gk_calli (wr := [gk_xb c kq 32 K]) (va_runS (As := [.ref bq, .int (nI 0)]) (rest := []) ⟨hx, hb, hml, hown, hts⟩ (m_wd l G c X bq 8 B 0 s.heap.size (by decide) (by decide)) (va_cwS 2 hts (lw_S q299 q300 q7 q301) rfl rfl rfl (by decide +kernel) ⟨(Nat.le_of_ble_eq_true rfl), (Nat.le_of_ble_eq_true rfl)⟩) ⟨gk_blind, gk_pre hP hD hK hC hS hA [1] rfl (by decide)⟩ rfl rfl hl.1 rfl (lv_room (Nat.le_of_ble_eq_true rfl)) dX0_due_2 ⟨(Nat.le_of_ble_eq_true rfl), (Nat.le_of_ble_eq_true rfl)⟩) hP hD hS hA [1] [0] rfl rfl (by decide) (by decide) (fun r _ H locs hw hP hD hS => ?_)
  have hP : va_P G vwCl [gk_xb c kq 32 K, gk_xb c bq 8 B] H := hP
  have hD : va_D A [gk_xb c kq 32 K, gk_xb c bq 8 B] := hD
  have hw : r = gk_w B 0 := hw
  subst hw
  refine lv_istore_n (lv' := [(3, .int (gk_w B 0)), (0, .ref kq), (1, .ref bq), (2, .int (gk_oi o))]) hx hb dX0_due_5 rfl hl (by decide) rfl (fun ls hl => ?_)
  refine lv_aload_n hx hb dX0_due_6 rfl (lv_at hl 2 rfl) ?_
  refine lv_iconst (v := 4) hx hb dX0_due_7 (by decide) ?_
  refine gk_calli (wr := [gk_xb c kq 32 K]) (va_runS (As := [.ref bq, .int (nI 4)]) (rest := []) ⟨hx, hb, hml, hown, hts⟩ (m_wd l G c X bq 8 B 4 H.size (by decide) (by decide)) (va_cwS 2 hts (lw_S q299 q300 q7 q301) rfl rfl rfl (by decide +kernel) ⟨(Nat.le_of_ble_eq_true rfl), (Nat.le_of_ble_eq_true rfl)⟩) ⟨gk_blind, gk_pre hP hD hK hC hS hA [1] rfl (by decide)⟩ rfl rfl hl.1 rfl (lv_room (Nat.le_of_ble_eq_true rfl)) dX0_due_8 ⟨(Nat.le_of_ble_eq_true rfl), (Nat.le_of_ble_eq_true rfl)⟩) hP hD hS hA [1] [0] rfl rfl (by decide) (by decide) (fun r _ H locs hw hP hD hS => ?_)
  have hP : va_P G vwCl [gk_xb c kq 32 K, gk_xb c bq 8 B] H := hP
  have hD : va_D A [gk_xb c kq 32 K, gk_xb c bq 8 B] := hD
  have hw : r = gk_w B 4 := hw
  subst hw
  refine lv_istore (lv' := [(4, .int (gk_w B 4)), (3, .int (gk_w B 0)), (0, .ref kq), (1, .ref bq), (2, .int (gk_oi o))]) hx hb dX0_due_11 hl (by decide) rfl (fun ls hl => ?_)
  refine lv_iconst (v := 0) hx hb dX0_due_13 (by decide) ?_
  refine lv_istore (lv' := [(5, .int 0), (4, .int (gk_w B 4)), (3, .int (gk_w B 0)), (0, .ref kq), (1, .ref bq), (2, .int (gk_oi o))]) hx hb dX0_due_14 hl (by decide) rfl (fun ls hl => ?_)
  have loop : ∀ (n k : Nat), k + n = 32 → ∀ (H : Heap) (locs : List Loc), va_P G vwCl [gk_xb c kq 32 K, gk_xb c bq 8 B] H → va_D A [gk_xb c kq 32 K, gk_xb c bq 8 B] → va_S A s.heap H locs → ∀ ls : Array Slot, lv_has ls 8 [(0, .ref kq), (1, .ref bq), (2, .int (gk_oi o)), (3, .int ((gk_du (gk_key K) o (gk_x B) (k)).1)), (4, .int ((gk_du (gk_key K) o (gk_x B) (k)).2)), (5, .int (nI k))] → W p l e ({ frames := 1, cells := 33, slots := 264, locals := 23 } : Room) s m ([.ref kq, .ref bq, .int (gk_oi o)] : List Value).toArray below meth cd H locs k (8 * k) Q (F0 m 16 ls []) := by
    intro n
    induction n with
    | zero =>
      intro k hk H locs hP hD hS ls hl
      obtain rfl : k = 32 := by omega
      rw [gk_duR _ _ _ 32 rfl] at hl
      refine lv_iload hx hb dX0_due_16 (lv_at hl 5 rfl) ?_
      refine lv_bipush (v := 32) hx hb dX0_due_18 (by decide) ?_
      refine gk_jge (tgt := 116) hx hb 32 32 rfl rfl (by decide) (by decide) dX0_due_20 (by decide) (fun _ => ?_) (fun h => absurd h (by decide))
      refine lv_bipush (v := 8) hx hb dX0_due_116 (by decide) ?_
      refine gk_newb hx hb (hts _ q39) hK hP hD hS hA 8 (rfl) (by decide) (Nat.le_of_ble_eq_true rfl) (Nat.le_of_ble_eq_true rfl) dX0_due_118 (fun q H hP hD hS => ?_)
      have hP : va_P G vwCl [gk_xb c kq 32 K, gk_xb c bq 8 B, gk_xb c q 8 (fun _ => 0)] H := hP
      have hD : va_D A [gk_xb c kq 32 K, gk_xb c bq 8 B, gk_xb c q 8 (fun _ => 0)] := hD
      refine lv_astore (lv' := [(5, .ref q), (0, .ref kq), (1, .ref bq), (2, .int (gk_oi o)), (3, .int ((gk_run (gk_key K) o (gk_x B)).1)), (4, .int ((gk_run (gk_key K) o (gk_x B)).2))]) hx hb dX0_due_120 hl (by decide) rfl (fun ls hl => ?_)
      refine lv_iconst (v := 0) hx hb dX0_due_122 (by decide) ?_
      refine lv_istore (lv' := [(6, .int 0), (5, .ref q), (0, .ref kq), (1, .ref bq), (2, .int (gk_oi o)), (3, .int ((gk_run (gk_key K) o (gk_x B)).1)), (4, .int ((gk_run (gk_key K) o (gk_x B)).2))]) hx hb dX0_due_123 hl (by decide) rfl (fun ls hl => ?_)
      have hP : va_P G vwCl [gk_xb c kq 32 K, gk_xb c bq 8 B, gk_xb c q 8 (gk_dub (gk_run (gk_key K) o (gk_x B)) 0)] H := gk_ext hP 2 rfl (gk_dub (gk_run (gk_key K) o (gk_x B)) 0) (fun j _ => (congrFun (gk_dub0 (gk_run (gk_key K) o (gk_x B))) j).symm)
      have hD : va_D A [gk_xb c kq 32 K, gk_xb c bq 8 B, gk_xb c q 8 (gk_dub (gk_run (gk_key K) o (gk_x B)) 0)] := va_D.set (p := 2) hD rfl
      have loop2 : ∀ (n j : Nat), j + n = 4 → ∀ (H : Heap) (locs : List Loc), va_P G vwCl [gk_xb c kq 32 K, gk_xb c bq 8 B, gk_xb c q 8 (gk_dub (gk_run (gk_key K) o (gk_x B)) j)] H → va_D A [gk_xb c kq 32 K, gk_xb c bq 8 B, gk_xb c q 8 (gk_dub (gk_run (gk_key K) o (gk_x B)) j)] → va_S A s.heap H locs → ∀ ls : Array Slot, lv_has ls 8 [(6, .int (nI j)), (5, .ref q), (0, .ref kq), (1, .ref bq), (3, .int ((gk_run (gk_key K) o (gk_x B)).1)), (4, .int ((gk_run (gk_key K) o (gk_x B)).2))] → W p l e ({ frames := 1, cells := 33, slots := 264, locals := 23 } : Room) s m ([.ref kq, .ref bq, .int (gk_oi o)] : List Value).toArray below meth cd H locs (32 + 1) (8 * 32 + 8) Q (F0 m 125 ls []) := by
        intro n
        induction n with
        | zero =>
          intro j hj H locs hP hD hS ls hl
          obtain rfl : j = 4 := by omega
          refine lv_iload hx hb dX0_due_125 (lv_at hl 0 rfl) ?_
          refine lv_iconst (v := 4) hx hb dX0_due_127 (by decide) ?_
          refine gk_jge (tgt := 166) hx hb 4 4 rfl rfl (by decide) (by decide) dX0_due_128 (by decide) (fun _ => ?_) (fun h => absurd h (by decide))
          have hP : va_P G vwCl [gk_xb c kq 32 K, gk_xb c bq 8 B, gk_xb c q 8 (gk_cry K B o)] H := gk_ext hP 2 rfl (gk_cry K B o) (fun j hj => gk_dub4 (gk_run (gk_key K) o (gk_x B)) j hj)
          have hD : va_D A [gk_xb c kq 32 K, gk_xb c bq 8 B, gk_xb c q 8 (gk_cry K B o)] := va_D.set (p := 2) hD rfl
          refine lv_aload hx hb dX0_due_166 (lv_at hl 1 rfl) ?_
          exact gk_aret hQ hx hb hr ⟨_, rfl⟩ hlocks (Nat.le_of_ble_eq_true rfl) (Nat.le_of_ble_eq_true rfl) hP hD hS () (trivial) [0, 1, 2] (by decide) rfl dX0_due_168
        | succ n ih =>
          intro j hj H locs hP hD hS ls hl
          refine lv_iload hx hb dX0_due_125 (lv_at hl 0 rfl) ?_
          refine lv_iconst (v := 4) hx hb dX0_due_127 (by decide) ?_
          refine gk_jge (tgt := 166) hx hb j 4 rfl rfl (by omega) (by decide) dX0_due_128 (by decide) (fun h => absurd h (by omega)) (fun h4 => ?_)
          refine lv_aload hx hb dX0_due_131 (lv_at hl 1 rfl) ?_
          refine lv_iload hx hb dX0_due_133 (lv_at hl 0 rfl) ?_
          refine lv_iload_n hx hb dX0_due_135 rfl (lv_at hl 4 rfl) ?_
          refine lv_bipush (v := 8) hx hb dX0_due_136 (by decide) ?_
          refine lv_iload hx hb dX0_due_138 (lv_at hl 0 rfl) ?_
          refine lv_imul hx hb dX0_due_140 ?_
          refine lv_iushr (v := gk_us ((gk_run (gk_key K) o (gk_x B)).1) (8 * (nI j))) hx hb dX0_due_141 rfl ?_
          refine lv_i2b (v := ((gk_us ((gk_run (gk_key K) o (gk_x B)).1) (8 * (nI j))).toInt8).toInt32) hx hb dX0_due_142 rfl ?_
          refine gk_bast hx hb hK hP hD hS 2 rfl j (rfl) (by omega) (by decide) (y := gk_by (gk_run (gk_key K) o (gk_x B)).1 j) (gk_88 (gk_us_by (gk_run (gk_key K) o (gk_x B)).1 (8 * nI j) j (gk_hs8 j h4))) dX0_due_143 (fun H locs hP hD hS => ?_)
          have hP : va_P G vwCl [gk_xb c kq 32 K, gk_xb c bq 8 B, gk_xb c q 8 (va_up (gk_dub (gk_run (gk_key K) o (gk_x B)) j) j (gk_by (gk_run (gk_key K) o (gk_x B)).1 j))] H := hP
          have hD : va_D A [gk_xb c kq 32 K, gk_xb c bq 8 B, gk_xb c q 8 (va_up (gk_dub (gk_run (gk_key K) o (gk_x B)) j) j (gk_by (gk_run (gk_key K) o (gk_x B)).1 j))] := hD
          refine lv_aload hx hb dX0_due_144 (lv_at hl 1 rfl) ?_
          refine lv_iload hx hb dX0_due_146 (lv_at hl 0 rfl) ?_
          refine lv_iconst (v := 4) hx hb dX0_due_148 (by decide) ?_
          refine lv_iadd hx hb dX0_due_149 ?_
          refine lv_iload hx hb dX0_due_150 (lv_at hl 5 rfl) ?_
          refine lv_bipush (v := 8) hx hb dX0_due_152 (by decide) ?_
          refine lv_iload hx hb dX0_due_154 (lv_at hl 0 rfl) ?_
          refine lv_imul hx hb dX0_due_156 ?_
          refine lv_iushr (v := gk_us ((gk_run (gk_key K) o (gk_x B)).2) (8 * (nI j))) hx hb dX0_due_157 rfl ?_
          refine lv_i2b (v := ((gk_us ((gk_run (gk_key K) o (gk_x B)).2) (8 * (nI j))).toInt8).toInt32) hx hb dX0_due_158 rfl ?_
          refine gk_bast hx hb hK hP hD hS 2 rfl (j + 4) (nI_add j 4) (by omega) (by decide) (y := gk_by (gk_run (gk_key K) o (gk_x B)).2 j) (gk_88 (gk_us_by (gk_run (gk_key K) o (gk_x B)).2 (8 * nI j) j (gk_hs8 j h4))) dX0_due_159 (fun H locs hP hD hS => ?_)
          have hP : va_P G vwCl [gk_xb c kq 32 K, gk_xb c bq 8 B, gk_xb c q 8 (va_up (va_up (gk_dub (gk_run (gk_key K) o (gk_x B)) j) j (gk_by (gk_run (gk_key K) o (gk_x B)).1 j)) (j + 4) (gk_by (gk_run (gk_key K) o (gk_x B)).2 j))] H := hP
          have hD : va_D A [gk_xb c kq 32 K, gk_xb c bq 8 B, gk_xb c q 8 (va_up (va_up (gk_dub (gk_run (gk_key K) o (gk_x B)) j) j (gk_by (gk_run (gk_key K) o (gk_x B)).1 j)) (j + 4) (gk_by (gk_run (gk_key K) o (gk_x B)).2 j))] := hD
          have hP : va_P G vwCl [gk_xb c kq 32 K, gk_xb c bq 8 B, gk_xb c q 8 (gk_dub (gk_run (gk_key K) o (gk_x B)) (j + 1))] H := gk_ext hP 2 rfl (gk_dub (gk_run (gk_key K) o (gk_x B)) (j + 1)) (fun i _ => congrFun (gk_dub1 (gk_run (gk_key K) o (gk_x B)) j h4) i)
          have hD : va_D A [gk_xb c kq 32 K, gk_xb c bq 8 B, gk_xb c q 8 (gk_dub (gk_run (gk_key K) o (gk_x B)) (j + 1))] := va_D.set (p := 2) hD rfl
          refine lv_iinc (v := nI (j + 1)) (lv' := [(6, .int (nI (j + 1))), (5, .ref q), (0, .ref kq), (1, .ref bq), (3, .int ((gk_run (gk_key K) o (gk_x B)).1)), (4, .int ((gk_run (gk_key K) o (gk_x B)).2))]) hx hb dX0_due_160 hl (k := 0) rfl (gk_inc j) (by decide) rfl (fun ls hl => ?_)
          refine lv_goto (tgt := 125) hx hb dX0_due_163 (by decide) ?_
          exact ih (j + 1) (by omega) _ _ hP hD hS ls (lv_sub hl [0, 1, 2, 3, 4, 5] rfl)
      exact loop2 4 0 rfl _ _ hP hD hS ls (lv_sub hl [0, 1, 2, 3, 5, 6] rfl)
    | succ n ih =>
      intro k hk H locs hP hD hS ls hl
      rw [gk_duI _ _ _ k (by omega)] at hl
      refine lv_iload hx hb dX0_due_16 (lv_at hl 5 rfl) ?_
      refine lv_bipush (v := 32) hx hb dX0_due_18 (by decide) ?_
      refine gk_jge (tgt := 116) hx hb k 32 rfl rfl (by omega) (by decide) dX0_due_20 (by decide) (fun h => absurd h (by omega)) (fun h32 => ?_)
      have at70 : ∀ (H : Heap) (locs : List Loc), va_P G vwCl [gk_xb c kq 32 K, gk_xb c bq 8 B] H → va_D A [gk_xb c kq 32 K, gk_xb c bq 8 B] → va_S A s.heap H locs → ∀ ls : Array Slot, lv_has ls 8 [(0, .ref kq), (1, .ref bq), (2, .int (gk_oi o)), (3, .int ((gk_it (gk_key K) o (gk_x B) (k)).1)), (4, .int ((gk_it (gk_key K) o (gk_x B) (k)).2)), (5, .int (nI k))] → W p l e ({ frames := 1, cells := 33, slots := 264, locals := 23 } : Room) s m ([.ref kq, .ref bq, .int (gk_oi o)] : List Value).toArray below meth cd H locs k (8 * k) Q (F0 m 70 ls [.int (nI (gk_ix o k))]) := by
        intro H locs hP hD hS ls hl
        have hix := gk_ix_lt o k h32
        refine lv_istore (lv' := [(6, .int (nI (gk_ix o k))), (0, .ref kq), (1, .ref bq), (2, .int (gk_oi o)), (3, .int ((gk_it (gk_key K) o (gk_x B) (k)).1)), (4, .int ((gk_it (gk_key K) o (gk_x B) (k)).2)), (5, .int (nI k))]) hx hb dX0_due_70 hl (by decide) rfl (fun ls hl => ?_)
        refine lv_iload hx hb dX0_due_72 (lv_at hl 5 rfl) ?_
        refine lv_iload_n hx hb dX0_due_74 rfl (lv_at hl 4 rfl) ?_
        refine lv_aload_n hx hb dX0_due_75 rfl (lv_at hl 1 rfl) ?_
        refine lv_iconst (v := 4) hx hb dX0_due_76 (by decide) ?_
        refine lv_iload hx hb dX0_due_77 (lv_at hl 0 rfl) ?_
        refine lv_imul hx hb dX0_due_79 ?_
        refine gk_top (y := nI (4 * gk_ix o k)) (pk_mul 4 (gk_ix o k)) ?_
        refine gk_calli (wr := [gk_xb c bq 8 B]) (va_runS (As := [.ref kq, .int (nI (4 * gk_ix o k))]) (rest := [.int ((gk_it (gk_key K) o (gk_x B) (k)).1), .int ((gk_it (gk_key K) o (gk_x B) (k)).2)]) ⟨hx, hb, hml, hown, hts⟩ (m_wd l G c X kq 32 K (4 * gk_ix o k) H.size (by decide) (by omega)) (va_cwS 2 hts (lw_S q299 q300 q7 q301) rfl rfl rfl (by decide +kernel) ⟨(Nat.le_of_ble_eq_true rfl), (Nat.le_of_ble_eq_true rfl)⟩) ⟨gk_blind, gk_pre hP hD hK hC hS hA [0] rfl (by decide)⟩ rfl rfl hl.1 rfl (lv_room (Nat.le_of_ble_eq_true rfl)) dX0_due_80 ⟨(show k + 0 ≤ 33 by omega), (show 8 * k + 0 ≤ 264 by omega)⟩) hP hD hS hA [0] [1] rfl rfl (by decide) (by decide) (fun r _ H locs hw hP hD hS => ?_)
        have hP : va_P G vwCl [gk_xb c bq 8 B, gk_xb c kq 32 K] H := hP
        have hD : va_D A [gk_xb c bq 8 B, gk_xb c kq 32 K] := hD
        have hw : r = gk_w K (4 * gk_ix o k) := hw
        subst hw
        have hP : va_P G vwCl [gk_xb c kq 32 K, gk_xb c bq 8 B] H := gk_Psub hP [1, 0] rfl
        have hD : va_D A [gk_xb c kq 32 K, gk_xb c bq 8 B] := hD.sub [1, 0] (by decide) rfl
        refine lv_iadd hx hb dX0_due_83 ?_
        refine gk_calli (wr := [gk_xb c kq 32 K, gk_xb c bq 8 B]) (va_runS (As := [.int (((gk_it (gk_key K) o (gk_x B) (k)).1) + (gk_w K (4 * gk_ix o k)))]) (rest := [.int ((gk_it (gk_key K) o (gk_x B) (k)).2)]) ⟨hx, hb, hml, hown, hts⟩ (m_bx l G c X (((gk_it (gk_key K) o (gk_x B) (k)).1) + (gk_w K (4 * gk_ix o k))) H.size) (va_cwS 1 hts (lw_S q302 q303 q7 q304) rfl rfl rfl (by decide +kernel) ⟨(Nat.le_of_ble_eq_true rfl), (Nat.le_of_ble_eq_true rfl)⟩) ⟨gk_blind, gk_pre hP hD hK hC hS hA [] rfl (by decide)⟩ rfl rfl hl.1 rfl (lv_room (Nat.le_of_ble_eq_true rfl)) dX0_due_84 ⟨(show k + 0 + 1 ≤ 33 by omega), (show 8 * k + 0 + 8 ≤ 264 by omega)⟩) hP hD hS hA [] [0, 1] rfl rfl (by decide) (by decide) (fun r _ H locs hw hP hD hS => ?_)
        have hP : va_P G vwCl [gk_xb c kq 32 K, gk_xb c bq 8 B] H := hP
        have hD : va_D A [gk_xb c kq 32 K, gk_xb c bq 8 B] := hD
        have hw : r = gk_f (((gk_it (gk_key K) o (gk_x B) (k)).1) + (gk_w K (4 * gk_ix o k))) := hw
        subst hw
        refine lv_ixor hx hb dX0_due_87 ?_
        refine lv_istore (lv' := [(7, .int (((gk_it (gk_key K) o (gk_x B) (k)).2) ^^^ (gk_f (((gk_it (gk_key K) o (gk_x B) (k)).1) + (gk_w K (4 * gk_ix o k)))))), (6, .int (nI (gk_ix o k))), (0, .ref kq), (1, .ref bq), (2, .int (gk_oi o)), (3, .int ((gk_it (gk_key K) o (gk_x B) (k)).1)), (4, .int ((gk_it (gk_key K) o (gk_x B) (k)).2)), (5, .int (nI k))]) hx hb dX0_due_88 hl (by decide) rfl (fun ls hl => ?_)
        refine lv_iload hx hb dX0_due_90 (lv_at hl 7 rfl) ?_
        refine lv_bipush (v := 31) hx hb dX0_due_92 (by decide) ?_
        refine gk_jge (tgt := 106) hx hb k 31 rfl rfl (by omega) (by decide) dX0_due_94 (by decide) (fun h => ?_) (fun h => ?_)
        · skip
          obtain rfl : k = 31 := by omega
          refine lv_iload hx hb dX0_due_106 (lv_at hl 0 rfl) ?_
          refine gk_top (y := (gk_run (gk_key K) o (gk_x B)).2) (gk_zr K o (gk_x B)) ?_
          refine lv_istore (lv' := [(4, .int ((gk_run (gk_key K) o (gk_x B)).2)), (7, .int (((gk_it (gk_key K) o (gk_x B) (31)).2) ^^^ (gk_f (((gk_it (gk_key K) o (gk_x B) (31)).1) + (gk_w K (4 * gk_ix o 31)))))), (6, .int (nI (gk_ix o 31))), (0, .ref kq), (1, .ref bq), (2, .int (gk_oi o)), (3, .int ((gk_it (gk_key K) o (gk_x B) (31)).1)), (5, .int (nI 31))]) hx hb dX0_due_108 hl (by decide) rfl (fun ls hl => ?_)
          refine lv_iinc (v := nI (31 + 1)) (lv' := [(5, .int (nI (31 + 1))), (4, .int ((gk_run (gk_key K) o (gk_x B)).2)), (7, .int (((gk_it (gk_key K) o (gk_x B) (31)).2) ^^^ (gk_f (((gk_it (gk_key K) o (gk_x B) (31)).1) + (gk_w K (4 * gk_ix o 31)))))), (6, .int (nI (gk_ix o 31))), (0, .ref kq), (1, .ref bq), (2, .int (gk_oi o)), (3, .int ((gk_it (gk_key K) o (gk_x B) (31)).1))]) hx hb dX0_due_110 hl (k := 7) rfl (gk_inc 31) (by decide) rfl (fun ls hl => ?_)
          refine lv_goto (tgt := 16) hx hb dX0_due_113 (by decide) ?_
          have hl : lv_has ls 8 [(0, .ref kq), (1, .ref bq), (2, .int (gk_oi o)), (3, .int ((gk_it (gk_key K) o (gk_x B) (31)).1)), (4, .int ((gk_run (gk_key K) o (gk_x B)).2)), (5, .int (nI (31 + 1)))] := (lv_sub hl [4, 5, 6, 7, 1, 0] rfl)
          rw [gk_runA, ← gk_duR (gk_key K) o (gk_x B) (31 + 1) rfl] at hl
          refine W.cs (cells' := 31 + 1) (slots' := 8 * (31 + 1)) (by omega) (by omega) ?_
          exact ih (31 + 1) (by omega) _ _ hP hD hS ls hl
        · skip
          refine lv_iload_n hx hb dX0_due_97 rfl (lv_at hl 5 rfl) ?_
          refine gk_top (y := (gk_it (gk_key K) o (gk_x B) (k + 1)).2) (gk_itB (gk_key K) o (gk_x B) k) ?_
          refine lv_istore (lv' := [(4, .int ((gk_it (gk_key K) o (gk_x B) (k + 1)).2)), (7, .int (((gk_it (gk_key K) o (gk_x B) (k)).2) ^^^ (gk_f (((gk_it (gk_key K) o (gk_x B) (k)).1) + (gk_w K (4 * gk_ix o k)))))), (6, .int (nI (gk_ix o k))), (0, .ref kq), (1, .ref bq), (2, .int (gk_oi o)), (3, .int ((gk_it (gk_key K) o (gk_x B) (k)).1)), (5, .int (nI k))]) hx hb dX0_due_98 hl (by decide) rfl (fun ls hl => ?_)
          refine lv_iload hx hb dX0_due_100 (lv_at hl 1 rfl) ?_
          refine gk_top (y := (gk_it (gk_key K) o (gk_x B) (k + 1)).1) (gk_zi K o (gk_x B) k) ?_
          refine lv_istore_n (lv' := [(3, .int ((gk_it (gk_key K) o (gk_x B) (k + 1)).1)), (4, .int ((gk_it (gk_key K) o (gk_x B) (k + 1)).2)), (7, .int (((gk_it (gk_key K) o (gk_x B) (k)).2) ^^^ (gk_f (((gk_it (gk_key K) o (gk_x B) (k)).1) + (gk_w K (4 * gk_ix o k)))))), (6, .int (nI (gk_ix o k))), (0, .ref kq), (1, .ref bq), (2, .int (gk_oi o)), (5, .int (nI k))]) hx hb dX0_due_102 rfl hl (by decide) rfl (fun ls hl => ?_)
          refine lv_goto (tgt := 110) hx hb dX0_due_103 (by decide) ?_
          refine lv_iinc (v := nI (k + 1)) (lv' := [(5, .int (nI (k + 1))), (3, .int ((gk_it (gk_key K) o (gk_x B) (k + 1)).1)), (4, .int ((gk_it (gk_key K) o (gk_x B) (k + 1)).2)), (7, .int (((gk_it (gk_key K) o (gk_x B) (k)).2) ^^^ (gk_f (((gk_it (gk_key K) o (gk_x B) (k)).1) + (gk_w K (4 * gk_ix o k)))))), (6, .int (nI (gk_ix o k))), (0, .ref kq), (1, .ref bq), (2, .int (gk_oi o))]) hx hb dX0_due_110 hl (k := 7) rfl (gk_inc k) (by decide) rfl (fun ls hl => ?_)
          refine lv_goto (tgt := 16) hx hb dX0_due_113 (by decide) ?_
          have hl : lv_has ls 8 [(0, .ref kq), (1, .ref bq), (2, .int (gk_oi o)), (3, .int ((gk_it (gk_key K) o (gk_x B) (k + 1)).1)), (4, .int ((gk_it (gk_key K) o (gk_x B) (k + 1)).2)), (5, .int (nI (k + 1)))] := (lv_sub hl [5, 6, 7, 1, 2, 0] rfl)
          rw [← gk_duI (gk_key K) o (gk_x B) (k + 1) (by omega)] at hl
          refine W.cs (cells' := k + 1) (slots' := 8 * (k + 1)) (by omega) (by omega) ?_
          exact ih (k + 1) (by omega) _ _ hP hD hS ls hl
      cases o with
      | false =>
        refine lv_iload_n hx hb dX0_due_23 rfl (lv_at hl 2 rfl) ?_
        refine lv_if_eq (tgt := 50) hx hb dX0_due_24 (by decide) (fun _ => ?_) (fun h => absurd rfl h)
        refine lv_iload hx hb dX0_due_50 (lv_at hl 5 rfl) ?_
        refine lv_bipush (v := 24) hx hb dX0_due_52 (by decide) ?_
        refine gk_jge (tgt := 65) hx hb k 24 rfl rfl (by omega) (by decide) dX0_due_54 (by decide) (fun h => ?_) (fun h => ?_)
        · skip
          refine lv_bipush (v := 31) hx hb dX0_due_65 (by decide) ?_
          refine lv_iload hx hb dX0_due_67 (lv_at hl 5 rfl) ?_
          refine lv_isub hx hb dX0_due_69 ?_
          refine gk_top (y := nI (gk_ix false k)) ((pk_sub (a := 31) (b := k) (by omega)).trans (congrArg nI (by unfold gk_ix; rw [if_neg (by decide), if_neg (by omega)]))) ?_
          exact at70 _ _ hP hD hS ls hl
        · skip
          refine lv_iload hx hb dX0_due_57 (lv_at hl 5 rfl) ?_
          refine lv_bipush (v := 7) hx hb dX0_due_59 (by decide) ?_
          refine lv_iand hx hb dX0_due_61 ?_
          refine gk_top (y := nI (gk_ix false k)) ((pk_andN (n := k) (by omega) (m := 7) 3 (by decide)).trans (congrArg nI (by unfold gk_ix; rw [if_neg (by decide), if_pos h]))) ?_
          refine lv_goto (tgt := 70) hx hb dX0_due_62 (by decide) ?_
          exact at70 _ _ hP hD hS ls hl
      | true =>
        refine lv_iload_n hx hb dX0_due_23 rfl (lv_at hl 2 rfl) ?_
        refine lv_if_eq (tgt := 50) hx hb dX0_due_24 (by decide) (fun h => absurd h (by decide)) (fun _ => ?_)
        refine lv_iload hx hb dX0_due_27 (lv_at hl 5 rfl) ?_
        refine lv_bipush (v := 8) hx hb dX0_due_29 (by decide) ?_
        refine gk_jge (tgt := 39) hx hb k 8 rfl rfl (by omega) (by decide) dX0_due_31 (by decide) (fun h => ?_) (fun h => ?_)
        · skip
          refine lv_bipush (v := 31) hx hb dX0_due_39 (by decide) ?_
          refine lv_iload hx hb dX0_due_41 (lv_at hl 5 rfl) ?_
          refine lv_isub hx hb dX0_due_43 ?_
          refine gk_top (y := nI (31 - k)) (pk_sub (a := 31) (b := k) (by omega)) ?_
          refine lv_bipush (v := 7) hx hb dX0_due_44 (by decide) ?_
          refine lv_iand hx hb dX0_due_46 ?_
          refine gk_top (y := nI (gk_ix true k)) ((pk_andN (n := 31 - k) (by omega) (m := 7) 3 (by decide)).trans (congrArg nI (by unfold gk_ix; rw [if_pos rfl, if_neg (by omega)]))) ?_
          refine lv_goto (tgt := 70) hx hb dX0_due_47 (by decide) ?_
          exact at70 _ _ hP hD hS ls hl
        · skip
          refine lv_iload hx hb dX0_due_34 (lv_at hl 5 rfl) ?_
          refine gk_top (y := nI (gk_ix true k)) (congrArg nI (by unfold gk_ix; rw [if_pos rfl, if_pos h])) ?_
          refine lv_goto (tgt := 70) hx hb dX0_due_36 (by decide) ?_
          exact at70 _ _ hP hD hS ls hl
  have hl : lv_has ls 8 [(0, .ref kq), (1, .ref bq), (2, .int (gk_oi o)), (3, .int ((gk_it (gk_key K) o (gk_x B) (0)).1)), (4, .int ((gk_it (gk_key K) o (gk_x B) (0)).2)), (5, .int (nI 0))] := (lv_sub hl [3, 4, 5, 2, 1, 0] rfl)
  rw [← gk_duI (gk_key K) o (gk_x B) 0 (by decide)] at hl
  exact loop 32 0 rfl _ _ hP hD hS ls hl

set_option maxHeartbeats 4000000 in
set_option maxRecDepth 100000 in
/-- laid(f, o, v): a word into bytes, high byte first -/
theorem m_la (l : Launch) (G : va_G) (c : gk_I) (X : gk_X) (a1 n : Nat) (f : Nat → Int8) (o : Nat) (v : Int32) (sz : Nat) (hn : n ≤ 64) (ho : o + 4 ≤ n) : Met l yX0_laid (ws_ yX0_laid cX0_laid 4 none) ({ frames := 0, cells := 0, slots := 0, locals := 0 } : Room) (va_Pc [.ref a1, .int (nI o), .int v] (gk_U G c X [gk_xb c a1 n f] sz)) (va_Qv (fun _ : Unit => True) (gk_B G (fun _ : Unit => [gk_xb c a1 n (gk_lay f o v)]) (va_A [gk_xb c a1 n f] sz)) (va_A [gk_xb c a1 n f] sz)) 0 0 (va_A [gk_xb c a1 n f] sz) := by
  refine gk_ofW (Qf := fun A => va_Qv (fun _ : Unit => True) (gk_B G (fun _ : Unit => [gk_xb c a1 n (gk_lay f o v)]) A) A) (by decide) (Nat.le_of_ble_eq_true rfl) ?_
  intro p e s m below meth cd ls A Q hQ hx hb hr hlocks hml hown hts hin hK hC hA hP hD hS hl
  have hown : s.vm.findClass RX0 = some m.cls := hown
  have hl : lv_has ls 4 [(0, .ref a1), (1, .int (nI o)), (2, .int v)] := hl
  refine lv_iconst (v := 0) hx hb dX0_laid_0 (by decide) ?_
  refine lv_istore_n (lv' := [(3, .int 0), (0, .ref a1), (1, .int (nI o)), (2, .int v)]) hx hb dX0_laid_1 rfl hl (by decide) rfl (fun ls hl => ?_)
  have loop : ∀ (n1 k : Nat), k + n1 = 4 → ∀ (H : Heap) (locs : List Loc), va_P G vwCl [gk_xb c a1 n (gk_layk f o v k)] H → va_D A [gk_xb c a1 n (gk_layk f o v k)] → va_S A s.heap H locs → ∀ ls : Array Slot, lv_has ls 4 [(3, .int (nI k)), (0, .ref a1), (1, .int (nI o)), (2, .int v)] → W p l e ({ frames := 0, cells := 0, slots := 0, locals := 0 } : Room) s m ([.ref a1, .int (nI o), .int v] : List Value).toArray below meth cd H locs 0 0 Q (F0 m 2 ls []) := by
    intro n1
    induction n1 with
    | zero =>
      intro k hk H locs hP hD hS ls hl
      obtain rfl : k = 4 := by omega
      refine lv_iload_n hx hb dX0_laid_2 rfl (lv_at hl 0 rfl) ?_
      refine lv_iconst (v := 4) hx hb dX0_laid_3 (by decide) ?_
      refine gk_jge (tgt := 28) hx hb 4 4 rfl rfl (by decide) (by decide) dX0_laid_4 (by decide) (fun _ => ?_) (fun h => absurd h (by decide))
      exact gk_vret hQ hx hb hr hlocks (Nat.le_of_ble_eq_true rfl) (Nat.le_of_ble_eq_true rfl) hP hD hS () (trivial) [0] (by decide) rfl dX0_laid_28
    | succ n1 ih =>
      intro k hk H locs hP hD hS ls hl
      refine lv_iload_n hx hb dX0_laid_2 rfl (lv_at hl 0 rfl) ?_
      refine lv_iconst (v := 4) hx hb dX0_laid_3 (by decide) ?_
      refine gk_jge (tgt := 28) hx hb k 4 rfl rfl (by omega) (by decide) dX0_laid_4 (by decide) (fun h => absurd h (by omega)) (fun h4 => ?_)
      refine lv_aload_n hx hb dX0_laid_7 rfl (lv_at hl 1 rfl) ?_
      refine lv_iload_n hx hb dX0_laid_8 rfl (lv_at hl 2 rfl) ?_
      refine lv_iload_n hx hb dX0_laid_9 rfl (lv_at hl 0 rfl) ?_
      refine lv_iadd hx hb dX0_laid_10 ?_
      refine lv_iload_n hx hb dX0_laid_11 rfl (lv_at hl 3 rfl) ?_
      refine lv_bipush (v := 24) hx hb dX0_laid_12 (by decide) ?_
      refine lv_bipush (v := 8) hx hb dX0_laid_14 (by decide) ?_
      refine lv_iload_n hx hb dX0_laid_16 rfl (lv_at hl 0 rfl) ?_
      refine lv_imul hx hb dX0_laid_17 ?_
      refine lv_isub hx hb dX0_laid_18 ?_
      refine lv_ishr hx hb dX0_laid_19 ?_
      refine lv_i2b (v := ((v >>> ((24 - (8 * (nI k))) &&& 31)).toInt8).toInt32) hx hb dX0_laid_20 rfl ?_
      refine gk_bast hx hb hK hP hD hS 0 rfl (o + k) (nI_add o k) (by omega) (hn) (y := gk_by v (3 - k)) (gk_88 (gk_sr_by v ((24 - (8 * nI k)) &&& 31) (3 - k) (by omega) (gk_hsL k h4))) dX0_laid_21 (fun H locs hP hD hS => ?_)
      have hP : va_P G vwCl [gk_xb c a1 n (va_up (gk_layk f o v k) (o + k) (gk_by v (3 - k)))] H := hP
      have hD : va_D A [gk_xb c a1 n (va_up (gk_layk f o v k) (o + k) (gk_by v (3 - k)))] := hD
      have hP : va_P G vwCl [gk_xb c a1 n (gk_layk f o v (k + 1))] H := gk_ext hP 0 rfl (gk_layk f o v (k + 1)) (fun j _ => congrFun (gk_layk1 f o v k) j)
      have hD : va_D A [gk_xb c a1 n (gk_layk f o v (k + 1))] := va_D.set (p := 0) hD rfl
      refine lv_iinc (v := nI (k + 1)) (lv' := [(3, .int (nI (k + 1))), (0, .ref a1), (1, .int (nI o)), (2, .int v)]) hx hb dX0_laid_22 hl (k := 0) rfl (gk_inc k) (by decide) rfl (fun ls hl => ?_)
      refine lv_goto (tgt := 2) hx hb dX0_laid_25 (by decide) ?_
      exact ih (k + 1) (by omega) _ _ hP hD hS ls (lv_sub hl [0, 1, 2, 3] rfl)
  have hP : va_P G vwCl [gk_xb c a1 n (gk_layk f o v 0)] s.heap := gk_ext hP 0 rfl (gk_layk f o v 0) (fun j _ => (congrFun (gk_layk0 f o v) j).symm)
  have hD : va_D A [gk_xb c a1 n (gk_layk f o v 0)] := va_D.set (p := 0) hD rfl
  exact loop 4 0 rfl _ _ hP hD hS ls (lv_sub hl [0, 1, 2, 3] rfl)

def gk_four (a b e1 e2 : Int32) (k : Nat) : Int32 := if k = 0 then a else if k = 1 then b else if k = 2 then e1 else e2
def gk_l4k (g : Nat → Int8) (o : Nat) (w : Nat → Int32) : Nat → (Nat → Int8)
  | 0 => g
  | k + 1 => gk_lay (gk_l4k g o w k) (o + 4 * k) (w k)
theorem gk_l4k4 (g : Nat → Int8) (o : Nat) (a b e1 e2 : Int32) : gk_l4k g o (gk_four a b e1 e2) 4 = gk_l4 g o a b e1 e2 := rfl
set_option maxHeartbeats 4000000 in
set_option maxRecDepth 100000 in
/-- keyed(d, g, h, a, b, c, e): half of the key, in the desk and in the law's array -/
theorem m_ke (l : Launch) (G : va_G) (c : gk_I) (X : gk_X) (d kq bq oq k2 : Nat) (K g : Nat → Int8) (hf a b e1 e2 : Int32) (sz : Nat) : Met l yX0_keyed (ws_ yX0_keyed cX0_keyed 9 none) ({ frames := 2, cells := 1, slots := 4, locals := 48 } : Room) (va_Pc [.ref d, .ref k2, .int hf, .int a, .int b, .int e1, .int e2] (gk_U G c X [(d, .inr (0, [.ref kq, .ref bq, .ref oq])), gk_xb c kq 32 K, gk_xb c k2 32 g] sz)) (va_Qv (fun _ : Unit => True) (gk_B G (fun _ : Unit => [(d, .inr (0, [.ref kq, .ref bq, .ref oq])), gk_xb c kq 32 (gk_l4 K (gk_hf hf) a b e1 e2), gk_xb c k2 32 (gk_l4 g (gk_hf hf) a b e1 e2)]) (va_A [(d, .inr (0, [.ref kq, .ref bq, .ref oq])), gk_xb c kq 32 K, gk_xb c k2 32 g] sz)) (va_A [(d, .inr (0, [.ref kq, .ref bq, .ref oq])), gk_xb c kq 32 K, gk_xb c k2 32 g] sz)) 1 4 (va_A [(d, .inr (0, [.ref kq, .ref bq, .ref oq])), gk_xb c kq 32 K, gk_xb c k2 32 g] sz) := by
  refine gk_ofW (Qf := fun A => va_Qv (fun _ : Unit => True) (gk_B G (fun _ : Unit => [(d, .inr (0, [.ref kq, .ref bq, .ref oq])), gk_xb c kq 32 (gk_l4 K (gk_hf hf) a b e1 e2), gk_xb c k2 32 (gk_l4 g (gk_hf hf) a b e1 e2)]) A) A) (by decide) (Nat.le_of_ble_eq_true rfl) ?_
  intro p e s m below meth cd ls A Q hQ hx hb hr hlocks hml hown hts hin hK hC hA hP hD hS hl
  have hown : s.vm.findClass RX0 = some m.cls := hown
  have hl : lv_has ls 9 [(0, .ref d), (1, .ref k2), (2, .int hf), (3, .int a), (4, .int b), (5, .int e1), (6, .int e2)] := hl
  have h16 := gk_hf_lt hf
  refine lv_aload_n hx hb dX0_keyed_0 rfl (lv_at hl 0 rfl) ?_
  refine lv_iload_n hx hb dX0_keyed_1 rfl (lv_at hl 2 rfl) ?_
  refine lv_iload_n hx hb dX0_keyed_2 rfl (lv_at hl 3 rfl) ?_
  refine lv_iload hx hb dX0_keyed_3 (lv_at hl 4 rfl) ?_
  refine lv_iload hx hb dX0_keyed_5 (lv_at hl 5 rfl) ?_
  refine lv_iload hx hb dX0_keyed_7 (lv_at hl 6 rfl) ?_
  refine gk_callv (wr := [gk_xb c k2 32 g]) (va_runV (As := [.int hf, .int a, .int b, .int e1, .int e2]) (rest := []) ⟨hx, hb, hml, hown, hts⟩ (m_dk l G c X d kq bq oq K hf a b e1 e2 s.heap.size) (cwV 5 hts (lw_V q318 q319 q320 q8 q321) rfl rfl rfl (by decide +kernel) ⟨(Nat.le_of_ble_eq_true rfl), (Nat.le_of_ble_eq_true rfl)⟩) ⟨gk_blind, va_recv hK hP (ci := 0) (q0 := 0) rfl rfl, gk_pre hP hD hK hC hS hA [0, 1] rfl (by decide)⟩ rfl rfl hl.1 rfl (lv_room (Nat.le_of_ble_eq_true rfl)) dX0_keyed_9 ⟨(Nat.le_of_ble_eq_true rfl), (Nat.le_of_ble_eq_true rfl)⟩) hP hD hS hA [0, 1] [2] rfl rfl (by decide) (by decide) (fun _ H locs _ hP hD hS => ?_)
  have hP : va_P G vwCl [gk_xb c k2 32 g, (d, .inr (0, [.ref kq, .ref bq, .ref oq])), gk_xb c kq 32 (gk_l4 K (gk_hf hf) a b e1 e2)] H := hP
  have hD : va_D A [gk_xb c k2 32 g, (d, .inr (0, [.ref kq, .ref bq, .ref oq])), gk_xb c kq 32 (gk_l4 K (gk_hf hf) a b e1 e2)] := hD
  refine lv_iconst (v := 4) hx hb dX0_keyed_12 (by decide) ?_
  refine gk_newi hx hb (hts _ q251) hK hP hD hS hA 4 (rfl) (by decide) (Nat.le_of_ble_eq_true rfl) (Nat.le_of_ble_eq_true rfl) dX0_keyed_13 (fun q H hP hD hS => ?_)
  have hP : va_P G vwCl [gk_xb c k2 32 g, (d, .inr (0, [.ref kq, .ref bq, .ref oq])), gk_xb c kq 32 (gk_l4 K (gk_hf hf) a b e1 e2), gk_xi c q 4 (fun _ => 0)] H := hP
  have hD : va_D A [gk_xb c k2 32 g, (d, .inr (0, [.ref kq, .ref bq, .ref oq])), gk_xb c kq 32 (gk_l4 K (gk_hf hf) a b e1 e2), gk_xi c q 4 (fun _ => 0)] := hD
  refine lv_dup hx hb dX0_keyed_15 rfl ?_
  refine lv_iconst (v := 0) hx hb dX0_keyed_16 (by decide) ?_
  refine lv_iload_n hx hb dX0_keyed_17 rfl (lv_at hl 3 rfl) ?_
  refine gk_iast hx hb hK hP hD hS 3 rfl 0 (rfl) (by decide) (by decide) dX0_keyed_18 (fun H locs hP hD hS => ?_)
  have hP : va_P G vwCl [gk_xb c k2 32 g, (d, .inr (0, [.ref kq, .ref bq, .ref oq])), gk_xb c kq 32 (gk_l4 K (gk_hf hf) a b e1 e2), gk_xi c q 4 (upd (fun _ => 0) 0 a)] H := hP
  have hD : va_D A [gk_xb c k2 32 g, (d, .inr (0, [.ref kq, .ref bq, .ref oq])), gk_xb c kq 32 (gk_l4 K (gk_hf hf) a b e1 e2), gk_xi c q 4 (upd (fun _ => 0) 0 a)] := hD
  refine lv_dup hx hb dX0_keyed_19 rfl ?_
  refine lv_iconst (v := 1) hx hb dX0_keyed_20 (by decide) ?_
  refine lv_iload hx hb dX0_keyed_21 (lv_at hl 4 rfl) ?_
  refine gk_iast hx hb hK hP hD hS 3 rfl 1 (rfl) (by decide) (by decide) dX0_keyed_23 (fun H locs hP hD hS => ?_)
  have hP : va_P G vwCl [gk_xb c k2 32 g, (d, .inr (0, [.ref kq, .ref bq, .ref oq])), gk_xb c kq 32 (gk_l4 K (gk_hf hf) a b e1 e2), gk_xi c q 4 (upd (upd (fun _ => 0) 0 a) 1 b)] H := hP
  have hD : va_D A [gk_xb c k2 32 g, (d, .inr (0, [.ref kq, .ref bq, .ref oq])), gk_xb c kq 32 (gk_l4 K (gk_hf hf) a b e1 e2), gk_xi c q 4 (upd (upd (fun _ => 0) 0 a) 1 b)] := hD
  refine lv_dup hx hb dX0_keyed_24 rfl ?_
  refine lv_iconst (v := 2) hx hb dX0_keyed_25 (by decide) ?_
  refine lv_iload hx hb dX0_keyed_26 (lv_at hl 5 rfl) ?_
  refine gk_iast hx hb hK hP hD hS 3 rfl 2 (rfl) (by decide) (by decide) dX0_keyed_28 (fun H locs hP hD hS => ?_)
  have hP : va_P G vwCl [gk_xb c k2 32 g, (d, .inr (0, [.ref kq, .ref bq, .ref oq])), gk_xb c kq 32 (gk_l4 K (gk_hf hf) a b e1 e2), gk_xi c q 4 (upd (upd (upd (fun _ => 0) 0 a) 1 b) 2 e1)] H := hP
  have hD : va_D A [gk_xb c k2 32 g, (d, .inr (0, [.ref kq, .ref bq, .ref oq])), gk_xb c kq 32 (gk_l4 K (gk_hf hf) a b e1 e2), gk_xi c q 4 (upd (upd (upd (fun _ => 0) 0 a) 1 b) 2 e1)] := hD
  refine lv_dup hx hb dX0_keyed_29 rfl ?_
  refine lv_iconst (v := 3) hx hb dX0_keyed_30 (by decide) ?_
  refine lv_iload hx hb dX0_keyed_31 (lv_at hl 6 rfl) ?_
  refine gk_iast hx hb hK hP hD hS 3 rfl 3 (rfl) (by decide) (by decide) dX0_keyed_33 (fun H locs hP hD hS => ?_)
  have hP : va_P G vwCl [gk_xb c k2 32 g, (d, .inr (0, [.ref kq, .ref bq, .ref oq])), gk_xb c kq 32 (gk_l4 K (gk_hf hf) a b e1 e2), gk_xi c q 4 (upd (upd (upd (upd (fun _ => 0) 0 a) 1 b) 2 e1) 3 e2)] H := hP
  have hD : va_D A [gk_xb c k2 32 g, (d, .inr (0, [.ref kq, .ref bq, .ref oq])), gk_xb c kq 32 (gk_l4 K (gk_hf hf) a b e1 e2), gk_xi c q 4 (upd (upd (upd (upd (fun _ => 0) 0 a) 1 b) 2 e1) 3 e2)] := hD
  have hP : va_P G vwCl [gk_xb c k2 32 g, (d, .inr (0, [.ref kq, .ref bq, .ref oq])), gk_xb c kq 32 (gk_l4 K (gk_hf hf) a b e1 e2), gk_xi c q 4 (gk_four a b e1 e2)] H := gk_extI hP 3 rfl (gk_four a b e1 e2) (fun j hj => by rcases (show j = 0 ∨ j = 1 ∨ j = 2 ∨ j = 3 by omega) with rfl | rfl | rfl | rfl <;> rfl)
  have hD : va_D A [gk_xb c k2 32 g, (d, .inr (0, [.ref kq, .ref bq, .ref oq])), gk_xb c kq 32 (gk_l4 K (gk_hf hf) a b e1 e2), gk_xi c q 4 (gk_four a b e1 e2)] := va_D.set (p := 3) hD rfl
  refine lv_astore (lv' := [(7, .ref q), (0, .ref d), (1, .ref k2), (2, .int hf), (3, .int a), (4, .int b), (5, .int e1), (6, .int e2)]) hx hb dX0_keyed_34 hl (by decide) rfl (fun ls hl => ?_)
  refine lv_iconst (v := 0) hx hb dX0_keyed_36 (by decide) ?_
  refine lv_istore (lv' := [(8, .int 0), (7, .ref q), (0, .ref d), (1, .ref k2), (2, .int hf), (3, .int a), (4, .int b), (5, .int e1), (6, .int e2)]) hx hb dX0_keyed_37 hl (by decide) rfl (fun ls hl => ?_)
  have hP : va_P G vwCl [(d, .inr (0, [.ref kq, .ref bq, .ref oq])), gk_xb c kq 32 (gk_l4 K (gk_hf hf) a b e1 e2), gk_xi c q 4 (gk_four a b e1 e2), gk_xb c k2 32 g] H := gk_Psub hP [1, 2, 3, 0] rfl
  have hD : va_D A [(d, .inr (0, [.ref kq, .ref bq, .ref oq])), gk_xb c kq 32 (gk_l4 K (gk_hf hf) a b e1 e2), gk_xi c q 4 (gk_four a b e1 e2), gk_xb c k2 32 g] := hD.sub [1, 2, 3, 0] (by decide) rfl
  have loop : ∀ (n k : Nat), k + n = 4 → ∀ (H : Heap) (locs : List Loc), va_P G vwCl [(d, .inr (0, [.ref kq, .ref bq, .ref oq])), gk_xb c kq 32 (gk_l4 K (gk_hf hf) a b e1 e2), gk_xi c q 4 (gk_four a b e1 e2), gk_xb c k2 32 (gk_l4k g (gk_hf hf) (gk_four a b e1 e2) k)] H → va_D A [(d, .inr (0, [.ref kq, .ref bq, .ref oq])), gk_xb c kq 32 (gk_l4 K (gk_hf hf) a b e1 e2), gk_xi c q 4 (gk_four a b e1 e2), gk_xb c k2 32 (gk_l4k g (gk_hf hf) (gk_four a b e1 e2) k)] → va_S A s.heap H locs → ∀ ls : Array Slot, lv_has ls 9 [(8, .int (nI k)), (7, .ref q), (1, .ref k2), (2, .int hf)] → W p l e ({ frames := 2, cells := 1, slots := 4, locals := 48 } : Room) s m ([.ref d, .ref k2, .int hf, .int a, .int b, .int e1, .int e2] : List Value).toArray below meth cd H locs (0 + 0 + 1) (0 + 0 + 4) Q (F0 m 39 ls []) := by
    intro n
    induction n with
    | zero =>
      intro k hk H locs hP hD hS ls hl
      obtain rfl : k = 4 := by omega
      refine lv_iload hx hb dX0_keyed_39 (lv_at hl 0 rfl) ?_
      refine lv_iconst (v := 4) hx hb dX0_keyed_41 (by decide) ?_
      refine gk_jge (tgt := 71) hx hb 4 4 rfl rfl (by decide) (by decide) dX0_keyed_42 (by decide) (fun _ => ?_) (fun h => absurd h (by decide))
      have hP : va_P G vwCl [(d, .inr (0, [.ref kq, .ref bq, .ref oq])), gk_xb c kq 32 (gk_l4 K (gk_hf hf) a b e1 e2), gk_xi c q 4 (gk_four a b e1 e2), gk_xb c k2 32 (gk_l4 g (gk_hf hf) a b e1 e2)] H := gk_ext hP 3 rfl (gk_l4 g (gk_hf hf) a b e1 e2) (fun j _ => congrFun (gk_l4k4 g (gk_hf hf) a b e1 e2) j)
      have hD : va_D A [(d, .inr (0, [.ref kq, .ref bq, .ref oq])), gk_xb c kq 32 (gk_l4 K (gk_hf hf) a b e1 e2), gk_xi c q 4 (gk_four a b e1 e2), gk_xb c k2 32 (gk_l4 g (gk_hf hf) a b e1 e2)] := va_D.set (p := 3) hD rfl
      exact gk_vret hQ hx hb hr hlocks (Nat.le_of_ble_eq_true rfl) (Nat.le_of_ble_eq_true rfl) hP hD hS () (trivial) [0, 1, 3] (by decide) rfl dX0_keyed_71
    | succ n ih =>
      intro k hk H locs hP hD hS ls hl
      refine lv_iload hx hb dX0_keyed_39 (lv_at hl 0 rfl) ?_
      refine lv_iconst (v := 4) hx hb dX0_keyed_41 (by decide) ?_
      refine gk_jge (tgt := 71) hx hb k 4 rfl rfl (by omega) (by decide) dX0_keyed_42 (by decide) (fun h => absurd h (by omega)) (fun h4 => ?_)
      refine lv_aload_n hx hb dX0_keyed_45 rfl (lv_at hl 2 rfl) ?_
      refine lv_iload_n hx hb dX0_keyed_46 rfl (lv_at hl 3 rfl) ?_
      refine lv_iconst (v := 1) hx hb dX0_keyed_47 (by decide) ?_
      refine lv_iand hx hb dX0_keyed_48 ?_
      refine lv_bipush (v := 16) hx hb dX0_keyed_49 (by decide) ?_
      refine lv_imul hx hb dX0_keyed_51 ?_
      refine gk_top (y := nI (gk_hf hf)) (gk_hfM hf) ?_
      refine lv_iconst (v := 4) hx hb dX0_keyed_52 (by decide) ?_
      refine lv_iload hx hb dX0_keyed_53 (lv_at hl 0 rfl) ?_
      refine lv_imul hx hb dX0_keyed_55 ?_
      refine gk_top (y := nI (4 * k)) (pk_mul 4 k) ?_
      refine lv_iadd hx hb dX0_keyed_56 ?_
      refine gk_top (y := nI (gk_hf hf + 4 * k)) (nI_add (gk_hf hf) (4 * k)) ?_
      refine lv_aload hx hb dX0_keyed_57 (lv_at hl 1 rfl) ?_
      refine lv_iload hx hb dX0_keyed_59 (lv_at hl 0 rfl) ?_
      refine gk_iald hx hb hK hP 2 rfl k (rfl) (by omega) (by decide) dX0_keyed_61 ?_
      refine gk_callv (wr := [(d, .inr (0, [.ref kq, .ref bq, .ref oq])), gk_xb c kq 32 (gk_l4 K (gk_hf hf) a b e1 e2), gk_xi c q 4 (gk_four a b e1 e2)]) (va_runS (As := [.ref k2, .int (nI (gk_hf hf + 4 * k)), .int (gk_four a b e1 e2 k)]) (rest := []) ⟨hx, hb, hml, hown, hts⟩ (m_la l G c X k2 32 (gk_l4k g (gk_hf hf) (gk_four a b e1 e2) k) (gk_hf hf + 4 * k) (gk_four a b e1 e2 k) H.size (by decide) (by omega)) (va_cwS 3 hts (lw_S q325 q326 q7 q327) rfl rfl rfl (by decide +kernel) ⟨(Nat.le_of_ble_eq_true rfl), (Nat.le_of_ble_eq_true rfl)⟩) ⟨gk_blind, gk_pre hP hD hK hC hS hA [3] rfl (by decide)⟩ rfl rfl hl.1 rfl (lv_room (Nat.le_of_ble_eq_true rfl)) dX0_keyed_62 ⟨(Nat.le_of_ble_eq_true rfl), (Nat.le_of_ble_eq_true rfl)⟩) hP hD hS hA [3] [0, 1, 2] rfl rfl (by decide) (by decide) (fun _ H locs _ hP hD hS => ?_)
      have hP : va_P G vwCl [(d, .inr (0, [.ref kq, .ref bq, .ref oq])), gk_xb c kq 32 (gk_l4 K (gk_hf hf) a b e1 e2), gk_xi c q 4 (gk_four a b e1 e2), gk_xb c k2 32 (gk_l4k g (gk_hf hf) (gk_four a b e1 e2) (k + 1))] H := hP
      have hD : va_D A [(d, .inr (0, [.ref kq, .ref bq, .ref oq])), gk_xb c kq 32 (gk_l4 K (gk_hf hf) a b e1 e2), gk_xi c q 4 (gk_four a b e1 e2), gk_xb c k2 32 (gk_l4k g (gk_hf hf) (gk_four a b e1 e2) (k + 1))] := hD
      refine lv_iinc (v := nI (k + 1)) (lv' := [(8, .int (nI (k + 1))), (7, .ref q), (1, .ref k2), (2, .int hf)]) hx hb dX0_keyed_65 hl (k := 0) rfl (gk_inc k) (by decide) rfl (fun ls hl => ?_)
      refine lv_goto (tgt := 39) hx hb dX0_keyed_68 (by decide) ?_
      exact ih (k + 1) (by omega) _ _ hP hD hS ls (lv_sub hl [0, 1, 2, 3] rfl)
  exact loop 4 0 rfl _ _ hP hD hS ls (lv_sub hl [0, 1, 3, 4] rfl)

set_option maxHeartbeats 4000000 in
set_option maxRecDepth 100000 in
/-- blocked(d, g, a, b): the block, in the desk and in the law's array -/
theorem m_bl (l : Launch) (G : va_G) (c : gk_I) (X : gk_X) (d kq bq oq b2 : Nat) (B g : Nat → Int8) (a b : Int32) (sz : Nat) : Met l yX0_blocked (ws_ yX0_blocked cX0_blocked 4 none) ({ frames := 2, cells := 0, slots := 0, locals := 44 } : Room) (va_Pc [.ref d, .ref b2, .int a, .int b] (gk_U G c X [(d, .inr (0, [.ref kq, .ref bq, .ref oq])), gk_xb c bq 8 B, gk_xb c b2 8 g] sz)) (va_Qv (fun _ : Unit => True) (gk_B G (fun _ : Unit => [(d, .inr (0, [.ref kq, .ref bq, .ref oq])), gk_xb c bq 8 (gk_l2 B a b), gk_xb c b2 8 (gk_l2 g a b)]) (va_A [(d, .inr (0, [.ref kq, .ref bq, .ref oq])), gk_xb c bq 8 B, gk_xb c b2 8 g] sz)) (va_A [(d, .inr (0, [.ref kq, .ref bq, .ref oq])), gk_xb c bq 8 B, gk_xb c b2 8 g] sz)) 0 0 (va_A [(d, .inr (0, [.ref kq, .ref bq, .ref oq])), gk_xb c bq 8 B, gk_xb c b2 8 g] sz) := by
  refine gk_ofW (Qf := fun A => va_Qv (fun _ : Unit => True) (gk_B G (fun _ : Unit => [(d, .inr (0, [.ref kq, .ref bq, .ref oq])), gk_xb c bq 8 (gk_l2 B a b), gk_xb c b2 8 (gk_l2 g a b)]) A) A) (by decide) (Nat.le_of_ble_eq_true rfl) ?_
  intro p e s m below meth cd ls A Q hQ hx hb hr hlocks hml hown hts hin hK hC hA hP hD hS hl
  have hown : s.vm.findClass RX0 = some m.cls := hown
  have hl : lv_has ls 4 [(0, .ref d), (1, .ref b2), (2, .int a), (3, .int b)] := hl
  refine lv_aload_n hx hb dX0_blocked_0 rfl (lv_at hl 0 rfl) ?_
  refine lv_iload_n hx hb dX0_blocked_1 rfl (lv_at hl 2 rfl) ?_
  refine lv_iload_n hx hb dX0_blocked_2 rfl (lv_at hl 3 rfl) ?_
  refine gk_callv (wr := [gk_xb c b2 8 g]) (va_runV (As := [.int a, .int b]) (rest := []) ⟨hx, hb, hml, hown, hts⟩ (m_db l G c X d kq bq oq B a b s.heap.size) (cwV 2 hts (lw_V q331 q332 q333 q8 q334) rfl rfl rfl (by decide +kernel) ⟨(Nat.le_of_ble_eq_true rfl), (Nat.le_of_ble_eq_true rfl)⟩) ⟨gk_blind, va_recv hK hP (ci := 0) (q0 := 0) rfl rfl, gk_pre hP hD hK hC hS hA [0, 1] rfl (by decide)⟩ rfl rfl hl.1 rfl (lv_room (Nat.le_of_ble_eq_true rfl)) dX0_blocked_3 ⟨(Nat.le_of_ble_eq_true rfl), (Nat.le_of_ble_eq_true rfl)⟩) hP hD hS hA [0, 1] [2] rfl rfl (by decide) (by decide) (fun _ H locs _ hP hD hS => ?_)
  have hP : va_P G vwCl [gk_xb c b2 8 g, (d, .inr (0, [.ref kq, .ref bq, .ref oq])), gk_xb c bq 8 (gk_l2 B a b)] H := hP
  have hD : va_D A [gk_xb c b2 8 g, (d, .inr (0, [.ref kq, .ref bq, .ref oq])), gk_xb c bq 8 (gk_l2 B a b)] := hD
  refine lv_aload_n hx hb dX0_blocked_6 rfl (lv_at hl 1 rfl) ?_
  refine lv_iconst (v := 0) hx hb dX0_blocked_7 (by decide) ?_
  refine lv_iload_n hx hb dX0_blocked_8 rfl (lv_at hl 2 rfl) ?_
  refine gk_callv (wr := [(d, .inr (0, [.ref kq, .ref bq, .ref oq])), gk_xb c bq 8 (gk_l2 B a b)]) (va_runS (As := [.ref b2, .int (nI 0), .int a]) (rest := []) ⟨hx, hb, hml, hown, hts⟩ (m_la l G c X b2 8 g 0 a H.size (by decide) (by decide)) (va_cwS 3 hts (lw_S q325 q326 q7 q327) rfl rfl rfl (by decide +kernel) ⟨(Nat.le_of_ble_eq_true rfl), (Nat.le_of_ble_eq_true rfl)⟩) ⟨gk_blind, gk_pre hP hD hK hC hS hA [0] rfl (by decide)⟩ rfl rfl hl.1 rfl (lv_room (Nat.le_of_ble_eq_true rfl)) dX0_blocked_9 ⟨(Nat.le_of_ble_eq_true rfl), (Nat.le_of_ble_eq_true rfl)⟩) hP hD hS hA [0] [1, 2] rfl rfl (by decide) (by decide) (fun _ H locs _ hP hD hS => ?_)
  have hP : va_P G vwCl [(d, .inr (0, [.ref kq, .ref bq, .ref oq])), gk_xb c bq 8 (gk_l2 B a b), gk_xb c b2 8 (gk_lay g 0 a)] H := hP
  have hD : va_D A [(d, .inr (0, [.ref kq, .ref bq, .ref oq])), gk_xb c bq 8 (gk_l2 B a b), gk_xb c b2 8 (gk_lay g 0 a)] := hD
  refine lv_aload_n hx hb dX0_blocked_12 rfl (lv_at hl 1 rfl) ?_
  refine lv_iconst (v := 4) hx hb dX0_blocked_13 (by decide) ?_
  refine lv_iload_n hx hb dX0_blocked_14 rfl (lv_at hl 3 rfl) ?_
  refine gk_callv (wr := [(d, .inr (0, [.ref kq, .ref bq, .ref oq])), gk_xb c bq 8 (gk_l2 B a b)]) (va_runS (As := [.ref b2, .int (nI 4), .int b]) (rest := []) ⟨hx, hb, hml, hown, hts⟩ (m_la l G c X b2 8 (gk_lay g 0 a) 4 b H.size (by decide) (by decide)) (va_cwS 3 hts (lw_S q325 q326 q7 q327) rfl rfl rfl (by decide +kernel) ⟨(Nat.le_of_ble_eq_true rfl), (Nat.le_of_ble_eq_true rfl)⟩) ⟨gk_blind, gk_pre hP hD hK hC hS hA [2] rfl (by decide)⟩ rfl rfl hl.1 rfl (lv_room (Nat.le_of_ble_eq_true rfl)) dX0_blocked_15 ⟨(Nat.le_of_ble_eq_true rfl), (Nat.le_of_ble_eq_true rfl)⟩) hP hD hS hA [2] [0, 1] rfl rfl (by decide) (by decide) (fun _ H locs _ hP hD hS => ?_)
  have hP : va_P G vwCl [(d, .inr (0, [.ref kq, .ref bq, .ref oq])), gk_xb c bq 8 (gk_l2 B a b), gk_xb c b2 8 (gk_l2 g a b)] H := hP
  have hD : va_D A [(d, .inr (0, [.ref kq, .ref bq, .ref oq])), gk_xb c bq 8 (gk_l2 B a b), gk_xb c b2 8 (gk_l2 g a b)] := hD
  exact gk_vret hQ hx hb hr hlocks (Nat.le_of_ble_eq_true rfl) (Nat.le_of_ble_eq_true rfl) hP hD hS () (trivial) [0, 1, 2] (by decide) rfl dX0_blocked_18

theorem gk_nk8 (k : Nat) (h : k < 8) : gk_n (nI k) % 8 = k := by
  rw [gk_n_nI (by omega)]
  omega
set_option maxHeartbeats 4000000 in
set_option maxRecDepth 100000 in
/-- shown(d, g, x): true, as the desk's out is g -/
theorem m_sh (l : Launch) (G : va_G) (c : gk_I) (X : gk_X) (d kq bq oq r0 : Nat) (O g : Nat → Int8) (x : Int32) (sz : Nat) (hg : ∀ j, j < 8 → O j = g j) : Met l yX0_shown (ws_ yX0_shown cX0_shown 4 (some .boolean)) ({ frames := 1, cells := 0, slots := 0, locals := 21 } : Room) (va_Pc [.ref d, .ref r0, .int x] (gk_U G c X [(d, .inr (0, [.ref kq, .ref bq, .ref oq])), gk_xb c oq 8 O, gk_xb c r0 8 g] sz)) (va_Qi (fun (r : Int32) (_ : Unit) => r = 1) (gk_B G (fun _ : Unit => [(d, .inr (0, [.ref kq, .ref bq, .ref oq])), gk_xb c oq 8 O, gk_xb c r0 8 g]) (va_A [(d, .inr (0, [.ref kq, .ref bq, .ref oq])), gk_xb c oq 8 O, gk_xb c r0 8 g] sz)) (va_A [(d, .inr (0, [.ref kq, .ref bq, .ref oq])), gk_xb c oq 8 O, gk_xb c r0 8 g] sz)) 0 0 (va_A [(d, .inr (0, [.ref kq, .ref bq, .ref oq])), gk_xb c oq 8 O, gk_xb c r0 8 g] sz) := by
  refine gk_ofW (Qf := fun A => va_Qi (fun (r : Int32) (_ : Unit) => r = 1) (gk_B G (fun _ : Unit => [(d, .inr (0, [.ref kq, .ref bq, .ref oq])), gk_xb c oq 8 O, gk_xb c r0 8 g]) A) A) (by decide) (Nat.le_of_ble_eq_true rfl) ?_
  intro p e s m below meth cd ls A Q hQ hx hb hr hlocks hml hown hts hin hK hC hA hP hD hS hl
  have hown : s.vm.findClass RX0 = some m.cls := hown
  have hl : lv_has ls 4 [(0, .ref d), (1, .ref r0), (2, .int x)] := hl
  refine lv_iconst (v := 0) hx hb dX0_shown_0 (by decide) ?_
  refine lv_istore_n (lv' := [(3, .int 0), (0, .ref d), (1, .ref r0), (2, .int x)]) hx hb dX0_shown_1 rfl hl (by decide) rfl (fun ls hl => ?_)
  have loop : ∀ (n k : Nat), k + n = 8 → ∀ (H : Heap) (locs : List Loc), va_P G vwCl [(d, .inr (0, [.ref kq, .ref bq, .ref oq])), gk_xb c oq 8 O, gk_xb c r0 8 g] H → va_D A [(d, .inr (0, [.ref kq, .ref bq, .ref oq])), gk_xb c oq 8 O, gk_xb c r0 8 g] → va_S A s.heap H locs → ∀ ls : Array Slot, lv_has ls 4 [(3, .int (nI k)), (0, .ref d), (1, .ref r0), (2, .int x)] → W p l e ({ frames := 1, cells := 0, slots := 0, locals := 21 } : Room) s m ([.ref d, .ref r0, .int x] : List Value).toArray below meth cd H locs 0 0 Q (F0 m 2 ls []) := by
    intro n
    induction n with
    | zero =>
      intro k hk H locs hP hD hS ls hl
      obtain rfl : k = 8 := by omega
      refine lv_iload_n hx hb dX0_shown_2 rfl (lv_at hl 0 rfl) ?_
      refine lv_bipush (v := 8) hx hb dX0_shown_3 (by decide) ?_
      refine gk_jge (tgt := 31) hx hb 8 8 rfl rfl (by decide) (by decide) dX0_shown_5 (by decide) (fun _ => ?_) (fun h => absurd h (by decide))
      refine lv_aload_n hx hb dX0_shown_31 rfl (lv_at hl 1 rfl) ?_
      refine lv_iload_n hx hb dX0_shown_32 rfl (lv_at hl 3 rfl) ?_
      refine gk_calli (wr := [gk_xb c r0 8 g]) (va_runV (As := [.int x]) (rest := []) ⟨hx, hb, hml, hown, hts⟩ (m_ou l G c X d kq bq oq O x H.size) (cwV 1 hts (lw_V q338 q339 q340 q8 q341) rfl rfl rfl (by decide +kernel) ⟨(Nat.le_of_ble_eq_true rfl), (Nat.le_of_ble_eq_true rfl)⟩) ⟨gk_blind, va_recv hK hP (ci := 0) (q0 := 0) rfl rfl, gk_pre hP hD hK hC hS hA [0, 1] rfl (by decide)⟩ rfl rfl hl.1 rfl (lv_room (Nat.le_of_ble_eq_true rfl)) dX0_shown_33 ⟨(Nat.le_of_ble_eq_true rfl), (Nat.le_of_ble_eq_true rfl)⟩) hP hD hS hA [0, 1] [2] rfl rfl (by decide) (by decide) (fun r _ H locs hw hP hD hS => ?_)
      have hP : va_P G vwCl [gk_xb c r0 8 g, (d, .inr (0, [.ref kq, .ref bq, .ref oq])), gk_xb c oq 8 O] H := hP
      have hD : va_D A [gk_xb c r0 8 g, (d, .inr (0, [.ref kq, .ref bq, .ref oq])), gk_xb c oq 8 O] := hD
      have hw : r = (O (gk_n x % 8)).toInt32 &&& 255 := hw
      subst hw
      have hP : va_P G vwCl [(d, .inr (0, [.ref kq, .ref bq, .ref oq])), gk_xb c oq 8 O, gk_xb c r0 8 g] H := gk_Psub hP [1, 2, 0] rfl
      have hD : va_D A [(d, .inr (0, [.ref kq, .ref bq, .ref oq])), gk_xb c oq 8 O, gk_xb c r0 8 g] := hD.sub [1, 2, 0] (by decide) rfl
      refine lv_aload_n hx hb dX0_shown_36 rfl (lv_at hl 2 rfl) ?_
      refine lv_iload_n hx hb dX0_shown_37 rfl (lv_at hl 3 rfl) ?_
      refine lv_bipush (v := 7) hx hb dX0_shown_38 (by decide) ?_
      refine lv_iand hx hb dX0_shown_40 ?_
      refine gk_bald hx hb hK hP 2 rfl (gk_n x % 8) (gk_and7 x) (Nat.mod_lt _ (by decide)) (by decide) dX0_shown_41 ?_
      refine lv_sipush (v := 255) hx hb dX0_shown_42 (by decide) ?_
      refine lv_iand hx hb dX0_shown_45 ?_
      refine lv_icmp_ne (tgt := 53) hx hb dX0_shown_46 (by decide) (fun h => absurd (by rw [hg _ (Nat.mod_lt _ (by decide))]) h) (fun _ => ?_)
      refine lv_iconst (v := 1) hx hb dX0_shown_49 (by decide) ?_
      refine lv_goto (tgt := 54) hx hb dX0_shown_50 (by decide) ?_
      exact gk_zret hQ hx hb hr hlocks (Nat.le_of_ble_eq_true rfl) (Nat.le_of_ble_eq_true rfl) hP hD hS (rfl) () (rfl) [0, 1, 2] (by decide) rfl dX0_shown_54
    | succ n ih =>
      intro k hk H locs hP hD hS ls hl
      refine lv_iload_n hx hb dX0_shown_2 rfl (lv_at hl 0 rfl) ?_
      refine lv_bipush (v := 8) hx hb dX0_shown_3 (by decide) ?_
      refine gk_jge (tgt := 31) hx hb k 8 rfl rfl (by omega) (by decide) dX0_shown_5 (by decide) (fun h => absurd h (by omega)) (fun h8 => ?_)
      refine lv_aload_n hx hb dX0_shown_8 rfl (lv_at hl 1 rfl) ?_
      refine lv_iload_n hx hb dX0_shown_9 rfl (lv_at hl 0 rfl) ?_
      refine gk_calli (wr := [gk_xb c r0 8 g]) (va_runV (As := [.int (nI k)]) (rest := []) ⟨hx, hb, hml, hown, hts⟩ (m_ou l G c X d kq bq oq O (nI k) H.size) (cwV 1 hts (lw_V q338 q339 q340 q8 q341) rfl rfl rfl (by decide +kernel) ⟨(Nat.le_of_ble_eq_true rfl), (Nat.le_of_ble_eq_true rfl)⟩) ⟨gk_blind, va_recv hK hP (ci := 0) (q0 := 0) rfl rfl, gk_pre hP hD hK hC hS hA [0, 1] rfl (by decide)⟩ rfl rfl hl.1 rfl (lv_room (Nat.le_of_ble_eq_true rfl)) dX0_shown_10 ⟨(Nat.le_of_ble_eq_true rfl), (Nat.le_of_ble_eq_true rfl)⟩) hP hD hS hA [0, 1] [2] rfl rfl (by decide) (by decide) (fun r _ H locs hw hP hD hS => ?_)
      have hP : va_P G vwCl [gk_xb c r0 8 g, (d, .inr (0, [.ref kq, .ref bq, .ref oq])), gk_xb c oq 8 O] H := hP
      have hD : va_D A [gk_xb c r0 8 g, (d, .inr (0, [.ref kq, .ref bq, .ref oq])), gk_xb c oq 8 O] := hD
      have hw : r = (O (gk_n (nI k) % 8)).toInt32 &&& 255 := hw
      subst hw
      have hP : va_P G vwCl [(d, .inr (0, [.ref kq, .ref bq, .ref oq])), gk_xb c oq 8 O, gk_xb c r0 8 g] H := gk_Psub hP [1, 2, 0] rfl
      have hD : va_D A [(d, .inr (0, [.ref kq, .ref bq, .ref oq])), gk_xb c oq 8 O, gk_xb c r0 8 g] := hD.sub [1, 2, 0] (by decide) rfl
      refine lv_aload_n hx hb dX0_shown_13 rfl (lv_at hl 2 rfl) ?_
      refine lv_iload_n hx hb dX0_shown_14 rfl (lv_at hl 0 rfl) ?_
      refine gk_bald hx hb hK hP 2 rfl k (rfl) (by omega) (by decide) dX0_shown_15 ?_
      refine lv_sipush (v := 255) hx hb dX0_shown_16 (by decide) ?_
      refine lv_iand hx hb dX0_shown_19 ?_
      refine lv_icmp_eq (tgt := 25) hx hb dX0_shown_20 (by decide) (fun _ => ?_) (fun h => absurd (by rw [gk_nk8 k h8, hg k h8]) h)
      refine lv_iinc (v := nI (k + 1)) (lv' := [(3, .int (nI (k + 1))), (0, .ref d), (1, .ref r0), (2, .int x)]) hx hb dX0_shown_25 hl (k := 0) rfl (gk_inc k) (by decide) rfl (fun ls hl => ?_)
      refine lv_goto (tgt := 2) hx hb dX0_shown_28 (by decide) ?_
      exact ih (k + 1) (by omega) _ _ hP hD hS ls (lv_sub hl [0, 1, 2, 3] rfl)
  exact loop 8 0 rfl _ _ hP hD hS ls (lv_sub hl [0, 1, 2, 3] rfl)

set_option maxHeartbeats 4000000 in
set_option maxRecDepth 100000 in
/-- copy(f) -/
theorem m_cp (l : Launch) (G : va_G) (c : gk_I) (X : gk_X) (a1 : Nat) (f : Nat → Int8) (sz : Nat) : Met l yX0_copy (ws_ yX0_copy cX0_copy 3 (some (.array .byte))) ({ frames := 0, cells := 1, slots := 8, locals := 0 } : Room) (va_Pc [.ref a1] (gk_U G c X [gk_xb c a1 8 f] sz)) (va_Qr (fun _ : Unit => True) (gk_Br G (fun (_ : Unit) (r : Nat) => [gk_xb c a1 8 f, gk_xb c r 8 f]) (va_A [gk_xb c a1 8 f] sz)) (va_A [gk_xb c a1 8 f] sz)) 1 8 (va_A [gk_xb c a1 8 f] sz) := by
  refine gk_ofW (Qf := fun A => va_Qr (fun _ : Unit => True) (gk_Br G (fun (_ : Unit) (r : Nat) => [gk_xb c a1 8 f, gk_xb c r 8 f]) A) A) (by decide) (Nat.le_of_ble_eq_true rfl) ?_
  intro p e s m below meth cd ls A Q hQ hx hb hr hlocks hml hown hts hin hK hC hA hP hD hS hl
  have hown : s.vm.findClass RX0 = some m.cls := hown
  have hl : lv_has ls 3 [(0, .ref a1)] := hl
  refine lv_aload_n hx hb dX0_copy_0 rfl (lv_at hl 0 rfl) ?_
  refine va_alen (v := 8) hx hb hK hP 0 0 rfl rfl rfl dX0_copy_1 ?_
  refine gk_newb hx hb (hts _ q39) hK hP hD hS hA 8 (rfl) (by decide) (Nat.le_of_ble_eq_true rfl) (Nat.le_of_ble_eq_true rfl) dX0_copy_2 (fun q H hP hD hS => ?_)
  have hP : va_P G vwCl [gk_xb c a1 8 f, gk_xb c q 8 (fun _ => 0)] H := hP
  have hD : va_D A [gk_xb c a1 8 f, gk_xb c q 8 (fun _ => 0)] := hD
  refine lv_astore_n (lv' := [(1, .ref q), (0, .ref a1)]) hx hb dX0_copy_4 rfl hl (by decide) rfl (fun ls hl => ?_)
  refine lv_iconst (v := 0) hx hb dX0_copy_5 (by decide) ?_
  refine lv_istore_n (lv' := [(2, .int 0), (1, .ref q), (0, .ref a1)]) hx hb dX0_copy_6 rfl hl (by decide) rfl (fun ls hl => ?_)
  have hP : va_P G vwCl [gk_xb c a1 8 f, gk_xb c q 8 (gk_cpy f (fun _ => 0) 0)] H := gk_ext hP 1 rfl (gk_cpy f (fun _ => 0) 0) (fun j _ => (congrFun (gk_cpy0 f (fun _ => 0)) j).symm)
  have hD : va_D A [gk_xb c a1 8 f, gk_xb c q 8 (gk_cpy f (fun _ => 0) 0)] := va_D.set (p := 1) hD rfl
  have loop : ∀ (n k : Nat), k + n = 8 → ∀ (H : Heap) (locs : List Loc), va_P G vwCl [gk_xb c a1 8 f, gk_xb c q 8 (gk_cpy f (fun _ => 0) k)] H → va_D A [gk_xb c a1 8 f, gk_xb c q 8 (gk_cpy f (fun _ => 0) k)] → va_S A s.heap H locs → ∀ ls : Array Slot, lv_has ls 3 [(2, .int (nI k)), (1, .ref q), (0, .ref a1)] → W p l e ({ frames := 0, cells := 1, slots := 8, locals := 0 } : Room) s m ([.ref a1] : List Value).toArray below meth cd H locs (0 + 1) (0 + 8) Q (F0 m 7 ls []) := by
    intro n
    induction n with
    | zero =>
      intro k hk H locs hP hD hS ls hl
      obtain rfl : k = 8 := by omega
      refine lv_iload_n hx hb dX0_copy_7 rfl (lv_at hl 0 rfl) ?_
      refine lv_aload_n hx hb dX0_copy_8 rfl (lv_at hl 1 rfl) ?_
      refine va_alen (v := 8) hx hb hK hP 1 0 rfl rfl rfl dX0_copy_9 ?_
      refine gk_jge (tgt := 25) hx hb 8 8 rfl rfl (by decide) (by decide) dX0_copy_10 (by decide) (fun _ => ?_) (fun h => absurd h (by decide))
      have hP : va_P G vwCl [gk_xb c a1 8 f, gk_xb c q 8 f] H := gk_ext hP 1 rfl f (fun j hj => gk_cpyN f (fun _ => 0) 8 j hj)
      have hD : va_D A [gk_xb c a1 8 f, gk_xb c q 8 f] := va_D.set (p := 1) hD rfl
      refine lv_aload_n hx hb dX0_copy_25 rfl (lv_at hl 1 rfl) ?_
      exact gk_aret hQ hx hb hr ⟨_, rfl⟩ hlocks (Nat.le_of_ble_eq_true rfl) (Nat.le_of_ble_eq_true rfl) hP hD hS () (trivial) [0, 1] (by decide) rfl dX0_copy_26
    | succ n ih =>
      intro k hk H locs hP hD hS ls hl
      refine lv_iload_n hx hb dX0_copy_7 rfl (lv_at hl 0 rfl) ?_
      refine lv_aload_n hx hb dX0_copy_8 rfl (lv_at hl 1 rfl) ?_
      refine va_alen (v := 8) hx hb hK hP 1 0 rfl rfl rfl dX0_copy_9 ?_
      refine gk_jge (tgt := 25) hx hb k 8 rfl rfl (by omega) (by decide) dX0_copy_10 (by decide) (fun h => absurd h (by omega)) (fun h8 => ?_)
      refine lv_aload_n hx hb dX0_copy_13 rfl (lv_at hl 1 rfl) ?_
      refine lv_iload_n hx hb dX0_copy_14 rfl (lv_at hl 0 rfl) ?_
      refine lv_aload_n hx hb dX0_copy_15 rfl (lv_at hl 2 rfl) ?_
      refine lv_iload_n hx hb dX0_copy_16 rfl (lv_at hl 0 rfl) ?_
      refine gk_bald hx hb hK hP 0 rfl k (rfl) (by omega) (by decide) dX0_copy_17 ?_
      refine gk_bast hx hb hK hP hD hS 1 rfl k (rfl) (by omega) (by decide) (y := f k) (gk_88 rfl) dX0_copy_18 (fun H locs hP hD hS => ?_)
      have hP : va_P G vwCl [gk_xb c a1 8 f, gk_xb c q 8 (va_up (gk_cpy f (fun _ => 0) k) k (f k))] H := hP
      have hD : va_D A [gk_xb c a1 8 f, gk_xb c q 8 (va_up (gk_cpy f (fun _ => 0) k) k (f k))] := hD
      have hP : va_P G vwCl [gk_xb c a1 8 f, gk_xb c q 8 (gk_cpy f (fun _ => 0) (k + 1))] H := gk_ext hP 1 rfl (gk_cpy f (fun _ => 0) (k + 1)) (fun j _ => congrFun (gk_cpy1 f (fun _ => 0) k) j)
      have hD : va_D A [gk_xb c a1 8 f, gk_xb c q 8 (gk_cpy f (fun _ => 0) (k + 1))] := va_D.set (p := 1) hD rfl
      refine lv_iinc (v := nI (k + 1)) (lv' := [(2, .int (nI (k + 1))), (1, .ref q), (0, .ref a1)]) hx hb dX0_copy_19 hl (k := 0) rfl (gk_inc k) (by decide) rfl (fun ls hl => ?_)
      refine lv_goto (tgt := 7) hx hb dX0_copy_22 (by decide) ?_
      exact ih (k + 1) (by omega) _ _ hP hD hS ls (lv_sub hl [0, 1, 2] rfl)
  exact loop 8 0 rfl _ _ hP hD hS ls (lv_sub hl [0, 1, 2] rfl)

set_option maxHeartbeats 4000000 in
set_option maxRecDepth 100000 in
/-- told(d): out copied -/
theorem m_to (l : Launch) (G : va_G) (c : gk_I) (X : gk_X) (d kq bq oq : Nat) (O : Nat → Int8) (sz : Nat) : Met l yX0_told (ws_ yX0_told cX0_told 3 (some (.array .byte))) ({ frames := 1, cells := 1, slots := 8, locals := 21 } : Room) (va_Pc [.ref d] (gk_U G c X [(d, .inr (0, [.ref kq, .ref bq, .ref oq])), gk_xb c oq 8 O] sz)) (va_Qr (fun _ : Unit => True) (gk_Br G (fun (_ : Unit) (r : Nat) => [(d, .inr (0, [.ref kq, .ref bq, .ref oq])), gk_xb c oq 8 O, gk_xb c r 8 O]) (va_A [(d, .inr (0, [.ref kq, .ref bq, .ref oq])), gk_xb c oq 8 O] sz)) (va_A [(d, .inr (0, [.ref kq, .ref bq, .ref oq])), gk_xb c oq 8 O] sz)) 1 8 (va_A [(d, .inr (0, [.ref kq, .ref bq, .ref oq])), gk_xb c oq 8 O] sz) := by
  refine gk_ofW (Qf := fun A => va_Qr (fun _ : Unit => True) (gk_Br G (fun (_ : Unit) (r : Nat) => [(d, .inr (0, [.ref kq, .ref bq, .ref oq])), gk_xb c oq 8 O, gk_xb c r 8 O]) A) A) (by decide) (Nat.le_of_ble_eq_true rfl) ?_
  intro p e s m below meth cd ls A Q hQ hx hb hr hlocks hml hown hts hin hK hC hA hP hD hS hl
  have hown : s.vm.findClass RX0 = some m.cls := hown
  have hl : lv_has ls 3 [(0, .ref d)] := hl
  refine lv_bipush (v := 8) hx hb dX0_told_0 (by decide) ?_
  refine gk_newb hx hb (hts _ q39) hK hP hD hS hA 8 (rfl) (by decide) (Nat.le_of_ble_eq_true rfl) (Nat.le_of_ble_eq_true rfl) dX0_told_2 (fun q H hP hD hS => ?_)
  have hP : va_P G vwCl [(d, .inr (0, [.ref kq, .ref bq, .ref oq])), gk_xb c oq 8 O, gk_xb c q 8 (fun _ => 0)] H := hP
  have hD : va_D A [(d, .inr (0, [.ref kq, .ref bq, .ref oq])), gk_xb c oq 8 O, gk_xb c q 8 (fun _ => 0)] := hD
  refine lv_astore_n (lv' := [(1, .ref q), (0, .ref d)]) hx hb dX0_told_4 rfl hl (by decide) rfl (fun ls hl => ?_)
  refine lv_iconst (v := 0) hx hb dX0_told_5 (by decide) ?_
  refine lv_istore_n (lv' := [(2, .int 0), (1, .ref q), (0, .ref d)]) hx hb dX0_told_6 rfl hl (by decide) rfl (fun ls hl => ?_)
  have hP : va_P G vwCl [(d, .inr (0, [.ref kq, .ref bq, .ref oq])), gk_xb c oq 8 O, gk_xb c q 8 (gk_cpy O (fun _ => 0) 0)] H := gk_ext hP 2 rfl (gk_cpy O (fun _ => 0) 0) (fun j _ => (congrFun (gk_cpy0 O (fun _ => 0)) j).symm)
  have hD : va_D A [(d, .inr (0, [.ref kq, .ref bq, .ref oq])), gk_xb c oq 8 O, gk_xb c q 8 (gk_cpy O (fun _ => 0) 0)] := va_D.set (p := 2) hD rfl
  have loop : ∀ (n k : Nat), k + n = 8 → ∀ (H : Heap) (locs : List Loc), va_P G vwCl [(d, .inr (0, [.ref kq, .ref bq, .ref oq])), gk_xb c oq 8 O, gk_xb c q 8 (gk_cpy O (fun _ => 0) k)] H → va_D A [(d, .inr (0, [.ref kq, .ref bq, .ref oq])), gk_xb c oq 8 O, gk_xb c q 8 (gk_cpy O (fun _ => 0) k)] → va_S A s.heap H locs → ∀ ls : Array Slot, lv_has ls 3 [(2, .int (nI k)), (1, .ref q), (0, .ref d)] → W p l e ({ frames := 1, cells := 1, slots := 8, locals := 21 } : Room) s m ([.ref d] : List Value).toArray below meth cd H locs (0 + 1) (0 + 8) Q (F0 m 7 ls []) := by
    intro n
    induction n with
    | zero =>
      intro k hk H locs hP hD hS ls hl
      obtain rfl : k = 8 := by omega
      refine lv_iload_n hx hb dX0_told_7 rfl (lv_at hl 0 rfl) ?_
      refine lv_bipush (v := 8) hx hb dX0_told_8 (by decide) ?_
      refine gk_jge (tgt := 28) hx hb 8 8 rfl rfl (by decide) (by decide) dX0_told_10 (by decide) (fun _ => ?_) (fun h => absurd h (by decide))
      have hP : va_P G vwCl [(d, .inr (0, [.ref kq, .ref bq, .ref oq])), gk_xb c oq 8 O, gk_xb c q 8 O] H := gk_ext hP 2 rfl O (fun j hj => gk_cpyN O (fun _ => 0) 8 j hj)
      have hD : va_D A [(d, .inr (0, [.ref kq, .ref bq, .ref oq])), gk_xb c oq 8 O, gk_xb c q 8 O] := va_D.set (p := 2) hD rfl
      refine lv_aload_n hx hb dX0_told_28 rfl (lv_at hl 1 rfl) ?_
      exact gk_aret hQ hx hb hr ⟨_, rfl⟩ hlocks (Nat.le_of_ble_eq_true rfl) (Nat.le_of_ble_eq_true rfl) hP hD hS () (trivial) [0, 1, 2] (by decide) rfl dX0_told_29
    | succ n ih =>
      intro k hk H locs hP hD hS ls hl
      refine lv_iload_n hx hb dX0_told_7 rfl (lv_at hl 0 rfl) ?_
      refine lv_bipush (v := 8) hx hb dX0_told_8 (by decide) ?_
      refine gk_jge (tgt := 28) hx hb k 8 rfl rfl (by omega) (by decide) dX0_told_10 (by decide) (fun h => absurd h (by omega)) (fun h8 => ?_)
      refine lv_aload_n hx hb dX0_told_13 rfl (lv_at hl 1 rfl) ?_
      refine lv_iload_n hx hb dX0_told_14 rfl (lv_at hl 0 rfl) ?_
      refine lv_aload_n hx hb dX0_told_15 rfl (lv_at hl 2 rfl) ?_
      refine lv_iload_n hx hb dX0_told_16 rfl (lv_at hl 0 rfl) ?_
      refine gk_calli (wr := [gk_xb c q 8 (gk_cpy O (fun _ => 0) k)]) (va_runV (As := [.int (nI k)]) (rest := [.int (nI k), .ref q]) ⟨hx, hb, hml, hown, hts⟩ (m_ou l G c X d kq bq oq O (nI k) H.size) (cwV 1 hts (lw_V q338 q339 q340 q8 q341) rfl rfl rfl (by decide +kernel) ⟨(Nat.le_of_ble_eq_true rfl), (Nat.le_of_ble_eq_true rfl)⟩) ⟨gk_blind, va_recv hK hP (ci := 0) (q0 := 0) rfl rfl, gk_pre hP hD hK hC hS hA [0, 1] rfl (by decide)⟩ rfl rfl hl.1 rfl (lv_room (Nat.le_of_ble_eq_true rfl)) dX0_told_17 ⟨(Nat.le_of_ble_eq_true rfl), (Nat.le_of_ble_eq_true rfl)⟩) hP hD hS hA [0, 1] [2] rfl rfl (by decide) (by decide) (fun r _ H locs hw hP hD hS => ?_)
      have hP : va_P G vwCl [gk_xb c q 8 (gk_cpy O (fun _ => 0) k), (d, .inr (0, [.ref kq, .ref bq, .ref oq])), gk_xb c oq 8 O] H := hP
      have hD : va_D A [gk_xb c q 8 (gk_cpy O (fun _ => 0) k), (d, .inr (0, [.ref kq, .ref bq, .ref oq])), gk_xb c oq 8 O] := hD
      have hw : r = (O (gk_n (nI k) % 8)).toInt32 &&& 255 := hw
      subst hw
      have hP : va_P G vwCl [(d, .inr (0, [.ref kq, .ref bq, .ref oq])), gk_xb c oq 8 O, gk_xb c q 8 (gk_cpy O (fun _ => 0) k)] H := gk_Psub hP [1, 2, 0] rfl
      have hD : va_D A [(d, .inr (0, [.ref kq, .ref bq, .ref oq])), gk_xb c oq 8 O, gk_xb c q 8 (gk_cpy O (fun _ => 0) k)] := hD.sub [1, 2, 0] (by decide) rfl
      refine lv_i2b (v := (((O (gk_n (nI k) % 8)).toInt32 &&& 255).toInt8).toInt32) hx hb dX0_told_20 rfl ?_
      refine gk_bast hx hb hK hP hD hS 2 rfl k (rfl) (by omega) (by decide) (y := O k) (gk_88 ((gk_b255 _).trans (congrArg O (gk_nk8 k h8)))) dX0_told_21 (fun H locs hP hD hS => ?_)
      have hP : va_P G vwCl [(d, .inr (0, [.ref kq, .ref bq, .ref oq])), gk_xb c oq 8 O, gk_xb c q 8 (va_up (gk_cpy O (fun _ => 0) k) k (O k))] H := hP
      have hD : va_D A [(d, .inr (0, [.ref kq, .ref bq, .ref oq])), gk_xb c oq 8 O, gk_xb c q 8 (va_up (gk_cpy O (fun _ => 0) k) k (O k))] := hD
      have hP : va_P G vwCl [(d, .inr (0, [.ref kq, .ref bq, .ref oq])), gk_xb c oq 8 O, gk_xb c q 8 (gk_cpy O (fun _ => 0) (k + 1))] H := gk_ext hP 2 rfl (gk_cpy O (fun _ => 0) (k + 1)) (fun j _ => congrFun (gk_cpy1 O (fun _ => 0) k) j)
      have hD : va_D A [(d, .inr (0, [.ref kq, .ref bq, .ref oq])), gk_xb c oq 8 O, gk_xb c q 8 (gk_cpy O (fun _ => 0) (k + 1))] := va_D.set (p := 2) hD rfl
      refine lv_iinc (v := nI (k + 1)) (lv' := [(2, .int (nI (k + 1))), (1, .ref q), (0, .ref d)]) hx hb dX0_told_22 hl (k := 0) rfl (gk_inc k) (by decide) rfl (fun ls hl => ?_)
      refine lv_goto (tgt := 7) hx hb dX0_told_25 (by decide) ?_
      exact ih (k + 1) (by omega) _ _ hP hD hS ls (lv_sub hl [0, 1, 2] rfl)
  exact loop 8 0 rfl _ _ hP hD hS ls (lv_sub hl [0, 1, 2] rfl)

set_option maxHeartbeats 4000000 in
set_option maxRecDepth 100000 in
/-- same(f, g, tp): true, as they differ just so -/
theorem m_sa (l : Launch) (G : va_G) (c : gk_I) (X : gk_X) (a1 a2 : Nat) (f g : Nat → Int8) (tp : Int32) (sz : Nat) (hg : ∀ j, j < 8 → ((f j).toInt32 ^^^ (g j).toInt32) &&& 255 = if j % 4 = 3 then tp else 0) : Met l yX0_same (ws_ yX0_same cX0_same 4 (some .boolean)) ({ frames := 0, cells := 0, slots := 0, locals := 0 } : Room) (va_Pc [.ref a1, .ref a2, .int tp] (gk_U G c X [gk_xb c a1 8 f, gk_xb c a2 8 g] sz)) (va_Qi (fun (r : Int32) (_ : Unit) => r = 1) (gk_B G (fun _ : Unit => [gk_xb c a1 8 f, gk_xb c a2 8 g]) (va_A [gk_xb c a1 8 f, gk_xb c a2 8 g] sz)) (va_A [gk_xb c a1 8 f, gk_xb c a2 8 g] sz)) 0 0 (va_A [gk_xb c a1 8 f, gk_xb c a2 8 g] sz) := by
  refine gk_ofW (Qf := fun A => va_Qi (fun (r : Int32) (_ : Unit) => r = 1) (gk_B G (fun _ : Unit => [gk_xb c a1 8 f, gk_xb c a2 8 g]) A) A) (by decide) (Nat.le_of_ble_eq_true rfl) ?_
  intro p e s m below meth cd ls A Q hQ hx hb hr hlocks hml hown hts hin hK hC hA hP hD hS hl
  have hown : s.vm.findClass RX0 = some m.cls := hown
  have hl : lv_has ls 4 [(0, .ref a1), (1, .ref a2), (2, .int tp)] := hl
  refine lv_iconst (v := 0) hx hb dX0_same_0 (by decide) ?_
  refine lv_istore_n (lv' := [(3, .int 0), (0, .ref a1), (1, .ref a2), (2, .int tp)]) hx hb dX0_same_1 rfl hl (by decide) rfl (fun ls hl => ?_)
  have loop : ∀ (n k : Nat), k + n = 8 → ∀ (H : Heap) (locs : List Loc), va_P G vwCl [gk_xb c a1 8 f, gk_xb c a2 8 g] H → va_D A [gk_xb c a1 8 f, gk_xb c a2 8 g] → va_S A s.heap H locs → ∀ ls : Array Slot, lv_has ls 4 [(3, .int (nI k)), (0, .ref a1), (1, .ref a2), (2, .int tp)] → W p l e ({ frames := 0, cells := 0, slots := 0, locals := 0 } : Room) s m ([.ref a1, .ref a2, .int tp] : List Value).toArray below meth cd H locs 0 0 Q (F0 m 2 ls []) := by
    intro n
    induction n with
    | zero =>
      intro k hk H locs hP hD hS ls hl
      obtain rfl : k = 8 := by omega
      refine lv_iload_n hx hb dX0_same_2 rfl (lv_at hl 0 rfl) ?_
      refine lv_bipush (v := 8) hx hb dX0_same_3 (by decide) ?_
      refine gk_jge (tgt := 42) hx hb 8 8 rfl rfl (by decide) (by decide) dX0_same_5 (by decide) (fun _ => ?_) (fun h => absurd h (by decide))
      refine lv_iconst (v := 1) hx hb dX0_same_42 (by decide) ?_
      exact gk_zret hQ hx hb hr hlocks (Nat.le_of_ble_eq_true rfl) (Nat.le_of_ble_eq_true rfl) hP hD hS (rfl) () (rfl) [0, 1] (by decide) rfl dX0_same_43
    | succ n ih =>
      intro k hk H locs hP hD hS ls hl
      refine lv_iload_n hx hb dX0_same_2 rfl (lv_at hl 0 rfl) ?_
      refine lv_bipush (v := 8) hx hb dX0_same_3 (by decide) ?_
      refine gk_jge (tgt := 42) hx hb k 8 rfl rfl (by omega) (by decide) dX0_same_5 (by decide) (fun h => absurd h (by omega)) (fun h8 => ?_)
      refine lv_aload_n hx hb dX0_same_8 rfl (lv_at hl 1 rfl) ?_
      refine lv_iload_n hx hb dX0_same_9 rfl (lv_at hl 0 rfl) ?_
      refine gk_bald hx hb hK hP 0 rfl k (rfl) (by omega) (by decide) dX0_same_10 ?_
      refine lv_aload_n hx hb dX0_same_11 rfl (lv_at hl 2 rfl) ?_
      refine lv_iload_n hx hb dX0_same_12 rfl (lv_at hl 0 rfl) ?_
      refine gk_bald hx hb hK hP 1 rfl k (rfl) (by omega) (by decide) dX0_same_13 ?_
      refine lv_ixor hx hb dX0_same_14 ?_
      refine lv_sipush (v := 255) hx hb dX0_same_15 (by decide) ?_
      refine lv_iand hx hb dX0_same_18 ?_
      refine lv_iload_n hx hb dX0_same_19 rfl (lv_at hl 0 rfl) ?_
      refine lv_iconst (v := 4) hx hb dX0_same_20 (by decide) ?_
      refine lv_irem hx hb dX0_same_21 (by decide) ?_
      refine gk_top (y := nI (k % 4)) (pk_rem (a := k) (d := 4) (by omega) (by decide) (by decide)) ?_
      refine lv_iconst (v := 3) hx hb dX0_same_22 (by decide) ?_
      refine gk_jne (tgt := 30) hx hb (k % 4) 3 rfl rfl (by omega) (by decide) dX0_same_23 (by decide) (fun h => ?_) (fun h => ?_)
      · skip
        refine lv_iconst (v := 0) hx hb dX0_same_30 (by decide) ?_
        refine lv_icmp_eq (tgt := 36) hx hb dX0_same_31 (by decide) (fun _ => ?_) (fun h9 => absurd (by rw [hg k h8, if_neg h]) h9)
        refine lv_iinc (v := nI (k + 1)) (lv' := [(3, .int (nI (k + 1))), (0, .ref a1), (1, .ref a2), (2, .int tp)]) hx hb dX0_same_36 hl (k := 0) rfl (gk_inc k) (by decide) rfl (fun ls hl => ?_)
        refine lv_goto (tgt := 2) hx hb dX0_same_39 (by decide) ?_
        exact ih (k + 1) (by omega) _ _ hP hD hS ls (lv_sub hl [0, 1, 2, 3] rfl)
      · skip
        refine lv_iload_n hx hb dX0_same_26 rfl (lv_at hl 3 rfl) ?_
        refine lv_goto (tgt := 31) hx hb dX0_same_27 (by decide) ?_
        refine lv_icmp_eq (tgt := 36) hx hb dX0_same_31 (by decide) (fun _ => ?_) (fun h9 => absurd (by rw [hg k h8, if_pos h]) h9)
        refine lv_iinc (v := nI (k + 1)) (lv' := [(3, .int (nI (k + 1))), (0, .ref a1), (1, .ref a2), (2, .int tp)]) hx hb dX0_same_36 hl (k := 0) rfl (gk_inc k) (by decide) rfl (fun ls hl => ?_)
        refine lv_goto (tgt := 2) hx hb dX0_same_39 (by decide) ?_
        exact ih (k + 1) (by omega) _ _ hP hD hS ls (lv_sub hl [0, 1, 2, 3] rfl)
  exact loop 8 0 rfl _ _ hP hD hS ls (lv_sub hl [0, 1, 2, 3] rfl)
end
section
-- ===== end of PART A; then your names; then what follows =====
/-! THE CLAIM OUT OF ONE WALK OF THE LAW'S BODY. Your part is whole_start (and what it stands on); all else here is the same for every law, but numbers. -/
def R_law : String := "GostDeskLaw"
def lw_P (b : Addr) (xs : List Int32) (args : Array Value) (s : State) : Prop := args = #[.ref b] ∧ s.IntsAt b xs ∧ xs.length ≤ 96 ∧ (Jvm.Cond.and given_1 narrow_1).before args s = true
def lw_Q (_ : Array Value) (s : State) (o : Outcome) (t : State) : Prop := o = .returned (some (.int 1)) ∧ Framed s o t [] 1200192 5500522
def lw_Z (below : List Frame) (a : Array Value) (s : State) : State → Prop := fun t => ∃ o, t.status = .running ∧ Ended t below o ∧ lw_Q a s o t
/-- the law's own end, with 1 on the stack, nothing written that was there before, its room as the claim has it -/
theorem lw_ret {p : Program} {l : Launch} {e : Env} {s : State} {m : MethodId} {below : List Frame} {meth : Method} {c : Code} {b : Nat} (hx : p.tables.exec = Jvm.exec) (hb : c.code = code) (hr : meth.sig.returnType = ret) (hlocks : meth.locks = false) {pc : Nat} {H : Heap} {ls : Array Slot} (hdg : decode code pc = .ok (.ireturn, 1)) : W p l e room_1 s m #[Value.ref b] below meth c H [] 1200192 5500522 (lw_Z below #[Value.ref b] s) (F0 m pc ls [.int 1]) := by
  intro T hT X
  obtain ⟨fs, hret, hrun, hended, hW, hframe⟩ := X.leave (v := some (.int 1)) (hlocks := hlocks) (fun h => by rw [hr] at h; cases h)
  have hmeth' : T.vm.method? m = some meth := X.method'
  refine ⟨T.setFrames fs, ?_, .returned (some (.int 1)), hrun, hended, rfl, ⟨_, rfl⟩, hW, hframe⟩
  jvm_step X.here [X.here.top, hx, hb, hdg, hmeth', hr, ret, narrow_b1]
  (try refine ⟨rfl, ?_⟩); (try refine ⟨rfl, ?_⟩)
  first | (intro acts; rw [hret _ acts rfl rfl rfl]) | rw [hret _ _ rfl rfl rfl]
  exact Steps.refl _
/-- what holds at the law's entry: the machine, the code, the tables' words (any of lw_tbl by 'hts w (by decide +kernel)'), the script of L ints xs at the cell b, what the Statement gives of the start (any of its parts by flat_of_before) -/
def lw_At (p : Program) (s : State) (m : MethodId) (meth : Method) (c : Code) (b L : Nat) (xs : Nat → Int32) : Prop :=
  p.tables.exec = Jvm.exec ∧ c.code = code ∧ meth.sig.returnType = ret ∧ c.maxLocals = 11 ∧ s.vm.findClass R_law = some m.cls ∧ (∀ w ∈ lw_tbl, w.before #[Value.ref b] s = true) ∧ va_X b L xs s s.heap ∧ b < s.heap.size ∧ meth.locks = false ∧ (Jvm.Cond.and given_1 narrow_1).before #[Value.ref b] s = true
end
section
/-! THE LAW's BODY, in pieces: each a walk from a place to the next, what comes behind as a hypothesis -/
set_option maxRecDepth 100000
def gk_bw (K : Nat → Int8) : Nat → Int32 := fun q => gk_be K (4 * q)
theorem gk_hf0 : gk_hf 0 = 0 := by decide +kernel
theorem gk_hf1 : gk_hf 1 = 16 := by decide +kernel
theorem gk_inc6 (t : Nat) : nI (6 * t) + Int32.ofInt 6 = nI (6 * (t + 1)) := nI_add (6 * t) 6
set_option maxHeartbeats 8000000 in
set_option maxRecDepth 100000 in
/-- the key from both ends, and the end -/
theorem law_p4 (l : Launch) {p : Program} {e : Env} {s : State} {m : MethodId} {below : List Frame} {meth : Method} {cd : Code} {G : va_G} {c : gk_I} {X : gk_X} {A : Nat → Prop} {Q : State → Prop} (hL : X.2.2.1 ≤ 96) (hx : p.tables.exec = Jvm.exec) (hb : cd.code = cL_law) (hml : cd.maxLocals = 11) (hown : s.vm.findClass RX0 = some m.cls) (hts : ∀ w ∈ lw_all, w.before #[Value.ref X.2.1] s = true) (hK : va_K G vwCl (gk_T c) s) (hC : gk_C X A s s.heap) (hA : ∀ q : Nat, s.heap.size ≤ q → A q) (hr : meth.sig.returnType = ret) (hlocks : meth.locks = false) (hA2 : ∀ q : Nat, A q → s.heap.size ≤ q) (hQ : Q = lw_Z below #[Value.ref X.2.1] s) {d kq bq oq k2 b2 wq : Nat} (K1 B1 O1 : Nat → Int8) (wf : Nat → Int32) : ∀ (H : Heap) (locs : List Loc), va_P G vwCl [(d, .inr (0, [.ref kq, .ref bq, .ref oq])), gk_xb c kq 32 K1, gk_xb c bq 8 B1, gk_xb c oq 8 O1, gk_xb c k2 32 K1, gk_xb c b2 8 B1, gk_xi c wq 8 wf] H → va_D A [(d, .inr (0, [.ref kq, .ref bq, .ref oq])), gk_xb c kq 32 K1, gk_xb c bq 8 B1, gk_xb c oq 8 O1, gk_xb c k2 32 K1, gk_xb c b2 8 B1, gk_xi c wq 8 wf] → va_S A s.heap H locs → ∀ ls : Array Slot, lv_has ls 11 [(0, .ref X.2.1), (1, .ref d), (2, .ref k2), (3, .ref b2), (6, .ref wq)] → W p l e room_1 s m #[Value.ref X.2.1] below meth cd H locs 800 8000 Q (F0 m 657 ls []) := by
  intro H locs hP hD hS ls hl
  refine lv_aload_n hx hb dL_law_657 rfl (lv_at hl 1 rfl) ?_
  refine lv_aload_n hx hb dL_law_658 rfl (lv_at hl 2 rfl) ?_
  refine lv_iconst (v := 0) hx hb dL_law_659 (by decide) ?_
  refine lv_aload hx hb dL_law_660 (lv_at hl 4 rfl) ?_
  refine lv_iconst (v := 0) hx hb dL_law_662 (by decide) ?_
  refine gk_iald hx hb hK hP 6 rfl 0 (rfl) (by decide) (by decide) dL_law_663 ?_
  refine lv_aload hx hb dL_law_664 (lv_at hl 4 rfl) ?_
  refine lv_iconst (v := 1) hx hb dL_law_666 (by decide) ?_
  refine gk_iald hx hb hK hP 6 rfl 1 (rfl) (by decide) (by decide) dL_law_667 ?_
  refine lv_aload hx hb dL_law_668 (lv_at hl 4 rfl) ?_
  refine lv_iconst (v := 2) hx hb dL_law_670 (by decide) ?_
  refine gk_iald hx hb hK hP 6 rfl 2 (rfl) (by decide) (by decide) dL_law_671 ?_
  refine lv_aload hx hb dL_law_672 (lv_at hl 4 rfl) ?_
  refine lv_iconst (v := 3) hx hb dL_law_674 (by decide) ?_
  refine gk_iald hx hb hK hP 6 rfl 3 (rfl) (by decide) (by decide) dL_law_675 ?_
  refine gk_callv (wr := [gk_xb c bq 8 B1, gk_xb c oq 8 O1, gk_xb c b2 8 B1, gk_xi c wq 8 wf]) (va_runS (As := [.ref d, .ref k2, .int 0, .int (wf 0), .int (wf 1), .int (wf 2), .int (wf 3)]) (rest := []) ⟨hx, hb, hml, hown, hts⟩ (m_ke l G c X d kq bq oq k2 K1 K1 0 (wf 0) (wf 1) (wf 2) (wf 3) H.size) (va_cwS 7 hts (lw_S q315 q316 q7 q317) rfl rfl rfl (by decide +kernel) ⟨(Nat.le_of_ble_eq_true rfl), (Nat.le_of_ble_eq_true rfl)⟩) ⟨gk_blind, gk_pre hP hD hK hC hS hA [0, 1, 4] rfl (by decide)⟩ rfl rfl hl.1 rfl (lv_room (Nat.le_of_ble_eq_true rfl)) dL_law_676 ⟨(Nat.le_of_ble_eq_true rfl), (Nat.le_of_ble_eq_true rfl)⟩) hP hD hS hA [0, 1, 4] [2, 3, 5, 6] rfl rfl (by decide) (by decide) (fun _ H locs _ hP hD hS => ?_)
  have hP : va_P G vwCl [gk_xb c bq 8 B1, gk_xb c oq 8 O1, gk_xb c b2 8 B1, gk_xi c wq 8 wf, (d, .inr (0, [.ref kq, .ref bq, .ref oq])), gk_xb c kq 32 (gk_l4 K1 (gk_hf 0) (wf 0) (wf 1) (wf 2) (wf 3)), gk_xb c k2 32 (gk_l4 K1 (gk_hf 0) (wf 0) (wf 1) (wf 2) (wf 3))] H := hP
  have hD : va_D A [gk_xb c bq 8 B1, gk_xb c oq 8 O1, gk_xb c b2 8 B1, gk_xi c wq 8 wf, (d, .inr (0, [.ref kq, .ref bq, .ref oq])), gk_xb c kq 32 (gk_l4 K1 (gk_hf 0) (wf 0) (wf 1) (wf 2) (wf 3)), gk_xb c k2 32 (gk_l4 K1 (gk_hf 0) (wf 0) (wf 1) (wf 2) (wf 3))] := hD
  refine lv_aload_n hx hb dL_law_679 rfl (lv_at hl 1 rfl) ?_
  refine lv_aload_n hx hb dL_law_680 rfl (lv_at hl 2 rfl) ?_
  refine lv_iconst (v := 1) hx hb dL_law_681 (by decide) ?_
  refine lv_aload hx hb dL_law_682 (lv_at hl 4 rfl) ?_
  refine lv_iconst (v := 3) hx hb dL_law_684 (by decide) ?_
  refine gk_iald hx hb hK hP 3 rfl 3 (rfl) (by decide) (by decide) dL_law_685 ?_
  refine lv_aload hx hb dL_law_686 (lv_at hl 4 rfl) ?_
  refine lv_iconst (v := 2) hx hb dL_law_688 (by decide) ?_
  refine gk_iald hx hb hK hP 3 rfl 2 (rfl) (by decide) (by decide) dL_law_689 ?_
  refine lv_aload hx hb dL_law_690 (lv_at hl 4 rfl) ?_
  refine lv_iconst (v := 1) hx hb dL_law_692 (by decide) ?_
  refine gk_iald hx hb hK hP 3 rfl 1 (rfl) (by decide) (by decide) dL_law_693 ?_
  refine lv_aload hx hb dL_law_694 (lv_at hl 4 rfl) ?_
  refine lv_iconst (v := 0) hx hb dL_law_696 (by decide) ?_
  refine gk_iald hx hb hK hP 3 rfl 0 (rfl) (by decide) (by decide) dL_law_697 ?_
  refine gk_callv (wr := [gk_xb c bq 8 B1, gk_xb c oq 8 O1, gk_xb c b2 8 B1, gk_xi c wq 8 wf]) (va_runS (As := [.ref d, .ref k2, .int 1, .int (wf 3), .int (wf 2), .int (wf 1), .int (wf 0)]) (rest := []) ⟨hx, hb, hml, hown, hts⟩ (m_ke l G c X d kq bq oq k2 (gk_l4 K1 (gk_hf 0) (wf 0) (wf 1) (wf 2) (wf 3)) (gk_l4 K1 (gk_hf 0) (wf 0) (wf 1) (wf 2) (wf 3)) 1 (wf 3) (wf 2) (wf 1) (wf 0) H.size) (va_cwS 7 hts (lw_S q315 q316 q7 q317) rfl rfl rfl (by decide +kernel) ⟨(Nat.le_of_ble_eq_true rfl), (Nat.le_of_ble_eq_true rfl)⟩) ⟨gk_blind, gk_pre hP hD hK hC hS hA [4, 5, 6] rfl (by decide)⟩ rfl rfl hl.1 rfl (lv_room (Nat.le_of_ble_eq_true rfl)) dL_law_698 ⟨(Nat.le_of_ble_eq_true rfl), (Nat.le_of_ble_eq_true rfl)⟩) hP hD hS hA [4, 5, 6] [0, 1, 2, 3] rfl rfl (by decide) (by decide) (fun _ H locs _ hP hD hS => ?_)
  have hP : va_P G vwCl [gk_xb c bq 8 B1, gk_xb c oq 8 O1, gk_xb c b2 8 B1, gk_xi c wq 8 wf, (d, .inr (0, [.ref kq, .ref bq, .ref oq])), gk_xb c kq 32 (gk_l4 (gk_l4 K1 (gk_hf 0) (wf 0) (wf 1) (wf 2) (wf 3)) (gk_hf 1) (wf 3) (wf 2) (wf 1) (wf 0)), gk_xb c k2 32 (gk_l4 (gk_l4 K1 (gk_hf 0) (wf 0) (wf 1) (wf 2) (wf 3)) (gk_hf 1) (wf 3) (wf 2) (wf 1) (wf 0))] H := hP
  have hD : va_D A [gk_xb c bq 8 B1, gk_xb c oq 8 O1, gk_xb c b2 8 B1, gk_xi c wq 8 wf, (d, .inr (0, [.ref kq, .ref bq, .ref oq])), gk_xb c kq 32 (gk_l4 (gk_l4 K1 (gk_hf 0) (wf 0) (wf 1) (wf 2) (wf 3)) (gk_hf 1) (wf 3) (wf 2) (wf 1) (wf 0)), gk_xb c k2 32 (gk_l4 (gk_l4 K1 (gk_hf 0) (wf 0) (wf 1) (wf 2) (wf 3)) (gk_hf 1) (wf 3) (wf 2) (wf 1) (wf 0))] := hD
  have hpal : ∀ j, j < 8 → gk_key (gk_l4 (gk_l4 K1 (gk_hf 0) (wf 0) (wf 1) (wf 2) (wf 3)) (gk_hf 1) (wf 3) (wf 2) (wf 1) (wf 0)) j = gk_key (gk_l4 (gk_l4 K1 (gk_hf 0) (wf 0) (wf 1) (wf 2) (wf 3)) (gk_hf 1) (wf 3) (wf 2) (wf 1) (wf 0)) (7 - j) := by
      rw [gk_hf0, gk_hf1]
      exact gk_palK K1 (wf 0) (wf 1) (wf 2) (wf 3)
  generalize gk_l4 (gk_l4 K1 (gk_hf 0) (wf 0) (wf 1) (wf 2) (wf 3)) (gk_hf 1) (wf 3) (wf 2) (wf 1) (wf 0) = K3 at hP hD hpal
  refine lv_aload_n hx hb dL_law_701 rfl (lv_at hl 1 rfl) ?_
  refine lv_iconst (v := 2) hx hb dL_law_702 (by decide) ?_
  refine gk_callv (wr := [gk_xb c b2 8 B1, gk_xi c wq 8 wf, gk_xb c k2 32 K3]) (va_runV (As := [.int 2]) (rest := []) ⟨hx, hb, hml, hown, hts⟩ (m_lk l G c X d kq bq oq K3 B1 O1 2 H.size) (cwV 1 hts (lw_V q40 q41 q42 q8 q43) rfl rfl rfl (by decide +kernel) ⟨(Nat.le_of_ble_eq_true rfl), (Nat.le_of_ble_eq_true rfl)⟩) ⟨gk_blind, va_recv hK hP (ci := 0) (q0 := 4) rfl rfl, gk_pre hP hD hK hC hS hA [4, 5, 0, 1] rfl (by decide)⟩ rfl rfl hl.1 rfl (lv_room (Nat.le_of_ble_eq_true rfl)) dL_law_703 ⟨(Nat.le_of_ble_eq_true rfl), (Nat.le_of_ble_eq_true rfl)⟩) hP hD hS hA [4, 5, 0, 1] [2, 3, 6] rfl rfl (by decide) (by decide) (fun _ H locs _ hP hD hS => ?_)
  have hP : va_P G vwCl [gk_xb c b2 8 B1, gk_xi c wq 8 wf, gk_xb c k2 32 K3, (d, .inr (0, [.ref kq, .ref bq, .ref oq])), gk_xb c kq 32 K3, gk_xb c bq 8 B1, gk_xb c oq 8 (gk_cry K3 B1 false)] H := hP
  have hD : va_D A [gk_xb c b2 8 B1, gk_xi c wq 8 wf, gk_xb c k2 32 K3, (d, .inr (0, [.ref kq, .ref bq, .ref oq])), gk_xb c kq 32 K3, gk_xb c bq 8 B1, gk_xb c oq 8 (gk_cry K3 B1 false)] := hD
  refine lv_aload_n hx hb dL_law_706 rfl (lv_at hl 1 rfl) ?_
  refine gk_callr (wr := [gk_xb c b2 8 B1, gk_xi c wq 8 wf, gk_xb c k2 32 K3, gk_xb c kq 32 K3, gk_xb c bq 8 B1]) (va_runS (As := [.ref d]) (rest := []) ⟨hx, hb, hml, hown, hts⟩ (m_to l G c X d kq bq oq (gk_cry K3 B1 false) H.size) (va_cwS 1 hts (lw_S q345 q346 q7 q347) rfl rfl rfl (by decide +kernel) ⟨(Nat.le_of_ble_eq_true rfl), (Nat.le_of_ble_eq_true rfl)⟩) ⟨gk_blind, gk_pre hP hD hK hC hS hA [3, 6] rfl (by decide)⟩ rfl rfl hl.1 rfl (lv_room (Nat.le_of_ble_eq_true rfl)) dL_law_707 ⟨(Nat.le_of_ble_eq_true rfl), (Nat.le_of_ble_eq_true rfl)⟩) hP hD hS hA [3, 6] [0, 1, 2, 4, 5] rfl rfl (by decide) (by decide) (fun _ r3 H locs _ hP hD hS => ?_)
  have hP : va_P G vwCl [gk_xb c b2 8 B1, gk_xi c wq 8 wf, gk_xb c k2 32 K3, gk_xb c kq 32 K3, gk_xb c bq 8 B1, (d, .inr (0, [.ref kq, .ref bq, .ref oq])), gk_xb c oq 8 (gk_cry K3 B1 false), gk_xb c r3 8 (gk_cry K3 B1 false)] H := hP
  have hD : va_D A [gk_xb c b2 8 B1, gk_xi c wq 8 wf, gk_xb c k2 32 K3, gk_xb c kq 32 K3, gk_xb c bq 8 B1, (d, .inr (0, [.ref kq, .ref bq, .ref oq])), gk_xb c oq 8 (gk_cry K3 B1 false), gk_xb c r3 8 (gk_cry K3 B1 false)] := hD
  refine lv_astore (lv' := [(5, .ref r3), (0, .ref X.2.1), (1, .ref d), (2, .ref k2), (3, .ref b2), (6, .ref wq)]) hx hb dL_law_710 hl (by decide) rfl (fun ls hl => ?_)
  refine lv_aload_n hx hb dL_law_712 rfl (lv_at hl 2 rfl) ?_
  refine lv_iconst (v := 3) hx hb dL_law_713 (by decide) ?_
  refine gk_callv (wr := [gk_xb c b2 8 B1, gk_xi c wq 8 wf, gk_xb c k2 32 K3, gk_xb c r3 8 (gk_cry K3 B1 false)]) (va_runV (As := [.int 3]) (rest := []) ⟨hx, hb, hml, hown, hts⟩ (m_op l G c X d kq bq oq K3 B1 (gk_cry K3 B1 false) 3 H.size) (cwV 1 hts (lw_V q281 q282 q283 q8 q284) rfl rfl rfl (by decide +kernel) ⟨(Nat.le_of_ble_eq_true rfl), (Nat.le_of_ble_eq_true rfl)⟩) ⟨gk_blind, va_recv hK hP (ci := 0) (q0 := 5) rfl rfl, gk_pre hP hD hK hC hS hA [5, 3, 4, 6] rfl (by decide)⟩ rfl rfl hl.1 rfl (lv_room (Nat.le_of_ble_eq_true rfl)) dL_law_714 ⟨(Nat.le_of_ble_eq_true rfl), (Nat.le_of_ble_eq_true rfl)⟩) hP hD hS hA [5, 3, 4, 6] [0, 1, 2, 7] rfl rfl (by decide) (by decide) (fun _ H locs _ hP hD hS => ?_)
  have hP : va_P G vwCl [gk_xb c b2 8 B1, gk_xi c wq 8 wf, gk_xb c k2 32 K3, gk_xb c r3 8 (gk_cry K3 B1 false), (d, .inr (0, [.ref kq, .ref bq, .ref oq])), gk_xb c kq 32 K3, gk_xb c bq 8 B1, gk_xb c oq 8 (gk_cry K3 B1 true)] H := hP
  have hD : va_D A [gk_xb c b2 8 B1, gk_xi c wq 8 wf, gk_xb c k2 32 K3, gk_xb c r3 8 (gk_cry K3 B1 false), (d, .inr (0, [.ref kq, .ref bq, .ref oq])), gk_xb c kq 32 K3, gk_xb c bq 8 B1, gk_xb c oq 8 (gk_cry K3 B1 true)] := hD
  refine lv_aload hx hb dL_law_717 (lv_at hl 0 rfl) ?_
  refine lv_aload_n hx hb dL_law_719 rfl (lv_at hl 2 rfl) ?_
  refine gk_callr (wr := [gk_xb c b2 8 B1, gk_xi c wq 8 wf, gk_xb c k2 32 K3, gk_xb c r3 8 (gk_cry K3 B1 false), gk_xb c kq 32 K3, gk_xb c bq 8 B1]) (va_runS (As := [.ref d]) (rest := [.ref r3]) ⟨hx, hb, hml, hown, hts⟩ (m_to l G c X d kq bq oq (gk_cry K3 B1 true) H.size) (va_cwS 1 hts (lw_S q345 q346 q7 q347) rfl rfl rfl (by decide +kernel) ⟨(Nat.le_of_ble_eq_true rfl), (Nat.le_of_ble_eq_true rfl)⟩) ⟨gk_blind, gk_pre hP hD hK hC hS hA [4, 7] rfl (by decide)⟩ rfl rfl hl.1 rfl (lv_room (Nat.le_of_ble_eq_true rfl)) dL_law_720 ⟨(Nat.le_of_ble_eq_true rfl), (Nat.le_of_ble_eq_true rfl)⟩) hP hD hS hA [4, 7] [0, 1, 2, 3, 5, 6] rfl rfl (by decide) (by decide) (fun _ r4 H locs _ hP hD hS => ?_)
  have hP : va_P G vwCl [gk_xb c b2 8 B1, gk_xi c wq 8 wf, gk_xb c k2 32 K3, gk_xb c r3 8 (gk_cry K3 B1 false), gk_xb c kq 32 K3, gk_xb c bq 8 B1, (d, .inr (0, [.ref kq, .ref bq, .ref oq])), gk_xb c oq 8 (gk_cry K3 B1 true), gk_xb c r4 8 (gk_cry K3 B1 true)] H := hP
  have hD : va_D A [gk_xb c b2 8 B1, gk_xi c wq 8 wf, gk_xb c k2 32 K3, gk_xb c r3 8 (gk_cry K3 B1 false), gk_xb c kq 32 K3, gk_xb c bq 8 B1, (d, .inr (0, [.ref kq, .ref bq, .ref oq])), gk_xb c oq 8 (gk_cry K3 B1 true), gk_xb c r4 8 (gk_cry K3 B1 true)] := hD
  refine lv_iconst (v := 0) hx hb dL_law_723 (by decide) ?_
  refine gk_calli (wr := [gk_xb c b2 8 B1, gk_xi c wq 8 wf, gk_xb c k2 32 K3, gk_xb c kq 32 K3, gk_xb c bq 8 B1, (d, .inr (0, [.ref kq, .ref bq, .ref oq])), gk_xb c oq 8 (gk_cry K3 B1 true)]) (va_runS (As := [.ref r3, .ref r4, .int 0]) (rest := []) ⟨hx, hb, hml, hown, hts⟩ (m_sa l G c X r3 r4 (gk_cry K3 B1 false) (gk_cry K3 B1 true) 0 H.size (fun j _ => by rw [gk_pal B1 hpal]; exact (gk_same0 _).trans (by split <;> rfl))) (va_cwS 3 hts (lw_S q348 q349 q7 q350) rfl rfl rfl (by decide +kernel) ⟨(Nat.le_of_ble_eq_true rfl), (Nat.le_of_ble_eq_true rfl)⟩) ⟨gk_blind, gk_pre hP hD hK hC hS hA [3, 8] rfl (by decide)⟩ rfl rfl hl.1 rfl (lv_room (Nat.le_of_ble_eq_true rfl)) dL_law_724 ⟨(Nat.le_of_ble_eq_true rfl), (Nat.le_of_ble_eq_true rfl)⟩) hP hD hS hA [3, 8] [0, 1, 2, 4, 5, 6, 7] rfl rfl (by decide) (by decide) (fun r _ H locs hw hP hD hS => ?_)
  have hP : va_P G vwCl [gk_xb c b2 8 B1, gk_xi c wq 8 wf, gk_xb c k2 32 K3, gk_xb c kq 32 K3, gk_xb c bq 8 B1, (d, .inr (0, [.ref kq, .ref bq, .ref oq])), gk_xb c oq 8 (gk_cry K3 B1 true), gk_xb c r3 8 (gk_cry K3 B1 false), gk_xb c r4 8 (gk_cry K3 B1 true)] H := hP
  have hD : va_D A [gk_xb c b2 8 B1, gk_xi c wq 8 wf, gk_xb c k2 32 K3, gk_xb c kq 32 K3, gk_xb c bq 8 B1, (d, .inr (0, [.ref kq, .ref bq, .ref oq])), gk_xb c oq 8 (gk_cry K3 B1 true), gk_xb c r3 8 (gk_cry K3 B1 false), gk_xb c r4 8 (gk_cry K3 B1 true)] := hD
  have hw : r = 1 := hw
  subst hw
  refine lv_if_eq (tgt := 753) hx hb dL_law_727 (by decide) (fun h => absurd h (by decide)) (fun _ => ?_)
  refine lv_aload_n hx hb dL_law_730 rfl (lv_at hl 2 rfl) ?_
  refine lv_aload_n hx hb dL_law_731 rfl (lv_at hl 3 rfl) ?_
  refine lv_aload_n hx hb dL_law_732 rfl (lv_at hl 4 rfl) ?_
  refine lv_iconst (v := 0) hx hb dL_law_733 (by decide) ?_
  refine gk_callr (wr := [gk_xi c wq 8 wf, gk_xb c kq 32 K3, gk_xb c bq 8 B1, (d, .inr (0, [.ref kq, .ref bq, .ref oq])), gk_xb c oq 8 (gk_cry K3 B1 true), gk_xb c r3 8 (gk_cry K3 B1 false), gk_xb c r4 8 (gk_cry K3 B1 true)]) (va_runS (As := [.ref k2, .ref b2, .int (gk_oi false)]) (rest := [.ref d]) ⟨hx, hb, hml, hown, hts⟩ (m_du l G c X k2 b2 K3 B1 false H.size) (va_cwS 3 hts (lw_S q296 q297 q7 q298) rfl rfl rfl (by decide +kernel) ⟨(Nat.le_of_ble_eq_true rfl), (Nat.le_of_ble_eq_true rfl)⟩) ⟨gk_blind, gk_pre hP hD hK hC hS hA [2, 0] rfl (by decide)⟩ rfl rfl hl.1 rfl (lv_room (Nat.le_of_ble_eq_true rfl)) dL_law_734 ⟨(Nat.le_of_ble_eq_true rfl), (Nat.le_of_ble_eq_true rfl)⟩) hP hD hS hA [2, 0] [1, 3, 4, 5, 6, 7, 8] rfl rfl (by decide) (by decide) (fun _ r5 H locs _ hP hD hS => ?_)
  have hP : va_P G vwCl [gk_xi c wq 8 wf, gk_xb c kq 32 K3, gk_xb c bq 8 B1, (d, .inr (0, [.ref kq, .ref bq, .ref oq])), gk_xb c oq 8 (gk_cry K3 B1 true), gk_xb c r3 8 (gk_cry K3 B1 false), gk_xb c r4 8 (gk_cry K3 B1 true), gk_xb c k2 32 K3, gk_xb c b2 8 B1, gk_xb c r5 8 (gk_cry K3 B1 false)] H := hP
  have hD : va_D A [gk_xi c wq 8 wf, gk_xb c kq 32 K3, gk_xb c bq 8 B1, (d, .inr (0, [.ref kq, .ref bq, .ref oq])), gk_xb c oq 8 (gk_cry K3 B1 true), gk_xb c r3 8 (gk_cry K3 B1 false), gk_xb c r4 8 (gk_cry K3 B1 true), gk_xb c k2 32 K3, gk_xb c b2 8 B1, gk_xb c r5 8 (gk_cry K3 B1 false)] := hD
  refine lv_aload_n hx hb dL_law_737 rfl (lv_at hl 1 rfl) ?_
  refine lv_bipush (v := 6) hx hb dL_law_738 (by decide) ?_
  refine gk_calli (wr := [gk_xi c wq 8 wf, gk_xb c kq 32 K3, gk_xb c bq 8 B1, (d, .inr (0, [.ref kq, .ref bq, .ref oq])), gk_xb c oq 8 (gk_cry K3 B1 true), gk_xb c r3 8 (gk_cry K3 B1 false), gk_xb c r4 8 (gk_cry K3 B1 true), gk_xb c k2 32 K3, gk_xb c b2 8 B1, gk_xb c r5 8 (gk_cry K3 B1 false)]) (va_runS (As := [.ref X.2.1, .int (nI (6))]) (rest := [.ref r5, .ref d]) ⟨hx, hb, hml, hown, hts⟩ (m_cl l G c X (6) H.size hL (by omega)) (va_cwS 2 hts (lw_S q289 q290 q7 q291) rfl rfl rfl (by decide +kernel) ⟨(Nat.le_of_ble_eq_true rfl), (Nat.le_of_ble_eq_true rfl)⟩) ⟨gk_blind, gk_pre hP hD hK hC hS hA [] rfl (by decide)⟩ rfl rfl hl.1 rfl (lv_room (Nat.le_of_ble_eq_true rfl)) dL_law_740 ⟨(Nat.le_of_ble_eq_true rfl), (Nat.le_of_ble_eq_true rfl)⟩) hP hD hS hA [] [0, 1, 2, 3, 4, 5, 6, 7, 8, 9] rfl rfl (by decide) (by decide) (fun r _ H locs hw hP hD hS => ?_)
  have hP : va_P G vwCl [gk_xi c wq 8 wf, gk_xb c kq 32 K3, gk_xb c bq 8 B1, (d, .inr (0, [.ref kq, .ref bq, .ref oq])), gk_xb c oq 8 (gk_cry K3 B1 true), gk_xb c r3 8 (gk_cry K3 B1 false), gk_xb c r4 8 (gk_cry K3 B1 true), gk_xb c k2 32 K3, gk_xb c b2 8 B1, gk_xb c r5 8 (gk_cry K3 B1 false)] H := hP
  have hD : va_D A [gk_xi c wq 8 wf, gk_xb c kq 32 K3, gk_xb c bq 8 B1, (d, .inr (0, [.ref kq, .ref bq, .ref oq])), gk_xb c oq 8 (gk_cry K3 B1 true), gk_xb c r3 8 (gk_cry K3 B1 false), gk_xb c r4 8 (gk_cry K3 B1 true), gk_xb c k2 32 K3, gk_xb c b2 8 B1, gk_xb c r5 8 (gk_cry K3 B1 false)] := hD
  have hw : r = gk_ce X (6) := hw
  subst hw
  refine gk_calli (wr := [gk_xi c wq 8 wf, gk_xb c kq 32 K3, gk_xb c bq 8 B1, gk_xb c r3 8 (gk_cry K3 B1 false), gk_xb c r4 8 (gk_cry K3 B1 true), gk_xb c k2 32 K3, gk_xb c b2 8 B1]) (va_runS (As := [.ref d, .ref r5, .int (gk_ce X (6))]) (rest := []) ⟨hx, hb, hml, hown, hts⟩ (m_sh l G c X d kq bq oq r5 (gk_cry K3 B1 true) (gk_cry K3 B1 false) (gk_ce X (6)) H.size (fun j _ => congrFun (gk_pal B1 hpal) j)) (va_cwS 3 hts (lw_S q335 q336 q7 q337) rfl rfl rfl (by decide +kernel) ⟨(Nat.le_of_ble_eq_true rfl), (Nat.le_of_ble_eq_true rfl)⟩) ⟨gk_blind, gk_pre hP hD hK hC hS hA [3, 4, 9] rfl (by decide)⟩ rfl rfl hl.1 rfl (lv_room (Nat.le_of_ble_eq_true rfl)) dL_law_743 ⟨(Nat.le_of_ble_eq_true rfl), (Nat.le_of_ble_eq_true rfl)⟩) hP hD hS hA [3, 4, 9] [0, 1, 2, 5, 6, 7, 8] rfl rfl (by decide) (by decide) (fun r _ H locs hw hP hD hS => ?_)
  have hP : va_P G vwCl [gk_xi c wq 8 wf, gk_xb c kq 32 K3, gk_xb c bq 8 B1, gk_xb c r3 8 (gk_cry K3 B1 false), gk_xb c r4 8 (gk_cry K3 B1 true), gk_xb c k2 32 K3, gk_xb c b2 8 B1, (d, .inr (0, [.ref kq, .ref bq, .ref oq])), gk_xb c oq 8 (gk_cry K3 B1 true), gk_xb c r5 8 (gk_cry K3 B1 false)] H := hP
  have hD : va_D A [gk_xi c wq 8 wf, gk_xb c kq 32 K3, gk_xb c bq 8 B1, gk_xb c r3 8 (gk_cry K3 B1 false), gk_xb c r4 8 (gk_cry K3 B1 true), gk_xb c k2 32 K3, gk_xb c b2 8 B1, (d, .inr (0, [.ref kq, .ref bq, .ref oq])), gk_xb c oq 8 (gk_cry K3 B1 true), gk_xb c r5 8 (gk_cry K3 B1 false)] := hD
  have hw : r = 1 := hw
  subst hw
  refine lv_if_eq (tgt := 753) hx hb dL_law_746 (by decide) (fun h => absurd h (by decide)) (fun _ => ?_)
  refine lv_iconst (v := 1) hx hb dL_law_749 (by decide) ?_
  refine lv_goto (tgt := 754) hx hb dL_law_750 (by decide) ?_
  subst hQ
  refine va_forget (fun q hq => hA2 _ (hS.2.2 q hq)) ?_
  refine W.widen (k := 1200192) (n := 5500522) (Nat.le_of_ble_eq_true rfl) (Nat.le_of_ble_eq_true rfl) ?_
  exact lw_ret hx hb hr hlocks dL_law_754
set_option maxHeartbeats 8000000 in
set_option maxRecDepth 100000 in
/-- the top bits turned -/
theorem law_p3 (l : Launch) {p : Program} {e : Env} {s : State} {m : MethodId} {below : List Frame} {meth : Method} {cd : Code} {G : va_G} {c : gk_I} {X : gk_X} {A : Nat → Prop} {Q : State → Prop} (hL : X.2.2.1 ≤ 96) (hx : p.tables.exec = Jvm.exec) (hb : cd.code = cL_law) (hml : cd.maxLocals = 11) (hown : s.vm.findClass RX0 = some m.cls) (hts : ∀ w ∈ lw_all, w.before #[Value.ref X.2.1] s = true) (hK : va_K G vwCl (gk_T c) s) (hC : gk_C X A s s.heap) (hA : ∀ q : Nat, s.heap.size ≤ q → A q) {d kq bq oq k2 b2 wq r1 : Nat} (K B O : Nat → Int8) (hk : ∀ (K1 B1 O1 : Nat → Int8) (wf : Nat → Int32), ∀ (H : Heap) (locs : List Loc), va_P G vwCl [(d, .inr (0, [.ref kq, .ref bq, .ref oq])), gk_xb c kq 32 K1, gk_xb c bq 8 B1, gk_xb c oq 8 O1, gk_xb c k2 32 K1, gk_xb c b2 8 B1, gk_xi c wq 8 wf] H → va_D A [(d, .inr (0, [.ref kq, .ref bq, .ref oq])), gk_xb c kq 32 K1, gk_xb c bq 8 B1, gk_xb c oq 8 O1, gk_xb c k2 32 K1, gk_xb c b2 8 B1, gk_xi c wq 8 wf] → va_S A s.heap H locs → ∀ ls : Array Slot, lv_has ls 11 [(0, .ref X.2.1), (1, .ref d), (2, .ref k2), (3, .ref b2), (6, .ref wq)] → W p l e room_1 s m #[Value.ref X.2.1] below meth cd H locs 800 8000 Q (F0 m 657 ls [])) : ∀ (H : Heap) (locs : List Loc), va_P G vwCl [(d, .inr (0, [.ref kq, .ref bq, .ref oq])), gk_xb c kq 32 K, gk_xb c bq 8 B, gk_xb c oq 8 O, gk_xb c k2 32 K, gk_xb c b2 8 B, gk_xi c wq 8 (gk_bw K), gk_xb c r1 8 (gk_cry K B false)] H → va_D A [(d, .inr (0, [.ref kq, .ref bq, .ref oq])), gk_xb c kq 32 K, gk_xb c bq 8 B, gk_xb c oq 8 O, gk_xb c k2 32 K, gk_xb c b2 8 B, gk_xi c wq 8 (gk_bw K), gk_xb c r1 8 (gk_cry K B false)] → va_S A s.heap H locs → ∀ ls : Array Slot, lv_has ls 11 [(0, .ref X.2.1), (1, .ref d), (2, .ref k2), (3, .ref b2), (5, .ref r1), (6, .ref wq)] → W p l e room_1 s m #[Value.ref X.2.1] below meth cd H locs 780 7000 Q (F0 m 462 ls []) := by
  intro H locs hP hD hS ls hl
  refine lv_aload_n hx hb dL_law_462 rfl (lv_at hl 1 rfl) ?_
  refine lv_aload_n hx hb dL_law_463 rfl (lv_at hl 2 rfl) ?_
  refine lv_iconst (v := 0) hx hb dL_law_464 (by decide) ?_
  refine lv_aload hx hb dL_law_465 (lv_at hl 5 rfl) ?_
  refine lv_iconst (v := 0) hx hb dL_law_467 (by decide) ?_
  refine gk_iald hx hb hK hP 6 rfl 0 (rfl) (by decide) (by decide) dL_law_468 ?_
  refine lv_sipush (v := 128) hx hb dL_law_469 (by decide) ?_
  refine lv_ixor hx hb dL_law_472 ?_
  refine lv_aload hx hb dL_law_473 (lv_at hl 5 rfl) ?_
  refine lv_iconst (v := 1) hx hb dL_law_475 (by decide) ?_
  refine gk_iald hx hb hK hP 6 rfl 1 (rfl) (by decide) (by decide) dL_law_476 ?_
  refine lv_sipush (v := 128) hx hb dL_law_477 (by decide) ?_
  refine lv_ixor hx hb dL_law_480 ?_
  refine lv_aload hx hb dL_law_481 (lv_at hl 5 rfl) ?_
  refine lv_iconst (v := 2) hx hb dL_law_483 (by decide) ?_
  refine gk_iald hx hb hK hP 6 rfl 2 (rfl) (by decide) (by decide) dL_law_484 ?_
  refine lv_sipush (v := 128) hx hb dL_law_485 (by decide) ?_
  refine lv_ixor hx hb dL_law_488 ?_
  refine lv_aload hx hb dL_law_489 (lv_at hl 5 rfl) ?_
  refine lv_iconst (v := 3) hx hb dL_law_491 (by decide) ?_
  refine gk_iald hx hb hK hP 6 rfl 3 (rfl) (by decide) (by decide) dL_law_492 ?_
  refine lv_sipush (v := 128) hx hb dL_law_493 (by decide) ?_
  refine lv_ixor hx hb dL_law_496 ?_
  refine gk_callv (wr := [gk_xb c bq 8 B, gk_xb c oq 8 O, gk_xb c b2 8 B, gk_xi c wq 8 (gk_bw K), gk_xb c r1 8 (gk_cry K B false)]) (va_runS (As := [.ref d, .ref k2, .int 0, .int (((gk_bw K) 0) ^^^ 128), .int (((gk_bw K) 1) ^^^ 128), .int (((gk_bw K) 2) ^^^ 128), .int (((gk_bw K) 3) ^^^ 128)]) (rest := []) ⟨hx, hb, hml, hown, hts⟩ (m_ke l G c X d kq bq oq k2 K K 0 (((gk_bw K) 0) ^^^ 128) (((gk_bw K) 1) ^^^ 128) (((gk_bw K) 2) ^^^ 128) (((gk_bw K) 3) ^^^ 128) H.size) (va_cwS 7 hts (lw_S q315 q316 q7 q317) rfl rfl rfl (by decide +kernel) ⟨(Nat.le_of_ble_eq_true rfl), (Nat.le_of_ble_eq_true rfl)⟩) ⟨gk_blind, gk_pre hP hD hK hC hS hA [0, 1, 4] rfl (by decide)⟩ rfl rfl hl.1 rfl (lv_room (Nat.le_of_ble_eq_true rfl)) dL_law_497 ⟨(Nat.le_of_ble_eq_true rfl), (Nat.le_of_ble_eq_true rfl)⟩) hP hD hS hA [0, 1, 4] [2, 3, 5, 6, 7] rfl rfl (by decide) (by decide) (fun _ H locs _ hP hD hS => ?_)
  have hP : va_P G vwCl [gk_xb c bq 8 B, gk_xb c oq 8 O, gk_xb c b2 8 B, gk_xi c wq 8 (gk_bw K), gk_xb c r1 8 (gk_cry K B false), (d, .inr (0, [.ref kq, .ref bq, .ref oq])), gk_xb c kq 32 (gk_l4 K (gk_hf 0) (((gk_bw K) 0) ^^^ 128) (((gk_bw K) 1) ^^^ 128) (((gk_bw K) 2) ^^^ 128) (((gk_bw K) 3) ^^^ 128)), gk_xb c k2 32 (gk_l4 K (gk_hf 0) (((gk_bw K) 0) ^^^ 128) (((gk_bw K) 1) ^^^ 128) (((gk_bw K) 2) ^^^ 128) (((gk_bw K) 3) ^^^ 128))] H := hP
  have hD : va_D A [gk_xb c bq 8 B, gk_xb c oq 8 O, gk_xb c b2 8 B, gk_xi c wq 8 (gk_bw K), gk_xb c r1 8 (gk_cry K B false), (d, .inr (0, [.ref kq, .ref bq, .ref oq])), gk_xb c kq 32 (gk_l4 K (gk_hf 0) (((gk_bw K) 0) ^^^ 128) (((gk_bw K) 1) ^^^ 128) (((gk_bw K) 2) ^^^ 128) (((gk_bw K) 3) ^^^ 128)), gk_xb c k2 32 (gk_l4 K (gk_hf 0) (((gk_bw K) 0) ^^^ 128) (((gk_bw K) 1) ^^^ 128) (((gk_bw K) 2) ^^^ 128) (((gk_bw K) 3) ^^^ 128))] := hD
  refine lv_aload_n hx hb dL_law_500 rfl (lv_at hl 1 rfl) ?_
  refine lv_aload_n hx hb dL_law_501 rfl (lv_at hl 2 rfl) ?_
  refine lv_iconst (v := 1) hx hb dL_law_502 (by decide) ?_
  refine lv_aload hx hb dL_law_503 (lv_at hl 5 rfl) ?_
  refine lv_iconst (v := 4) hx hb dL_law_505 (by decide) ?_
  refine gk_iald hx hb hK hP 3 rfl 4 (rfl) (by decide) (by decide) dL_law_506 ?_
  refine lv_sipush (v := 128) hx hb dL_law_507 (by decide) ?_
  refine lv_ixor hx hb dL_law_510 ?_
  refine lv_aload hx hb dL_law_511 (lv_at hl 5 rfl) ?_
  refine lv_iconst (v := 5) hx hb dL_law_513 (by decide) ?_
  refine gk_iald hx hb hK hP 3 rfl 5 (rfl) (by decide) (by decide) dL_law_514 ?_
  refine lv_sipush (v := 128) hx hb dL_law_515 (by decide) ?_
  refine lv_ixor hx hb dL_law_518 ?_
  refine lv_aload hx hb dL_law_519 (lv_at hl 5 rfl) ?_
  refine lv_bipush (v := 6) hx hb dL_law_521 (by decide) ?_
  refine gk_iald hx hb hK hP 3 rfl 6 (rfl) (by decide) (by decide) dL_law_523 ?_
  refine lv_sipush (v := 128) hx hb dL_law_524 (by decide) ?_
  refine lv_ixor hx hb dL_law_527 ?_
  refine lv_aload hx hb dL_law_528 (lv_at hl 5 rfl) ?_
  refine lv_bipush (v := 7) hx hb dL_law_530 (by decide) ?_
  refine gk_iald hx hb hK hP 3 rfl 7 (rfl) (by decide) (by decide) dL_law_532 ?_
  refine lv_sipush (v := 128) hx hb dL_law_533 (by decide) ?_
  refine lv_ixor hx hb dL_law_536 ?_
  refine gk_callv (wr := [gk_xb c bq 8 B, gk_xb c oq 8 O, gk_xb c b2 8 B, gk_xi c wq 8 (gk_bw K), gk_xb c r1 8 (gk_cry K B false)]) (va_runS (As := [.ref d, .ref k2, .int 1, .int (((gk_bw K) 4) ^^^ 128), .int (((gk_bw K) 5) ^^^ 128), .int (((gk_bw K) 6) ^^^ 128), .int (((gk_bw K) 7) ^^^ 128)]) (rest := []) ⟨hx, hb, hml, hown, hts⟩ (m_ke l G c X d kq bq oq k2 (gk_l4 K (gk_hf 0) (((gk_bw K) 0) ^^^ 128) (((gk_bw K) 1) ^^^ 128) (((gk_bw K) 2) ^^^ 128) (((gk_bw K) 3) ^^^ 128)) (gk_l4 K (gk_hf 0) (((gk_bw K) 0) ^^^ 128) (((gk_bw K) 1) ^^^ 128) (((gk_bw K) 2) ^^^ 128) (((gk_bw K) 3) ^^^ 128)) 1 (((gk_bw K) 4) ^^^ 128) (((gk_bw K) 5) ^^^ 128) (((gk_bw K) 6) ^^^ 128) (((gk_bw K) 7) ^^^ 128) H.size) (va_cwS 7 hts (lw_S q315 q316 q7 q317) rfl rfl rfl (by decide +kernel) ⟨(Nat.le_of_ble_eq_true rfl), (Nat.le_of_ble_eq_true rfl)⟩) ⟨gk_blind, gk_pre hP hD hK hC hS hA [5, 6, 7] rfl (by decide)⟩ rfl rfl hl.1 rfl (lv_room (Nat.le_of_ble_eq_true rfl)) dL_law_537 ⟨(Nat.le_of_ble_eq_true rfl), (Nat.le_of_ble_eq_true rfl)⟩) hP hD hS hA [5, 6, 7] [0, 1, 2, 3, 4] rfl rfl (by decide) (by decide) (fun _ H locs _ hP hD hS => ?_)
  have hP : va_P G vwCl [gk_xb c bq 8 B, gk_xb c oq 8 O, gk_xb c b2 8 B, gk_xi c wq 8 (gk_bw K), gk_xb c r1 8 (gk_cry K B false), (d, .inr (0, [.ref kq, .ref bq, .ref oq])), gk_xb c kq 32 (gk_l4 (gk_l4 K (gk_hf 0) (((gk_bw K) 0) ^^^ 128) (((gk_bw K) 1) ^^^ 128) (((gk_bw K) 2) ^^^ 128) (((gk_bw K) 3) ^^^ 128)) (gk_hf 1) (((gk_bw K) 4) ^^^ 128) (((gk_bw K) 5) ^^^ 128) (((gk_bw K) 6) ^^^ 128) (((gk_bw K) 7) ^^^ 128)), gk_xb c k2 32 (gk_l4 (gk_l4 K (gk_hf 0) (((gk_bw K) 0) ^^^ 128) (((gk_bw K) 1) ^^^ 128) (((gk_bw K) 2) ^^^ 128) (((gk_bw K) 3) ^^^ 128)) (gk_hf 1) (((gk_bw K) 4) ^^^ 128) (((gk_bw K) 5) ^^^ 128) (((gk_bw K) 6) ^^^ 128) (((gk_bw K) 7) ^^^ 128))] H := hP
  have hD : va_D A [gk_xb c bq 8 B, gk_xb c oq 8 O, gk_xb c b2 8 B, gk_xi c wq 8 (gk_bw K), gk_xb c r1 8 (gk_cry K B false), (d, .inr (0, [.ref kq, .ref bq, .ref oq])), gk_xb c kq 32 (gk_l4 (gk_l4 K (gk_hf 0) (((gk_bw K) 0) ^^^ 128) (((gk_bw K) 1) ^^^ 128) (((gk_bw K) 2) ^^^ 128) (((gk_bw K) 3) ^^^ 128)) (gk_hf 1) (((gk_bw K) 4) ^^^ 128) (((gk_bw K) 5) ^^^ 128) (((gk_bw K) 6) ^^^ 128) (((gk_bw K) 7) ^^^ 128)), gk_xb c k2 32 (gk_l4 (gk_l4 K (gk_hf 0) (((gk_bw K) 0) ^^^ 128) (((gk_bw K) 1) ^^^ 128) (((gk_bw K) 2) ^^^ 128) (((gk_bw K) 3) ^^^ 128)) (gk_hf 1) (((gk_bw K) 4) ^^^ 128) (((gk_bw K) 5) ^^^ 128) (((gk_bw K) 6) ^^^ 128) (((gk_bw K) 7) ^^^ 128))] := hD
  have hT : gk_turned 32 K (gk_l4 (gk_l4 K (gk_hf 0) (((gk_bw K) 0) ^^^ 128) (((gk_bw K) 1) ^^^ 128) (((gk_bw K) 2) ^^^ 128) (((gk_bw K) 3) ^^^ 128)) (gk_hf 1) (((gk_bw K) 4) ^^^ 128) (((gk_bw K) 5) ^^^ 128) (((gk_bw K) 6) ^^^ 128) (((gk_bw K) 7) ^^^ 128)) := by
      rw [gk_hf0, gk_hf1]
      exact gk_turnK K (gk_bw K) (fun _ _ => rfl)
  generalize gk_l4 (gk_l4 K (gk_hf 0) (((gk_bw K) 0) ^^^ 128) (((gk_bw K) 1) ^^^ 128) (((gk_bw K) 2) ^^^ 128) (((gk_bw K) 3) ^^^ 128)) (gk_hf 1) (((gk_bw K) 4) ^^^ 128) (((gk_bw K) 5) ^^^ 128) (((gk_bw K) 6) ^^^ 128) (((gk_bw K) 7) ^^^ 128) = K1 at hP hD hT
  refine lv_aload_n hx hb dL_law_540 rfl (lv_at hl 3 rfl) ?_
  refine lv_iconst (v := 0) hx hb dL_law_541 (by decide) ?_
  refine gk_bald hx hb hK hP 2 rfl 0 (rfl) (by decide) (by decide) dL_law_542 ?_
  refine lv_bipush (v := 24) hx hb dL_law_543 (by decide) ?_
  refine lv_ishl hx hb dL_law_545 ?_
  refine lv_aload_n hx hb dL_law_546 rfl (lv_at hl 3 rfl) ?_
  refine lv_iconst (v := 1) hx hb dL_law_547 (by decide) ?_
  refine gk_bald hx hb hK hP 2 rfl 1 (rfl) (by decide) (by decide) dL_law_548 ?_
  refine lv_sipush (v := 255) hx hb dL_law_549 (by decide) ?_
  refine lv_iand hx hb dL_law_552 ?_
  refine lv_bipush (v := 16) hx hb dL_law_553 (by decide) ?_
  refine lv_ishl hx hb dL_law_555 ?_
  refine lv_ior hx hb dL_law_556 ?_
  refine lv_aload_n hx hb dL_law_557 rfl (lv_at hl 3 rfl) ?_
  refine lv_iconst (v := 2) hx hb dL_law_558 (by decide) ?_
  refine gk_bald hx hb hK hP 2 rfl 2 (rfl) (by decide) (by decide) dL_law_559 ?_
  refine lv_sipush (v := 255) hx hb dL_law_560 (by decide) ?_
  refine lv_iand hx hb dL_law_563 ?_
  refine lv_bipush (v := 8) hx hb dL_law_564 (by decide) ?_
  refine lv_ishl hx hb dL_law_566 ?_
  refine lv_ior hx hb dL_law_567 ?_
  refine lv_aload_n hx hb dL_law_568 rfl (lv_at hl 3 rfl) ?_
  refine lv_iconst (v := 3) hx hb dL_law_569 (by decide) ?_
  refine gk_bald hx hb hK hP 2 rfl 3 (rfl) (by decide) (by decide) dL_law_570 ?_
  refine lv_sipush (v := 255) hx hb dL_law_571 (by decide) ?_
  refine lv_iand hx hb dL_law_574 ?_
  refine lv_ior hx hb dL_law_575 ?_
  refine gk_top (y := gk_be B 0) (gk_be_law B 0) ?_
  refine lv_istore (lv' := [(7, .int (gk_be B 0)), (0, .ref X.2.1), (1, .ref d), (2, .ref k2), (3, .ref b2), (5, .ref r1), (6, .ref wq)]) hx hb dL_law_576 hl (by decide) rfl (fun ls hl => ?_)
  refine lv_aload_n hx hb dL_law_578 rfl (lv_at hl 4 rfl) ?_
  refine lv_iconst (v := 4) hx hb dL_law_579 (by decide) ?_
  refine gk_bald hx hb hK hP 2 rfl 4 (rfl) (by decide) (by decide) dL_law_580 ?_
  refine lv_bipush (v := 24) hx hb dL_law_581 (by decide) ?_
  refine lv_ishl hx hb dL_law_583 ?_
  refine lv_aload_n hx hb dL_law_584 rfl (lv_at hl 4 rfl) ?_
  refine lv_iconst (v := 5) hx hb dL_law_585 (by decide) ?_
  refine gk_bald hx hb hK hP 2 rfl 5 (rfl) (by decide) (by decide) dL_law_586 ?_
  refine lv_sipush (v := 255) hx hb dL_law_587 (by decide) ?_
  refine lv_iand hx hb dL_law_590 ?_
  refine lv_bipush (v := 16) hx hb dL_law_591 (by decide) ?_
  refine lv_ishl hx hb dL_law_593 ?_
  refine lv_ior hx hb dL_law_594 ?_
  refine lv_aload_n hx hb dL_law_595 rfl (lv_at hl 4 rfl) ?_
  refine lv_bipush (v := 6) hx hb dL_law_596 (by decide) ?_
  refine gk_bald hx hb hK hP 2 rfl 6 (rfl) (by decide) (by decide) dL_law_598 ?_
  refine lv_sipush (v := 255) hx hb dL_law_599 (by decide) ?_
  refine lv_iand hx hb dL_law_602 ?_
  refine lv_bipush (v := 8) hx hb dL_law_603 (by decide) ?_
  refine lv_ishl hx hb dL_law_605 ?_
  refine lv_ior hx hb dL_law_606 ?_
  refine lv_aload_n hx hb dL_law_607 rfl (lv_at hl 4 rfl) ?_
  refine lv_bipush (v := 7) hx hb dL_law_608 (by decide) ?_
  refine gk_bald hx hb hK hP 2 rfl 7 (rfl) (by decide) (by decide) dL_law_610 ?_
  refine lv_sipush (v := 255) hx hb dL_law_611 (by decide) ?_
  refine lv_iand hx hb dL_law_614 ?_
  refine lv_ior hx hb dL_law_615 ?_
  refine gk_top (y := gk_be B 4) (gk_be_law B 4) ?_
  refine lv_istore (lv' := [(8, .int (gk_be B 4)), (7, .int (gk_be B 0)), (0, .ref X.2.1), (1, .ref d), (2, .ref k2), (3, .ref b2), (5, .ref r1), (6, .ref wq)]) hx hb dL_law_616 hl (by decide) rfl (fun ls hl => ?_)
  refine lv_aload_n hx hb dL_law_618 rfl (lv_at hl 3 rfl) ?_
  refine lv_aload_n hx hb dL_law_619 rfl (lv_at hl 5 rfl) ?_
  refine lv_iload hx hb dL_law_620 (lv_at hl 1 rfl) ?_
  refine lv_sipush (v := 128) hx hb dL_law_622 (by decide) ?_
  refine lv_ixor hx hb dL_law_625 ?_
  refine lv_iload hx hb dL_law_626 (lv_at hl 0 rfl) ?_
  refine lv_sipush (v := 128) hx hb dL_law_628 (by decide) ?_
  refine lv_ixor hx hb dL_law_631 ?_
  refine gk_callv (wr := [gk_xb c oq 8 O, gk_xi c wq 8 (gk_bw K), gk_xb c r1 8 (gk_cry K B false), gk_xb c kq 32 K1, gk_xb c k2 32 K1]) (va_runS (As := [.ref d, .ref b2, .int ((gk_be B 0) ^^^ 128), .int ((gk_be B 4) ^^^ 128)]) (rest := []) ⟨hx, hb, hml, hown, hts⟩ (m_bl l G c X d kq bq oq b2 B B ((gk_be B 0) ^^^ 128) ((gk_be B 4) ^^^ 128) H.size) (va_cwS 4 hts (lw_S q328 q329 q7 q330) rfl rfl rfl (by decide +kernel) ⟨(Nat.le_of_ble_eq_true rfl), (Nat.le_of_ble_eq_true rfl)⟩) ⟨gk_blind, gk_pre hP hD hK hC hS hA [5, 0, 2] rfl (by decide)⟩ rfl rfl hl.1 rfl (lv_room (Nat.le_of_ble_eq_true rfl)) dL_law_632 ⟨(Nat.le_of_ble_eq_true rfl), (Nat.le_of_ble_eq_true rfl)⟩) hP hD hS hA [5, 0, 2] [1, 3, 4, 6, 7] rfl rfl (by decide) (by decide) (fun _ H locs _ hP hD hS => ?_)
  have hP : va_P G vwCl [gk_xb c oq 8 O, gk_xi c wq 8 (gk_bw K), gk_xb c r1 8 (gk_cry K B false), gk_xb c kq 32 K1, gk_xb c k2 32 K1, (d, .inr (0, [.ref kq, .ref bq, .ref oq])), gk_xb c bq 8 (gk_l2 B ((gk_be B 0) ^^^ 128) ((gk_be B 4) ^^^ 128)), gk_xb c b2 8 (gk_l2 B ((gk_be B 0) ^^^ 128) ((gk_be B 4) ^^^ 128))] H := hP
  have hD : va_D A [gk_xb c oq 8 O, gk_xi c wq 8 (gk_bw K), gk_xb c r1 8 (gk_cry K B false), gk_xb c kq 32 K1, gk_xb c k2 32 K1, (d, .inr (0, [.ref kq, .ref bq, .ref oq])), gk_xb c bq 8 (gk_l2 B ((gk_be B 0) ^^^ 128) ((gk_be B 4) ^^^ 128)), gk_xb c b2 8 (gk_l2 B ((gk_be B 0) ^^^ 128) ((gk_be B 4) ^^^ 128))] := hD
  have hTB : gk_turned 8 B (gk_l2 B ((gk_be B 0) ^^^ 128) ((gk_be B 4) ^^^ 128)) := gk_turnB B
  generalize gk_l2 B ((gk_be B 0) ^^^ 128) ((gk_be B 4) ^^^ 128) = B1 at hP hD hTB
  refine lv_aload_n hx hb dL_law_635 rfl (lv_at hl 3 rfl) ?_
  refine lv_iconst (v := 1) hx hb dL_law_636 (by decide) ?_
  refine gk_callv (wr := [gk_xi c wq 8 (gk_bw K), gk_xb c r1 8 (gk_cry K B false), gk_xb c k2 32 K1, gk_xb c b2 8 B1]) (va_runV (As := [.int 1]) (rest := []) ⟨hx, hb, hml, hown, hts⟩ (m_lk l G c X d kq bq oq K1 B1 O 1 H.size) (cwV 1 hts (lw_V q40 q41 q42 q8 q43) rfl rfl rfl (by decide +kernel) ⟨(Nat.le_of_ble_eq_true rfl), (Nat.le_of_ble_eq_true rfl)⟩) ⟨gk_blind, va_recv hK hP (ci := 0) (q0 := 5) rfl rfl, gk_pre hP hD hK hC hS hA [5, 3, 6, 0] rfl (by decide)⟩ rfl rfl hl.1 rfl (lv_room (Nat.le_of_ble_eq_true rfl)) dL_law_637 ⟨(Nat.le_of_ble_eq_true rfl), (Nat.le_of_ble_eq_true rfl)⟩) hP hD hS hA [5, 3, 6, 0] [1, 2, 4, 7] rfl rfl (by decide) (by decide) (fun _ H locs _ hP hD hS => ?_)
  have hP : va_P G vwCl [gk_xi c wq 8 (gk_bw K), gk_xb c r1 8 (gk_cry K B false), gk_xb c k2 32 K1, gk_xb c b2 8 B1, (d, .inr (0, [.ref kq, .ref bq, .ref oq])), gk_xb c kq 32 K1, gk_xb c bq 8 B1, gk_xb c oq 8 (gk_cry K1 B1 false)] H := hP
  have hD : va_D A [gk_xi c wq 8 (gk_bw K), gk_xb c r1 8 (gk_cry K B false), gk_xb c k2 32 K1, gk_xb c b2 8 B1, (d, .inr (0, [.ref kq, .ref bq, .ref oq])), gk_xb c kq 32 K1, gk_xb c bq 8 B1, gk_xb c oq 8 (gk_cry K1 B1 false)] := hD
  refine lv_aload hx hb dL_law_640 (lv_at hl 6 rfl) ?_
  refine lv_aload_n hx hb dL_law_642 rfl (lv_at hl 3 rfl) ?_
  refine gk_callr (wr := [gk_xi c wq 8 (gk_bw K), gk_xb c r1 8 (gk_cry K B false), gk_xb c k2 32 K1, gk_xb c b2 8 B1, gk_xb c kq 32 K1, gk_xb c bq 8 B1]) (va_runS (As := [.ref d]) (rest := [.ref r1]) ⟨hx, hb, hml, hown, hts⟩ (m_to l G c X d kq bq oq (gk_cry K1 B1 false) H.size) (va_cwS 1 hts (lw_S q345 q346 q7 q347) rfl rfl rfl (by decide +kernel) ⟨(Nat.le_of_ble_eq_true rfl), (Nat.le_of_ble_eq_true rfl)⟩) ⟨gk_blind, gk_pre hP hD hK hC hS hA [4, 7] rfl (by decide)⟩ rfl rfl hl.1 rfl (lv_room (Nat.le_of_ble_eq_true rfl)) dL_law_643 ⟨(Nat.le_of_ble_eq_true rfl), (Nat.le_of_ble_eq_true rfl)⟩) hP hD hS hA [4, 7] [0, 1, 2, 3, 5, 6] rfl rfl (by decide) (by decide) (fun _ r2 H locs _ hP hD hS => ?_)
  have hP : va_P G vwCl [gk_xi c wq 8 (gk_bw K), gk_xb c r1 8 (gk_cry K B false), gk_xb c k2 32 K1, gk_xb c b2 8 B1, gk_xb c kq 32 K1, gk_xb c bq 8 B1, (d, .inr (0, [.ref kq, .ref bq, .ref oq])), gk_xb c oq 8 (gk_cry K1 B1 false), gk_xb c r2 8 (gk_cry K1 B1 false)] H := hP
  have hD : va_D A [gk_xi c wq 8 (gk_bw K), gk_xb c r1 8 (gk_cry K B false), gk_xb c k2 32 K1, gk_xb c b2 8 B1, gk_xb c kq 32 K1, gk_xb c bq 8 B1, (d, .inr (0, [.ref kq, .ref bq, .ref oq])), gk_xb c oq 8 (gk_cry K1 B1 false), gk_xb c r2 8 (gk_cry K1 B1 false)] := hD
  refine lv_sipush (v := 128) hx hb dL_law_646 (by decide) ?_
  refine gk_calli (wr := [gk_xi c wq 8 (gk_bw K), gk_xb c k2 32 K1, gk_xb c b2 8 B1, gk_xb c kq 32 K1, gk_xb c bq 8 B1, (d, .inr (0, [.ref kq, .ref bq, .ref oq])), gk_xb c oq 8 (gk_cry K1 B1 false)]) (va_runS (As := [.ref r1, .ref r2, .int 128]) (rest := []) ⟨hx, hb, hml, hown, hts⟩ (m_sa l G c X r1 r2 (gk_cry K B false) (gk_cry K1 B1 false) 128 H.size (gk_turned_same (gk_turn false hT hTB))) (va_cwS 3 hts (lw_S q348 q349 q7 q350) rfl rfl rfl (by decide +kernel) ⟨(Nat.le_of_ble_eq_true rfl), (Nat.le_of_ble_eq_true rfl)⟩) ⟨gk_blind, gk_pre hP hD hK hC hS hA [1, 8] rfl (by decide)⟩ rfl rfl hl.1 rfl (lv_room (Nat.le_of_ble_eq_true rfl)) dL_law_649 ⟨(Nat.le_of_ble_eq_true rfl), (Nat.le_of_ble_eq_true rfl)⟩) hP hD hS hA [1, 8] [0, 2, 3, 4, 5, 6, 7] rfl rfl (by decide) (by decide) (fun r _ H locs hw hP hD hS => ?_)
  have hP : va_P G vwCl [gk_xi c wq 8 (gk_bw K), gk_xb c k2 32 K1, gk_xb c b2 8 B1, gk_xb c kq 32 K1, gk_xb c bq 8 B1, (d, .inr (0, [.ref kq, .ref bq, .ref oq])), gk_xb c oq 8 (gk_cry K1 B1 false), gk_xb c r1 8 (gk_cry K B false), gk_xb c r2 8 (gk_cry K1 B1 false)] H := hP
  have hD : va_D A [gk_xi c wq 8 (gk_bw K), gk_xb c k2 32 K1, gk_xb c b2 8 B1, gk_xb c kq 32 K1, gk_xb c bq 8 B1, (d, .inr (0, [.ref kq, .ref bq, .ref oq])), gk_xb c oq 8 (gk_cry K1 B1 false), gk_xb c r1 8 (gk_cry K B false), gk_xb c r2 8 (gk_cry K1 B1 false)] := hD
  have hw : r = 1 := hw
  subst hw
  refine lv_if_ne (tgt := 657) hx hb dL_law_652 (by decide) (fun _ => ?_) (fun h => absurd h (by decide))
  have hP : va_P G vwCl [(d, .inr (0, [.ref kq, .ref bq, .ref oq])), gk_xb c kq 32 K1, gk_xb c bq 8 B1, gk_xb c oq 8 (gk_cry K1 B1 false), gk_xb c k2 32 K1, gk_xb c b2 8 B1, gk_xi c wq 8 (gk_bw K)] H := gk_Psub hP [5, 3, 4, 6, 1, 2, 0] rfl
  have hD : va_D A [(d, .inr (0, [.ref kq, .ref bq, .ref oq])), gk_xb c kq 32 K1, gk_xb c bq 8 B1, gk_xb c oq 8 (gk_cry K1 B1 false), gk_xb c k2 32 K1, gk_xb c b2 8 B1, gk_xi c wq 8 (gk_bw K)] := hD.sub [5, 3, 4, 6, 1, 2, 0] (by decide) rfl
  refine W.widen (k := 800) (n := 8000) (Nat.le_of_ble_eq_true rfl) (Nat.le_of_ble_eq_true rfl) ?_
  exact hk _ _ _ _ _ _ hP hD hS ls (lv_sub hl [2, 3, 4, 5, 7] rfl)
set_option maxHeartbeats 8000000 in
set_option maxRecDepth 100000 in
/-- the first answer, the words of the key -/
theorem law_p2 (l : Launch) {p : Program} {e : Env} {s : State} {m : MethodId} {below : List Frame} {meth : Method} {cd : Code} {G : va_G} {c : gk_I} {X : gk_X} {A : Nat → Prop} {Q : State → Prop} (hL : X.2.2.1 ≤ 96) (hx : p.tables.exec = Jvm.exec) (hb : cd.code = cL_law) (hml : cd.maxLocals = 11) (hown : s.vm.findClass RX0 = some m.cls) (hts : ∀ w ∈ lw_all, w.before #[Value.ref X.2.1] s = true) (hK : va_K G vwCl (gk_T c) s) (hC : gk_C X A s s.heap) (hA : ∀ q : Nat, s.heap.size ≤ q → A q) {d kq bq oq k2 b2 : Nat} (K B O : Nat → Int8) (hk : ∀ (wq r1 : Nat) (O : Nat → Int8), ∀ (H : Heap) (locs : List Loc), va_P G vwCl [(d, .inr (0, [.ref kq, .ref bq, .ref oq])), gk_xb c kq 32 K, gk_xb c bq 8 B, gk_xb c oq 8 O, gk_xb c k2 32 K, gk_xb c b2 8 B, gk_xi c wq 8 (gk_bw K), gk_xb c r1 8 (gk_cry K B false)] H → va_D A [(d, .inr (0, [.ref kq, .ref bq, .ref oq])), gk_xb c kq 32 K, gk_xb c bq 8 B, gk_xb c oq 8 O, gk_xb c k2 32 K, gk_xb c b2 8 B, gk_xi c wq 8 (gk_bw K), gk_xb c r1 8 (gk_cry K B false)] → va_S A s.heap H locs → ∀ ls : Array Slot, lv_has ls 11 [(0, .ref X.2.1), (1, .ref d), (2, .ref k2), (3, .ref b2), (5, .ref r1), (6, .ref wq)] → W p l e room_1 s m #[Value.ref X.2.1] below meth cd H locs 780 7000 Q (F0 m 462 ls [])) : ∀ (H : Heap) (locs : List Loc), va_P G vwCl [(d, .inr (0, [.ref kq, .ref bq, .ref oq])), gk_xb c kq 32 K, gk_xb c bq 8 B, gk_xb c oq 8 O, gk_xb c k2 32 K, gk_xb c b2 8 B] H → va_D A [(d, .inr (0, [.ref kq, .ref bq, .ref oq])), gk_xb c kq 32 K, gk_xb c bq 8 B, gk_xb c oq 8 O, gk_xb c k2 32 K, gk_xb c b2 8 B] → va_S A s.heap H locs → ∀ ls : Array Slot, lv_has ls 11 [(0, .ref X.2.1), (1, .ref d), (2, .ref k2), (3, .ref b2)] → W p l e room_1 s m #[Value.ref X.2.1] below meth cd H locs 750 6500 Q (F0 m 370 ls []) := by
  intro H locs hP hD hS ls hl
  refine lv_aload_n hx hb dL_law_370 rfl (lv_at hl 1 rfl) ?_
  refine lv_iconst (v := 0) hx hb dL_law_371 (by decide) ?_
  refine gk_callv (wr := [gk_xb c k2 32 K, gk_xb c b2 8 B]) (va_runV (As := [.int 0]) (rest := []) ⟨hx, hb, hml, hown, hts⟩ (m_lk l G c X d kq bq oq K B O 0 H.size) (cwV 1 hts (lw_V q40 q41 q42 q8 q43) rfl rfl rfl (by decide +kernel) ⟨(Nat.le_of_ble_eq_true rfl), (Nat.le_of_ble_eq_true rfl)⟩) ⟨gk_blind, va_recv hK hP (ci := 0) (q0 := 0) rfl rfl, gk_pre hP hD hK hC hS hA [0, 1, 2, 3] rfl (by decide)⟩ rfl rfl hl.1 rfl (lv_room (Nat.le_of_ble_eq_true rfl)) dL_law_372 ⟨(Nat.le_of_ble_eq_true rfl), (Nat.le_of_ble_eq_true rfl)⟩) hP hD hS hA [0, 1, 2, 3] [4, 5] rfl rfl (by decide) (by decide) (fun _ H locs _ hP hD hS => ?_)
  have hP : va_P G vwCl [gk_xb c k2 32 K, gk_xb c b2 8 B, (d, .inr (0, [.ref kq, .ref bq, .ref oq])), gk_xb c kq 32 K, gk_xb c bq 8 B, gk_xb c oq 8 (gk_cry K B false)] H := hP
  have hD : va_D A [gk_xb c k2 32 K, gk_xb c b2 8 B, (d, .inr (0, [.ref kq, .ref bq, .ref oq])), gk_xb c kq 32 K, gk_xb c bq 8 B, gk_xb c oq 8 (gk_cry K B false)] := hD
  refine lv_aload_n hx hb dL_law_375 rfl (lv_at hl 1 rfl) ?_
  refine gk_callr (wr := [gk_xb c k2 32 K, gk_xb c b2 8 B, gk_xb c kq 32 K, gk_xb c bq 8 B]) (va_runS (As := [.ref d]) (rest := []) ⟨hx, hb, hml, hown, hts⟩ (m_to l G c X d kq bq oq (gk_cry K B false) H.size) (va_cwS 1 hts (lw_S q345 q346 q7 q347) rfl rfl rfl (by decide +kernel) ⟨(Nat.le_of_ble_eq_true rfl), (Nat.le_of_ble_eq_true rfl)⟩) ⟨gk_blind, gk_pre hP hD hK hC hS hA [2, 5] rfl (by decide)⟩ rfl rfl hl.1 rfl (lv_room (Nat.le_of_ble_eq_true rfl)) dL_law_376 ⟨(Nat.le_of_ble_eq_true rfl), (Nat.le_of_ble_eq_true rfl)⟩) hP hD hS hA [2, 5] [0, 1, 3, 4] rfl rfl (by decide) (by decide) (fun _ r1 H locs _ hP hD hS => ?_)
  have hP : va_P G vwCl [gk_xb c k2 32 K, gk_xb c b2 8 B, gk_xb c kq 32 K, gk_xb c bq 8 B, (d, .inr (0, [.ref kq, .ref bq, .ref oq])), gk_xb c oq 8 (gk_cry K B false), gk_xb c r1 8 (gk_cry K B false)] H := hP
  have hD : va_D A [gk_xb c k2 32 K, gk_xb c b2 8 B, gk_xb c kq 32 K, gk_xb c bq 8 B, (d, .inr (0, [.ref kq, .ref bq, .ref oq])), gk_xb c oq 8 (gk_cry K B false), gk_xb c r1 8 (gk_cry K B false)] := hD
  refine lv_astore (lv' := [(5, .ref r1), (0, .ref X.2.1), (1, .ref d), (2, .ref k2), (3, .ref b2)]) hx hb dL_law_379 hl (by decide) rfl (fun ls hl => ?_)
  refine lv_bipush (v := 8) hx hb dL_law_381 (by decide) ?_
  refine gk_newi hx hb (hts _ q251) hK hP hD hS hA 8 (rfl) (by decide) (Nat.le_of_ble_eq_true rfl) (Nat.le_of_ble_eq_true rfl) dL_law_383 (fun wq H hP hD hS => ?_)
  have hP : va_P G vwCl [gk_xb c k2 32 K, gk_xb c b2 8 B, gk_xb c kq 32 K, gk_xb c bq 8 B, (d, .inr (0, [.ref kq, .ref bq, .ref oq])), gk_xb c oq 8 (gk_cry K B false), gk_xb c r1 8 (gk_cry K B false), gk_xi c wq 8 (fun _ => 0)] H := hP
  have hD : va_D A [gk_xb c k2 32 K, gk_xb c b2 8 B, gk_xb c kq 32 K, gk_xb c bq 8 B, (d, .inr (0, [.ref kq, .ref bq, .ref oq])), gk_xb c oq 8 (gk_cry K B false), gk_xb c r1 8 (gk_cry K B false), gk_xi c wq 8 (fun _ => 0)] := hD
  refine lv_astore (lv' := [(6, .ref wq), (5, .ref r1), (0, .ref X.2.1), (1, .ref d), (2, .ref k2), (3, .ref b2)]) hx hb dL_law_385 hl (by decide) rfl (fun ls hl => ?_)
  refine lv_iconst (v := 0) hx hb dL_law_387 (by decide) ?_
  refine lv_istore (lv' := [(7, .int 0), (6, .ref wq), (5, .ref r1), (0, .ref X.2.1), (1, .ref d), (2, .ref k2), (3, .ref b2)]) hx hb dL_law_388 hl (by decide) rfl (fun ls hl => ?_)
  have hP : va_P G vwCl [gk_xb c k2 32 K, gk_xb c b2 8 B, gk_xb c kq 32 K, gk_xb c bq 8 B, (d, .inr (0, [.ref kq, .ref bq, .ref oq])), gk_xb c oq 8 (gk_cry K B false), gk_xb c r1 8 (gk_cry K B false), gk_xi c wq 8 (gk_cpi (gk_bw K) (fun _ => 0) 0)] H := gk_extI hP 7 rfl (gk_cpi (gk_bw K) (fun _ => 0) 0) (fun j _ => (congrFun (gk_cpi0 (gk_bw K) (fun _ => 0)) j).symm)
  have hD : va_D A [gk_xb c k2 32 K, gk_xb c b2 8 B, gk_xb c kq 32 K, gk_xb c bq 8 B, (d, .inr (0, [.ref kq, .ref bq, .ref oq])), gk_xb c oq 8 (gk_cry K B false), gk_xb c r1 8 (gk_cry K B false), gk_xi c wq 8 (gk_cpi (gk_bw K) (fun _ => 0) 0)] := va_D.set (p := 7) hD rfl
  have hP : va_P G vwCl [(d, .inr (0, [.ref kq, .ref bq, .ref oq])), gk_xb c kq 32 K, gk_xb c bq 8 B, gk_xb c oq 8 (gk_cry K B false), gk_xb c k2 32 K, gk_xb c b2 8 B, gk_xi c wq 8 (gk_cpi (gk_bw K) (fun _ => 0) 0), gk_xb c r1 8 (gk_cry K B false)] H := gk_Psub hP [4, 2, 3, 5, 0, 1, 7, 6] rfl
  have hD : va_D A [(d, .inr (0, [.ref kq, .ref bq, .ref oq])), gk_xb c kq 32 K, gk_xb c bq 8 B, gk_xb c oq 8 (gk_cry K B false), gk_xb c k2 32 K, gk_xb c b2 8 B, gk_xi c wq 8 (gk_cpi (gk_bw K) (fun _ => 0) 0), gk_xb c r1 8 (gk_cry K B false)] := hD.sub [4, 2, 3, 5, 0, 1, 7, 6] (by decide) rfl
  have loop : ∀ (n k : Nat), k + n = 8 → ∀ (H : Heap) (locs : List Loc), va_P G vwCl [(d, .inr (0, [.ref kq, .ref bq, .ref oq])), gk_xb c kq 32 K, gk_xb c bq 8 B, gk_xb c oq 8 (gk_cry K B false), gk_xb c k2 32 K, gk_xb c b2 8 B, gk_xi c wq 8 (gk_cpi (gk_bw K) (fun _ => 0) k), gk_xb c r1 8 (gk_cry K B false)] H → va_D A [(d, .inr (0, [.ref kq, .ref bq, .ref oq])), gk_xb c kq 32 K, gk_xb c bq 8 B, gk_xb c oq 8 (gk_cry K B false), gk_xb c k2 32 K, gk_xb c b2 8 B, gk_xi c wq 8 (gk_cpi (gk_bw K) (fun _ => 0) k), gk_xb c r1 8 (gk_cry K B false)] → va_S A s.heap H locs → ∀ ls : Array Slot, lv_has ls 11 [(0, .ref X.2.1), (1, .ref d), (2, .ref k2), (3, .ref b2), (5, .ref r1), (6, .ref wq), (7, .int (nI k))] → W p l e room_1 s m #[Value.ref X.2.1] below meth cd H locs 780 7000 Q (F0 m 390 ls []) := by
    intro n
    induction n with
    | zero =>
      intro k hk8 H locs hP hD hS ls hl
      obtain rfl : k = 8 := by omega
      refine lv_iload hx hb dL_law_390 (lv_at hl 6 rfl) ?_
      refine lv_bipush (v := 8) hx hb dL_law_392 (by decide) ?_
      refine gk_jge (tgt := 462) hx hb 8 8 rfl rfl (by decide) (by decide) dL_law_394 (by decide) (fun _ => ?_) (fun h => absurd h (by decide))
      have hP : va_P G vwCl [(d, .inr (0, [.ref kq, .ref bq, .ref oq])), gk_xb c kq 32 K, gk_xb c bq 8 B, gk_xb c oq 8 (gk_cry K B false), gk_xb c k2 32 K, gk_xb c b2 8 B, gk_xi c wq 8 (gk_bw K), gk_xb c r1 8 (gk_cry K B false)] H := gk_extI hP 6 rfl (gk_bw K) (fun j hj => gk_cpiN (gk_bw K) (fun _ => 0) 8 j hj)
      have hD : va_D A [(d, .inr (0, [.ref kq, .ref bq, .ref oq])), gk_xb c kq 32 K, gk_xb c bq 8 B, gk_xb c oq 8 (gk_cry K B false), gk_xb c k2 32 K, gk_xb c b2 8 B, gk_xi c wq 8 (gk_bw K), gk_xb c r1 8 (gk_cry K B false)] := va_D.set (p := 6) hD rfl
      exact hk _ _ _ _ _ hP hD hS ls (lv_sub hl [0, 1, 2, 3, 4, 5] rfl)
    | succ n ih =>
      intro k hk8 H locs hP hD hS ls hl
      refine lv_iload hx hb dL_law_390 (lv_at hl 6 rfl) ?_
      refine lv_bipush (v := 8) hx hb dL_law_392 (by decide) ?_
      refine gk_jge (tgt := 462) hx hb k 8 rfl rfl (by omega) (by decide) dL_law_394 (by decide) (fun h => absurd h (by omega)) (fun h8 => ?_)
      refine lv_aload hx hb dL_law_397 (lv_at hl 5 rfl) ?_
      refine lv_iload hx hb dL_law_399 (lv_at hl 6 rfl) ?_
      refine lv_aload_n hx hb dL_law_401 rfl (lv_at hl 2 rfl) ?_
      refine lv_iconst (v := 4) hx hb dL_law_402 (by decide) ?_
      refine lv_iload hx hb dL_law_403 (lv_at hl 6 rfl) ?_
      refine lv_imul hx hb dL_law_405 ?_
      refine gk_top (y := nI (4 * k)) (pk_mul 4 k) ?_
      refine gk_bald hx hb hK hP 4 rfl (4 * k) (rfl) (by omega) (by decide) dL_law_406 ?_
      refine lv_bipush (v := 24) hx hb dL_law_407 (by decide) ?_
      refine lv_ishl hx hb dL_law_409 ?_
      refine lv_aload_n hx hb dL_law_410 rfl (lv_at hl 2 rfl) ?_
      refine lv_iconst (v := 4) hx hb dL_law_411 (by decide) ?_
      refine lv_iload hx hb dL_law_412 (lv_at hl 6 rfl) ?_
      refine lv_imul hx hb dL_law_414 ?_
      refine gk_top (y := nI (4 * k)) (pk_mul 4 k) ?_
      refine lv_iconst (v := 1) hx hb dL_law_415 (by decide) ?_
      refine lv_iadd hx hb dL_law_416 ?_
      refine gk_top (y := nI (4 * k + 1)) (nI_add (4 * k) 1) ?_
      refine gk_bald hx hb hK hP 4 rfl (4 * k + 1) (rfl) (by omega) (by decide) dL_law_417 ?_
      refine lv_sipush (v := 255) hx hb dL_law_418 (by decide) ?_
      refine lv_iand hx hb dL_law_421 ?_
      refine lv_bipush (v := 16) hx hb dL_law_422 (by decide) ?_
      refine lv_ishl hx hb dL_law_424 ?_
      refine lv_ior hx hb dL_law_425 ?_
      refine lv_aload_n hx hb dL_law_426 rfl (lv_at hl 2 rfl) ?_
      refine lv_iconst (v := 4) hx hb dL_law_427 (by decide) ?_
      refine lv_iload hx hb dL_law_428 (lv_at hl 6 rfl) ?_
      refine lv_imul hx hb dL_law_430 ?_
      refine gk_top (y := nI (4 * k)) (pk_mul 4 k) ?_
      refine lv_iconst (v := 2) hx hb dL_law_431 (by decide) ?_
      refine lv_iadd hx hb dL_law_432 ?_
      refine gk_top (y := nI (4 * k + 2)) (nI_add (4 * k) 2) ?_
      refine gk_bald hx hb hK hP 4 rfl (4 * k + 2) (rfl) (by omega) (by decide) dL_law_433 ?_
      refine lv_sipush (v := 255) hx hb dL_law_434 (by decide) ?_
      refine lv_iand hx hb dL_law_437 ?_
      refine lv_bipush (v := 8) hx hb dL_law_438 (by decide) ?_
      refine lv_ishl hx hb dL_law_440 ?_
      refine lv_ior hx hb dL_law_441 ?_
      refine lv_aload_n hx hb dL_law_442 rfl (lv_at hl 2 rfl) ?_
      refine lv_iconst (v := 4) hx hb dL_law_443 (by decide) ?_
      refine lv_iload hx hb dL_law_444 (lv_at hl 6 rfl) ?_
      refine lv_imul hx hb dL_law_446 ?_
      refine gk_top (y := nI (4 * k)) (pk_mul 4 k) ?_
      refine lv_iconst (v := 3) hx hb dL_law_447 (by decide) ?_
      refine lv_iadd hx hb dL_law_448 ?_
      refine gk_top (y := nI (4 * k + 3)) (nI_add (4 * k) 3) ?_
      refine gk_bald hx hb hK hP 4 rfl (4 * k + 3) (rfl) (by omega) (by decide) dL_law_449 ?_
      refine lv_sipush (v := 255) hx hb dL_law_450 (by decide) ?_
      refine lv_iand hx hb dL_law_453 ?_
      refine lv_ior hx hb dL_law_454 ?_
      refine gk_top (y := gk_bw K k) (gk_be_law K (4 * k)) ?_
      refine gk_iast hx hb hK hP hD hS 6 rfl k (rfl) (by omega) (by decide) dL_law_455 (fun H locs hP hD hS => ?_)
      have hP : va_P G vwCl [(d, .inr (0, [.ref kq, .ref bq, .ref oq])), gk_xb c kq 32 K, gk_xb c bq 8 B, gk_xb c oq 8 (gk_cry K B false), gk_xb c k2 32 K, gk_xb c b2 8 B, gk_xi c wq 8 (upd (gk_cpi (gk_bw K) (fun _ => 0) k) k (gk_bw K k)), gk_xb c r1 8 (gk_cry K B false)] H := hP
      have hD : va_D A [(d, .inr (0, [.ref kq, .ref bq, .ref oq])), gk_xb c kq 32 K, gk_xb c bq 8 B, gk_xb c oq 8 (gk_cry K B false), gk_xb c k2 32 K, gk_xb c b2 8 B, gk_xi c wq 8 (upd (gk_cpi (gk_bw K) (fun _ => 0) k) k (gk_bw K k)), gk_xb c r1 8 (gk_cry K B false)] := hD
      have hP : va_P G vwCl [(d, .inr (0, [.ref kq, .ref bq, .ref oq])), gk_xb c kq 32 K, gk_xb c bq 8 B, gk_xb c oq 8 (gk_cry K B false), gk_xb c k2 32 K, gk_xb c b2 8 B, gk_xi c wq 8 (gk_cpi (gk_bw K) (fun _ => 0) (k + 1)), gk_xb c r1 8 (gk_cry K B false)] H := gk_extI hP 6 rfl (gk_cpi (gk_bw K) (fun _ => 0) (k + 1)) (fun j _ => congrFun (gk_cpi1 (gk_bw K) (fun _ => 0) k) j)
      have hD : va_D A [(d, .inr (0, [.ref kq, .ref bq, .ref oq])), gk_xb c kq 32 K, gk_xb c bq 8 B, gk_xb c oq 8 (gk_cry K B false), gk_xb c k2 32 K, gk_xb c b2 8 B, gk_xi c wq 8 (gk_cpi (gk_bw K) (fun _ => 0) (k + 1)), gk_xb c r1 8 (gk_cry K B false)] := va_D.set (p := 6) hD rfl
      refine lv_iinc (v := nI (k + 1)) (lv' := [(7, .int (nI (k + 1))), (0, .ref X.2.1), (1, .ref d), (2, .ref k2), (3, .ref b2), (5, .ref r1), (6, .ref wq)]) hx hb dL_law_456 hl (k := 6) rfl (gk_inc k) (by decide) rfl (fun ls hl => ?_)
      refine lv_goto (tgt := 390) hx hb dL_law_459 (by decide) ?_
      exact ih (k + 1) (by omega) _ _ hP hD hS ls (lv_sub hl [1, 2, 3, 4, 5, 6, 0] rfl)
  refine W.widen (k := 780) (n := 7000) (Nat.le_of_ble_eq_true rfl) (Nat.le_of_ble_eq_true rfl) ?_
  exact loop 8 0 rfl _ _ hP hD hS ls (lv_sub hl [3, 4, 5, 6, 2, 1, 0] rfl)
set_option maxHeartbeats 8000000 in
set_option maxRecDepth 100000 in
/-- way 0: there and back -/
theorem law_w0 (l : Launch) {p : Program} {e : Env} {s : State} {m : MethodId} {below : List Frame} {meth : Method} {cd : Code} {G : va_G} {c : gk_I} {X : gk_X} {A : Nat → Prop} {Q : State → Prop} (hL : X.2.2.1 ≤ 96) (hx : p.tables.exec = Jvm.exec) (hb : cd.code = cL_law) (hml : cd.maxLocals = 11) (hown : s.vm.findClass RX0 = some m.cls) (hts : ∀ w ∈ lw_all, w.before #[Value.ref X.2.1] s = true) (hK : va_K G vwCl (gk_T c) s) (hC : gk_C X A s s.heap) (hA : ∀ q : Nat, s.heap.size ≤ q → A q) {d kq bq oq k2 b2 : Nat} (K B O : Nat → Int8) (hk : ∀ (O : Nat → Int8), ∀ (H : Heap) (locs : List Loc), va_P G vwCl [(d, .inr (0, [.ref kq, .ref bq, .ref oq])), gk_xb c kq 32 K, gk_xb c bq 8 B, gk_xb c oq 8 O, gk_xb c k2 32 K, gk_xb c b2 8 B] H → va_D A [(d, .inr (0, [.ref kq, .ref bq, .ref oq])), gk_xb c kq 32 K, gk_xb c bq 8 B, gk_xb c oq 8 O, gk_xb c k2 32 K, gk_xb c b2 8 B] → va_S A s.heap H locs → ∀ ls : Array Slot, lv_has ls 11 [(0, .ref X.2.1), (1, .ref d), (2, .ref k2), (3, .ref b2), (5, .int (nI 1))] → W p l e room_1 s m #[Value.ref X.2.1] below meth cd H locs 700 6050 Q (F0 m 256 ls [])) : ∀ (H : Heap) (locs : List Loc), va_P G vwCl [(d, .inr (0, [.ref kq, .ref bq, .ref oq])), gk_xb c kq 32 K, gk_xb c bq 8 B, gk_xb c oq 8 O, gk_xb c k2 32 K, gk_xb c b2 8 B] H → va_D A [(d, .inr (0, [.ref kq, .ref bq, .ref oq])), gk_xb c kq 32 K, gk_xb c bq 8 B, gk_xb c oq 8 O, gk_xb c k2 32 K, gk_xb c b2 8 B] → va_S A s.heap H locs → ∀ ls : Array Slot, lv_has ls 11 [(0, .ref X.2.1), (1, .ref d), (2, .ref k2), (3, .ref b2), (5, .int (nI 0))] → W p l e room_1 s m #[Value.ref X.2.1] below meth cd H locs 650 5600 Q (F0 m 256 ls []) := by
  intro H locs hP hD hS ls hl
  refine lv_iload hx hb dL_law_256 (lv_at hl 4 rfl) ?_
  refine lv_iconst (v := 2) hx hb dL_law_258 (by decide) ?_
  refine gk_jge (tgt := 370) hx hb 0 2 rfl rfl (by decide) (by decide) dL_law_259 (by decide) (fun h => absurd h (by decide)) (fun _ => ?_)
  refine lv_iload hx hb dL_law_262 (lv_at hl 4 rfl) ?_
  refine gk_zne (tgt := 279) hx hb 0 rfl (by decide) dL_law_264 (by decide) (fun h => absurd rfl h) (fun _ => ?_)
  refine lv_aload_n hx hb dL_law_267 rfl (lv_at hl 1 rfl) ?_
  refine lv_aload_n hx hb dL_law_268 rfl (lv_at hl 0 rfl) ?_
  refine lv_iconst (v := 1) hx hb dL_law_269 (by decide) ?_
  refine gk_calli (wr := [(d, .inr (0, [.ref kq, .ref bq, .ref oq])), gk_xb c kq 32 K, gk_xb c bq 8 B, gk_xb c oq 8 O, gk_xb c k2 32 K, gk_xb c b2 8 B]) (va_runS (As := [.ref X.2.1, .int (nI (1))]) (rest := [.ref d]) ⟨hx, hb, hml, hown, hts⟩ (m_cl l G c X (1) H.size hL (by omega)) (va_cwS 2 hts (lw_S q289 q290 q7 q291) rfl rfl rfl (by decide +kernel) ⟨(Nat.le_of_ble_eq_true rfl), (Nat.le_of_ble_eq_true rfl)⟩) ⟨gk_blind, gk_pre hP hD hK hC hS hA [] rfl (by decide)⟩ rfl rfl hl.1 rfl (lv_room (Nat.le_of_ble_eq_true rfl)) dL_law_270 ⟨(Nat.le_of_ble_eq_true rfl), (Nat.le_of_ble_eq_true rfl)⟩) hP hD hS hA [] [0, 1, 2, 3, 4, 5] rfl rfl (by decide) (by decide) (fun r _ H locs hw hP hD hS => ?_)
  have hP : va_P G vwCl [(d, .inr (0, [.ref kq, .ref bq, .ref oq])), gk_xb c kq 32 K, gk_xb c bq 8 B, gk_xb c oq 8 O, gk_xb c k2 32 K, gk_xb c b2 8 B] H := hP
  have hD : va_D A [(d, .inr (0, [.ref kq, .ref bq, .ref oq])), gk_xb c kq 32 K, gk_xb c bq 8 B, gk_xb c oq 8 O, gk_xb c k2 32 K, gk_xb c b2 8 B] := hD
  have hw : r = gk_ce X (1) := hw
  subst hw
  refine gk_callv (wr := [gk_xb c k2 32 K, gk_xb c b2 8 B]) (va_runV (As := [.int (gk_ce X (1))]) (rest := []) ⟨hx, hb, hml, hown, hts⟩ (m_lk l G c X d kq bq oq K B O (gk_ce X (1)) H.size) (cwV 1 hts (lw_V q40 q41 q42 q8 q43) rfl rfl rfl (by decide +kernel) ⟨(Nat.le_of_ble_eq_true rfl), (Nat.le_of_ble_eq_true rfl)⟩) ⟨gk_blind, va_recv hK hP (ci := 0) (q0 := 0) rfl rfl, gk_pre hP hD hK hC hS hA [0, 1, 2, 3] rfl (by decide)⟩ rfl rfl hl.1 rfl (lv_room (Nat.le_of_ble_eq_true rfl)) dL_law_273 ⟨(Nat.le_of_ble_eq_true rfl), (Nat.le_of_ble_eq_true rfl)⟩) hP hD hS hA [0, 1, 2, 3] [4, 5] rfl rfl (by decide) (by decide) (fun _ H locs _ hP hD hS => ?_)
  have hP : va_P G vwCl [gk_xb c k2 32 K, gk_xb c b2 8 B, (d, .inr (0, [.ref kq, .ref bq, .ref oq])), gk_xb c kq 32 K, gk_xb c bq 8 B, gk_xb c oq 8 (gk_cry K B false)] H := hP
  have hD : va_D A [gk_xb c k2 32 K, gk_xb c b2 8 B, (d, .inr (0, [.ref kq, .ref bq, .ref oq])), gk_xb c kq 32 K, gk_xb c bq 8 B, gk_xb c oq 8 (gk_cry K B false)] := hD
  refine lv_goto (tgt := 288) hx hb dL_law_276 (by decide) ?_
  refine lv_aload_n hx hb dL_law_288 rfl (lv_at hl 1 rfl) ?_
  refine lv_aload_n hx hb dL_law_289 rfl (lv_at hl 2 rfl) ?_
  refine lv_aload_n hx hb dL_law_290 rfl (lv_at hl 3 rfl) ?_
  refine lv_iload hx hb dL_law_291 (lv_at hl 4 rfl) ?_
  refine lv_iconst (v := 1) hx hb dL_law_293 (by decide) ?_
  refine gk_jne (tgt := 301) hx hb 0 1 rfl rfl (by decide) (by decide) dL_law_294 (by decide) (fun _ => ?_) (fun h => absurd h (by decide))
  refine lv_iconst (v := 0) hx hb dL_law_301 (by decide) ?_
  refine gk_callr (wr := [(d, .inr (0, [.ref kq, .ref bq, .ref oq])), gk_xb c kq 32 K, gk_xb c bq 8 B, gk_xb c oq 8 (gk_cry K B false)]) (va_runS (As := [.ref k2, .ref b2, .int (gk_oi false)]) (rest := [.ref d]) ⟨hx, hb, hml, hown, hts⟩ (m_du l G c X k2 b2 K B false H.size) (va_cwS 3 hts (lw_S q296 q297 q7 q298) rfl rfl rfl (by decide +kernel) ⟨(Nat.le_of_ble_eq_true rfl), (Nat.le_of_ble_eq_true rfl)⟩) ⟨gk_blind, gk_pre hP hD hK hC hS hA [0, 1] rfl (by decide)⟩ rfl rfl hl.1 rfl (lv_room (Nat.le_of_ble_eq_true rfl)) dL_law_302 ⟨(Nat.le_of_ble_eq_true rfl), (Nat.le_of_ble_eq_true rfl)⟩) hP hD hS hA [0, 1] [2, 3, 4, 5] rfl rfl (by decide) (by decide) (fun _ r5 H locs _ hP hD hS => ?_)
  have hP : va_P G vwCl [(d, .inr (0, [.ref kq, .ref bq, .ref oq])), gk_xb c kq 32 K, gk_xb c bq 8 B, gk_xb c oq 8 (gk_cry K B false), gk_xb c k2 32 K, gk_xb c b2 8 B, gk_xb c r5 8 (gk_cry K B false)] H := hP
  have hD : va_D A [(d, .inr (0, [.ref kq, .ref bq, .ref oq])), gk_xb c kq 32 K, gk_xb c bq 8 B, gk_xb c oq 8 (gk_cry K B false), gk_xb c k2 32 K, gk_xb c b2 8 B, gk_xb c r5 8 (gk_cry K B false)] := hD
  refine lv_iload hx hb dL_law_305 (lv_at hl 4 rfl) ?_
  refine gk_calli (wr := [gk_xb c kq 32 K, gk_xb c bq 8 B, gk_xb c k2 32 K, gk_xb c b2 8 B]) (va_runS (As := [.ref d, .ref r5, .int (nI 0)]) (rest := []) ⟨hx, hb, hml, hown, hts⟩ (m_sh l G c X d kq bq oq r5 (gk_cry K B false) (gk_cry K B false) (nI 0) H.size (fun _ _ => rfl)) (va_cwS 3 hts (lw_S q335 q336 q7 q337) rfl rfl rfl (by decide +kernel) ⟨(Nat.le_of_ble_eq_true rfl), (Nat.le_of_ble_eq_true rfl)⟩) ⟨gk_blind, gk_pre hP hD hK hC hS hA [0, 3, 6] rfl (by decide)⟩ rfl rfl hl.1 rfl (lv_room (Nat.le_of_ble_eq_true rfl)) dL_law_307 ⟨(Nat.le_of_ble_eq_true rfl), (Nat.le_of_ble_eq_true rfl)⟩) hP hD hS hA [0, 3, 6] [1, 2, 4, 5] rfl rfl (by decide) (by decide) (fun r _ H locs hw hP hD hS => ?_)
  have hP : va_P G vwCl [gk_xb c kq 32 K, gk_xb c bq 8 B, gk_xb c k2 32 K, gk_xb c b2 8 B, (d, .inr (0, [.ref kq, .ref bq, .ref oq])), gk_xb c oq 8 (gk_cry K B false), gk_xb c r5 8 (gk_cry K B false)] H := hP
  have hD : va_D A [gk_xb c kq 32 K, gk_xb c bq 8 B, gk_xb c k2 32 K, gk_xb c b2 8 B, (d, .inr (0, [.ref kq, .ref bq, .ref oq])), gk_xb c oq 8 (gk_cry K B false), gk_xb c r5 8 (gk_cry K B false)] := hD
  have hw : r = 1 := hw
  subst hw
  refine lv_if_ne (tgt := 315) hx hb dL_law_310 (by decide) (fun _ => ?_) (fun h => absurd h (by decide))
  refine lv_aload_n hx hb dL_law_315 rfl (lv_at hl 1 rfl) ?_
  refine gk_callv (wr := [gk_xb c kq 32 K, gk_xb c k2 32 K, gk_xb c b2 8 B, gk_xb c r5 8 (gk_cry K B false)]) (va_runV (As := []) (rest := []) ⟨hx, hb, hml, hown, hts⟩ (m_ag l G c X d kq bq oq B (gk_cry K B false) H.size) (cwV 0 hts (lw_V q285 q286 q287 q8 q288) rfl rfl rfl (by decide +kernel) ⟨(Nat.le_of_ble_eq_true rfl), (Nat.le_of_ble_eq_true rfl)⟩) ⟨gk_blind, va_recv hK hP (ci := 0) (q0 := 4) rfl rfl, gk_pre hP hD hK hC hS hA [4, 1, 5] rfl (by decide)⟩ rfl rfl hl.1 rfl (lv_room (Nat.le_of_ble_eq_true rfl)) dL_law_316 ⟨(Nat.le_of_ble_eq_true rfl), (Nat.le_of_ble_eq_true rfl)⟩) hP hD hS hA [4, 1, 5] [0, 2, 3, 6] rfl rfl (by decide) (by decide) (fun _ H locs _ hP hD hS => ?_)
  have hP : va_P G vwCl [gk_xb c kq 32 K, gk_xb c k2 32 K, gk_xb c b2 8 B, gk_xb c r5 8 (gk_cry K B false), (d, .inr (0, [.ref kq, .ref bq, .ref oq])), gk_xb c bq 8 (gk_cry K B false), gk_xb c oq 8 (gk_cry K B false)] H := hP
  have hD : va_D A [gk_xb c kq 32 K, gk_xb c k2 32 K, gk_xb c b2 8 B, gk_xb c r5 8 (gk_cry K B false), (d, .inr (0, [.ref kq, .ref bq, .ref oq])), gk_xb c bq 8 (gk_cry K B false), gk_xb c oq 8 (gk_cry K B false)] := hD
  refine lv_iload hx hb dL_law_319 (lv_at hl 4 rfl) ?_
  refine gk_zne (tgt := 336) hx hb 0 rfl (by decide) dL_law_321 (by decide) (fun h => absurd rfl h) (fun _ => ?_)
  refine lv_aload_n hx hb dL_law_324 rfl (lv_at hl 1 rfl) ?_
  refine lv_aload_n hx hb dL_law_325 rfl (lv_at hl 0 rfl) ?_
  refine lv_iconst (v := 3) hx hb dL_law_326 (by decide) ?_
  refine gk_calli (wr := [gk_xb c kq 32 K, gk_xb c k2 32 K, gk_xb c b2 8 B, gk_xb c r5 8 (gk_cry K B false), (d, .inr (0, [.ref kq, .ref bq, .ref oq])), gk_xb c bq 8 (gk_cry K B false), gk_xb c oq 8 (gk_cry K B false)]) (va_runS (As := [.ref X.2.1, .int (nI (3))]) (rest := [.ref d]) ⟨hx, hb, hml, hown, hts⟩ (m_cl l G c X (3) H.size hL (by omega)) (va_cwS 2 hts (lw_S q289 q290 q7 q291) rfl rfl rfl (by decide +kernel) ⟨(Nat.le_of_ble_eq_true rfl), (Nat.le_of_ble_eq_true rfl)⟩) ⟨gk_blind, gk_pre hP hD hK hC hS hA [] rfl (by decide)⟩ rfl rfl hl.1 rfl (lv_room (Nat.le_of_ble_eq_true rfl)) dL_law_327 ⟨(Nat.le_of_ble_eq_true rfl), (Nat.le_of_ble_eq_true rfl)⟩) hP hD hS hA [] [0, 1, 2, 3, 4, 5, 6] rfl rfl (by decide) (by decide) (fun r _ H locs hw hP hD hS => ?_)
  have hP : va_P G vwCl [gk_xb c kq 32 K, gk_xb c k2 32 K, gk_xb c b2 8 B, gk_xb c r5 8 (gk_cry K B false), (d, .inr (0, [.ref kq, .ref bq, .ref oq])), gk_xb c bq 8 (gk_cry K B false), gk_xb c oq 8 (gk_cry K B false)] H := hP
  have hD : va_D A [gk_xb c kq 32 K, gk_xb c k2 32 K, gk_xb c b2 8 B, gk_xb c r5 8 (gk_cry K B false), (d, .inr (0, [.ref kq, .ref bq, .ref oq])), gk_xb c bq 8 (gk_cry K B false), gk_xb c oq 8 (gk_cry K B false)] := hD
  have hw : r = gk_ce X (3) := hw
  subst hw
  refine gk_callv (wr := [gk_xb c k2 32 K, gk_xb c b2 8 B, gk_xb c r5 8 (gk_cry K B false)]) (va_runV (As := [.int (gk_ce X (3))]) (rest := []) ⟨hx, hb, hml, hown, hts⟩ (m_op l G c X d kq bq oq K (gk_cry K B false) (gk_cry K B false) (gk_ce X (3)) H.size) (cwV 1 hts (lw_V q281 q282 q283 q8 q284) rfl rfl rfl (by decide +kernel) ⟨(Nat.le_of_ble_eq_true rfl), (Nat.le_of_ble_eq_true rfl)⟩) ⟨gk_blind, va_recv hK hP (ci := 0) (q0 := 4) rfl rfl, gk_pre hP hD hK hC hS hA [4, 0, 5, 6] rfl (by decide)⟩ rfl rfl hl.1 rfl (lv_room (Nat.le_of_ble_eq_true rfl)) dL_law_330 ⟨(Nat.le_of_ble_eq_true rfl), (Nat.le_of_ble_eq_true rfl)⟩) hP hD hS hA [4, 0, 5, 6] [1, 2, 3] rfl rfl (by decide) (by decide) (fun _ H locs _ hP hD hS => ?_)
  have hP : va_P G vwCl [gk_xb c k2 32 K, gk_xb c b2 8 B, gk_xb c r5 8 (gk_cry K B false), (d, .inr (0, [.ref kq, .ref bq, .ref oq])), gk_xb c kq 32 K, gk_xb c bq 8 (gk_cry K B false), gk_xb c oq 8 (gk_cry K (gk_cry K B false) true)] H := hP
  have hD : va_D A [gk_xb c k2 32 K, gk_xb c b2 8 B, gk_xb c r5 8 (gk_cry K B false), (d, .inr (0, [.ref kq, .ref bq, .ref oq])), gk_xb c kq 32 K, gk_xb c bq 8 (gk_cry K B false), gk_xb c oq 8 (gk_cry K (gk_cry K B false) true)] := hD
  refine lv_goto (tgt := 345) hx hb dL_law_333 (by decide) ?_
  refine lv_aload_n hx hb dL_law_345 rfl (lv_at hl 1 rfl) ?_
  refine lv_aload_n hx hb dL_law_346 rfl (lv_at hl 3 rfl) ?_
  refine lv_aload_n hx hb dL_law_347 rfl (lv_at hl 0 rfl) ?_
  refine lv_iconst (v := 5) hx hb dL_law_348 (by decide) ?_
  refine gk_calli (wr := [gk_xb c k2 32 K, gk_xb c b2 8 B, gk_xb c r5 8 (gk_cry K B false), (d, .inr (0, [.ref kq, .ref bq, .ref oq])), gk_xb c kq 32 K, gk_xb c bq 8 (gk_cry K B false), gk_xb c oq 8 (gk_cry K (gk_cry K B false) true)]) (va_runS (As := [.ref X.2.1, .int (nI (5))]) (rest := [.ref b2, .ref d]) ⟨hx, hb, hml, hown, hts⟩ (m_cl l G c X (5) H.size hL (by omega)) (va_cwS 2 hts (lw_S q289 q290 q7 q291) rfl rfl rfl (by decide +kernel) ⟨(Nat.le_of_ble_eq_true rfl), (Nat.le_of_ble_eq_true rfl)⟩) ⟨gk_blind, gk_pre hP hD hK hC hS hA [] rfl (by decide)⟩ rfl rfl hl.1 rfl (lv_room (Nat.le_of_ble_eq_true rfl)) dL_law_349 ⟨(Nat.le_of_ble_eq_true rfl), (Nat.le_of_ble_eq_true rfl)⟩) hP hD hS hA [] [0, 1, 2, 3, 4, 5, 6] rfl rfl (by decide) (by decide) (fun r _ H locs hw hP hD hS => ?_)
  have hP : va_P G vwCl [gk_xb c k2 32 K, gk_xb c b2 8 B, gk_xb c r5 8 (gk_cry K B false), (d, .inr (0, [.ref kq, .ref bq, .ref oq])), gk_xb c kq 32 K, gk_xb c bq 8 (gk_cry K B false), gk_xb c oq 8 (gk_cry K (gk_cry K B false) true)] H := hP
  have hD : va_D A [gk_xb c k2 32 K, gk_xb c b2 8 B, gk_xb c r5 8 (gk_cry K B false), (d, .inr (0, [.ref kq, .ref bq, .ref oq])), gk_xb c kq 32 K, gk_xb c bq 8 (gk_cry K B false), gk_xb c oq 8 (gk_cry K (gk_cry K B false) true)] := hD
  have hw : r = gk_ce X (5) := hw
  subst hw
  refine gk_calli (wr := [gk_xb c k2 32 K, gk_xb c r5 8 (gk_cry K B false), gk_xb c kq 32 K, gk_xb c bq 8 (gk_cry K B false)]) (va_runS (As := [.ref d, .ref b2, .int (gk_ce X (5))]) (rest := []) ⟨hx, hb, hml, hown, hts⟩ (m_sh l G c X d kq bq oq b2 (gk_cry K (gk_cry K B false) true) B (gk_ce X (5)) H.size (fun j hj => gk_trip K B false j hj)) (va_cwS 3 hts (lw_S q335 q336 q7 q337) rfl rfl rfl (by decide +kernel) ⟨(Nat.le_of_ble_eq_true rfl), (Nat.le_of_ble_eq_true rfl)⟩) ⟨gk_blind, gk_pre hP hD hK hC hS hA [3, 6, 1] rfl (by decide)⟩ rfl rfl hl.1 rfl (lv_room (Nat.le_of_ble_eq_true rfl)) dL_law_352 ⟨(Nat.le_of_ble_eq_true rfl), (Nat.le_of_ble_eq_true rfl)⟩) hP hD hS hA [3, 6, 1] [0, 2, 4, 5] rfl rfl (by decide) (by decide) (fun r _ H locs hw hP hD hS => ?_)
  have hP : va_P G vwCl [gk_xb c k2 32 K, gk_xb c r5 8 (gk_cry K B false), gk_xb c kq 32 K, gk_xb c bq 8 (gk_cry K B false), (d, .inr (0, [.ref kq, .ref bq, .ref oq])), gk_xb c oq 8 (gk_cry K (gk_cry K B false) true), gk_xb c b2 8 B] H := hP
  have hD : va_D A [gk_xb c k2 32 K, gk_xb c r5 8 (gk_cry K B false), gk_xb c kq 32 K, gk_xb c bq 8 (gk_cry K B false), (d, .inr (0, [.ref kq, .ref bq, .ref oq])), gk_xb c oq 8 (gk_cry K (gk_cry K B false) true), gk_xb c b2 8 B] := hD
  have hw : r = 1 := hw
  subst hw
  refine lv_if_ne (tgt := 360) hx hb dL_law_355 (by decide) (fun _ => ?_) (fun h => absurd h (by decide))
  refine lv_aload_n hx hb dL_law_360 rfl (lv_at hl 1 rfl) ?_
  refine gk_callv (wr := [gk_xb c k2 32 K, gk_xb c r5 8 (gk_cry K B false), gk_xb c kq 32 K, gk_xb c b2 8 B]) (va_runV (As := []) (rest := []) ⟨hx, hb, hml, hown, hts⟩ (m_ag l G c X d kq bq oq (gk_cry K B false) (gk_cry K (gk_cry K B false) true) H.size) (cwV 0 hts (lw_V q285 q286 q287 q8 q288) rfl rfl rfl (by decide +kernel) ⟨(Nat.le_of_ble_eq_true rfl), (Nat.le_of_ble_eq_true rfl)⟩) ⟨gk_blind, va_recv hK hP (ci := 0) (q0 := 4) rfl rfl, gk_pre hP hD hK hC hS hA [4, 3, 5] rfl (by decide)⟩ rfl rfl hl.1 rfl (lv_room (Nat.le_of_ble_eq_true rfl)) dL_law_361 ⟨(Nat.le_of_ble_eq_true rfl), (Nat.le_of_ble_eq_true rfl)⟩) hP hD hS hA [4, 3, 5] [0, 1, 2, 6] rfl rfl (by decide) (by decide) (fun _ H locs _ hP hD hS => ?_)
  have hP : va_P G vwCl [gk_xb c k2 32 K, gk_xb c r5 8 (gk_cry K B false), gk_xb c kq 32 K, gk_xb c b2 8 B, (d, .inr (0, [.ref kq, .ref bq, .ref oq])), gk_xb c bq 8 (gk_cry K (gk_cry K B false) true), gk_xb c oq 8 (gk_cry K (gk_cry K B false) true)] H := hP
  have hD : va_D A [gk_xb c k2 32 K, gk_xb c r5 8 (gk_cry K B false), gk_xb c kq 32 K, gk_xb c b2 8 B, (d, .inr (0, [.ref kq, .ref bq, .ref oq])), gk_xb c bq 8 (gk_cry K (gk_cry K B false) true), gk_xb c oq 8 (gk_cry K (gk_cry K B false) true)] := hD
  have hP : va_P G vwCl [gk_xb c k2 32 K, gk_xb c r5 8 (gk_cry K B false), gk_xb c kq 32 K, gk_xb c b2 8 B, (d, .inr (0, [.ref kq, .ref bq, .ref oq])), gk_xb c bq 8 B, gk_xb c oq 8 (gk_cry K (gk_cry K B false) true)] H := gk_ext hP 5 rfl B (fun j hj => gk_trip K B false j hj)
  have hD : va_D A [gk_xb c k2 32 K, gk_xb c r5 8 (gk_cry K B false), gk_xb c kq 32 K, gk_xb c b2 8 B, (d, .inr (0, [.ref kq, .ref bq, .ref oq])), gk_xb c bq 8 B, gk_xb c oq 8 (gk_cry K (gk_cry K B false) true)] := va_D.set (p := 5) hD rfl
  refine lv_iinc (v := nI (0 + 1)) (lv' := [(5, .int (nI (0 + 1))), (0, .ref X.2.1), (1, .ref d), (2, .ref k2), (3, .ref b2)]) hx hb dL_law_364 hl (k := 4) rfl (gk_inc 0) (by decide) rfl (fun ls hl => ?_)
  refine lv_goto (tgt := 256) hx hb dL_law_367 (by decide) ?_
  have hP : va_P G vwCl [(d, .inr (0, [.ref kq, .ref bq, .ref oq])), gk_xb c kq 32 K, gk_xb c bq 8 B, gk_xb c oq 8 (gk_cry K (gk_cry K B false) true), gk_xb c k2 32 K, gk_xb c b2 8 B] H := gk_Psub hP [4, 2, 5, 6, 0, 3] rfl
  have hD : va_D A [(d, .inr (0, [.ref kq, .ref bq, .ref oq])), gk_xb c kq 32 K, gk_xb c bq 8 B, gk_xb c oq 8 (gk_cry K (gk_cry K B false) true), gk_xb c k2 32 K, gk_xb c b2 8 B] := hD.sub [4, 2, 5, 6, 0, 3] (by decide) rfl
  refine W.widen (k := 700) (n := 6050) (Nat.le_of_ble_eq_true rfl) (Nat.le_of_ble_eq_true rfl) ?_
  exact hk _ _ _ hP hD hS ls (lv_sub hl [1, 2, 3, 4, 0] rfl)
set_option maxHeartbeats 8000000 in
set_option maxRecDepth 100000 in
/-- way 1: there and back -/
theorem law_w1 (l : Launch) {p : Program} {e : Env} {s : State} {m : MethodId} {below : List Frame} {meth : Method} {cd : Code} {G : va_G} {c : gk_I} {X : gk_X} {A : Nat → Prop} {Q : State → Prop} (hL : X.2.2.1 ≤ 96) (hx : p.tables.exec = Jvm.exec) (hb : cd.code = cL_law) (hml : cd.maxLocals = 11) (hown : s.vm.findClass RX0 = some m.cls) (hts : ∀ w ∈ lw_all, w.before #[Value.ref X.2.1] s = true) (hK : va_K G vwCl (gk_T c) s) (hC : gk_C X A s s.heap) (hA : ∀ q : Nat, s.heap.size ≤ q → A q) {d kq bq oq k2 b2 : Nat} (K B O : Nat → Int8) (hk : ∀ (O : Nat → Int8), ∀ (H : Heap) (locs : List Loc), va_P G vwCl [(d, .inr (0, [.ref kq, .ref bq, .ref oq])), gk_xb c kq 32 K, gk_xb c bq 8 B, gk_xb c oq 8 O, gk_xb c k2 32 K, gk_xb c b2 8 B] H → va_D A [(d, .inr (0, [.ref kq, .ref bq, .ref oq])), gk_xb c kq 32 K, gk_xb c bq 8 B, gk_xb c oq 8 O, gk_xb c k2 32 K, gk_xb c b2 8 B] → va_S A s.heap H locs → ∀ ls : Array Slot, lv_has ls 11 [(0, .ref X.2.1), (1, .ref d), (2, .ref k2), (3, .ref b2), (5, .int (nI 2))] → W p l e room_1 s m #[Value.ref X.2.1] below meth cd H locs 750 6500 Q (F0 m 256 ls [])) : ∀ (H : Heap) (locs : List Loc), va_P G vwCl [(d, .inr (0, [.ref kq, .ref bq, .ref oq])), gk_xb c kq 32 K, gk_xb c bq 8 B, gk_xb c oq 8 O, gk_xb c k2 32 K, gk_xb c b2 8 B] H → va_D A [(d, .inr (0, [.ref kq, .ref bq, .ref oq])), gk_xb c kq 32 K, gk_xb c bq 8 B, gk_xb c oq 8 O, gk_xb c k2 32 K, gk_xb c b2 8 B] → va_S A s.heap H locs → ∀ ls : Array Slot, lv_has ls 11 [(0, .ref X.2.1), (1, .ref d), (2, .ref k2), (3, .ref b2), (5, .int (nI 1))] → W p l e room_1 s m #[Value.ref X.2.1] below meth cd H locs 700 6050 Q (F0 m 256 ls []) := by
  intro H locs hP hD hS ls hl
  refine lv_iload hx hb dL_law_256 (lv_at hl 4 rfl) ?_
  refine lv_iconst (v := 2) hx hb dL_law_258 (by decide) ?_
  refine gk_jge (tgt := 370) hx hb 1 2 rfl rfl (by decide) (by decide) dL_law_259 (by decide) (fun h => absurd h (by decide)) (fun _ => ?_)
  refine lv_iload hx hb dL_law_262 (lv_at hl 4 rfl) ?_
  refine gk_zne (tgt := 279) hx hb 1 rfl (by decide) dL_law_264 (by decide) (fun _ => ?_) (fun h => absurd h (by decide))
  refine lv_aload_n hx hb dL_law_279 rfl (lv_at hl 1 rfl) ?_
  refine lv_aload_n hx hb dL_law_280 rfl (lv_at hl 0 rfl) ?_
  refine lv_iconst (v := 2) hx hb dL_law_281 (by decide) ?_
  refine gk_calli (wr := [(d, .inr (0, [.ref kq, .ref bq, .ref oq])), gk_xb c kq 32 K, gk_xb c bq 8 B, gk_xb c oq 8 O, gk_xb c k2 32 K, gk_xb c b2 8 B]) (va_runS (As := [.ref X.2.1, .int (nI (2))]) (rest := [.ref d]) ⟨hx, hb, hml, hown, hts⟩ (m_cl l G c X (2) H.size hL (by omega)) (va_cwS 2 hts (lw_S q289 q290 q7 q291) rfl rfl rfl (by decide +kernel) ⟨(Nat.le_of_ble_eq_true rfl), (Nat.le_of_ble_eq_true rfl)⟩) ⟨gk_blind, gk_pre hP hD hK hC hS hA [] rfl (by decide)⟩ rfl rfl hl.1 rfl (lv_room (Nat.le_of_ble_eq_true rfl)) dL_law_282 ⟨(Nat.le_of_ble_eq_true rfl), (Nat.le_of_ble_eq_true rfl)⟩) hP hD hS hA [] [0, 1, 2, 3, 4, 5] rfl rfl (by decide) (by decide) (fun r _ H locs hw hP hD hS => ?_)
  have hP : va_P G vwCl [(d, .inr (0, [.ref kq, .ref bq, .ref oq])), gk_xb c kq 32 K, gk_xb c bq 8 B, gk_xb c oq 8 O, gk_xb c k2 32 K, gk_xb c b2 8 B] H := hP
  have hD : va_D A [(d, .inr (0, [.ref kq, .ref bq, .ref oq])), gk_xb c kq 32 K, gk_xb c bq 8 B, gk_xb c oq 8 O, gk_xb c k2 32 K, gk_xb c b2 8 B] := hD
  have hw : r = gk_ce X (2) := hw
  subst hw
  refine gk_callv (wr := [gk_xb c k2 32 K, gk_xb c b2 8 B]) (va_runV (As := [.int (gk_ce X (2))]) (rest := []) ⟨hx, hb, hml, hown, hts⟩ (m_op l G c X d kq bq oq K B O (gk_ce X (2)) H.size) (cwV 1 hts (lw_V q281 q282 q283 q8 q284) rfl rfl rfl (by decide +kernel) ⟨(Nat.le_of_ble_eq_true rfl), (Nat.le_of_ble_eq_true rfl)⟩) ⟨gk_blind, va_recv hK hP (ci := 0) (q0 := 0) rfl rfl, gk_pre hP hD hK hC hS hA [0, 1, 2, 3] rfl (by decide)⟩ rfl rfl hl.1 rfl (lv_room (Nat.le_of_ble_eq_true rfl)) dL_law_285 ⟨(Nat.le_of_ble_eq_true rfl), (Nat.le_of_ble_eq_true rfl)⟩) hP hD hS hA [0, 1, 2, 3] [4, 5] rfl rfl (by decide) (by decide) (fun _ H locs _ hP hD hS => ?_)
  have hP : va_P G vwCl [gk_xb c k2 32 K, gk_xb c b2 8 B, (d, .inr (0, [.ref kq, .ref bq, .ref oq])), gk_xb c kq 32 K, gk_xb c bq 8 B, gk_xb c oq 8 (gk_cry K B true)] H := hP
  have hD : va_D A [gk_xb c k2 32 K, gk_xb c b2 8 B, (d, .inr (0, [.ref kq, .ref bq, .ref oq])), gk_xb c kq 32 K, gk_xb c bq 8 B, gk_xb c oq 8 (gk_cry K B true)] := hD
  refine lv_aload_n hx hb dL_law_288 rfl (lv_at hl 1 rfl) ?_
  refine lv_aload_n hx hb dL_law_289 rfl (lv_at hl 2 rfl) ?_
  refine lv_aload_n hx hb dL_law_290 rfl (lv_at hl 3 rfl) ?_
  refine lv_iload hx hb dL_law_291 (lv_at hl 4 rfl) ?_
  refine lv_iconst (v := 1) hx hb dL_law_293 (by decide) ?_
  refine gk_jne (tgt := 301) hx hb 1 1 rfl rfl (by decide) (by decide) dL_law_294 (by decide) (fun h => absurd rfl h) (fun _ => ?_)
  refine lv_iconst (v := 1) hx hb dL_law_297 (by decide) ?_
  refine lv_goto (tgt := 302) hx hb dL_law_298 (by decide) ?_
  refine gk_callr (wr := [(d, .inr (0, [.ref kq, .ref bq, .ref oq])), gk_xb c kq 32 K, gk_xb c bq 8 B, gk_xb c oq 8 (gk_cry K B true)]) (va_runS (As := [.ref k2, .ref b2, .int (gk_oi true)]) (rest := [.ref d]) ⟨hx, hb, hml, hown, hts⟩ (m_du l G c X k2 b2 K B true H.size) (va_cwS 3 hts (lw_S q296 q297 q7 q298) rfl rfl rfl (by decide +kernel) ⟨(Nat.le_of_ble_eq_true rfl), (Nat.le_of_ble_eq_true rfl)⟩) ⟨gk_blind, gk_pre hP hD hK hC hS hA [0, 1] rfl (by decide)⟩ rfl rfl hl.1 rfl (lv_room (Nat.le_of_ble_eq_true rfl)) dL_law_302 ⟨(Nat.le_of_ble_eq_true rfl), (Nat.le_of_ble_eq_true rfl)⟩) hP hD hS hA [0, 1] [2, 3, 4, 5] rfl rfl (by decide) (by decide) (fun _ r5 H locs _ hP hD hS => ?_)
  have hP : va_P G vwCl [(d, .inr (0, [.ref kq, .ref bq, .ref oq])), gk_xb c kq 32 K, gk_xb c bq 8 B, gk_xb c oq 8 (gk_cry K B true), gk_xb c k2 32 K, gk_xb c b2 8 B, gk_xb c r5 8 (gk_cry K B true)] H := hP
  have hD : va_D A [(d, .inr (0, [.ref kq, .ref bq, .ref oq])), gk_xb c kq 32 K, gk_xb c bq 8 B, gk_xb c oq 8 (gk_cry K B true), gk_xb c k2 32 K, gk_xb c b2 8 B, gk_xb c r5 8 (gk_cry K B true)] := hD
  refine lv_iload hx hb dL_law_305 (lv_at hl 4 rfl) ?_
  refine gk_calli (wr := [gk_xb c kq 32 K, gk_xb c bq 8 B, gk_xb c k2 32 K, gk_xb c b2 8 B]) (va_runS (As := [.ref d, .ref r5, .int (nI 1)]) (rest := []) ⟨hx, hb, hml, hown, hts⟩ (m_sh l G c X d kq bq oq r5 (gk_cry K B true) (gk_cry K B true) (nI 1) H.size (fun _ _ => rfl)) (va_cwS 3 hts (lw_S q335 q336 q7 q337) rfl rfl rfl (by decide +kernel) ⟨(Nat.le_of_ble_eq_true rfl), (Nat.le_of_ble_eq_true rfl)⟩) ⟨gk_blind, gk_pre hP hD hK hC hS hA [0, 3, 6] rfl (by decide)⟩ rfl rfl hl.1 rfl (lv_room (Nat.le_of_ble_eq_true rfl)) dL_law_307 ⟨(Nat.le_of_ble_eq_true rfl), (Nat.le_of_ble_eq_true rfl)⟩) hP hD hS hA [0, 3, 6] [1, 2, 4, 5] rfl rfl (by decide) (by decide) (fun r _ H locs hw hP hD hS => ?_)
  have hP : va_P G vwCl [gk_xb c kq 32 K, gk_xb c bq 8 B, gk_xb c k2 32 K, gk_xb c b2 8 B, (d, .inr (0, [.ref kq, .ref bq, .ref oq])), gk_xb c oq 8 (gk_cry K B true), gk_xb c r5 8 (gk_cry K B true)] H := hP
  have hD : va_D A [gk_xb c kq 32 K, gk_xb c bq 8 B, gk_xb c k2 32 K, gk_xb c b2 8 B, (d, .inr (0, [.ref kq, .ref bq, .ref oq])), gk_xb c oq 8 (gk_cry K B true), gk_xb c r5 8 (gk_cry K B true)] := hD
  have hw : r = 1 := hw
  subst hw
  refine lv_if_ne (tgt := 315) hx hb dL_law_310 (by decide) (fun _ => ?_) (fun h => absurd h (by decide))
  refine lv_aload_n hx hb dL_law_315 rfl (lv_at hl 1 rfl) ?_
  refine gk_callv (wr := [gk_xb c kq 32 K, gk_xb c k2 32 K, gk_xb c b2 8 B, gk_xb c r5 8 (gk_cry K B true)]) (va_runV (As := []) (rest := []) ⟨hx, hb, hml, hown, hts⟩ (m_ag l G c X d kq bq oq B (gk_cry K B true) H.size) (cwV 0 hts (lw_V q285 q286 q287 q8 q288) rfl rfl rfl (by decide +kernel) ⟨(Nat.le_of_ble_eq_true rfl), (Nat.le_of_ble_eq_true rfl)⟩) ⟨gk_blind, va_recv hK hP (ci := 0) (q0 := 4) rfl rfl, gk_pre hP hD hK hC hS hA [4, 1, 5] rfl (by decide)⟩ rfl rfl hl.1 rfl (lv_room (Nat.le_of_ble_eq_true rfl)) dL_law_316 ⟨(Nat.le_of_ble_eq_true rfl), (Nat.le_of_ble_eq_true rfl)⟩) hP hD hS hA [4, 1, 5] [0, 2, 3, 6] rfl rfl (by decide) (by decide) (fun _ H locs _ hP hD hS => ?_)
  have hP : va_P G vwCl [gk_xb c kq 32 K, gk_xb c k2 32 K, gk_xb c b2 8 B, gk_xb c r5 8 (gk_cry K B true), (d, .inr (0, [.ref kq, .ref bq, .ref oq])), gk_xb c bq 8 (gk_cry K B true), gk_xb c oq 8 (gk_cry K B true)] H := hP
  have hD : va_D A [gk_xb c kq 32 K, gk_xb c k2 32 K, gk_xb c b2 8 B, gk_xb c r5 8 (gk_cry K B true), (d, .inr (0, [.ref kq, .ref bq, .ref oq])), gk_xb c bq 8 (gk_cry K B true), gk_xb c oq 8 (gk_cry K B true)] := hD
  refine lv_iload hx hb dL_law_319 (lv_at hl 4 rfl) ?_
  refine gk_zne (tgt := 336) hx hb 1 rfl (by decide) dL_law_321 (by decide) (fun _ => ?_) (fun h => absurd h (by decide))
  refine lv_aload_n hx hb dL_law_336 rfl (lv_at hl 1 rfl) ?_
  refine lv_aload_n hx hb dL_law_337 rfl (lv_at hl 0 rfl) ?_
  refine lv_iconst (v := 4) hx hb dL_law_338 (by decide) ?_
  refine gk_calli (wr := [gk_xb c kq 32 K, gk_xb c k2 32 K, gk_xb c b2 8 B, gk_xb c r5 8 (gk_cry K B true), (d, .inr (0, [.ref kq, .ref bq, .ref oq])), gk_xb c bq 8 (gk_cry K B true), gk_xb c oq 8 (gk_cry K B true)]) (va_runS (As := [.ref X.2.1, .int (nI (4))]) (rest := [.ref d]) ⟨hx, hb, hml, hown, hts⟩ (m_cl l G c X (4) H.size hL (by omega)) (va_cwS 2 hts (lw_S q289 q290 q7 q291) rfl rfl rfl (by decide +kernel) ⟨(Nat.le_of_ble_eq_true rfl), (Nat.le_of_ble_eq_true rfl)⟩) ⟨gk_blind, gk_pre hP hD hK hC hS hA [] rfl (by decide)⟩ rfl rfl hl.1 rfl (lv_room (Nat.le_of_ble_eq_true rfl)) dL_law_339 ⟨(Nat.le_of_ble_eq_true rfl), (Nat.le_of_ble_eq_true rfl)⟩) hP hD hS hA [] [0, 1, 2, 3, 4, 5, 6] rfl rfl (by decide) (by decide) (fun r _ H locs hw hP hD hS => ?_)
  have hP : va_P G vwCl [gk_xb c kq 32 K, gk_xb c k2 32 K, gk_xb c b2 8 B, gk_xb c r5 8 (gk_cry K B true), (d, .inr (0, [.ref kq, .ref bq, .ref oq])), gk_xb c bq 8 (gk_cry K B true), gk_xb c oq 8 (gk_cry K B true)] H := hP
  have hD : va_D A [gk_xb c kq 32 K, gk_xb c k2 32 K, gk_xb c b2 8 B, gk_xb c r5 8 (gk_cry K B true), (d, .inr (0, [.ref kq, .ref bq, .ref oq])), gk_xb c bq 8 (gk_cry K B true), gk_xb c oq 8 (gk_cry K B true)] := hD
  have hw : r = gk_ce X (4) := hw
  subst hw
  refine gk_callv (wr := [gk_xb c k2 32 K, gk_xb c b2 8 B, gk_xb c r5 8 (gk_cry K B true)]) (va_runV (As := [.int (gk_ce X (4))]) (rest := []) ⟨hx, hb, hml, hown, hts⟩ (m_lk l G c X d kq bq oq K (gk_cry K B true) (gk_cry K B true) (gk_ce X (4)) H.size) (cwV 1 hts (lw_V q40 q41 q42 q8 q43) rfl rfl rfl (by decide +kernel) ⟨(Nat.le_of_ble_eq_true rfl), (Nat.le_of_ble_eq_true rfl)⟩) ⟨gk_blind, va_recv hK hP (ci := 0) (q0 := 4) rfl rfl, gk_pre hP hD hK hC hS hA [4, 0, 5, 6] rfl (by decide)⟩ rfl rfl hl.1 rfl (lv_room (Nat.le_of_ble_eq_true rfl)) dL_law_342 ⟨(Nat.le_of_ble_eq_true rfl), (Nat.le_of_ble_eq_true rfl)⟩) hP hD hS hA [4, 0, 5, 6] [1, 2, 3] rfl rfl (by decide) (by decide) (fun _ H locs _ hP hD hS => ?_)
  have hP : va_P G vwCl [gk_xb c k2 32 K, gk_xb c b2 8 B, gk_xb c r5 8 (gk_cry K B true), (d, .inr (0, [.ref kq, .ref bq, .ref oq])), gk_xb c kq 32 K, gk_xb c bq 8 (gk_cry K B true), gk_xb c oq 8 (gk_cry K (gk_cry K B true) false)] H := hP
  have hD : va_D A [gk_xb c k2 32 K, gk_xb c b2 8 B, gk_xb c r5 8 (gk_cry K B true), (d, .inr (0, [.ref kq, .ref bq, .ref oq])), gk_xb c kq 32 K, gk_xb c bq 8 (gk_cry K B true), gk_xb c oq 8 (gk_cry K (gk_cry K B true) false)] := hD
  refine lv_aload_n hx hb dL_law_345 rfl (lv_at hl 1 rfl) ?_
  refine lv_aload_n hx hb dL_law_346 rfl (lv_at hl 3 rfl) ?_
  refine lv_aload_n hx hb dL_law_347 rfl (lv_at hl 0 rfl) ?_
  refine lv_iconst (v := 5) hx hb dL_law_348 (by decide) ?_
  refine gk_calli (wr := [gk_xb c k2 32 K, gk_xb c b2 8 B, gk_xb c r5 8 (gk_cry K B true), (d, .inr (0, [.ref kq, .ref bq, .ref oq])), gk_xb c kq 32 K, gk_xb c bq 8 (gk_cry K B true), gk_xb c oq 8 (gk_cry K (gk_cry K B true) false)]) (va_runS (As := [.ref X.2.1, .int (nI (5))]) (rest := [.ref b2, .ref d]) ⟨hx, hb, hml, hown, hts⟩ (m_cl l G c X (5) H.size hL (by omega)) (va_cwS 2 hts (lw_S q289 q290 q7 q291) rfl rfl rfl (by decide +kernel) ⟨(Nat.le_of_ble_eq_true rfl), (Nat.le_of_ble_eq_true rfl)⟩) ⟨gk_blind, gk_pre hP hD hK hC hS hA [] rfl (by decide)⟩ rfl rfl hl.1 rfl (lv_room (Nat.le_of_ble_eq_true rfl)) dL_law_349 ⟨(Nat.le_of_ble_eq_true rfl), (Nat.le_of_ble_eq_true rfl)⟩) hP hD hS hA [] [0, 1, 2, 3, 4, 5, 6] rfl rfl (by decide) (by decide) (fun r _ H locs hw hP hD hS => ?_)
  have hP : va_P G vwCl [gk_xb c k2 32 K, gk_xb c b2 8 B, gk_xb c r5 8 (gk_cry K B true), (d, .inr (0, [.ref kq, .ref bq, .ref oq])), gk_xb c kq 32 K, gk_xb c bq 8 (gk_cry K B true), gk_xb c oq 8 (gk_cry K (gk_cry K B true) false)] H := hP
  have hD : va_D A [gk_xb c k2 32 K, gk_xb c b2 8 B, gk_xb c r5 8 (gk_cry K B true), (d, .inr (0, [.ref kq, .ref bq, .ref oq])), gk_xb c kq 32 K, gk_xb c bq 8 (gk_cry K B true), gk_xb c oq 8 (gk_cry K (gk_cry K B true) false)] := hD
  have hw : r = gk_ce X (5) := hw
  subst hw
  refine gk_calli (wr := [gk_xb c k2 32 K, gk_xb c r5 8 (gk_cry K B true), gk_xb c kq 32 K, gk_xb c bq 8 (gk_cry K B true)]) (va_runS (As := [.ref d, .ref b2, .int (gk_ce X (5))]) (rest := []) ⟨hx, hb, hml, hown, hts⟩ (m_sh l G c X d kq bq oq b2 (gk_cry K (gk_cry K B true) false) B (gk_ce X (5)) H.size (fun j hj => gk_trip K B true j hj)) (va_cwS 3 hts (lw_S q335 q336 q7 q337) rfl rfl rfl (by decide +kernel) ⟨(Nat.le_of_ble_eq_true rfl), (Nat.le_of_ble_eq_true rfl)⟩) ⟨gk_blind, gk_pre hP hD hK hC hS hA [3, 6, 1] rfl (by decide)⟩ rfl rfl hl.1 rfl (lv_room (Nat.le_of_ble_eq_true rfl)) dL_law_352 ⟨(Nat.le_of_ble_eq_true rfl), (Nat.le_of_ble_eq_true rfl)⟩) hP hD hS hA [3, 6, 1] [0, 2, 4, 5] rfl rfl (by decide) (by decide) (fun r _ H locs hw hP hD hS => ?_)
  have hP : va_P G vwCl [gk_xb c k2 32 K, gk_xb c r5 8 (gk_cry K B true), gk_xb c kq 32 K, gk_xb c bq 8 (gk_cry K B true), (d, .inr (0, [.ref kq, .ref bq, .ref oq])), gk_xb c oq 8 (gk_cry K (gk_cry K B true) false), gk_xb c b2 8 B] H := hP
  have hD : va_D A [gk_xb c k2 32 K, gk_xb c r5 8 (gk_cry K B true), gk_xb c kq 32 K, gk_xb c bq 8 (gk_cry K B true), (d, .inr (0, [.ref kq, .ref bq, .ref oq])), gk_xb c oq 8 (gk_cry K (gk_cry K B true) false), gk_xb c b2 8 B] := hD
  have hw : r = 1 := hw
  subst hw
  refine lv_if_ne (tgt := 360) hx hb dL_law_355 (by decide) (fun _ => ?_) (fun h => absurd h (by decide))
  refine lv_aload_n hx hb dL_law_360 rfl (lv_at hl 1 rfl) ?_
  refine gk_callv (wr := [gk_xb c k2 32 K, gk_xb c r5 8 (gk_cry K B true), gk_xb c kq 32 K, gk_xb c b2 8 B]) (va_runV (As := []) (rest := []) ⟨hx, hb, hml, hown, hts⟩ (m_ag l G c X d kq bq oq (gk_cry K B true) (gk_cry K (gk_cry K B true) false) H.size) (cwV 0 hts (lw_V q285 q286 q287 q8 q288) rfl rfl rfl (by decide +kernel) ⟨(Nat.le_of_ble_eq_true rfl), (Nat.le_of_ble_eq_true rfl)⟩) ⟨gk_blind, va_recv hK hP (ci := 0) (q0 := 4) rfl rfl, gk_pre hP hD hK hC hS hA [4, 3, 5] rfl (by decide)⟩ rfl rfl hl.1 rfl (lv_room (Nat.le_of_ble_eq_true rfl)) dL_law_361 ⟨(Nat.le_of_ble_eq_true rfl), (Nat.le_of_ble_eq_true rfl)⟩) hP hD hS hA [4, 3, 5] [0, 1, 2, 6] rfl rfl (by decide) (by decide) (fun _ H locs _ hP hD hS => ?_)
  have hP : va_P G vwCl [gk_xb c k2 32 K, gk_xb c r5 8 (gk_cry K B true), gk_xb c kq 32 K, gk_xb c b2 8 B, (d, .inr (0, [.ref kq, .ref bq, .ref oq])), gk_xb c bq 8 (gk_cry K (gk_cry K B true) false), gk_xb c oq 8 (gk_cry K (gk_cry K B true) false)] H := hP
  have hD : va_D A [gk_xb c k2 32 K, gk_xb c r5 8 (gk_cry K B true), gk_xb c kq 32 K, gk_xb c b2 8 B, (d, .inr (0, [.ref kq, .ref bq, .ref oq])), gk_xb c bq 8 (gk_cry K (gk_cry K B true) false), gk_xb c oq 8 (gk_cry K (gk_cry K B true) false)] := hD
  have hP : va_P G vwCl [gk_xb c k2 32 K, gk_xb c r5 8 (gk_cry K B true), gk_xb c kq 32 K, gk_xb c b2 8 B, (d, .inr (0, [.ref kq, .ref bq, .ref oq])), gk_xb c bq 8 B, gk_xb c oq 8 (gk_cry K (gk_cry K B true) false)] H := gk_ext hP 5 rfl B (fun j hj => gk_trip K B true j hj)
  have hD : va_D A [gk_xb c k2 32 K, gk_xb c r5 8 (gk_cry K B true), gk_xb c kq 32 K, gk_xb c b2 8 B, (d, .inr (0, [.ref kq, .ref bq, .ref oq])), gk_xb c bq 8 B, gk_xb c oq 8 (gk_cry K (gk_cry K B true) false)] := va_D.set (p := 5) hD rfl
  refine lv_iinc (v := nI (1 + 1)) (lv' := [(5, .int (nI (1 + 1))), (0, .ref X.2.1), (1, .ref d), (2, .ref k2), (3, .ref b2)]) hx hb dL_law_364 hl (k := 4) rfl (gk_inc 1) (by decide) rfl (fun ls hl => ?_)
  refine lv_goto (tgt := 256) hx hb dL_law_367 (by decide) ?_
  have hP : va_P G vwCl [(d, .inr (0, [.ref kq, .ref bq, .ref oq])), gk_xb c kq 32 K, gk_xb c bq 8 B, gk_xb c oq 8 (gk_cry K (gk_cry K B true) false), gk_xb c k2 32 K, gk_xb c b2 8 B] H := gk_Psub hP [4, 2, 5, 6, 0, 3] rfl
  have hD : va_D A [(d, .inr (0, [.ref kq, .ref bq, .ref oq])), gk_xb c kq 32 K, gk_xb c bq 8 B, gk_xb c oq 8 (gk_cry K (gk_cry K B true) false), gk_xb c k2 32 K, gk_xb c b2 8 B] := hD.sub [4, 2, 5, 6, 0, 3] (by decide) rfl
  refine W.widen (k := 750) (n := 6500) (Nat.le_of_ble_eq_true rfl) (Nat.le_of_ble_eq_true rfl) ?_
  exact hk _ _ _ hP hD hS ls (lv_sub hl [1, 2, 3, 4, 0] rfl)
set_option maxHeartbeats 8000000 in
set_option maxRecDepth 100000 in
/-- one act of the script -/
theorem law_act (l : Launch) {p : Program} {e : Env} {s : State} {m : MethodId} {below : List Frame} {meth : Method} {cd : Code} {G : va_G} {c : gk_I} {X : gk_X} {A : Nat → Prop} {Q : State → Prop} (hL : X.2.2.1 ≤ 96) (hx : p.tables.exec = Jvm.exec) (hb : cd.code = cL_law) (hml : cd.maxLocals = 11) (hown : s.vm.findClass RX0 = some m.cls) (hts : ∀ w ∈ lw_all, w.before #[Value.ref X.2.1] s = true) (hK : va_K G vwCl (gk_T c) s) (hC : gk_C X A s s.heap) (hA : ∀ q : Nat, s.heap.size ≤ q → A q) {d kq bq oq k2 b2 o2 : Nat} (t : Nat) (ht : t < 16) (K B O : Nat → Int8) (hk : ∀ (b2 o2 : Nat) (K B O : Nat → Int8), ∀ (H : Heap) (locs : List Loc), va_P G vwCl [(d, .inr (0, [.ref kq, .ref bq, .ref oq])), gk_xb c kq 32 K, gk_xb c bq 8 B, gk_xb c oq 8 O, gk_xb c k2 32 K, gk_xb c b2 8 B, gk_xb c o2 8 O] H → va_D A [(d, .inr (0, [.ref kq, .ref bq, .ref oq])), gk_xb c kq 32 K, gk_xb c bq 8 B, gk_xb c oq 8 O, gk_xb c k2 32 K, gk_xb c b2 8 B, gk_xb c o2 8 O] → va_S A s.heap H locs → ∀ ls : Array Slot, lv_has ls 11 [(0, .ref X.2.1), (1, .ref d), (2, .ref k2), (3, .ref b2), (4, .ref o2), (5, .int (nI (6 * (t + 1))))] → W p l e room_1 s m #[Value.ref X.2.1] below meth cd H locs (10 + 38 * (t + 1)) (110 + 340 * (t + 1)) Q (F0 m 43 ls [])) : ∀ (H : Heap) (locs : List Loc), va_P G vwCl [(d, .inr (0, [.ref kq, .ref bq, .ref oq])), gk_xb c kq 32 K, gk_xb c bq 8 B, gk_xb c oq 8 O, gk_xb c k2 32 K, gk_xb c b2 8 B, gk_xb c o2 8 O] H → va_D A [(d, .inr (0, [.ref kq, .ref bq, .ref oq])), gk_xb c kq 32 K, gk_xb c bq 8 B, gk_xb c oq 8 O, gk_xb c k2 32 K, gk_xb c b2 8 B, gk_xb c o2 8 O] → va_S A s.heap H locs → ∀ ls : Array Slot, lv_has ls 11 [(0, .ref X.2.1), (1, .ref d), (2, .ref k2), (3, .ref b2), (4, .ref o2), (5, .int (nI (6 * t)))] → W p l e room_1 s m #[Value.ref X.2.1] below meth cd H locs (10 + 38 * t) (110 + 340 * t) Q (F0 m 43 ls []) := by
  intro H locs hP hD hS ls hl
  refine lv_iload hx hb dL_law_43 (lv_at hl 5 rfl) ?_
  refine lv_bipush (v := 96) hx hb dL_law_45 (by decide) ?_
  refine gk_jge (tgt := 253) hx hb (6 * t) 96 rfl rfl (by omega) (by decide) dL_law_47 (by decide) (fun h => absurd h (by omega)) (fun _ => ?_)
  refine lv_aload_n hx hb dL_law_50 rfl (lv_at hl 0 rfl) ?_
  refine lv_iload hx hb dL_law_51 (lv_at hl 5 rfl) ?_
  refine lv_iconst (v := 1) hx hb dL_law_53 (by decide) ?_
  refine lv_iadd hx hb dL_law_54 ?_
  refine gk_top (y := nI (6 * t + 1)) (nI_add (6 * t) 1) ?_
  refine gk_calli (wr := [(d, .inr (0, [.ref kq, .ref bq, .ref oq])), gk_xb c kq 32 K, gk_xb c bq 8 B, gk_xb c oq 8 O, gk_xb c k2 32 K, gk_xb c b2 8 B, gk_xb c o2 8 O]) (va_runS (As := [.ref X.2.1, .int (nI (6 * t + 1))]) (rest := []) ⟨hx, hb, hml, hown, hts⟩ (m_cl l G c X (6 * t + 1) H.size hL (by omega)) (va_cwS 2 hts (lw_S q289 q290 q7 q291) rfl rfl rfl (by decide +kernel) ⟨(Nat.le_of_ble_eq_true rfl), (Nat.le_of_ble_eq_true rfl)⟩) ⟨gk_blind, gk_pre hP hD hK hC hS hA [] rfl (by decide)⟩ rfl rfl hl.1 rfl (lv_room (Nat.le_of_ble_eq_true rfl)) dL_law_55 ⟨(show 10 + 38 * t + 0 ≤ 1200192 by omega), (show 110 + 340 * t + 0 ≤ 5500522 by omega)⟩) hP hD hS hA [] [0, 1, 2, 3, 4, 5, 6] rfl rfl (by decide) (by decide) (fun r _ H locs hw hP hD hS => ?_)
  have hP : va_P G vwCl [(d, .inr (0, [.ref kq, .ref bq, .ref oq])), gk_xb c kq 32 K, gk_xb c bq 8 B, gk_xb c oq 8 O, gk_xb c k2 32 K, gk_xb c b2 8 B, gk_xb c o2 8 O] H := hP
  have hD : va_D A [(d, .inr (0, [.ref kq, .ref bq, .ref oq])), gk_xb c kq 32 K, gk_xb c bq 8 B, gk_xb c oq 8 O, gk_xb c k2 32 K, gk_xb c b2 8 B, gk_xb c o2 8 O] := hD
  have hw : r = gk_ce X (6 * t + 1) := hw
  subst hw
  refine lv_istore (lv' := [(6, .int (gk_ce X (6 * t + 1))), (0, .ref X.2.1), (1, .ref d), (2, .ref k2), (3, .ref b2), (4, .ref o2), (5, .int (nI (6 * t)))]) hx hb dL_law_58 hl (by decide) rfl (fun ls hl => ?_)
  refine lv_aload_n hx hb dL_law_60 rfl (lv_at hl 1 rfl) ?_
  refine lv_iload hx hb dL_law_61 (lv_at hl 6 rfl) ?_
  refine lv_iconst (v := 2) hx hb dL_law_63 (by decide) ?_
  refine lv_iadd hx hb dL_law_64 ?_
  refine gk_top (y := nI (6 * t + 2)) (nI_add (6 * t) 2) ?_
  refine gk_calli (wr := [(d, .inr (0, [.ref kq, .ref bq, .ref oq])), gk_xb c kq 32 K, gk_xb c bq 8 B, gk_xb c oq 8 O, gk_xb c k2 32 K, gk_xb c b2 8 B, gk_xb c o2 8 O]) (va_runS (As := [.ref X.2.1, .int (nI (6 * t + 2))]) (rest := []) ⟨hx, hb, hml, hown, hts⟩ (m_cl l G c X (6 * t + 2) H.size hL (by omega)) (va_cwS 2 hts (lw_S q289 q290 q7 q291) rfl rfl rfl (by decide +kernel) ⟨(Nat.le_of_ble_eq_true rfl), (Nat.le_of_ble_eq_true rfl)⟩) ⟨gk_blind, gk_pre hP hD hK hC hS hA [] rfl (by decide)⟩ rfl rfl hl.1 rfl (lv_room (Nat.le_of_ble_eq_true rfl)) dL_law_65 ⟨(show (10 + 38 * t + 0) + 0 ≤ 1200192 by omega), (show (110 + 340 * t + 0) + 0 ≤ 5500522 by omega)⟩) hP hD hS hA [] [0, 1, 2, 3, 4, 5, 6] rfl rfl (by decide) (by decide) (fun r _ H locs hw hP hD hS => ?_)
  have hP : va_P G vwCl [(d, .inr (0, [.ref kq, .ref bq, .ref oq])), gk_xb c kq 32 K, gk_xb c bq 8 B, gk_xb c oq 8 O, gk_xb c k2 32 K, gk_xb c b2 8 B, gk_xb c o2 8 O] H := hP
  have hD : va_D A [(d, .inr (0, [.ref kq, .ref bq, .ref oq])), gk_xb c kq 32 K, gk_xb c bq 8 B, gk_xb c oq 8 O, gk_xb c k2 32 K, gk_xb c b2 8 B, gk_xb c o2 8 O] := hD
  have hw : r = gk_ce X (6 * t + 2) := hw
  subst hw
  refine lv_istore (lv' := [(7, .int (gk_ce X (6 * t + 2))), (6, .int (gk_ce X (6 * t + 1))), (0, .ref X.2.1), (1, .ref d), (2, .ref k2), (3, .ref b2), (4, .ref o2), (5, .int (nI (6 * t)))]) hx hb dL_law_68 hl (by decide) rfl (fun ls hl => ?_)
  refine lv_aload_n hx hb dL_law_70 rfl (lv_at hl 2 rfl) ?_
  refine lv_iload hx hb dL_law_71 (lv_at hl 7 rfl) ?_
  refine lv_iconst (v := 3) hx hb dL_law_73 (by decide) ?_
  refine lv_iadd hx hb dL_law_74 ?_
  refine gk_top (y := nI (6 * t + 3)) (nI_add (6 * t) 3) ?_
  refine gk_calli (wr := [(d, .inr (0, [.ref kq, .ref bq, .ref oq])), gk_xb c kq 32 K, gk_xb c bq 8 B, gk_xb c oq 8 O, gk_xb c k2 32 K, gk_xb c b2 8 B, gk_xb c o2 8 O]) (va_runS (As := [.ref X.2.1, .int (nI (6 * t + 3))]) (rest := []) ⟨hx, hb, hml, hown, hts⟩ (m_cl l G c X (6 * t + 3) H.size hL (by omega)) (va_cwS 2 hts (lw_S q289 q290 q7 q291) rfl rfl rfl (by decide +kernel) ⟨(Nat.le_of_ble_eq_true rfl), (Nat.le_of_ble_eq_true rfl)⟩) ⟨gk_blind, gk_pre hP hD hK hC hS hA [] rfl (by decide)⟩ rfl rfl hl.1 rfl (lv_room (Nat.le_of_ble_eq_true rfl)) dL_law_75 ⟨(show ((10 + 38 * t + 0) + 0) + 0 ≤ 1200192 by omega), (show ((110 + 340 * t + 0) + 0) + 0 ≤ 5500522 by omega)⟩) hP hD hS hA [] [0, 1, 2, 3, 4, 5, 6] rfl rfl (by decide) (by decide) (fun r _ H locs hw hP hD hS => ?_)
  have hP : va_P G vwCl [(d, .inr (0, [.ref kq, .ref bq, .ref oq])), gk_xb c kq 32 K, gk_xb c bq 8 B, gk_xb c oq 8 O, gk_xb c k2 32 K, gk_xb c b2 8 B, gk_xb c o2 8 O] H := hP
  have hD : va_D A [(d, .inr (0, [.ref kq, .ref bq, .ref oq])), gk_xb c kq 32 K, gk_xb c bq 8 B, gk_xb c oq 8 O, gk_xb c k2 32 K, gk_xb c b2 8 B, gk_xb c o2 8 O] := hD
  have hw : r = gk_ce X (6 * t + 3) := hw
  subst hw
  refine lv_istore (lv' := [(8, .int (gk_ce X (6 * t + 3))), (7, .int (gk_ce X (6 * t + 2))), (6, .int (gk_ce X (6 * t + 1))), (0, .ref X.2.1), (1, .ref d), (2, .ref k2), (3, .ref b2), (4, .ref o2), (5, .int (nI (6 * t)))]) hx hb dL_law_78 hl (by decide) rfl (fun ls hl => ?_)
  refine lv_aload_n hx hb dL_law_80 rfl (lv_at hl 3 rfl) ?_
  refine lv_iload hx hb dL_law_81 (lv_at hl 8 rfl) ?_
  refine lv_iconst (v := 4) hx hb dL_law_83 (by decide) ?_
  refine lv_iadd hx hb dL_law_84 ?_
  refine gk_top (y := nI (6 * t + 4)) (nI_add (6 * t) 4) ?_
  refine gk_calli (wr := [(d, .inr (0, [.ref kq, .ref bq, .ref oq])), gk_xb c kq 32 K, gk_xb c bq 8 B, gk_xb c oq 8 O, gk_xb c k2 32 K, gk_xb c b2 8 B, gk_xb c o2 8 O]) (va_runS (As := [.ref X.2.1, .int (nI (6 * t + 4))]) (rest := []) ⟨hx, hb, hml, hown, hts⟩ (m_cl l G c X (6 * t + 4) H.size hL (by omega)) (va_cwS 2 hts (lw_S q289 q290 q7 q291) rfl rfl rfl (by decide +kernel) ⟨(Nat.le_of_ble_eq_true rfl), (Nat.le_of_ble_eq_true rfl)⟩) ⟨gk_blind, gk_pre hP hD hK hC hS hA [] rfl (by decide)⟩ rfl rfl hl.1 rfl (lv_room (Nat.le_of_ble_eq_true rfl)) dL_law_85 ⟨(show (((10 + 38 * t + 0) + 0) + 0) + 0 ≤ 1200192 by omega), (show (((110 + 340 * t + 0) + 0) + 0) + 0 ≤ 5500522 by omega)⟩) hP hD hS hA [] [0, 1, 2, 3, 4, 5, 6] rfl rfl (by decide) (by decide) (fun r _ H locs hw hP hD hS => ?_)
  have hP : va_P G vwCl [(d, .inr (0, [.ref kq, .ref bq, .ref oq])), gk_xb c kq 32 K, gk_xb c bq 8 B, gk_xb c oq 8 O, gk_xb c k2 32 K, gk_xb c b2 8 B, gk_xb c o2 8 O] H := hP
  have hD : va_D A [(d, .inr (0, [.ref kq, .ref bq, .ref oq])), gk_xb c kq 32 K, gk_xb c bq 8 B, gk_xb c oq 8 O, gk_xb c k2 32 K, gk_xb c b2 8 B, gk_xb c o2 8 O] := hD
  have hw : r = gk_ce X (6 * t + 4) := hw
  subst hw
  refine lv_istore (lv' := [(9, .int (gk_ce X (6 * t + 4))), (8, .int (gk_ce X (6 * t + 3))), (7, .int (gk_ce X (6 * t + 2))), (6, .int (gk_ce X (6 * t + 1))), (0, .ref X.2.1), (1, .ref d), (2, .ref k2), (3, .ref b2), (4, .ref o2), (5, .int (nI (6 * t)))]) hx hb dL_law_88 hl (by decide) rfl (fun ls hl => ?_)
  refine lv_aload_n hx hb dL_law_90 rfl (lv_at hl 4 rfl) ?_
  refine lv_iload hx hb dL_law_91 (lv_at hl 9 rfl) ?_
  refine lv_iconst (v := 5) hx hb dL_law_93 (by decide) ?_
  refine lv_iadd hx hb dL_law_94 ?_
  refine gk_top (y := nI (6 * t + 5)) (nI_add (6 * t) 5) ?_
  refine gk_calli (wr := [(d, .inr (0, [.ref kq, .ref bq, .ref oq])), gk_xb c kq 32 K, gk_xb c bq 8 B, gk_xb c oq 8 O, gk_xb c k2 32 K, gk_xb c b2 8 B, gk_xb c o2 8 O]) (va_runS (As := [.ref X.2.1, .int (nI (6 * t + 5))]) (rest := []) ⟨hx, hb, hml, hown, hts⟩ (m_cl l G c X (6 * t + 5) H.size hL (by omega)) (va_cwS 2 hts (lw_S q289 q290 q7 q291) rfl rfl rfl (by decide +kernel) ⟨(Nat.le_of_ble_eq_true rfl), (Nat.le_of_ble_eq_true rfl)⟩) ⟨gk_blind, gk_pre hP hD hK hC hS hA [] rfl (by decide)⟩ rfl rfl hl.1 rfl (lv_room (Nat.le_of_ble_eq_true rfl)) dL_law_95 ⟨(show ((((10 + 38 * t + 0) + 0) + 0) + 0) + 0 ≤ 1200192 by omega), (show ((((110 + 340 * t + 0) + 0) + 0) + 0) + 0 ≤ 5500522 by omega)⟩) hP hD hS hA [] [0, 1, 2, 3, 4, 5, 6] rfl rfl (by decide) (by decide) (fun r _ H locs hw hP hD hS => ?_)
  have hP : va_P G vwCl [(d, .inr (0, [.ref kq, .ref bq, .ref oq])), gk_xb c kq 32 K, gk_xb c bq 8 B, gk_xb c oq 8 O, gk_xb c k2 32 K, gk_xb c b2 8 B, gk_xb c o2 8 O] H := hP
  have hD : va_D A [(d, .inr (0, [.ref kq, .ref bq, .ref oq])), gk_xb c kq 32 K, gk_xb c bq 8 B, gk_xb c oq 8 O, gk_xb c k2 32 K, gk_xb c b2 8 B, gk_xb c o2 8 O] := hD
  have hw : r = gk_ce X (6 * t + 5) := hw
  subst hw
  refine lv_istore (lv' := [(10, .int (gk_ce X (6 * t + 5))), (9, .int (gk_ce X (6 * t + 4))), (8, .int (gk_ce X (6 * t + 3))), (7, .int (gk_ce X (6 * t + 2))), (6, .int (gk_ce X (6 * t + 1))), (0, .ref X.2.1), (1, .ref d), (2, .ref k2), (3, .ref b2), (4, .ref o2), (5, .int (nI (6 * t)))]) hx hb dL_law_98 hl (by decide) rfl (fun ls hl => ?_)
  refine lv_aload_n hx hb dL_law_100 rfl (lv_at hl 5 rfl) ?_
  refine lv_iload hx hb dL_law_101 (lv_at hl 10 rfl) ?_
  refine gk_calli (wr := [(d, .inr (0, [.ref kq, .ref bq, .ref oq])), gk_xb c kq 32 K, gk_xb c bq 8 B, gk_xb c oq 8 O, gk_xb c k2 32 K, gk_xb c b2 8 B, gk_xb c o2 8 O]) (va_runS (As := [.ref X.2.1, .int (nI (6 * t))]) (rest := []) ⟨hx, hb, hml, hown, hts⟩ (m_cl l G c X (6 * t) H.size hL (by omega)) (va_cwS 2 hts (lw_S q289 q290 q7 q291) rfl rfl rfl (by decide +kernel) ⟨(Nat.le_of_ble_eq_true rfl), (Nat.le_of_ble_eq_true rfl)⟩) ⟨gk_blind, gk_pre hP hD hK hC hS hA [] rfl (by decide)⟩ rfl rfl hl.1 rfl (lv_room (Nat.le_of_ble_eq_true rfl)) dL_law_103 ⟨(show (((((10 + 38 * t + 0) + 0) + 0) + 0) + 0) + 0 ≤ 1200192 by omega), (show (((((110 + 340 * t + 0) + 0) + 0) + 0) + 0) + 0 ≤ 5500522 by omega)⟩) hP hD hS hA [] [0, 1, 2, 3, 4, 5, 6] rfl rfl (by decide) (by decide) (fun r _ H locs hw hP hD hS => ?_)
  have hP : va_P G vwCl [(d, .inr (0, [.ref kq, .ref bq, .ref oq])), gk_xb c kq 32 K, gk_xb c bq 8 B, gk_xb c oq 8 O, gk_xb c k2 32 K, gk_xb c b2 8 B, gk_xb c o2 8 O] H := hP
  have hD : va_D A [(d, .inr (0, [.ref kq, .ref bq, .ref oq])), gk_xb c kq 32 K, gk_xb c bq 8 B, gk_xb c oq 8 O, gk_xb c k2 32 K, gk_xb c b2 8 B, gk_xb c o2 8 O] := hD
  have hw : r = gk_ce X (6 * t) := hw
  subst hw
  refine lv_bipush (v := 10) hx hb dL_law_106 (by decide) ?_
  refine gk_calli (wr := [(d, .inr (0, [.ref kq, .ref bq, .ref oq])), gk_xb c kq 32 K, gk_xb c bq 8 B, gk_xb c oq 8 O, gk_xb c k2 32 K, gk_xb c b2 8 B, gk_xb c o2 8 O]) (va_runS (As := [.int (gk_ce X (6 * t)), .int 10]) (rest := []) ⟨hx, hb, hml, hown, hts⟩ (m_md l G c X (gk_ce X (6 * t)) H.size) (va_cwS 2 hts (lw_S q292 q293 q7 q294) rfl rfl rfl (by decide +kernel) ⟨(Nat.le_of_ble_eq_true rfl), (Nat.le_of_ble_eq_true rfl)⟩) ⟨gk_blind, gk_pre hP hD hK hC hS hA [] rfl (by decide)⟩ rfl rfl hl.1 rfl (lv_room (Nat.le_of_ble_eq_true rfl)) dL_law_108 ⟨(show ((((((10 + 38 * t + 0) + 0) + 0) + 0) + 0) + 0) + 0 ≤ 1200192 by omega), (show ((((((110 + 340 * t + 0) + 0) + 0) + 0) + 0) + 0) + 0 ≤ 5500522 by omega)⟩) hP hD hS hA [] [0, 1, 2, 3, 4, 5, 6] rfl rfl (by decide) (by decide) (fun r _ H locs hw hP hD hS => ?_)
  have hP : va_P G vwCl [(d, .inr (0, [.ref kq, .ref bq, .ref oq])), gk_xb c kq 32 K, gk_xb c bq 8 B, gk_xb c oq 8 O, gk_xb c k2 32 K, gk_xb c b2 8 B, gk_xb c o2 8 O] H := hP
  have hD : va_D A [(d, .inr (0, [.ref kq, .ref bq, .ref oq])), gk_xb c kq 32 K, gk_xb c bq 8 B, gk_xb c oq 8 O, gk_xb c k2 32 K, gk_xb c b2 8 B, gk_xb c o2 8 O] := hD
  clear hw
  have at234 : ∀ (b2 o2 : Nat) (K B O : Nat → Int8), ∀ (H : Heap) (locs : List Loc), va_P G vwCl [(d, .inr (0, [.ref kq, .ref bq, .ref oq])), gk_xb c kq 32 K, gk_xb c bq 8 B, gk_xb c oq 8 O, gk_xb c k2 32 K, gk_xb c b2 8 B, gk_xb c o2 8 O] H → va_D A [(d, .inr (0, [.ref kq, .ref bq, .ref oq])), gk_xb c kq 32 K, gk_xb c bq 8 B, gk_xb c oq 8 O, gk_xb c k2 32 K, gk_xb c b2 8 B, gk_xb c o2 8 O] → va_S A s.heap H locs → ∀ ls : Array Slot, lv_has ls 11 [(0, .ref X.2.1), (1, .ref d), (2, .ref k2), (3, .ref b2), (4, .ref o2), (5, .int (nI (6 * t))), (10, .int (gk_ce X (6 * t + 5)))] → W p l e room_1 s m #[Value.ref X.2.1] below meth cd H locs (10 + 38 * (t + 1)) (110 + 340 * (t + 1)) Q (F0 m 234 ls []) := by
    intro b2 o2 K B O H locs hP hD hS ls hl
    refine lv_aload_n hx hb dL_law_234 rfl (lv_at hl 1 rfl) ?_
    refine lv_aload hx hb dL_law_235 (lv_at hl 4 rfl) ?_
    refine lv_iload hx hb dL_law_237 (lv_at hl 6 rfl) ?_
    refine gk_calli (wr := [gk_xb c kq 32 K, gk_xb c bq 8 B, gk_xb c k2 32 K, gk_xb c b2 8 B]) (va_runS (As := [.ref d, .ref o2, .int (gk_ce X (6 * t + 5))]) (rest := []) ⟨hx, hb, hml, hown, hts⟩ (m_sh l G c X d kq bq oq o2 O O (gk_ce X (6 * t + 5)) H.size (fun _ _ => rfl)) (va_cwS 3 hts (lw_S q335 q336 q7 q337) rfl rfl rfl (by decide +kernel) ⟨(Nat.le_of_ble_eq_true rfl), (Nat.le_of_ble_eq_true rfl)⟩) ⟨gk_blind, gk_pre hP hD hK hC hS hA [0, 3, 6] rfl (by decide)⟩ rfl rfl hl.1 rfl (lv_room (Nat.le_of_ble_eq_true rfl)) dL_law_239 ⟨(show 10 + 38 * (t + 1) + 0 ≤ 1200192 by omega), (show 110 + 340 * (t + 1) + 0 ≤ 5500522 by omega)⟩) hP hD hS hA [0, 3, 6] [1, 2, 4, 5] rfl rfl (by decide) (by decide) (fun r _ H locs hw hP hD hS => ?_)
    have hP : va_P G vwCl [gk_xb c kq 32 K, gk_xb c bq 8 B, gk_xb c k2 32 K, gk_xb c b2 8 B, (d, .inr (0, [.ref kq, .ref bq, .ref oq])), gk_xb c oq 8 O, gk_xb c o2 8 O] H := hP
    have hD : va_D A [gk_xb c kq 32 K, gk_xb c bq 8 B, gk_xb c k2 32 K, gk_xb c b2 8 B, (d, .inr (0, [.ref kq, .ref bq, .ref oq])), gk_xb c oq 8 O, gk_xb c o2 8 O] := hD
    have hw : r = 1 := hw
    subst hw
    refine lv_if_ne (tgt := 247) hx hb dL_law_242 (by decide) (fun _ => ?_) (fun h => absurd h (by decide))
    refine lv_iinc (v := nI (6 * (t + 1))) (lv' := [(5, .int (nI (6 * (t + 1)))), (0, .ref X.2.1), (1, .ref d), (2, .ref k2), (3, .ref b2), (4, .ref o2), (10, .int (gk_ce X (6 * t + 5)))]) hx hb dL_law_247 hl (k := 5) rfl (gk_inc6 t) (by decide) rfl (fun ls hl => ?_)
    refine lv_goto (tgt := 43) hx hb dL_law_250 (by decide) ?_
    have hP : va_P G vwCl [(d, .inr (0, [.ref kq, .ref bq, .ref oq])), gk_xb c kq 32 K, gk_xb c bq 8 B, gk_xb c oq 8 O, gk_xb c k2 32 K, gk_xb c b2 8 B, gk_xb c o2 8 O] H := gk_Psub hP [4, 0, 1, 5, 2, 3, 6] rfl
    have hD : va_D A [(d, .inr (0, [.ref kq, .ref bq, .ref oq])), gk_xb c kq 32 K, gk_xb c bq 8 B, gk_xb c oq 8 O, gk_xb c k2 32 K, gk_xb c b2 8 B, gk_xb c o2 8 O] := hD.sub [4, 0, 1, 5, 2, 3, 6] (by decide) rfl
    exact hk _ _ _ _ _ _ _ hP hD hS ls (lv_sub hl [1, 2, 3, 4, 5, 0] rfl)
  have h160 : W p l e room_1 s m #[Value.ref X.2.1] below meth cd H locs (((((((10 + 38 * t + 0) + 0) + 0) + 0) + 0) + 0) + 0) (((((((110 + 340 * t + 0) + 0) + 0) + 0) + 0) + 0) + 0) Q (F0 m 160 ls []) := by
    refine lv_aload_n hx hb dL_law_160 rfl (lv_at hl 6 rfl) ?_
    refine lv_aload_n hx hb dL_law_161 rfl (lv_at hl 7 rfl) ?_
    refine lv_iload hx hb dL_law_162 (lv_at hl 0 rfl) ?_
    refine lv_iload hx hb dL_law_164 (lv_at hl 4 rfl) ?_
    refine lv_iload hx hb dL_law_166 (lv_at hl 3 rfl) ?_
    refine lv_iload hx hb dL_law_168 (lv_at hl 2 rfl) ?_
    refine lv_iload hx hb dL_law_170 (lv_at hl 1 rfl) ?_
    refine gk_callv (wr := [gk_xb c bq 8 B, gk_xb c oq 8 O, gk_xb c b2 8 B, gk_xb c o2 8 O]) (va_runS (As := [.ref d, .ref k2, .int (gk_ce X (6 * t + 5)), .int (gk_ce X (6 * t + 1)), .int (gk_ce X (6 * t + 2)), .int (gk_ce X (6 * t + 3)), .int (gk_ce X (6 * t + 4))]) (rest := []) ⟨hx, hb, hml, hown, hts⟩ (m_ke l G c X d kq bq oq k2 K K (gk_ce X (6 * t + 5)) (gk_ce X (6 * t + 1)) (gk_ce X (6 * t + 2)) (gk_ce X (6 * t + 3)) (gk_ce X (6 * t + 4)) H.size) (va_cwS 7 hts (lw_S q315 q316 q7 q317) rfl rfl rfl (by decide +kernel) ⟨(Nat.le_of_ble_eq_true rfl), (Nat.le_of_ble_eq_true rfl)⟩) ⟨gk_blind, gk_pre hP hD hK hC hS hA [0, 1, 4] rfl (by decide)⟩ rfl rfl hl.1 rfl (lv_room (Nat.le_of_ble_eq_true rfl)) dL_law_172 ⟨(show (((((((10 + 38 * t + 0) + 0) + 0) + 0) + 0) + 0) + 0) + 1 ≤ 1200192 by omega), (show (((((((110 + 340 * t + 0) + 0) + 0) + 0) + 0) + 0) + 0) + 4 ≤ 5500522 by omega)⟩) hP hD hS hA [0, 1, 4] [2, 3, 5, 6] rfl rfl (by decide) (by decide) (fun _ H locs _ hP hD hS => ?_)
    have hP : va_P G vwCl [gk_xb c bq 8 B, gk_xb c oq 8 O, gk_xb c b2 8 B, gk_xb c o2 8 O, (d, .inr (0, [.ref kq, .ref bq, .ref oq])), gk_xb c kq 32 (gk_l4 K (gk_hf (gk_ce X (6 * t + 5))) (gk_ce X (6 * t + 1)) (gk_ce X (6 * t + 2)) (gk_ce X (6 * t + 3)) (gk_ce X (6 * t + 4))), gk_xb c k2 32 (gk_l4 K (gk_hf (gk_ce X (6 * t + 5))) (gk_ce X (6 * t + 1)) (gk_ce X (6 * t + 2)) (gk_ce X (6 * t + 3)) (gk_ce X (6 * t + 4)))] H := hP
    have hD : va_D A [gk_xb c bq 8 B, gk_xb c oq 8 O, gk_xb c b2 8 B, gk_xb c o2 8 O, (d, .inr (0, [.ref kq, .ref bq, .ref oq])), gk_xb c kq 32 (gk_l4 K (gk_hf (gk_ce X (6 * t + 5))) (gk_ce X (6 * t + 1)) (gk_ce X (6 * t + 2)) (gk_ce X (6 * t + 3)) (gk_ce X (6 * t + 4))), gk_xb c k2 32 (gk_l4 K (gk_hf (gk_ce X (6 * t + 5))) (gk_ce X (6 * t + 1)) (gk_ce X (6 * t + 2)) (gk_ce X (6 * t + 3)) (gk_ce X (6 * t + 4)))] := hD
    refine lv_goto (tgt := 234) hx hb dL_law_175 (by decide) ?_
    have hP : va_P G vwCl [(d, .inr (0, [.ref kq, .ref bq, .ref oq])), gk_xb c kq 32 (gk_l4 K (gk_hf (gk_ce X (6 * t + 5))) (gk_ce X (6 * t + 1)) (gk_ce X (6 * t + 2)) (gk_ce X (6 * t + 3)) (gk_ce X (6 * t + 4))), gk_xb c bq 8 B, gk_xb c oq 8 O, gk_xb c k2 32 (gk_l4 K (gk_hf (gk_ce X (6 * t + 5))) (gk_ce X (6 * t + 1)) (gk_ce X (6 * t + 2)) (gk_ce X (6 * t + 3)) (gk_ce X (6 * t + 4))), gk_xb c b2 8 B, gk_xb c o2 8 O] H := gk_Psub hP [4, 5, 0, 1, 6, 2, 3] rfl
    have hD : va_D A [(d, .inr (0, [.ref kq, .ref bq, .ref oq])), gk_xb c kq 32 (gk_l4 K (gk_hf (gk_ce X (6 * t + 5))) (gk_ce X (6 * t + 1)) (gk_ce X (6 * t + 2)) (gk_ce X (6 * t + 3)) (gk_ce X (6 * t + 4))), gk_xb c bq 8 B, gk_xb c oq 8 O, gk_xb c k2 32 (gk_l4 K (gk_hf (gk_ce X (6 * t + 5))) (gk_ce X (6 * t + 1)) (gk_ce X (6 * t + 2)) (gk_ce X (6 * t + 3)) (gk_ce X (6 * t + 4))), gk_xb c b2 8 B, gk_xb c o2 8 O] := hD.sub [4, 5, 0, 1, 6, 2, 3] (by decide) rfl
    refine W.widen (k := 10 + 38 * (t + 1)) (n := 110 + 340 * (t + 1)) (by omega) (by omega) ?_
    exact at234 _ _ _ _ _ _ _ hP hD hS ls (lv_sub hl [5, 6, 7, 8, 9, 10, 0] rfl)
  have h178 : W p l e room_1 s m #[Value.ref X.2.1] below meth cd H locs (((((((10 + 38 * t + 0) + 0) + 0) + 0) + 0) + 0) + 0) (((((((110 + 340 * t + 0) + 0) + 0) + 0) + 0) + 0) + 0) Q (F0 m 178 ls []) := by
    refine lv_aload_n hx hb dL_law_178 rfl (lv_at hl 6 rfl) ?_
    refine lv_aload_n hx hb dL_law_179 rfl (lv_at hl 8 rfl) ?_
    refine lv_iload hx hb dL_law_180 (lv_at hl 4 rfl) ?_
    refine lv_iload hx hb dL_law_182 (lv_at hl 3 rfl) ?_
    refine gk_callv (wr := [gk_xb c kq 32 K, gk_xb c oq 8 O, gk_xb c k2 32 K, gk_xb c o2 8 O]) (va_runS (As := [.ref d, .ref b2, .int (gk_ce X (6 * t + 1)), .int (gk_ce X (6 * t + 2))]) (rest := []) ⟨hx, hb, hml, hown, hts⟩ (m_bl l G c X d kq bq oq b2 B B (gk_ce X (6 * t + 1)) (gk_ce X (6 * t + 2)) H.size) (va_cwS 4 hts (lw_S q328 q329 q7 q330) rfl rfl rfl (by decide +kernel) ⟨(Nat.le_of_ble_eq_true rfl), (Nat.le_of_ble_eq_true rfl)⟩) ⟨gk_blind, gk_pre hP hD hK hC hS hA [0, 2, 5] rfl (by decide)⟩ rfl rfl hl.1 rfl (lv_room (Nat.le_of_ble_eq_true rfl)) dL_law_184 ⟨(show (((((((10 + 38 * t + 0) + 0) + 0) + 0) + 0) + 0) + 0) + 0 ≤ 1200192 by omega), (show (((((((110 + 340 * t + 0) + 0) + 0) + 0) + 0) + 0) + 0) + 0 ≤ 5500522 by omega)⟩) hP hD hS hA [0, 2, 5] [1, 3, 4, 6] rfl rfl (by decide) (by decide) (fun _ H locs _ hP hD hS => ?_)
    have hP : va_P G vwCl [gk_xb c kq 32 K, gk_xb c oq 8 O, gk_xb c k2 32 K, gk_xb c o2 8 O, (d, .inr (0, [.ref kq, .ref bq, .ref oq])), gk_xb c bq 8 (gk_l2 B (gk_ce X (6 * t + 1)) (gk_ce X (6 * t + 2))), gk_xb c b2 8 (gk_l2 B (gk_ce X (6 * t + 1)) (gk_ce X (6 * t + 2)))] H := hP
    have hD : va_D A [gk_xb c kq 32 K, gk_xb c oq 8 O, gk_xb c k2 32 K, gk_xb c o2 8 O, (d, .inr (0, [.ref kq, .ref bq, .ref oq])), gk_xb c bq 8 (gk_l2 B (gk_ce X (6 * t + 1)) (gk_ce X (6 * t + 2))), gk_xb c b2 8 (gk_l2 B (gk_ce X (6 * t + 1)) (gk_ce X (6 * t + 2)))] := hD
    refine lv_goto (tgt := 234) hx hb dL_law_187 (by decide) ?_
    have hP : va_P G vwCl [(d, .inr (0, [.ref kq, .ref bq, .ref oq])), gk_xb c kq 32 K, gk_xb c bq 8 (gk_l2 B (gk_ce X (6 * t + 1)) (gk_ce X (6 * t + 2))), gk_xb c oq 8 O, gk_xb c k2 32 K, gk_xb c b2 8 (gk_l2 B (gk_ce X (6 * t + 1)) (gk_ce X (6 * t + 2))), gk_xb c o2 8 O] H := gk_Psub hP [4, 0, 5, 1, 2, 6, 3] rfl
    have hD : va_D A [(d, .inr (0, [.ref kq, .ref bq, .ref oq])), gk_xb c kq 32 K, gk_xb c bq 8 (gk_l2 B (gk_ce X (6 * t + 1)) (gk_ce X (6 * t + 2))), gk_xb c oq 8 O, gk_xb c k2 32 K, gk_xb c b2 8 (gk_l2 B (gk_ce X (6 * t + 1)) (gk_ce X (6 * t + 2))), gk_xb c o2 8 O] := hD.sub [4, 0, 5, 1, 2, 6, 3] (by decide) rfl
    refine W.widen (k := 10 + 38 * (t + 1)) (n := 110 + 340 * (t + 1)) (by omega) (by omega) ?_
    exact at234 _ _ _ _ _ _ _ hP hD hS ls (lv_sub hl [5, 6, 7, 8, 9, 10, 0] rfl)
  have h190 : W p l e room_1 s m #[Value.ref X.2.1] below meth cd H locs (((((((10 + 38 * t + 0) + 0) + 0) + 0) + 0) + 0) + 0) (((((((110 + 340 * t + 0) + 0) + 0) + 0) + 0) + 0) + 0) Q (F0 m 190 ls []) := by
    refine lv_aload_n hx hb dL_law_190 rfl (lv_at hl 6 rfl) ?_
    refine lv_iload hx hb dL_law_191 (lv_at hl 4 rfl) ?_
    refine gk_callv (wr := [gk_xb c k2 32 K, gk_xb c b2 8 B, gk_xb c o2 8 O]) (va_runV (As := [.int (gk_ce X (6 * t + 1))]) (rest := []) ⟨hx, hb, hml, hown, hts⟩ (m_lk l G c X d kq bq oq K B O (gk_ce X (6 * t + 1)) H.size) (cwV 1 hts (lw_V q40 q41 q42 q8 q43) rfl rfl rfl (by decide +kernel) ⟨(Nat.le_of_ble_eq_true rfl), (Nat.le_of_ble_eq_true rfl)⟩) ⟨gk_blind, va_recv hK hP (ci := 0) (q0 := 0) rfl rfl, gk_pre hP hD hK hC hS hA [0, 1, 2, 3] rfl (by decide)⟩ rfl rfl hl.1 rfl (lv_room (Nat.le_of_ble_eq_true rfl)) dL_law_193 ⟨(show (((((((10 + 38 * t + 0) + 0) + 0) + 0) + 0) + 0) + 0) + 5 ≤ 1200192 by omega), (show (((((((110 + 340 * t + 0) + 0) + 0) + 0) + 0) + 0) + 0) + 76 ≤ 5500522 by omega)⟩) hP hD hS hA [0, 1, 2, 3] [4, 5, 6] rfl rfl (by decide) (by decide) (fun _ H locs _ hP hD hS => ?_)
    have hP : va_P G vwCl [gk_xb c k2 32 K, gk_xb c b2 8 B, gk_xb c o2 8 O, (d, .inr (0, [.ref kq, .ref bq, .ref oq])), gk_xb c kq 32 K, gk_xb c bq 8 B, gk_xb c oq 8 (gk_cry K B false)] H := hP
    have hD : va_D A [gk_xb c k2 32 K, gk_xb c b2 8 B, gk_xb c o2 8 O, (d, .inr (0, [.ref kq, .ref bq, .ref oq])), gk_xb c kq 32 K, gk_xb c bq 8 B, gk_xb c oq 8 (gk_cry K B false)] := hD
    refine lv_aload_n hx hb dL_law_196 rfl (lv_at hl 7 rfl) ?_
    refine lv_aload_n hx hb dL_law_197 rfl (lv_at hl 8 rfl) ?_
    refine lv_iconst (v := 0) hx hb dL_law_198 (by decide) ?_
    refine gk_callr (wr := [gk_xb c o2 8 O, (d, .inr (0, [.ref kq, .ref bq, .ref oq])), gk_xb c kq 32 K, gk_xb c bq 8 B, gk_xb c oq 8 (gk_cry K B false)]) (va_runS (As := [.ref k2, .ref b2, .int (gk_oi false)]) (rest := []) ⟨hx, hb, hml, hown, hts⟩ (m_du l G c X k2 b2 K B false H.size) (va_cwS 3 hts (lw_S q296 q297 q7 q298) rfl rfl rfl (by decide +kernel) ⟨(Nat.le_of_ble_eq_true rfl), (Nat.le_of_ble_eq_true rfl)⟩) ⟨gk_blind, gk_pre hP hD hK hC hS hA [0, 1] rfl (by decide)⟩ rfl rfl hl.1 rfl (lv_room (Nat.le_of_ble_eq_true rfl)) dL_law_199 ⟨(show ((((((((10 + 38 * t + 0) + 0) + 0) + 0) + 0) + 0) + 0) + 5) + 33 ≤ 1200192 by omega), (show ((((((((110 + 340 * t + 0) + 0) + 0) + 0) + 0) + 0) + 0) + 76) + 264 ≤ 5500522 by omega)⟩) hP hD hS hA [0, 1] [2, 3, 4, 5, 6] rfl rfl (by decide) (by decide) (fun _ r5 H locs _ hP hD hS => ?_)
    have hP : va_P G vwCl [gk_xb c o2 8 O, (d, .inr (0, [.ref kq, .ref bq, .ref oq])), gk_xb c kq 32 K, gk_xb c bq 8 B, gk_xb c oq 8 (gk_cry K B false), gk_xb c k2 32 K, gk_xb c b2 8 B, gk_xb c r5 8 (gk_cry K B false)] H := hP
    have hD : va_D A [gk_xb c o2 8 O, (d, .inr (0, [.ref kq, .ref bq, .ref oq])), gk_xb c kq 32 K, gk_xb c bq 8 B, gk_xb c oq 8 (gk_cry K B false), gk_xb c k2 32 K, gk_xb c b2 8 B, gk_xb c r5 8 (gk_cry K B false)] := hD
    refine lv_astore (lv' := [(4, .ref r5), (10, .int (gk_ce X (6 * t + 5))), (9, .int (gk_ce X (6 * t + 4))), (8, .int (gk_ce X (6 * t + 3))), (7, .int (gk_ce X (6 * t + 2))), (6, .int (gk_ce X (6 * t + 1))), (0, .ref X.2.1), (1, .ref d), (2, .ref k2), (3, .ref b2), (5, .int (nI (6 * t)))]) hx hb dL_law_202 hl (by decide) rfl (fun ls hl => ?_)
    refine lv_goto (tgt := 234) hx hb dL_law_204 (by decide) ?_
    have hP : va_P G vwCl [(d, .inr (0, [.ref kq, .ref bq, .ref oq])), gk_xb c kq 32 K, gk_xb c bq 8 B, gk_xb c oq 8 (gk_cry K B false), gk_xb c k2 32 K, gk_xb c b2 8 B, gk_xb c r5 8 (gk_cry K B false)] H := gk_Psub hP [1, 2, 3, 4, 5, 6, 7] rfl
    have hD : va_D A [(d, .inr (0, [.ref kq, .ref bq, .ref oq])), gk_xb c kq 32 K, gk_xb c bq 8 B, gk_xb c oq 8 (gk_cry K B false), gk_xb c k2 32 K, gk_xb c b2 8 B, gk_xb c r5 8 (gk_cry K B false)] := hD.sub [1, 2, 3, 4, 5, 6, 7] (by decide) rfl
    refine W.widen (k := 10 + 38 * (t + 1)) (n := 110 + 340 * (t + 1)) (by omega) (by omega) ?_
    exact at234 _ _ _ _ _ _ _ hP hD hS ls (lv_sub hl [6, 7, 8, 9, 0, 10, 1] rfl)
  have h207 : W p l e room_1 s m #[Value.ref X.2.1] below meth cd H locs (((((((10 + 38 * t + 0) + 0) + 0) + 0) + 0) + 0) + 0) (((((((110 + 340 * t + 0) + 0) + 0) + 0) + 0) + 0) + 0) Q (F0 m 207 ls []) := by
    refine lv_aload_n hx hb dL_law_207 rfl (lv_at hl 6 rfl) ?_
    refine lv_iload hx hb dL_law_208 (lv_at hl 4 rfl) ?_
    refine gk_callv (wr := [gk_xb c k2 32 K, gk_xb c b2 8 B, gk_xb c o2 8 O]) (va_runV (As := [.int (gk_ce X (6 * t + 1))]) (rest := []) ⟨hx, hb, hml, hown, hts⟩ (m_op l G c X d kq bq oq K B O (gk_ce X (6 * t + 1)) H.size) (cwV 1 hts (lw_V q281 q282 q283 q8 q284) rfl rfl rfl (by decide +kernel) ⟨(Nat.le_of_ble_eq_true rfl), (Nat.le_of_ble_eq_true rfl)⟩) ⟨gk_blind, va_recv hK hP (ci := 0) (q0 := 0) rfl rfl, gk_pre hP hD hK hC hS hA [0, 1, 2, 3] rfl (by decide)⟩ rfl rfl hl.1 rfl (lv_room (Nat.le_of_ble_eq_true rfl)) dL_law_210 ⟨(show (((((((10 + 38 * t + 0) + 0) + 0) + 0) + 0) + 0) + 0) + 5 ≤ 1200192 by omega), (show (((((((110 + 340 * t + 0) + 0) + 0) + 0) + 0) + 0) + 0) + 76 ≤ 5500522 by omega)⟩) hP hD hS hA [0, 1, 2, 3] [4, 5, 6] rfl rfl (by decide) (by decide) (fun _ H locs _ hP hD hS => ?_)
    have hP : va_P G vwCl [gk_xb c k2 32 K, gk_xb c b2 8 B, gk_xb c o2 8 O, (d, .inr (0, [.ref kq, .ref bq, .ref oq])), gk_xb c kq 32 K, gk_xb c bq 8 B, gk_xb c oq 8 (gk_cry K B true)] H := hP
    have hD : va_D A [gk_xb c k2 32 K, gk_xb c b2 8 B, gk_xb c o2 8 O, (d, .inr (0, [.ref kq, .ref bq, .ref oq])), gk_xb c kq 32 K, gk_xb c bq 8 B, gk_xb c oq 8 (gk_cry K B true)] := hD
    refine lv_aload_n hx hb dL_law_213 rfl (lv_at hl 7 rfl) ?_
    refine lv_aload_n hx hb dL_law_214 rfl (lv_at hl 8 rfl) ?_
    refine lv_iconst (v := 1) hx hb dL_law_215 (by decide) ?_
    refine gk_callr (wr := [gk_xb c o2 8 O, (d, .inr (0, [.ref kq, .ref bq, .ref oq])), gk_xb c kq 32 K, gk_xb c bq 8 B, gk_xb c oq 8 (gk_cry K B true)]) (va_runS (As := [.ref k2, .ref b2, .int (gk_oi true)]) (rest := []) ⟨hx, hb, hml, hown, hts⟩ (m_du l G c X k2 b2 K B true H.size) (va_cwS 3 hts (lw_S q296 q297 q7 q298) rfl rfl rfl (by decide +kernel) ⟨(Nat.le_of_ble_eq_true rfl), (Nat.le_of_ble_eq_true rfl)⟩) ⟨gk_blind, gk_pre hP hD hK hC hS hA [0, 1] rfl (by decide)⟩ rfl rfl hl.1 rfl (lv_room (Nat.le_of_ble_eq_true rfl)) dL_law_216 ⟨(show ((((((((10 + 38 * t + 0) + 0) + 0) + 0) + 0) + 0) + 0) + 5) + 33 ≤ 1200192 by omega), (show ((((((((110 + 340 * t + 0) + 0) + 0) + 0) + 0) + 0) + 0) + 76) + 264 ≤ 5500522 by omega)⟩) hP hD hS hA [0, 1] [2, 3, 4, 5, 6] rfl rfl (by decide) (by decide) (fun _ r5 H locs _ hP hD hS => ?_)
    have hP : va_P G vwCl [gk_xb c o2 8 O, (d, .inr (0, [.ref kq, .ref bq, .ref oq])), gk_xb c kq 32 K, gk_xb c bq 8 B, gk_xb c oq 8 (gk_cry K B true), gk_xb c k2 32 K, gk_xb c b2 8 B, gk_xb c r5 8 (gk_cry K B true)] H := hP
    have hD : va_D A [gk_xb c o2 8 O, (d, .inr (0, [.ref kq, .ref bq, .ref oq])), gk_xb c kq 32 K, gk_xb c bq 8 B, gk_xb c oq 8 (gk_cry K B true), gk_xb c k2 32 K, gk_xb c b2 8 B, gk_xb c r5 8 (gk_cry K B true)] := hD
    refine lv_astore (lv' := [(4, .ref r5), (10, .int (gk_ce X (6 * t + 5))), (9, .int (gk_ce X (6 * t + 4))), (8, .int (gk_ce X (6 * t + 3))), (7, .int (gk_ce X (6 * t + 2))), (6, .int (gk_ce X (6 * t + 1))), (0, .ref X.2.1), (1, .ref d), (2, .ref k2), (3, .ref b2), (5, .int (nI (6 * t)))]) hx hb dL_law_219 hl (by decide) rfl (fun ls hl => ?_)
    refine lv_goto (tgt := 234) hx hb dL_law_221 (by decide) ?_
    have hP : va_P G vwCl [(d, .inr (0, [.ref kq, .ref bq, .ref oq])), gk_xb c kq 32 K, gk_xb c bq 8 B, gk_xb c oq 8 (gk_cry K B true), gk_xb c k2 32 K, gk_xb c b2 8 B, gk_xb c r5 8 (gk_cry K B true)] H := gk_Psub hP [1, 2, 3, 4, 5, 6, 7] rfl
    have hD : va_D A [(d, .inr (0, [.ref kq, .ref bq, .ref oq])), gk_xb c kq 32 K, gk_xb c bq 8 B, gk_xb c oq 8 (gk_cry K B true), gk_xb c k2 32 K, gk_xb c b2 8 B, gk_xb c r5 8 (gk_cry K B true)] := hD.sub [1, 2, 3, 4, 5, 6, 7] (by decide) rfl
    refine W.widen (k := 10 + 38 * (t + 1)) (n := 110 + 340 * (t + 1)) (by omega) (by omega) ?_
    exact at234 _ _ _ _ _ _ _ hP hD hS ls (lv_sub hl [6, 7, 8, 9, 0, 10, 1] rfl)
  have h224 : W p l e room_1 s m #[Value.ref X.2.1] below meth cd H locs (((((((10 + 38 * t + 0) + 0) + 0) + 0) + 0) + 0) + 0) (((((((110 + 340 * t + 0) + 0) + 0) + 0) + 0) + 0) + 0) Q (F0 m 224 ls []) := by
    refine lv_aload_n hx hb dL_law_224 rfl (lv_at hl 6 rfl) ?_
    refine gk_callv (wr := [gk_xb c kq 32 K, gk_xb c k2 32 K, gk_xb c b2 8 B, gk_xb c o2 8 O]) (va_runV (As := []) (rest := []) ⟨hx, hb, hml, hown, hts⟩ (m_ag l G c X d kq bq oq B O H.size) (cwV 0 hts (lw_V q285 q286 q287 q8 q288) rfl rfl rfl (by decide +kernel) ⟨(Nat.le_of_ble_eq_true rfl), (Nat.le_of_ble_eq_true rfl)⟩) ⟨gk_blind, va_recv hK hP (ci := 0) (q0 := 0) rfl rfl, gk_pre hP hD hK hC hS hA [0, 2, 3] rfl (by decide)⟩ rfl rfl hl.1 rfl (lv_room (Nat.le_of_ble_eq_true rfl)) dL_law_225 ⟨(show (((((((10 + 38 * t + 0) + 0) + 0) + 0) + 0) + 0) + 0) + 0 ≤ 1200192 by omega), (show (((((((110 + 340 * t + 0) + 0) + 0) + 0) + 0) + 0) + 0) + 0 ≤ 5500522 by omega)⟩) hP hD hS hA [0, 2, 3] [1, 4, 5, 6] rfl rfl (by decide) (by decide) (fun _ H locs _ hP hD hS => ?_)
    have hP : va_P G vwCl [gk_xb c kq 32 K, gk_xb c k2 32 K, gk_xb c b2 8 B, gk_xb c o2 8 O, (d, .inr (0, [.ref kq, .ref bq, .ref oq])), gk_xb c bq 8 O, gk_xb c oq 8 O] H := hP
    have hD : va_D A [gk_xb c kq 32 K, gk_xb c k2 32 K, gk_xb c b2 8 B, gk_xb c o2 8 O, (d, .inr (0, [.ref kq, .ref bq, .ref oq])), gk_xb c bq 8 O, gk_xb c oq 8 O] := hD
    refine lv_aload hx hb dL_law_228 (lv_at hl 9 rfl) ?_
    refine gk_callr (wr := [gk_xb c kq 32 K, gk_xb c k2 32 K, gk_xb c b2 8 B, (d, .inr (0, [.ref kq, .ref bq, .ref oq])), gk_xb c bq 8 O, gk_xb c oq 8 O]) (va_runS (As := [.ref o2]) (rest := []) ⟨hx, hb, hml, hown, hts⟩ (m_cp l G c X o2 O H.size) (va_cwS 1 hts (lw_S q342 q343 q7 q344) rfl rfl rfl (by decide +kernel) ⟨(Nat.le_of_ble_eq_true rfl), (Nat.le_of_ble_eq_true rfl)⟩) ⟨gk_blind, gk_pre hP hD hK hC hS hA [3] rfl (by decide)⟩ rfl rfl hl.1 rfl (lv_room (Nat.le_of_ble_eq_true rfl)) dL_law_230 ⟨(show ((((((((10 + 38 * t + 0) + 0) + 0) + 0) + 0) + 0) + 0) + 0) + 1 ≤ 1200192 by omega), (show ((((((((110 + 340 * t + 0) + 0) + 0) + 0) + 0) + 0) + 0) + 0) + 8 ≤ 5500522 by omega)⟩) hP hD hS hA [3] [0, 1, 2, 4, 5, 6] rfl rfl (by decide) (by decide) (fun _ r5 H locs _ hP hD hS => ?_)
    have hP : va_P G vwCl [gk_xb c kq 32 K, gk_xb c k2 32 K, gk_xb c b2 8 B, (d, .inr (0, [.ref kq, .ref bq, .ref oq])), gk_xb c bq 8 O, gk_xb c oq 8 O, gk_xb c o2 8 O, gk_xb c r5 8 O] H := hP
    have hD : va_D A [gk_xb c kq 32 K, gk_xb c k2 32 K, gk_xb c b2 8 B, (d, .inr (0, [.ref kq, .ref bq, .ref oq])), gk_xb c bq 8 O, gk_xb c oq 8 O, gk_xb c o2 8 O, gk_xb c r5 8 O] := hD
    refine lv_astore_n (lv' := [(3, .ref r5), (10, .int (gk_ce X (6 * t + 5))), (9, .int (gk_ce X (6 * t + 4))), (8, .int (gk_ce X (6 * t + 3))), (7, .int (gk_ce X (6 * t + 2))), (6, .int (gk_ce X (6 * t + 1))), (0, .ref X.2.1), (1, .ref d), (2, .ref k2), (4, .ref o2), (5, .int (nI (6 * t)))]) hx hb dL_law_233 rfl hl (by decide) rfl (fun ls hl => ?_)
    have hP : va_P G vwCl [(d, .inr (0, [.ref kq, .ref bq, .ref oq])), gk_xb c kq 32 K, gk_xb c bq 8 O, gk_xb c oq 8 O, gk_xb c k2 32 K, gk_xb c r5 8 O, gk_xb c o2 8 O] H := gk_Psub hP [3, 0, 4, 5, 1, 7, 6] rfl
    have hD : va_D A [(d, .inr (0, [.ref kq, .ref bq, .ref oq])), gk_xb c kq 32 K, gk_xb c bq 8 O, gk_xb c oq 8 O, gk_xb c k2 32 K, gk_xb c r5 8 O, gk_xb c o2 8 O] := hD.sub [3, 0, 4, 5, 1, 7, 6] (by decide) rfl
    refine W.widen (k := 10 + 38 * (t + 1)) (n := 110 + 340 * (t + 1)) (by omega) (by omega) ?_
    exact at234 _ _ _ _ _ _ _ hP hD hS ls (lv_sub hl [6, 7, 8, 0, 9, 10, 1] rfl)
  by_cases h9 : r.toInt < 0 ∨ 8 < r.toInt
  · exact lv_tableOut hx hb (tgt := 224) dL_law_111 h9 (by decide) h224
  have h8 : r = nI 0 ∨ r = nI 1 ∨ r = nI 2 ∨ r = nI 3 ∨ r = nI 4 ∨ r = nI 5 ∨ r = nI 6 ∨ r = nI 7 ∨ r = nI 8 := by
      have e : ∀ j : Nat, j < 9 → r.toInt = (j : Int) → r = nI j := fun j hj he => Int32.toInt_inj.mp (he.trans (nI_toInt (by omega)).symm)
      rcases (show r.toInt = 0 ∨ r.toInt = 1 ∨ r.toInt = 2 ∨ r.toInt = 3 ∨ r.toInt = 4 ∨ r.toInt = 5 ∨ r.toInt = 6 ∨ r.toInt = 7 ∨ r.toInt = 8 by omega) with h | h | h | h | h | h | h | h | h
      · exact Or.inl (e 0 (by decide) h)
      · exact Or.inr (Or.inl (e 1 (by decide) h))
      · exact Or.inr (Or.inr (Or.inl (e 2 (by decide) h)))
      · exact Or.inr (Or.inr (Or.inr (Or.inl (e 3 (by decide) h))))
      · exact Or.inr (Or.inr (Or.inr (Or.inr (Or.inl (e 4 (by decide) h)))))
      · exact Or.inr (Or.inr (Or.inr (Or.inr (Or.inr (Or.inl (e 5 (by decide) h))))))
      · exact Or.inr (Or.inr (Or.inr (Or.inr (Or.inr (Or.inr (Or.inl (e 6 (by decide) h)))))))
      · exact Or.inr (Or.inr (Or.inr (Or.inr (Or.inr (Or.inr (Or.inr (Or.inl (e 7 (by decide) h))))))))
      · exact Or.inr (Or.inr (Or.inr (Or.inr (Or.inr (Or.inr (Or.inr (Or.inr ((e 8 (by decide) h)))))))))
  clear h9
  rcases h8 with rfl | rfl | rfl | rfl | rfl | rfl | rfl | rfl | rfl
  · exact lv_tableIn hx hb (off := 49) (tgt := 160) dL_law_111 (by decide +kernel) (by decide +kernel) (by decide +kernel) (by decide) h160
  · exact lv_tableIn hx hb (off := 49) (tgt := 160) dL_law_111 (by decide +kernel) (by decide +kernel) (by decide +kernel) (by decide) h160
  · exact lv_tableIn hx hb (off := 49) (tgt := 160) dL_law_111 (by decide +kernel) (by decide +kernel) (by decide +kernel) (by decide) h160
  · exact lv_tableIn hx hb (off := 67) (tgt := 178) dL_law_111 (by decide +kernel) (by decide +kernel) (by decide +kernel) (by decide) h178
  · exact lv_tableIn hx hb (off := 67) (tgt := 178) dL_law_111 (by decide +kernel) (by decide +kernel) (by decide +kernel) (by decide) h178
  · exact lv_tableIn hx hb (off := 79) (tgt := 190) dL_law_111 (by decide +kernel) (by decide +kernel) (by decide +kernel) (by decide) h190
  · exact lv_tableIn hx hb (off := 79) (tgt := 190) dL_law_111 (by decide +kernel) (by decide +kernel) (by decide +kernel) (by decide) h190
  · exact lv_tableIn hx hb (off := 96) (tgt := 207) dL_law_111 (by decide +kernel) (by decide +kernel) (by decide +kernel) (by decide) h207
  · exact lv_tableIn hx hb (off := 96) (tgt := 207) dL_law_111 (by decide +kernel) (by decide +kernel) (by decide +kernel) (by decide) h207
set_option maxHeartbeats 8000000 in
set_option maxRecDepth 100000 in
/-- sixteen acts -/
theorem law_acts (l : Launch) {p : Program} {e : Env} {s : State} {m : MethodId} {below : List Frame} {meth : Method} {cd : Code} {G : va_G} {c : gk_I} {X : gk_X} {A : Nat → Prop} {Q : State → Prop} (hL : X.2.2.1 ≤ 96) (hx : p.tables.exec = Jvm.exec) (hb : cd.code = cL_law) (hml : cd.maxLocals = 11) (hown : s.vm.findClass RX0 = some m.cls) (hts : ∀ w ∈ lw_all, w.before #[Value.ref X.2.1] s = true) (hK : va_K G vwCl (gk_T c) s) (hC : gk_C X A s s.heap) (hA : ∀ q : Nat, s.heap.size ≤ q → A q) {d kq bq oq k2 : Nat} (hk : ∀ (b2 : Nat) (K B O : Nat → Int8), ∀ (H : Heap) (locs : List Loc), va_P G vwCl [(d, .inr (0, [.ref kq, .ref bq, .ref oq])), gk_xb c kq 32 K, gk_xb c bq 8 B, gk_xb c oq 8 O, gk_xb c k2 32 K, gk_xb c b2 8 B] H → va_D A [(d, .inr (0, [.ref kq, .ref bq, .ref oq])), gk_xb c kq 32 K, gk_xb c bq 8 B, gk_xb c oq 8 O, gk_xb c k2 32 K, gk_xb c b2 8 B] → va_S A s.heap H locs → ∀ ls : Array Slot, lv_has ls 11 [(0, .ref X.2.1), (1, .ref d), (2, .ref k2), (3, .ref b2)] → W p l e room_1 s m #[Value.ref X.2.1] below meth cd H locs 640 5600 Q (F0 m 253 ls [])) : ∀ (n t : Nat), t + n = 16 → ∀ (b2 o2 : Nat) (K B O : Nat → Int8), ∀ (H : Heap) (locs : List Loc), va_P G vwCl [(d, .inr (0, [.ref kq, .ref bq, .ref oq])), gk_xb c kq 32 K, gk_xb c bq 8 B, gk_xb c oq 8 O, gk_xb c k2 32 K, gk_xb c b2 8 B, gk_xb c o2 8 O] H → va_D A [(d, .inr (0, [.ref kq, .ref bq, .ref oq])), gk_xb c kq 32 K, gk_xb c bq 8 B, gk_xb c oq 8 O, gk_xb c k2 32 K, gk_xb c b2 8 B, gk_xb c o2 8 O] → va_S A s.heap H locs → ∀ ls : Array Slot, lv_has ls 11 [(0, .ref X.2.1), (1, .ref d), (2, .ref k2), (3, .ref b2), (4, .ref o2), (5, .int (nI (6 * t)))] → W p l e room_1 s m #[Value.ref X.2.1] below meth cd H locs (10 + 38 * t) (110 + 340 * t) Q (F0 m 43 ls []) := by
  intro n
  induction n with
  | zero =>
    intro t ht b2 o2 K B O H locs hP hD hS ls hl
    obtain rfl : t = 16 := by omega
    refine lv_iload hx hb dL_law_43 (lv_at hl 5 rfl) ?_
    refine lv_bipush (v := 96) hx hb dL_law_45 (by decide) ?_
    refine gk_jge (tgt := 253) hx hb (6 * 16) 96 rfl rfl (by decide) (by decide) dL_law_47 (by decide) (fun _ => ?_) (fun h => absurd h (by decide))
    refine W.widen (k := 640) (n := 5600) (Nat.le_of_ble_eq_true rfl) (Nat.le_of_ble_eq_true rfl) ?_
    exact hk _ _ _ _ _ _ (gk_Psub hP [0, 1, 2, 3, 4, 5] rfl) (hD.sub [0, 1, 2, 3, 4, 5] (by decide) rfl) hS ls (lv_sub hl [0, 1, 2, 3] rfl)
  | succ n ih =>
    intro t ht b2 o2 K B O H locs hP hD hS ls hl
    exact law_act l hL hx hb hml hown hts hK hC hA t (by omega) K B O (fun b2 o2 K B O H locs hP hD hS ls hl => ih (t + 1) (by omega) b2 o2 K B O H locs hP hD hS ls hl) H locs hP hD hS ls hl
set_option maxHeartbeats 8000000 in
set_option maxRecDepth 100000 in
/-- the law's body, from its entry -/
theorem law_body (l : Launch) {p : Program} {e : Env} {s : State} {m : MethodId} {below : List Frame} {meth : Method} {cd : Code} {G : va_G} {c : gk_I} {X : gk_X} {A : Nat → Prop} {Q : State → Prop} (hL : X.2.2.1 ≤ 96) (hx : p.tables.exec = Jvm.exec) (hb : cd.code = cL_law) (hml : cd.maxLocals = 11) (hown : s.vm.findClass RX0 = some m.cls) (hts : ∀ w ∈ lw_all, w.before #[Value.ref X.2.1] s = true) (hK : va_K G vwCl (gk_T c) s) (hC : gk_C X A s s.heap) (hA : ∀ q : Nat, s.heap.size ≤ q → A q) (hr : meth.sig.returnType = ret) (hlocks : meth.locks = false) (hA2 : ∀ q : Nat, A q → s.heap.size ≤ q) (hQ : Q = lw_Z below #[Value.ref X.2.1] s) (hP : va_P G vwCl [] s.heap) (hD : va_D A []) (hS : va_S A s.heap s.heap []) (ls : Array Slot) (hl : lv_has ls 11 [(0, .ref X.2.1)]) : W p l e room_1 s m #[Value.ref X.2.1] below meth cd s.heap [] 0 0 Q (F0 m 0 ls []) := by
  refine va_new (D := G) (ci := 0) (fs := [.null, .null, .null]) (C := RX1) (T := TX1) (N := 3) hx hb hts in_X1 tyX1 tyX1_ok hown (hts _ q21) (hts _ q22) (hts _ q8) hK hP hD hS hA rfl (fun j hj => by rcases (show j = 0 ∨ j = 1 ∨ j = 2 by omega) with rfl | rfl | rfl <;> rfl) (Nat.le_of_ble_eq_true rfl) (Nat.le_of_ble_eq_true rfl) dL_law_0 (fun d H hP hD hS => ?_)
  have hP : va_P G vwCl [(d, .inr (0, [.null, .null, .null]))] H := hP
  have hD : va_D A [(d, .inr (0, [.null, .null, .null]))] := hD
  refine lv_dup hx hb dL_law_3 rfl ?_
  refine gk_callv (wr := []) (va_runI (As := []) (rest := [.ref d]) ⟨hx, hb, hml, hown, hts⟩ (m_di l G c X d H.size) (cwI 0 hts (lw_meth q25) rfl rfl rfl (hts _ q8) (hts _ q23) (hts _ q24) rfl (by decide +kernel) ⟨(Nat.le_of_ble_eq_true rfl), (Nat.le_of_ble_eq_true rfl)⟩) ⟨gk_blind, gk_pre hP hD hK hC hS hA [0] rfl (by decide)⟩ rfl rfl hl.1 rfl (lv_room (Nat.le_of_ble_eq_true rfl)) dL_law_4 ⟨(Nat.le_of_ble_eq_true rfl), (Nat.le_of_ble_eq_true rfl)⟩) hP hD hS hA [0] [] rfl rfl (by decide) (by decide) (fun u H locs _ hP hD hS => ?_)
  have hP : va_P G vwCl [(d, .inr (0, [.ref u.1, .ref u.2.1, .ref u.2.2])), gk_xb c u.1 32 (fun _ => 0), gk_xb c u.2.1 8 (fun _ => 0), gk_xb c u.2.2 8 (fun _ => 0)] H := hP
  have hD : va_D A [(d, .inr (0, [.ref u.1, .ref u.2.1, .ref u.2.2])), gk_xb c u.1 32 (fun _ => 0), gk_xb c u.2.1 8 (fun _ => 0), gk_xb c u.2.2 8 (fun _ => 0)] := hD
  obtain ⟨kq, bq, oq⟩ := u
  have hP : va_P G vwCl [(d, .inr (0, [.ref kq, .ref bq, .ref oq])), gk_xb c kq 32 (fun _ => 0), gk_xb c bq 8 (fun _ => 0), gk_xb c oq 8 (fun _ => 0)] H := hP
  have hD : va_D A [(d, .inr (0, [.ref kq, .ref bq, .ref oq])), gk_xb c kq 32 (fun _ => 0), gk_xb c bq 8 (fun _ => 0), gk_xb c oq 8 (fun _ => 0)] := hD
  refine lv_astore_n (lv' := [(1, .ref d), (0, .ref X.2.1)]) hx hb dL_law_7 rfl hl (by decide) rfl (fun ls hl => ?_)
  refine lv_bipush (v := 32) hx hb dL_law_8 (by decide) ?_
  refine gk_newb hx hb (hts _ q39) hK hP hD hS hA 32 (rfl) (by decide) (Nat.le_of_ble_eq_true rfl) (Nat.le_of_ble_eq_true rfl) dL_law_10 (fun k2 H hP hD hS => ?_)
  have hP : va_P G vwCl [(d, .inr (0, [.ref kq, .ref bq, .ref oq])), gk_xb c kq 32 (fun _ => 0), gk_xb c bq 8 (fun _ => 0), gk_xb c oq 8 (fun _ => 0), gk_xb c k2 32 (fun _ => 0)] H := hP
  have hD : va_D A [(d, .inr (0, [.ref kq, .ref bq, .ref oq])), gk_xb c kq 32 (fun _ => 0), gk_xb c bq 8 (fun _ => 0), gk_xb c oq 8 (fun _ => 0), gk_xb c k2 32 (fun _ => 0)] := hD
  refine lv_astore_n (lv' := [(2, .ref k2), (1, .ref d), (0, .ref X.2.1)]) hx hb dL_law_12 rfl hl (by decide) rfl (fun ls hl => ?_)
  refine lv_bipush (v := 8) hx hb dL_law_13 (by decide) ?_
  refine gk_newb hx hb (hts _ q39) hK hP hD hS hA 8 (rfl) (by decide) (Nat.le_of_ble_eq_true rfl) (Nat.le_of_ble_eq_true rfl) dL_law_15 (fun b2 H hP hD hS => ?_)
  have hP : va_P G vwCl [(d, .inr (0, [.ref kq, .ref bq, .ref oq])), gk_xb c kq 32 (fun _ => 0), gk_xb c bq 8 (fun _ => 0), gk_xb c oq 8 (fun _ => 0), gk_xb c k2 32 (fun _ => 0), gk_xb c b2 8 (fun _ => 0)] H := hP
  have hD : va_D A [(d, .inr (0, [.ref kq, .ref bq, .ref oq])), gk_xb c kq 32 (fun _ => 0), gk_xb c bq 8 (fun _ => 0), gk_xb c oq 8 (fun _ => 0), gk_xb c k2 32 (fun _ => 0), gk_xb c b2 8 (fun _ => 0)] := hD
  refine lv_astore_n (lv' := [(3, .ref b2), (2, .ref k2), (1, .ref d), (0, .ref X.2.1)]) hx hb dL_law_17 rfl hl (by decide) rfl (fun ls hl => ?_)
  refine lv_bipush (v := 8) hx hb dL_law_18 (by decide) ?_
  refine gk_newb hx hb (hts _ q39) hK hP hD hS hA 8 (rfl) (by decide) (Nat.le_of_ble_eq_true rfl) (Nat.le_of_ble_eq_true rfl) dL_law_20 (fun o2 H hP hD hS => ?_)
  have hP : va_P G vwCl [(d, .inr (0, [.ref kq, .ref bq, .ref oq])), gk_xb c kq 32 (fun _ => 0), gk_xb c bq 8 (fun _ => 0), gk_xb c oq 8 (fun _ => 0), gk_xb c k2 32 (fun _ => 0), gk_xb c b2 8 (fun _ => 0), gk_xb c o2 8 (fun _ => 0)] H := hP
  have hD : va_D A [(d, .inr (0, [.ref kq, .ref bq, .ref oq])), gk_xb c kq 32 (fun _ => 0), gk_xb c bq 8 (fun _ => 0), gk_xb c oq 8 (fun _ => 0), gk_xb c k2 32 (fun _ => 0), gk_xb c b2 8 (fun _ => 0), gk_xb c o2 8 (fun _ => 0)] := hD
  refine lv_astore (lv' := [(4, .ref o2), (3, .ref b2), (2, .ref k2), (1, .ref d), (0, .ref X.2.1)]) hx hb dL_law_22 hl (by decide) rfl (fun ls hl => ?_)
  refine lv_aload_n hx hb dL_law_24 rfl (lv_at hl 3 rfl) ?_
  refine lv_aload hx hb dL_law_25 (lv_at hl 0 rfl) ?_
  refine lv_aload_n hx hb dL_law_27 rfl (lv_at hl 4 rfl) ?_
  refine lv_iconst (v := 0) hx hb dL_law_28 (by decide) ?_
  refine gk_calli (wr := [(d, .inr (0, [.ref kq, .ref bq, .ref oq])), gk_xb c kq 32 (fun _ => 0), gk_xb c bq 8 (fun _ => 0), gk_xb c oq 8 (fun _ => 0), gk_xb c k2 32 (fun _ => 0), gk_xb c b2 8 (fun _ => 0), gk_xb c o2 8 (fun _ => 0)]) (va_runS (As := [.ref X.2.1, .int (nI (0))]) (rest := [.ref o2, .ref d]) ⟨hx, hb, hml, hown, hts⟩ (m_cl l G c X (0) H.size hL (by omega)) (va_cwS 2 hts (lw_S q289 q290 q7 q291) rfl rfl rfl (by decide +kernel) ⟨(Nat.le_of_ble_eq_true rfl), (Nat.le_of_ble_eq_true rfl)⟩) ⟨gk_blind, gk_pre hP hD hK hC hS hA [] rfl (by decide)⟩ rfl rfl hl.1 rfl (lv_room (Nat.le_of_ble_eq_true rfl)) dL_law_29 ⟨(Nat.le_of_ble_eq_true rfl), (Nat.le_of_ble_eq_true rfl)⟩) hP hD hS hA [] [0, 1, 2, 3, 4, 5, 6] rfl rfl (by decide) (by decide) (fun r _ H locs hw hP hD hS => ?_)
  have hP : va_P G vwCl [(d, .inr (0, [.ref kq, .ref bq, .ref oq])), gk_xb c kq 32 (fun _ => 0), gk_xb c bq 8 (fun _ => 0), gk_xb c oq 8 (fun _ => 0), gk_xb c k2 32 (fun _ => 0), gk_xb c b2 8 (fun _ => 0), gk_xb c o2 8 (fun _ => 0)] H := hP
  have hD : va_D A [(d, .inr (0, [.ref kq, .ref bq, .ref oq])), gk_xb c kq 32 (fun _ => 0), gk_xb c bq 8 (fun _ => 0), gk_xb c oq 8 (fun _ => 0), gk_xb c k2 32 (fun _ => 0), gk_xb c b2 8 (fun _ => 0), gk_xb c o2 8 (fun _ => 0)] := hD
  have hw : r = gk_ce X (0) := hw
  subst hw
  refine gk_calli (wr := [gk_xb c kq 32 (fun _ => 0), gk_xb c bq 8 (fun _ => 0), gk_xb c k2 32 (fun _ => 0), gk_xb c b2 8 (fun _ => 0)]) (va_runS (As := [.ref d, .ref o2, .int (gk_ce X (0))]) (rest := []) ⟨hx, hb, hml, hown, hts⟩ (m_sh l G c X d kq bq oq o2 (fun _ => 0) (fun _ => 0) (gk_ce X (0)) H.size (fun _ _ => rfl)) (va_cwS 3 hts (lw_S q335 q336 q7 q337) rfl rfl rfl (by decide +kernel) ⟨(Nat.le_of_ble_eq_true rfl), (Nat.le_of_ble_eq_true rfl)⟩) ⟨gk_blind, gk_pre hP hD hK hC hS hA [0, 3, 6] rfl (by decide)⟩ rfl rfl hl.1 rfl (lv_room (Nat.le_of_ble_eq_true rfl)) dL_law_32 ⟨(Nat.le_of_ble_eq_true rfl), (Nat.le_of_ble_eq_true rfl)⟩) hP hD hS hA [0, 3, 6] [1, 2, 4, 5] rfl rfl (by decide) (by decide) (fun r _ H locs hw hP hD hS => ?_)
  have hP : va_P G vwCl [gk_xb c kq 32 (fun _ => 0), gk_xb c bq 8 (fun _ => 0), gk_xb c k2 32 (fun _ => 0), gk_xb c b2 8 (fun _ => 0), (d, .inr (0, [.ref kq, .ref bq, .ref oq])), gk_xb c oq 8 (fun _ => 0), gk_xb c o2 8 (fun _ => 0)] H := hP
  have hD : va_D A [gk_xb c kq 32 (fun _ => 0), gk_xb c bq 8 (fun _ => 0), gk_xb c k2 32 (fun _ => 0), gk_xb c b2 8 (fun _ => 0), (d, .inr (0, [.ref kq, .ref bq, .ref oq])), gk_xb c oq 8 (fun _ => 0), gk_xb c o2 8 (fun _ => 0)] := hD
  have hw : r = 1 := hw
  subst hw
  refine lv_if_ne (tgt := 40) hx hb dL_law_35 (by decide) (fun _ => ?_) (fun h => absurd h (by decide))
  refine lv_iconst (v := 0) hx hb dL_law_40 (by decide) ?_
  refine lv_istore (lv' := [(5, .int 0), (4, .ref o2), (3, .ref b2), (2, .ref k2), (1, .ref d), (0, .ref X.2.1)]) hx hb dL_law_41 hl (by decide) rfl (fun ls hl => ?_)
  have hP : va_P G vwCl [(d, .inr (0, [.ref kq, .ref bq, .ref oq])), gk_xb c kq 32 (fun _ => 0), gk_xb c bq 8 (fun _ => 0), gk_xb c oq 8 (fun _ => 0), gk_xb c k2 32 (fun _ => 0), gk_xb c b2 8 (fun _ => 0), gk_xb c o2 8 (fun _ => 0)] H := gk_Psub hP [4, 0, 1, 5, 2, 3, 6] rfl
  have hD : va_D A [(d, .inr (0, [.ref kq, .ref bq, .ref oq])), gk_xb c kq 32 (fun _ => 0), gk_xb c bq 8 (fun _ => 0), gk_xb c oq 8 (fun _ => 0), gk_xb c k2 32 (fun _ => 0), gk_xb c b2 8 (fun _ => 0), gk_xb c o2 8 (fun _ => 0)] := hD.sub [4, 0, 1, 5, 2, 3, 6] (by decide) rfl
  refine W.widen (k := 10 + 38 * 0) (n := 110 + 340 * 0) (Nat.le_of_ble_eq_true rfl) (Nat.le_of_ble_eq_true rfl) ?_
  refine law_acts l hL hx hb hml hown hts hK hC hA (fun b2 K B O H locs hP hD hS ls hl => ?_) 16 0 rfl b2 o2 (fun _ => 0) (fun _ => 0) (fun _ => 0) H locs hP hD hS ls (lv_sub hl [5, 4, 3, 2, 1, 0] rfl)
  refine lv_iconst (v := 0) hx hb dL_law_253 (by decide) ?_
  refine lv_istore (lv' := [(5, .int 0), (0, .ref X.2.1), (1, .ref d), (2, .ref k2), (3, .ref b2)]) hx hb dL_law_254 hl (by decide) rfl (fun ls hl => ?_)
  refine W.widen (k := 650) (n := 5600) (Nat.le_of_ble_eq_true rfl) (Nat.le_of_ble_eq_true rfl) ?_
  refine law_w0 l hL hx hb hml hown hts hK hC hA K B O (fun O H locs hP hD hS ls hl => ?_) H locs hP hD hS ls (lv_sub hl [1, 2, 3, 4, 0] rfl)
  refine law_w1 l hL hx hb hml hown hts hK hC hA K B O (fun O H locs hP hD hS ls hl => ?_) H locs hP hD hS ls hl
  refine lv_iload hx hb dL_law_256 (lv_at hl 4 rfl) ?_
  refine lv_iconst (v := 2) hx hb dL_law_258 (by decide) ?_
  refine gk_jge (tgt := 370) hx hb 2 2 rfl rfl (by decide) (by decide) dL_law_259 (by decide) (fun _ => ?_) (fun h => absurd h (by decide))
  refine law_p2 l hL hx hb hml hown hts hK hC hA K B O (fun wq r1 O H locs hP hD hS ls hl => ?_) H locs hP hD hS ls (lv_sub hl [0, 1, 2, 3] rfl)
  refine law_p3 l hL hx hb hml hown hts hK hC hA K B O (fun K1 B1 O1 wf H locs hP hD hS ls hl => ?_) H locs hP hD hS ls hl
  exact law_p4 l hL hx hb hml hown hts hK hC hA hr hlocks hA2 hQ K1 B1 O1 wf H locs hP hD hS ls hl
end
section
set_option maxRecDepth 100000
theorem gk_arrB {args : Array Value} {s : State} (h : (Cond.arrayClass .byte).before args s = true) : ∃ cA : ClassId, ArrOfT s cA .byte ∧ va_RA s cA .byte := by
  obtain ⟨cA, kA, comp, h1, h2, h3⟩ := Cond.arrayClass_spec h
  exact ⟨cA, fun n z => ⟨fun k h => (by cases h), kA, h2, comp, h3⟩, h1⟩
theorem gk_arrI {args : Array Value} {s : State} (h : (Cond.arrayClass .int).before args s = true) : ∃ cA : ClassId, ArrOfT s cA .int ∧ va_RA s cA .int := by
  obtain ⟨cA, kA, comp, h1, h2, h3⟩ := Cond.arrayClass_spec h
  exact ⟨cA, fun n z => ⟨fun k h => (by cases h), kA, h2, comp, h3⟩, h1⟩
theorem gk_arrL {args : Array Value} {s : State} (h : (Cond.arrayClass .long).before args s = true) : ∃ cA : ClassId, ArrOfT s cA .long ∧ va_RA s cA .long := by
  obtain ⟨cA, kA, comp, h1, h2, h3⟩ := Cond.arrayClass_spec h
  exact ⟨cA, fun n z => ⟨fun k h => (by cases h), kA, h2, comp, h3⟩, h1⟩
/-- the start's conditions on the places of the S-boxes, in a row -/
theorem gk_run128 : (List.range 128).map (fun j => Cond.eq (Term.elem (Jvm.Term.static "GOST28147Engine" "Sbox_Default" "[B") (.int (Int32.ofNat j))) (.int (gk_sb j))) = ((flatC (Jvm.Cond.and given_1 narrow_1)).drop 7).take 128 := by decide +kernel
/-- YOUR PART: from the entry, for every script of at most 96 ints, the law comes to its end with true ('hflags': the launch's flags, for a law that throws: no stack traces) -/
theorem whole_start {p : Program} {e : Env} {s : State} {m : MethodId} {below : List Frame} {meth : Method} {c : Code} (l : Launch) (hflags : l.flags = flags0) {b L : Nat} {xs : Nat → Int32} (hL : L ≤ 96) (C0 : lw_At p s m meth c b L xs) : W p l e room_1 s m #[Value.ref b] below meth c s.heap [] 0 0 (lw_Z below #[Value.ref b] s) (entryFrame m ([Value.ref b] : List Value).toArray 11) := by
  obtain ⟨hx, hb, hr, hml, hown, hts0, hX, hbl, hlocks, hgv⟩ := C0
  have hts : ∀ w ∈ lw_all, w.before #[Value.ref b] s = true := fun w h => hts0 w (lw_all_tbl h)
  obtain ⟨c0, i0, hK0⟩ := u_known (C := RX1) (T := TX1) (N := 3) (n := 3) hts in_X1 (hts _ q22)
  obtain ⟨c1, i1, hK1⟩ := u_known (C := RX2) (T := TX2) (N := 3) (n := 3) hts in_X2 (hts _ q52)
  obtain ⟨c2, i2, hK2⟩ := u_known (C := RX3) (T := TX3) (N := 1) (n := 1) hts in_X3 (hts _ q70)
  obtain ⟨cB, hB1, hB2⟩ := gk_arrB (hts _ q39)
  obtain ⟨cI, hI1, hI2⟩ := gk_arrI (hts _ q251)
  obtain ⟨cL, hL1, hL2⟩ := gk_arrL (hts _ q314)
  obtain ⟨dC, dI, hKc⟩ : ∃ (dC : Nat → ClassId) (dI : Nat → Nat → Nat), ∀ (k : Nat) (q : vw_C), vwCl[k]? = some q → u_Kn s q.1 q.2.1 q.2.2 (dC k) (dI k) := by
    refine ⟨fun k => if k = 0 then c0 else if k = 1 then c1 else c2, fun k => if k = 0 then i0 else if k = 1 then i1 else i2, ?_⟩
    intro k q hq
    match k, hq with
    | 0, hq => cases hq; exact hK0
    | 1, hq => cases hq; exact hK1
    | 2, hq => cases hq; exact hK2
    | k + 3, hq => simp [vwCl] at hq
  have hK : va_K (dC, dI) vwCl (gk_T (cB, cI, cL)) s := by
    refine ⟨hKc, ?_⟩
    intro k q hq
    match k, hq with
    | 0, hq => cases hq; exact ⟨hB1, hB2⟩
    | 1, hq => cases hq; exact ⟨hI1, hI2⟩
    | 2, hq => cases hq; exact ⟨hL1, hL2⟩
    | k + 3, hq => simp [gk_T] at hq
  have hs := flat_of_before _ hgv
  have hA : ∀ a : Nat, a < s.heap.size → ¬ (fun q : Nat => s.heap.size ≤ q) a := fun a h => Nat.not_le.mpr h
  obtain ⟨t, ht, hT⟩ := va_Tof (args := #[Value.ref b]) (s := s) (tm := (Jvm.Term.static "GOST28147Engine" "Sbox_Default" "[B")) (ty := .byte) (N := 128) (f := fun j => .int (gk_sb j)) (A := fun q : Nat => s.heap.size ≤ q) (by decide) (hs (Cond.arrayOf (Jvm.Term.static "GOST28147Engine" "Sbox_Default" "[B") .byte) (by decide +kernel)) (va_eqt (z := 128) (hs (Cond.eq (Term.length (Jvm.Term.static "GOST28147Engine" "Sbox_Default" "[B")) (.int 128)) (by decide +kernel))) (fun j hj => va_eqt (hs _ (va_run gk_run128 j hj))) hA
  have hC : gk_C (t, b, L, xs) (fun q : Nat => s.heap.size ≤ q) s s.heap := ⟨va_Zof (hts0 _ q58) (hts _ q9) ht hA, hT, ⟨hX, hbl, hA b hbl⟩, va_Fw.of (hts0 _ q91) (hts0 _ q90) (hts0 _ q96) (hts0 _ q94) (hts0 _ q92), va_Fw.of (hts0 _ q222) (hts0 _ q221) (hts0 _ q226) (hts0 _ q224) (hts0 _ q92), va_Nc.of (hs (Cond.not (Cond.castable "KeyParameter" "ParametersWithSBox")) (by decide +kernel))⟩
  have hl := lv_entry ([.ref b]) (n := 11) (Nat.le_of_ble_eq_true rfl)
  rw [lg_entry_eq]
  exact law_body l (G := (dC, dI)) (c := (cB, cI, cL)) (X := (t, b, L, xs)) (A := fun q : Nat => s.heap.size ≤ q) hL hx hb hml hown hts hK hC (fun _ h => h) hr hlocks (fun _ h => h) rfl (fun k q h => by simp at h) ⟨fun i j p q h => by simp at h, fun k q h => by simp at h⟩ va_S.rf _ hl
end
section
-- ===== YOUR PART ENDS =====
set_option maxHeartbeats 4000000 in
theorem lw_walk (l : Launch) (hflags : l.flags = flags0) (b : Addr) (xs : List Int32) : MetFree l x (headSpec (Jvm.Cond.code x code maxLocals ret :: tables_1) room_1) (lw_P b xs) (fun _ _ _ _ _ => True) lw_Q := by
  refine MetFree.of_bodyS (code := code) (maxLocals := maxLocals) (ret := ret) (by decide) ?_ ?_
  · intro args s m h hn
    obtain ⟨meth, c, h1, h2, h3, h4, h5, h6, -, -⟩ := Cond.code_spec hn (atoms_spec (ws := Jvm.Cond.code x code maxLocals ret :: tables_1) h _ List.mem_cons_self)
    exact ⟨meth, c, h1, h2, h3, h4, h5, h6⟩
  · intro p e s m args below meth c s₁ B hml0 hP _
    obtain ⟨rfl, hx, hbd, hgv⟩ := hP
    obtain ⟨scr, harrAt, hlist, hof, hsmall⟩ := hx
    obtain ⟨hcb, hkn, -, -⟩ := State.arrayAt?_spec harrAt
    have hown : s.vm.findClass R_law = some m.cls := findClass_of_methodNamed B.named
    have hts0 : ∀ c ∈ (Jvm.Cond.code x code maxLocals ret :: tables_1), c.before #[Value.ref b] s = true := atoms_spec (ws := Jvm.Cond.code x code maxLocals ret :: tables_1) B.pre
    have hts : ∀ w ∈ lw_tbl, w.before #[Value.ref b] s = true := k2_hts_sels lw_privs (fun w hw => hts0 w (List.mem_cons_of_mem _ hw)) lw_privs_ok
    have hml : c.maxLocals = 11 := B.maxLocals_eq (hts0 _ List.mem_cons_self)
    have X₀ : Stand p l e room_1 s m #[Value.ref b] below meth c s₁ [] 0 0 := Stand.of_body B
    have hh0 : s₁.heap = s.heap := by rw [B.state]; rfl
    have hsz : scr.slots.size = xs.length := by rw [← Array.length_toList, hlist, List.length_map]
    have hval : ∀ j : Nat, j < xs.length → scr.slots[j]? = some (.int (xs.getD j 0)) := fun j hj => by
      rw [← Array.getElem?_toList, hlist]
      simp [hj]
    have hbl : b < s.heap.size := (Array.getElem?_eq_some_iff.mp hcb).1
    have hX : va_X b xs.length (fun j => xs.getD j 0) s s.heap := ⟨scr, hcb, hof, hkn, hsz, hval⟩
    have K : W p l e room_1 s m #[Value.ref b] below meth c s₁.heap [] 0 0 (lw_Z below #[Value.ref b] s) (entryFrame m ([Value.ref b] : List Value).toArray 11) := by
      rw [hh0]
      exact whole_start l hflags hbd ⟨B.exec, B.bytes, B.returns, hml, hown, hts, hX, hbl, B.notSynchronized, hgv⟩
    obtain ⟨t, a1, o, b1, b2, b3⟩ := K s₁ rfl X₀
    exact ⟨t, o, a1, b1, b2, b3⟩
theorem lw_pre_spec {args : Array Value} {s : State} (h : (Jvm.Cond.and given_1 narrow_1).before args s = true) (hr : rest_1_c.before args s = true) : ∃ (b : Addr) (xs : List Int32), lw_P b xs args s := by
  have hs := flat_of_before _ h
  have hq := flat_of_before _ hr
  have hc : (Cond.count 1).before args s = true := hs _ (by decide +kernel)
  have harr : (Cond.arrayOf (.arg 0) .int).before args s = true := hs _ (by decide +kernel)
  have hle : (Cond.le (.length (.arg 0)) (.int 96)).before args s = true := hs _ (by decide +kernel)
  have hlen : (Cond.isInt (.length (.arg 0))).before args s = true := hq _ (by decide +kernel)
  have hall : (Cond.all (.arg 0) (.isInt (.elem (.arg 0) (.index 0)))).before args s = true := hq _ (by decide +kernel)
  obtain ⟨b, xs, hb, hx⟩ := State.ints_of_pre rfl harr hlen hall
  have hsm : xs.length < 2 ^ 31 := hx.choose_spec.2.2.2
  have hev : (Term.length (.arg 0)).eval args s none [] s = some (.int xs.length.toInt32) := hx.length_eval hb
  have hv := Cond.le_ints hev (show (Term.int 96).eval args s none [] s = some (.int 96) from rfl)
  have hd : xs.length.toInt32 ≤ 96 := by
    simpa [Cond.before, Cond.holds, hv] using hle
  have hN : xs.length ≤ 96 := (Int32.ofNat_le_ofNat hsm (by decide)).mp (show Int32.ofNat xs.length ≤ Int32.ofNat 96 from hd)
  exact ⟨b, xs, Cond.one_arg hc (show args[0]? = some (.ref b) from hb), hx, hN, h⟩
theorem lw_comes (l : Launch) (hflags : l.flags = flags0) : Comes l x (Jvm.Cond.code x code maxLocals ret :: tables_1) room_1 (fun tb e args s => Calls_1 tb e args s ∧ rest_1 tb e args s ∧ Pre_1 tb e args s)
    (fun _ _ args s o t => lw_Q args s o t) := by
  intro p e ha hc hk s m args below hf hfit hheap happ hpre
  obtain ⟨b, xs, hP⟩ := lw_pre_spec hpre.2.2 hpre.2.1
  obtain ⟨k, o, h1, h2, h3, hQ⟩ := lw_walk l hflags b xs p e ha hc hk s m args below hf ((Spec.applies_iff_loose hf).mp happ).1 hP trivial
  exact ⟨k, o, h1, h2, h3, hQ⟩
theorem lw_frame {s t : State} {o : Outcome} {args : Array Value} (h : Framed s o t [] 1200192 5500522) :
    Framed s o t (fieldLocs frame_1_writes args s ++ arrayLocs frame_1_arrays args s ++ staticLocs frame_1_statics s) 1200192 5500522 := h
theorem lw_limb (L : Cond) (hL : ∀ (args : Array Value) (s t : State), L.after args s (.returned (some (.int 1))) t = true) :
    ArmFor flags0 classFile x code maxLocals ret World_1 tables_1 room_1 Calls_1 rest_1 Pre_1
      (fun tb e a s o t => postC L tb e a s o t ∧ Framed s o t (fieldLocs frame_1_writes a s ++ arrayLocs frame_1_arrays a s ++ staticLocs frame_1_statics s) 1200192 5500522) := by
  intro l hflags _ _ p e ha hc hk s m args below hf hfit hheap happ hpre
  obtain ⟨k, o, h1, h2, h3, rfl, hF⟩ := lw_comes l hflags p e ha hc hk s m args below hf hfit hheap happ hpre
  exact ⟨k, _, h1, h2, h3, hL args s _, lw_frame hF⟩
theorem i_vc : Claimed_1_1 ∧ Claimed_1_2 := ⟨lw_limb limb_1_1 (fun args s t => by simp [limb_1_1, Cond.after, Cond.holds, Cond.value]), lw_limb limb_1_2 (fun args s t => Cond.after_iff.mpr (by
  first | (rw [show limb_1_2 = Cond.eq .result (.int 1) from rfl, Cond.eq_ints (x := 1) (y := 1) rfl rfl]; simp; done) | (simp [limb_1_2, Cond.value, Term.eval]; done)))⟩
end
