section
-- ===== PART A: goes FIRST, ahead of the names: the tables' words, and 'selects' of the private methods out of them =====
/-- a private method of a class that the tables say can be made, by its rows of tables_1 -/
def lw_okq (q : MethodName × Nat) : Prop := (q.1.cls ≠ "java/lang/invoke/MethodHandle" ∧ q.1.cls ≠ "java/lang/invoke/VarHandle") ∧ Cond.instantiable q.1.cls q.2 ∈ tables_1 ∧ Cond.privateMethod q.1 ∈ tables_1 ∧ Cond.instanceMethod q.1 ∈ tables_1
set_option maxRecDepth 100000
theorem lw_t1 {w : Cond} (h : w ∈ tables_1_1) : w ∈ tables_1 := List.mem_append_left _ h
theorem lw_t2 {w : Cond} (h : w ∈ tables_1_2) : w ∈ tables_1 := List.mem_append_right _ h
theorem lw_p0 : lw_okq (⟨"IdeaDesk", "run", "(ZI)V"⟩, 3) := ⟨⟨by decide +kernel, by decide +kernel⟩, lw_t1 (List.mem_of_getElem? (i := 20) rfl), lw_t1 (List.mem_of_getElem? (i := 18) rfl), lw_t1 (List.mem_of_getElem? (i := 19) rfl)⟩
theorem lw_p1 : lw_okq (⟨"IDEAEngine", "generateWorkingKey", "(Z[B)[I"⟩, 2) := ⟨⟨by decide +kernel, by decide +kernel⟩, lw_t1 (List.mem_of_getElem? (i := 26) rfl), lw_t1 (List.mem_of_getElem? (i := 76) rfl), lw_t1 (List.mem_of_getElem? (i := 77) rfl)⟩
theorem lw_p2 : lw_okq (⟨"IDEAEngine", "expandKey", "([B)[I"⟩, 2) := ⟨⟨by decide +kernel, by decide +kernel⟩, lw_t1 (List.mem_of_getElem? (i := 26) rfl), lw_t1 (List.mem_of_getElem? (i := 80) rfl), lw_t1 (List.mem_of_getElem? (i := 81) rfl)⟩
theorem lw_p3 : lw_okq (⟨"IDEAEngine", "bytesToWord", "([BI)I"⟩, 2) := ⟨⟨by decide +kernel, by decide +kernel⟩, lw_t1 (List.mem_of_getElem? (i := 26) rfl), lw_t1 (List.mem_of_getElem? (i := 85) rfl), lw_t1 (List.mem_of_getElem? (i := 86) rfl)⟩
theorem lw_p4 : lw_okq (⟨"IDEAEngine", "invertKey", "([I)[I"⟩, 2) := ⟨⟨by decide +kernel, by decide +kernel⟩, lw_t1 (List.mem_of_getElem? (i := 26) rfl), lw_t1 (List.mem_of_getElem? (i := 91) rfl), lw_t1 (List.mem_of_getElem? (i := 92) rfl)⟩
theorem lw_p5 : lw_okq (⟨"IDEAEngine", "mulInv", "(I)I"⟩, 2) := ⟨⟨by decide +kernel, by decide +kernel⟩, lw_t1 (List.mem_of_getElem? (i := 26) rfl), lw_t1 (List.mem_of_getElem? (i := 95) rfl), lw_t1 (List.mem_of_getElem? (i := 96) rfl)⟩
theorem lw_p6 : lw_okq (⟨"java/lang/Throwable", "fillInStackTrace", "(I)Ljava/lang/Throwable;"⟩, 6) := ⟨⟨by decide +kernel, by decide +kernel⟩, lw_t1 (List.mem_of_getElem? (i := 143) rfl), lw_t1 (List.mem_of_getElem? (i := 141) rfl), lw_t1 (List.mem_of_getElem? (i := 142) rfl)⟩
theorem lw_p7 : lw_okq (⟨"IDEAEngine", "ideaFunc", "([I[BI[BI)V"⟩, 2) := ⟨⟨by decide +kernel, by decide +kernel⟩, lw_t1 (List.mem_of_getElem? (i := 26) rfl), lw_t1 (List.mem_of_getElem? (i := 235) rfl), lw_t1 (List.mem_of_getElem? (i := 236) rfl)⟩
theorem lw_p8 : lw_okq (⟨"IDEAEngine", "mul", "(II)I"⟩, 2) := ⟨⟨by decide +kernel, by decide +kernel⟩, lw_t1 (List.mem_of_getElem? (i := 26) rfl), lw_t1 (List.mem_of_getElem? (i := 239) rfl), lw_t2 (List.mem_of_getElem? (i := 0) rfl)⟩
theorem lw_p9 : lw_okq (⟨"IDEAEngine", "wordToBytes", "(I[BI)V"⟩, 2) := ⟨⟨by decide +kernel, by decide +kernel⟩, lw_t1 (List.mem_of_getElem? (i := 26) rfl), lw_t2 (List.mem_of_getElem? (i := 3) rfl), lw_t2 (List.mem_of_getElem? (i := 4) rfl)⟩
def lw_privs_1 : List (MethodName × Nat) := [(⟨"IdeaDesk", "run", "(ZI)V"⟩, 3), (⟨"IDEAEngine", "generateWorkingKey", "(Z[B)[I"⟩, 2), (⟨"IDEAEngine", "expandKey", "([B)[I"⟩, 2), (⟨"IDEAEngine", "bytesToWord", "([BI)I"⟩, 2), (⟨"IDEAEngine", "invertKey", "([I)[I"⟩, 2), (⟨"IDEAEngine", "mulInv", "(I)I"⟩, 2), (⟨"java/lang/Throwable", "fillInStackTrace", "(I)Ljava/lang/Throwable;"⟩, 6), (⟨"IDEAEngine", "ideaFunc", "([I[BI[BI)V"⟩, 2), (⟨"IDEAEngine", "mul", "(II)I"⟩, 2), (⟨"IDEAEngine", "wordToBytes", "(I[BI)V"⟩, 2)]
theorem lw_r1 : ∀ q ∈ lw_privs_1, lw_okq q := List.forall_mem_cons.mpr ⟨lw_p0, List.forall_mem_cons.mpr ⟨lw_p1, List.forall_mem_cons.mpr ⟨lw_p2, List.forall_mem_cons.mpr ⟨lw_p3, List.forall_mem_cons.mpr ⟨lw_p4, List.forall_mem_cons.mpr ⟨lw_p5, List.forall_mem_cons.mpr ⟨lw_p6, List.forall_mem_cons.mpr ⟨lw_p7, List.forall_mem_cons.mpr ⟨lw_p8, List.forall_mem_cons.mpr ⟨lw_p9, fun _ h => absurd h List.not_mem_nil⟩⟩⟩⟩⟩⟩⟩⟩⟩⟩
def lw_privs : List (MethodName × Nat) := lw_privs_1
def lw_tbl : List Cond := k2_sels lw_privs ++ tables_1
theorem lw_privs_ok : ∀ q ∈ lw_privs, lw_okq q := lw_r1
-- ===== ONE list of words for every method: the tables' words that hold all through a run =====
def lw_all : List Cond := lw_tbl.filter goodWord
/-- a word of the tables by its place: claim/WORDS.tsv -/
theorem lw_w {w : Cond} (i : Nat) (h : lw_tbl[i]? = some w) (g : goodWord w = true) : w ∈ lw_all := List.mem_filter.mpr ⟨List.mem_of_getElem? h, g⟩
theorem lw_all_tbl {w : Cond} (h : w ∈ lw_all) : w ∈ lw_tbl := (List.mem_filter.mp h).1
theorem lw_self : GoodIn lw_all lw_all := fun w h => ⟨h, good_of_word (List.mem_filter.mp h).2⟩
/-- a class's field words, by their places -/
theorem lw_in (ws : List Cond) (ps : List Nat) (hp : ws = ps.filterMap (fun i => lw_tbl[i]?)) (hg : ws.all goodWord = true) : ∀ w ∈ ws, w ∈ lw_all := by
  intro w h
  have h1 := List.all_eq_true.mp hg w h
  rw [hp] at h
  obtain ⟨i, -, hi⟩ := List.mem_filterMap.mp h
  exact lw_w i hi h1
/-- the words of a contract for the method y with code b, L locals, answer r -/
abbrev ws_ (y : MethodName) (b : ByteArray) (L : Nat) (r : Option FieldType) : List Cond := Cond.code y b L r :: lw_all
theorem lw_meth {y : MethodName} {b : ByteArray} {L : Nat} {r : Option FieldType} (h : Cond.code y b L r ∈ lw_all) : GoodIn lw_all (ws_ y b L r) := by
  intro w hw
  rcases List.mem_cons.mp hw with e | e
  · rw [e]
    exact lw_self _ h
  · exact lw_self _ e
theorem lw_app {a c : List Cond} (ha : ∀ w ∈ a, w ∈ lw_all) (hc : GoodIn lw_all c) : GoodIn lw_all (a ++ c) := by
  intro w hw
  rcases List.mem_append.mp hw with e | e
  · exact lw_self w (ha w e)
  · exact hc w e
/-- what a call through an object asks: cwV n hts (lw_V ..) -/
theorem lw_V {own : String} {idx : Nat} {C : String} {y : MethodName} {b : ByteArray} {L : Nat} {r : Option FieldType} (h1 : Cond.methodLink own idx y ∈ lw_all) (h2 : Cond.instanceMethod y ∈ lw_all) (h3 : Cond.selects C y y ∈ lw_all) (h4 : Cond.initialized C ∈ lw_all) (h5 : Cond.code y b L r ∈ lw_all) : GoodIn lw_all (wsV own idx C y (ws_ y b L r)) := by
  refine lw_app ?_ (lw_meth h5)
  intro w hw
  simp only [List.mem_cons, List.not_mem_nil, or_false] at hw
  rcases hw with e | e | e | e
  · rw [e]; exact h1
  · rw [e]; exact h2
  · rw [e]; exact h3
  · rw [e]; exact h4
/-- what a static call asks: va_cwS n hts (lw_S ..) -/
theorem lw_S {own : String} {idx : Nat} {y : MethodName} {b : ByteArray} {L : Nat} {r : Option FieldType} (h1 : Cond.methodLink own idx y ∈ lw_all) (h2 : Cond.static y ∈ lw_all) (h3 : Cond.initialized y.cls ∈ lw_all) (h4 : Cond.code y b L r ∈ lw_all) : GoodIn lw_all (va_wsS own idx y (ws_ y b L r)) := by
  refine lw_app ?_ (lw_meth h4)
  intro w hw
  simp only [List.mem_cons, List.not_mem_nil, or_false] at hw
  rcases hw with e | e | e
  · rw [e]; exact h1
  · rw [e]; exact h2
  · rw [e]; exact h3
/-- the words of a contract for a method WITH HANDLERS (hh: its table) -/
abbrev wsW_ (y : MethodName) (b : ByteArray) (L : Nat) (r : Option FieldType) (hh : List (Nat × Nat × Nat × Nat)) : List Cond := Cond.codeWith y b L r hh :: lw_all
theorem lw_methW {y : MethodName} {b : ByteArray} {L : Nat} {r : Option FieldType} {hh : List (Nat × Nat × Nat × Nat)} (h : Cond.codeWith y b L r hh ∈ lw_all) : GoodIn lw_all (wsW_ y b L r hh) := by
  intro w hw
  rcases List.mem_cons.mp hw with e | e
  · rw [e]
    exact lw_self _ h
  · exact lw_self _ e
/-- any list of words by their places (lw_in), good -/
theorem lw_good {ws : List Cond} (h : ∀ w ∈ ws, w ∈ lw_all) : GoodIn lw_all ws := fun w hw => lw_self w (h w hw)
/-- what a call of a method with handlers asks: vx_cwVW n hts (lw_VW ..), vx_cwSW n hts (lw_SW ..) -/
theorem lw_VW {own : String} {idx : Nat} {C : String} {y : MethodName} {b : ByteArray} {L : Nat} {r : Option FieldType} {hh : List (Nat × Nat × Nat × Nat)} (h1 : Cond.methodLink own idx y ∈ lw_all) (h2 : Cond.instanceMethod y ∈ lw_all) (h3 : Cond.selects C y y ∈ lw_all) (h4 : Cond.initialized C ∈ lw_all) (h5 : Cond.codeWith y b L r hh ∈ lw_all) : GoodIn lw_all (wsV own idx C y (wsW_ y b L r hh)) := by
  refine lw_app ?_ (lw_methW h5)
  intro w hw
  simp only [List.mem_cons, List.not_mem_nil, or_false] at hw
  rcases hw with e | e | e | e
  · rw [e]; exact h1
  · rw [e]; exact h2
  · rw [e]; exact h3
  · rw [e]; exact h4
theorem lw_SW {own : String} {idx : Nat} {y : MethodName} {b : ByteArray} {L : Nat} {r : Option FieldType} {hh : List (Nat × Nat × Nat × Nat)} (h1 : Cond.methodLink own idx y ∈ lw_all) (h2 : Cond.static y ∈ lw_all) (h3 : Cond.initialized y.cls ∈ lw_all) (h4 : Cond.codeWith y b L r hh ∈ lw_all) : GoodIn lw_all (va_wsS own idx y (wsW_ y b L r hh)) := by
  refine lw_app ?_ (lw_methW h4)
  intro w hw
  simp only [List.mem_cons, List.not_mem_nil, or_false] at hw
  rcases hw with e | e | e
  · rw [e]; exact h1
  · rw [e]; exact h2
  · rw [e]; exact h3
/-- a word by its place in its run of the tables -/
theorem lw_at {r : List Cond} (hr : ∀ w ∈ r, w ∈ lw_tbl) {w : Cond} (i : Nat) (h : r[i]? = some w) : w ∈ lw_tbl := hr w (List.mem_of_getElem? h)
theorem lw_g {w : Cond} (h : w ∈ lw_tbl) (g : goodWord w = true) : w ∈ lw_all := List.mem_filter.mpr ⟨h, g⟩
theorem lw_ms : ∀ w ∈ k2_sels lw_privs, w ∈ lw_tbl := fun w h => show w ∈ k2_sels lw_privs ++ tables_1 from List.mem_append_left _ h
theorem lw_m1 : ∀ w ∈ tables_1_1, w ∈ lw_tbl := fun w h => show w ∈ k2_sels lw_privs ++ tables_1 from List.mem_append_right (k2_sels lw_privs) (show w ∈ tables_1 from List.mem_append_left _ h)
theorem lw_m2 : ∀ w ∈ tables_1_2, w ∈ lw_tbl := fun w h => show w ∈ k2_sels lw_privs ++ tables_1 from List.mem_append_right (k2_sels lw_privs) (show w ∈ tables_1 from List.mem_append_right _ h)
theorem qs0 : (Cond.selects "IdeaDesk" ⟨"IdeaDesk", "run", "(ZI)V"⟩ ⟨"IdeaDesk", "run", "(ZI)V"⟩) ∈ lw_all := lw_g (lw_at lw_ms 0 rfl) rfl
theorem qs1 : (Cond.selects "IDEAEngine" ⟨"IDEAEngine", "generateWorkingKey", "(Z[B)[I"⟩ ⟨"IDEAEngine", "generateWorkingKey", "(Z[B)[I"⟩) ∈ lw_all := lw_g (lw_at lw_ms 1 rfl) rfl
theorem qs2 : (Cond.selects "IDEAEngine" ⟨"IDEAEngine", "expandKey", "([B)[I"⟩ ⟨"IDEAEngine", "expandKey", "([B)[I"⟩) ∈ lw_all := lw_g (lw_at lw_ms 2 rfl) rfl
theorem qs3 : (Cond.selects "IDEAEngine" ⟨"IDEAEngine", "bytesToWord", "([BI)I"⟩ ⟨"IDEAEngine", "bytesToWord", "([BI)I"⟩) ∈ lw_all := lw_g (lw_at lw_ms 3 rfl) rfl
theorem qs4 : (Cond.selects "IDEAEngine" ⟨"IDEAEngine", "invertKey", "([I)[I"⟩ ⟨"IDEAEngine", "invertKey", "([I)[I"⟩) ∈ lw_all := lw_g (lw_at lw_ms 4 rfl) rfl
theorem qs5 : (Cond.selects "IDEAEngine" ⟨"IDEAEngine", "mulInv", "(I)I"⟩ ⟨"IDEAEngine", "mulInv", "(I)I"⟩) ∈ lw_all := lw_g (lw_at lw_ms 5 rfl) rfl
theorem qs6 : (Cond.selects "java/lang/Throwable" ⟨"java/lang/Throwable", "fillInStackTrace", "(I)Ljava/lang/Throwable;"⟩ ⟨"java/lang/Throwable", "fillInStackTrace", "(I)Ljava/lang/Throwable;"⟩) ∈ lw_all := lw_g (lw_at lw_ms 6 rfl) rfl
theorem qs7 : (Cond.selects "IDEAEngine" ⟨"IDEAEngine", "ideaFunc", "([I[BI[BI)V"⟩ ⟨"IDEAEngine", "ideaFunc", "([I[BI[BI)V"⟩) ∈ lw_all := lw_g (lw_at lw_ms 7 rfl) rfl
theorem qs8 : (Cond.selects "IDEAEngine" ⟨"IDEAEngine", "mul", "(II)I"⟩ ⟨"IDEAEngine", "mul", "(II)I"⟩) ∈ lw_all := lw_g (lw_at lw_ms 8 rfl) rfl
theorem qs9 : (Cond.selects "IDEAEngine" ⟨"IDEAEngine", "wordToBytes", "(I[BI)V"⟩ ⟨"IDEAEngine", "wordToBytes", "(I[BI)V"⟩) ∈ lw_all := lw_g (lw_at lw_ms 9 rfl) rfl
end
section
/-! DECODE ROWS BY BYTES: one lemma an opcode; a method's code is cut into short pieces once, and a row reads its own piece alone. -/
set_option maxRecDepth 100000
/-- the code has just these bytes from pc on -/
def DkAt (code : ByteArray) (pc : Nat) (bs : List UInt8) : Prop := ∀ (j : Nat) (b : UInt8), bs[j]? = some b → code.data.toList[pc + j]? = some b
/-- the piece W has the bytes bs from its place j on -/
def dkIn (W : List UInt8) (j : Nat) (bs : List UInt8) : Bool := decide ((W.drop j).take bs.length = bs)
theorem dk_seg {l W T : List UInt8} {o o2 : Nat} (h : l.drop o = W ++ T) (n : Nat) (hn : W.length = n) (ho : o + n = o2) : l.drop o2 = T := by
  subst ho
  rw [← List.drop_drop, h, List.drop_left' hn]
theorem dk_at {code : ByteArray} {W T bs : List UInt8} {o pc : Nat} (h : code.data.toList.drop o = W ++ T) (j : Nat) (hp : o + j = pc) (hw : dkIn W j bs = true) : DkAt code pc bs := by
  subst hp
  intro i b e
  have h1 := of_decide_eq_true hw
  have h2 : i < bs.length := (List.getElem?_eq_some_iff.mp e).1
  have h3 : W[j + i]? = some b := by
    rw [← h1, List.getElem?_take, if_pos h2, List.getElem?_drop] at e
    exact e
  have h4 : j + i < W.length := (List.getElem?_eq_some_iff.mp h3).1
  have h5 : (code.data.toList.drop o)[j + i]? = some b := by
    rw [h, List.getElem?_append_left h4]
    exact h3
  rw [List.getElem?_drop, ← Nat.add_assoc] at h5
  exact h5
theorem dk_u1 {A : ByteArray} {p : Nat} {b : UInt8} (h : A.data.toList[p]? = some b) : (Reader.u1 : Reader DecodeError Nat) A p = .ok (b.toNat, p + 1) := by
  obtain ⟨h1, h2⟩ := List.getElem?_eq_some_iff.mp h
  have h3 : p < A.size := by simpa using h1
  have h4 : A[p]'h3 = b := h2
  have e : (Reader.u1 : Reader DecodeError Nat) A p = (if h : p < A.size then .ok (A[p].toNat, p + 1) else .error (HasTruncated.truncated p)) := by
    show (do if h : p < A.size then do set (p + 1); Pure.pure A[p].toNat else MonadExcept.throw (HasTruncated.truncated p) : Reader DecodeError Nat) A p = _
    by_cases hi : p < A.size
    · rw [dif_pos hi, dif_pos hi]; rfl
    · rw [dif_neg hi, dif_neg hi]; rfl
  rw [e, dif_pos h3, h4]
theorem dk_bind {α β : Type} {r : Reader DecodeError α} {f : α → Reader DecodeError β} {A : ByteArray} {p s : Nat} {a : α} (h : r A p = .ok (a, s)) : (r >>= f) A p = f a A s := by
  show (do let (a, s) ← r A p; f a A s : Except DecodeError (β × Nat)) = _
  rw [h]
  rfl
theorem dk_map {α β : Type} {r : Reader DecodeError α} {g : α → β} {A : ByteArray} {p s : Nat} {a : α} (h : r A p = .ok (a, s)) : (g <$> r) A p = .ok (g a, s) := by
  show (do let (a, s) ← r A p; .ok (g a, s) : Except DecodeError (β × Nat)) = _
  rw [h]
  rfl
theorem dk_u2 {A : ByteArray} {p : Nat} {a b : UInt8} (h : A.data.toList[p]? = some a) (h2 : A.data.toList[p + 1]? = some b) : (Reader.u2 : Reader DecodeError Nat) A p = .ok (a.toNat * 256 + b.toNat, p + 2) := by
  show (Reader.u1 >>= fun hi => Reader.u1 >>= fun lo => Pure.pure (hi * 256 + lo) : Reader DecodeError Nat) A p = _
  rw [dk_bind (dk_u1 h), dk_bind (dk_u1 h2)]
  rfl
theorem dk_of {code : ByteArray} {pc n : Nat} {i : Instr} (h : Decoder.instr pc code pc = .ok (i, pc + n)) : decode code pc = .ok (i, n) := by
  have e : decode code pc = (match Decoder.instr pc code pc with | .error x => .error x | .ok (j, s) => .ok (j, s - pc)) := by
    show (do let (j, s) ← Decoder.instr pc code pc; Pure.pure (j, s - pc) : Except DecodeError (Instr × Nat)) = _
    cases Decoder.instr pc code pc <;> rfl
  rw [e, h]
  show Except.ok (i, pc + n - pc) = _
  rw [Nat.add_sub_cancel_left]
theorem dk_1 {code : ByteArray} {pc : Nat} (h : DkAt code pc [1]) : decode code pc = .ok (.aconst_null, 1) := dk_of ((dk_bind (dk_u1 (h 0 _ rfl))).trans rfl)
theorem dk_3 {code : ByteArray} {pc : Nat} (h : DkAt code pc [3]) : decode code pc = .ok (.iconst 0, 1) := dk_of ((dk_bind (dk_u1 (h 0 _ rfl))).trans rfl)
theorem dk_4 {code : ByteArray} {pc : Nat} (h : DkAt code pc [4]) : decode code pc = .ok (.iconst 1, 1) := dk_of ((dk_bind (dk_u1 (h 0 _ rfl))).trans rfl)
theorem dk_5 {code : ByteArray} {pc : Nat} (h : DkAt code pc [5]) : decode code pc = .ok (.iconst 2, 1) := dk_of ((dk_bind (dk_u1 (h 0 _ rfl))).trans rfl)
theorem dk_6 {code : ByteArray} {pc : Nat} (h : DkAt code pc [6]) : decode code pc = .ok (.iconst 3, 1) := dk_of ((dk_bind (dk_u1 (h 0 _ rfl))).trans rfl)
theorem dk_7 {code : ByteArray} {pc : Nat} (h : DkAt code pc [7]) : decode code pc = .ok (.iconst 4, 1) := dk_of ((dk_bind (dk_u1 (h 0 _ rfl))).trans rfl)
theorem dk_8 {code : ByteArray} {pc : Nat} (h : DkAt code pc [8]) : decode code pc = .ok (.iconst 5, 1) := dk_of ((dk_bind (dk_u1 (h 0 _ rfl))).trans rfl)
theorem dk_16 {code : ByteArray} {pc : Nat} (a : UInt8) (h : DkAt code pc [16, a]) : decode code pc = .ok (.bipush (Reader.signed 8 a.toNat), 2) := dk_of ((dk_bind (dk_u1 (h 0 _ rfl))).trans ((dk_bind (dk_map (dk_u1 (h 1 _ rfl)))).trans rfl))
theorem dk_17 {code : ByteArray} {pc : Nat} (a b : UInt8) (h : DkAt code pc [17, a, b]) : decode code pc = .ok (.sipush (Reader.signed 16 (a.toNat * 256 + b.toNat)), 3) := dk_of ((dk_bind (dk_u1 (h 0 _ rfl))).trans ((dk_bind (dk_map (dk_u2 (h 1 _ rfl) (h 2 _ rfl)))).trans rfl))
theorem dk_18 {code : ByteArray} {pc : Nat} (a : UInt8) (h : DkAt code pc [18, a]) : decode code pc = .ok (.ldc a.toNat, 2) := dk_of ((dk_bind (dk_u1 (h 0 _ rfl))).trans ((dk_bind (dk_u1 (h 1 _ rfl))).trans rfl))
theorem dk_21 {code : ByteArray} {pc : Nat} (a : UInt8) (h : DkAt code pc [21, a]) : decode code pc = .ok (.iload a.toNat, 2) := dk_of ((dk_bind (dk_u1 (h 0 _ rfl))).trans ((dk_bind (dk_u1 (h 1 _ rfl))).trans rfl))
theorem dk_25 {code : ByteArray} {pc : Nat} (a : UInt8) (h : DkAt code pc [25, a]) : decode code pc = .ok (.aload a.toNat, 2) := dk_of ((dk_bind (dk_u1 (h 0 _ rfl))).trans ((dk_bind (dk_u1 (h 1 _ rfl))).trans rfl))
theorem dk_27 {code : ByteArray} {pc : Nat} (h : DkAt code pc [27]) : decode code pc = .ok (.iload_n 1, 1) := dk_of ((dk_bind (dk_u1 (h 0 _ rfl))).trans rfl)
theorem dk_28 {code : ByteArray} {pc : Nat} (h : DkAt code pc [28]) : decode code pc = .ok (.iload_n 2, 1) := dk_of ((dk_bind (dk_u1 (h 0 _ rfl))).trans rfl)
theorem dk_29 {code : ByteArray} {pc : Nat} (h : DkAt code pc [29]) : decode code pc = .ok (.iload_n 3, 1) := dk_of ((dk_bind (dk_u1 (h 0 _ rfl))).trans rfl)
theorem dk_42 {code : ByteArray} {pc : Nat} (h : DkAt code pc [42]) : decode code pc = .ok (.aload_n 0, 1) := dk_of ((dk_bind (dk_u1 (h 0 _ rfl))).trans rfl)
theorem dk_43 {code : ByteArray} {pc : Nat} (h : DkAt code pc [43]) : decode code pc = .ok (.aload_n 1, 1) := dk_of ((dk_bind (dk_u1 (h 0 _ rfl))).trans rfl)
theorem dk_44 {code : ByteArray} {pc : Nat} (h : DkAt code pc [44]) : decode code pc = .ok (.aload_n 2, 1) := dk_of ((dk_bind (dk_u1 (h 0 _ rfl))).trans rfl)
theorem dk_45 {code : ByteArray} {pc : Nat} (h : DkAt code pc [45]) : decode code pc = .ok (.aload_n 3, 1) := dk_of ((dk_bind (dk_u1 (h 0 _ rfl))).trans rfl)
theorem dk_46 {code : ByteArray} {pc : Nat} (h : DkAt code pc [46]) : decode code pc = .ok (.iaload, 1) := dk_of ((dk_bind (dk_u1 (h 0 _ rfl))).trans rfl)
theorem dk_51 {code : ByteArray} {pc : Nat} (h : DkAt code pc [51]) : decode code pc = .ok (.baload, 1) := dk_of ((dk_bind (dk_u1 (h 0 _ rfl))).trans rfl)
theorem dk_54 {code : ByteArray} {pc : Nat} (a : UInt8) (h : DkAt code pc [54, a]) : decode code pc = .ok (.istore a.toNat, 2) := dk_of ((dk_bind (dk_u1 (h 0 _ rfl))).trans ((dk_bind (dk_u1 (h 1 _ rfl))).trans rfl))
theorem dk_58 {code : ByteArray} {pc : Nat} (a : UInt8) (h : DkAt code pc [58, a]) : decode code pc = .ok (.astore a.toNat, 2) := dk_of ((dk_bind (dk_u1 (h 0 _ rfl))).trans ((dk_bind (dk_u1 (h 1 _ rfl))).trans rfl))
theorem dk_60 {code : ByteArray} {pc : Nat} (h : DkAt code pc [60]) : decode code pc = .ok (.istore_n 1, 1) := dk_of ((dk_bind (dk_u1 (h 0 _ rfl))).trans rfl)
theorem dk_61 {code : ByteArray} {pc : Nat} (h : DkAt code pc [61]) : decode code pc = .ok (.istore_n 2, 1) := dk_of ((dk_bind (dk_u1 (h 0 _ rfl))).trans rfl)
theorem dk_62 {code : ByteArray} {pc : Nat} (h : DkAt code pc [62]) : decode code pc = .ok (.istore_n 3, 1) := dk_of ((dk_bind (dk_u1 (h 0 _ rfl))).trans rfl)
theorem dk_75 {code : ByteArray} {pc : Nat} (h : DkAt code pc [75]) : decode code pc = .ok (.astore_n 0, 1) := dk_of ((dk_bind (dk_u1 (h 0 _ rfl))).trans rfl)
theorem dk_76 {code : ByteArray} {pc : Nat} (h : DkAt code pc [76]) : decode code pc = .ok (.astore_n 1, 1) := dk_of ((dk_bind (dk_u1 (h 0 _ rfl))).trans rfl)
theorem dk_77 {code : ByteArray} {pc : Nat} (h : DkAt code pc [77]) : decode code pc = .ok (.astore_n 2, 1) := dk_of ((dk_bind (dk_u1 (h 0 _ rfl))).trans rfl)
theorem dk_78 {code : ByteArray} {pc : Nat} (h : DkAt code pc [78]) : decode code pc = .ok (.astore_n 3, 1) := dk_of ((dk_bind (dk_u1 (h 0 _ rfl))).trans rfl)
theorem dk_79 {code : ByteArray} {pc : Nat} (h : DkAt code pc [79]) : decode code pc = .ok (.iastore, 1) := dk_of ((dk_bind (dk_u1 (h 0 _ rfl))).trans rfl)
theorem dk_84 {code : ByteArray} {pc : Nat} (h : DkAt code pc [84]) : decode code pc = .ok (.bastore, 1) := dk_of ((dk_bind (dk_u1 (h 0 _ rfl))).trans rfl)
theorem dk_87 {code : ByteArray} {pc : Nat} (h : DkAt code pc [87]) : decode code pc = .ok (.pop, 1) := dk_of ((dk_bind (dk_u1 (h 0 _ rfl))).trans rfl)
theorem dk_89 {code : ByteArray} {pc : Nat} (h : DkAt code pc [89]) : decode code pc = .ok (.dup, 1) := dk_of ((dk_bind (dk_u1 (h 0 _ rfl))).trans rfl)
theorem dk_96 {code : ByteArray} {pc : Nat} (h : DkAt code pc [96]) : decode code pc = .ok (.iadd, 1) := dk_of ((dk_bind (dk_u1 (h 0 _ rfl))).trans rfl)
theorem dk_100 {code : ByteArray} {pc : Nat} (h : DkAt code pc [100]) : decode code pc = .ok (.isub, 1) := dk_of ((dk_bind (dk_u1 (h 0 _ rfl))).trans rfl)
theorem dk_104 {code : ByteArray} {pc : Nat} (h : DkAt code pc [104]) : decode code pc = .ok (.imul, 1) := dk_of ((dk_bind (dk_u1 (h 0 _ rfl))).trans rfl)
theorem dk_108 {code : ByteArray} {pc : Nat} (h : DkAt code pc [108]) : decode code pc = .ok (.idiv, 1) := dk_of ((dk_bind (dk_u1 (h 0 _ rfl))).trans rfl)
theorem dk_112 {code : ByteArray} {pc : Nat} (h : DkAt code pc [112]) : decode code pc = .ok (.irem, 1) := dk_of ((dk_bind (dk_u1 (h 0 _ rfl))).trans rfl)
theorem dk_120 {code : ByteArray} {pc : Nat} (h : DkAt code pc [120]) : decode code pc = .ok (.ishl, 1) := dk_of ((dk_bind (dk_u1 (h 0 _ rfl))).trans rfl)
theorem dk_122 {code : ByteArray} {pc : Nat} (h : DkAt code pc [122]) : decode code pc = .ok (.ishr, 1) := dk_of ((dk_bind (dk_u1 (h 0 _ rfl))).trans rfl)
theorem dk_124 {code : ByteArray} {pc : Nat} (h : DkAt code pc [124]) : decode code pc = .ok (.iushr, 1) := dk_of ((dk_bind (dk_u1 (h 0 _ rfl))).trans rfl)
theorem dk_126 {code : ByteArray} {pc : Nat} (h : DkAt code pc [126]) : decode code pc = .ok (.iand, 1) := dk_of ((dk_bind (dk_u1 (h 0 _ rfl))).trans rfl)
theorem dk_128 {code : ByteArray} {pc : Nat} (h : DkAt code pc [128]) : decode code pc = .ok (.ior, 1) := dk_of ((dk_bind (dk_u1 (h 0 _ rfl))).trans rfl)
theorem dk_130 {code : ByteArray} {pc : Nat} (h : DkAt code pc [130]) : decode code pc = .ok (.ixor, 1) := dk_of ((dk_bind (dk_u1 (h 0 _ rfl))).trans rfl)
theorem dk_132 {code : ByteArray} {pc : Nat} (a b : UInt8) (h : DkAt code pc [132, a, b]) : decode code pc = .ok (.iinc a.toNat (Reader.signed 8 b.toNat), 3) := dk_of ((dk_bind (dk_u1 (h 0 _ rfl))).trans ((dk_bind (dk_u1 (h 1 _ rfl))).trans ((dk_bind (dk_map (dk_u1 (h 2 _ rfl)))).trans rfl)))
theorem dk_145 {code : ByteArray} {pc : Nat} (h : DkAt code pc [145]) : decode code pc = .ok (.i2b, 1) := dk_of ((dk_bind (dk_u1 (h 0 _ rfl))).trans rfl)
theorem dk_153 {code : ByteArray} {pc : Nat} (a b : UInt8) (h : DkAt code pc [153, a, b]) : decode code pc = .ok (.ifCond .eq (Reader.signed 16 (a.toNat * 256 + b.toNat)), 3) := dk_of ((dk_bind (dk_u1 (h 0 _ rfl))).trans ((dk_bind (dk_map (dk_u2 (h 1 _ rfl) (h 2 _ rfl)))).trans rfl))
theorem dk_154 {code : ByteArray} {pc : Nat} (a b : UInt8) (h : DkAt code pc [154, a, b]) : decode code pc = .ok (.ifCond .ne (Reader.signed 16 (a.toNat * 256 + b.toNat)), 3) := dk_of ((dk_bind (dk_u1 (h 0 _ rfl))).trans ((dk_bind (dk_map (dk_u2 (h 1 _ rfl) (h 2 _ rfl)))).trans rfl))
theorem dk_159 {code : ByteArray} {pc : Nat} (a b : UInt8) (h : DkAt code pc [159, a, b]) : decode code pc = .ok (.if_icmp .eq (Reader.signed 16 (a.toNat * 256 + b.toNat)), 3) := dk_of ((dk_bind (dk_u1 (h 0 _ rfl))).trans ((dk_bind (dk_map (dk_u2 (h 1 _ rfl) (h 2 _ rfl)))).trans rfl))
theorem dk_160 {code : ByteArray} {pc : Nat} (a b : UInt8) (h : DkAt code pc [160, a, b]) : decode code pc = .ok (.if_icmp .ne (Reader.signed 16 (a.toNat * 256 + b.toNat)), 3) := dk_of ((dk_bind (dk_u1 (h 0 _ rfl))).trans ((dk_bind (dk_map (dk_u2 (h 1 _ rfl) (h 2 _ rfl)))).trans rfl))
theorem dk_162 {code : ByteArray} {pc : Nat} (a b : UInt8) (h : DkAt code pc [162, a, b]) : decode code pc = .ok (.if_icmp .ge (Reader.signed 16 (a.toNat * 256 + b.toNat)), 3) := dk_of ((dk_bind (dk_u1 (h 0 _ rfl))).trans ((dk_bind (dk_map (dk_u2 (h 1 _ rfl) (h 2 _ rfl)))).trans rfl))
theorem dk_164 {code : ByteArray} {pc : Nat} (a b : UInt8) (h : DkAt code pc [164, a, b]) : decode code pc = .ok (.if_icmp .le (Reader.signed 16 (a.toNat * 256 + b.toNat)), 3) := dk_of ((dk_bind (dk_u1 (h 0 _ rfl))).trans ((dk_bind (dk_map (dk_u2 (h 1 _ rfl) (h 2 _ rfl)))).trans rfl))
theorem dk_167 {code : ByteArray} {pc : Nat} (a b : UInt8) (h : DkAt code pc [167, a, b]) : decode code pc = .ok (.goto (Reader.signed 16 (a.toNat * 256 + b.toNat)), 3) := dk_of ((dk_bind (dk_u1 (h 0 _ rfl))).trans ((dk_bind (dk_map (dk_u2 (h 1 _ rfl) (h 2 _ rfl)))).trans rfl))
theorem dk_172 {code : ByteArray} {pc : Nat} (h : DkAt code pc [172]) : decode code pc = .ok (.ireturn, 1) := dk_of ((dk_bind (dk_u1 (h 0 _ rfl))).trans rfl)
theorem dk_176 {code : ByteArray} {pc : Nat} (h : DkAt code pc [176]) : decode code pc = .ok (.areturn, 1) := dk_of ((dk_bind (dk_u1 (h 0 _ rfl))).trans rfl)
theorem dk_177 {code : ByteArray} {pc : Nat} (h : DkAt code pc [177]) : decode code pc = .ok (.return_, 1) := dk_of ((dk_bind (dk_u1 (h 0 _ rfl))).trans rfl)
theorem dk_178 {code : ByteArray} {pc : Nat} (a b : UInt8) (h : DkAt code pc [178, a, b]) : decode code pc = .ok (.getstatic (a.toNat * 256 + b.toNat), 3) := dk_of ((dk_bind (dk_u1 (h 0 _ rfl))).trans ((dk_bind (dk_u2 (h 1 _ rfl) (h 2 _ rfl))).trans rfl))
theorem dk_180 {code : ByteArray} {pc : Nat} (a b : UInt8) (h : DkAt code pc [180, a, b]) : decode code pc = .ok (.getfield (a.toNat * 256 + b.toNat), 3) := dk_of ((dk_bind (dk_u1 (h 0 _ rfl))).trans ((dk_bind (dk_u2 (h 1 _ rfl) (h 2 _ rfl))).trans rfl))
theorem dk_181 {code : ByteArray} {pc : Nat} (a b : UInt8) (h : DkAt code pc [181, a, b]) : decode code pc = .ok (.putfield (a.toNat * 256 + b.toNat), 3) := dk_of ((dk_bind (dk_u1 (h 0 _ rfl))).trans ((dk_bind (dk_u2 (h 1 _ rfl) (h 2 _ rfl))).trans rfl))
theorem dk_182 {code : ByteArray} {pc : Nat} (a b : UInt8) (h : DkAt code pc [182, a, b]) : decode code pc = .ok (.invokevirtual (a.toNat * 256 + b.toNat), 3) := dk_of ((dk_bind (dk_u1 (h 0 _ rfl))).trans ((dk_bind (dk_u2 (h 1 _ rfl) (h 2 _ rfl))).trans rfl))
theorem dk_183 {code : ByteArray} {pc : Nat} (a b : UInt8) (h : DkAt code pc [183, a, b]) : decode code pc = .ok (.invokespecial (a.toNat * 256 + b.toNat), 3) := dk_of ((dk_bind (dk_u1 (h 0 _ rfl))).trans ((dk_bind (dk_u2 (h 1 _ rfl) (h 2 _ rfl))).trans rfl))
theorem dk_184 {code : ByteArray} {pc : Nat} (a b : UInt8) (h : DkAt code pc [184, a, b]) : decode code pc = .ok (.invokestatic (a.toNat * 256 + b.toNat), 3) := dk_of ((dk_bind (dk_u1 (h 0 _ rfl))).trans ((dk_bind (dk_u2 (h 1 _ rfl) (h 2 _ rfl))).trans rfl))
theorem dk_187 {code : ByteArray} {pc : Nat} (a b : UInt8) (h : DkAt code pc [187, a, b]) : decode code pc = .ok (.new (a.toNat * 256 + b.toNat), 3) := dk_of ((dk_bind (dk_u1 (h 0 _ rfl))).trans ((dk_bind (dk_u2 (h 1 _ rfl) (h 2 _ rfl))).trans rfl))
theorem dk_188_8 {code : ByteArray} {pc : Nat} (h : DkAt code pc [188, 8]) : decode code pc = .ok (.newarray .byte, 2) := dk_of ((dk_bind (dk_u1 (h 0 _ rfl))).trans ((dk_bind (dk_u1 (h 1 _ rfl))).trans rfl))
theorem dk_188_10 {code : ByteArray} {pc : Nat} (h : DkAt code pc [188, 10]) : decode code pc = .ok (.newarray .int, 2) := dk_of ((dk_bind (dk_u1 (h 0 _ rfl))).trans ((dk_bind (dk_u1 (h 1 _ rfl))).trans rfl))
theorem dk_190 {code : ByteArray} {pc : Nat} (h : DkAt code pc [190]) : decode code pc = .ok (.arraylength, 1) := dk_of ((dk_bind (dk_u1 (h 0 _ rfl))).trans rfl)
theorem dk_191 {code : ByteArray} {pc : Nat} (h : DkAt code pc [191]) : decode code pc = .ok (.athrow, 1) := dk_of ((dk_bind (dk_u1 (h 0 _ rfl))).trans rfl)
theorem dk_192 {code : ByteArray} {pc : Nat} (a b : UInt8) (h : DkAt code pc [192, a, b]) : decode code pc = .ok (.checkcast (a.toNat * 256 + b.toNat), 3) := dk_of ((dk_bind (dk_u1 (h 0 _ rfl))).trans ((dk_bind (dk_u2 (h 1 _ rfl) (h 2 _ rfl))).trans rfl))
theorem dk_193 {code : ByteArray} {pc : Nat} (a b : UInt8) (h : DkAt code pc [193, a, b]) : decode code pc = .ok (.instanceof (a.toNat * 256 + b.toNat), 3) := dk_of ((dk_bind (dk_u1 (h 0 _ rfl))).trans ((dk_bind (dk_u2 (h 1 _ rfl) (h 2 _ rfl))).trans rfl))
theorem dk_199 {code : ByteArray} {pc : Nat} (a b : UInt8) (h : DkAt code pc [199, a, b]) : decode code pc = .ok (.ifnonnull (Reader.signed 16 (a.toNat * 256 + b.toNat)), 3) := dk_of ((dk_bind (dk_u1 (h 0 _ rfl))).trans ((dk_bind (dk_map (dk_u2 (h 1 _ rfl) (h 2 _ rfl)))).trans rfl))
/-! java/lang/Object -/
set_option maxRecDepth 100000
def RJ5 : String := "java/lang/Object"
abbrev cJ5_init : ByteArray := object_method_1_code
def yJ5_init : MethodName := ⟨RJ5, "<init>", "()V"⟩
theorem dJ5_init_0 : decode cJ5_init 0 = .ok (.return_, 1) := by decide +kernel
theorem q41 : (Jvm.Cond.instanceMethod ({ cls := "java/lang/Object", name := "<init>", desc := "()V" } : Jvm.MethodName)) ∈ lw_all := lw_g (lw_at lw_m1 31 rfl) rfl
theorem q42 : (Jvm.Cond.code ({ cls := "java/lang/Object", name := "<init>", desc := "()V" } : Jvm.MethodName) object_method_1_code (1 : Nat) (Option.none : Option Jvm.ClassFile.FieldType)) ∈ lw_all := lw_g (lw_at lw_m1 32 rfl) rfl
/-! IdeaDesk -/
set_option maxRecDepth 100000
def RX1 : String := "IdeaDesk"
def TX1 : u_T := fun k => match k with
  | 0 => ("IdeaDesk", "key", "[B", true)
  | 1 => ("IdeaDesk", "block", "[B", true)
  | _ => ("IdeaDesk", "out", "[B", true)
def tyX1 : Nat → FieldType := fun k => match k with
  | 0 => .array .byte
  | 1 => .array .byte
  | _ => .array .byte
abbrev wsX10 : List Cond := u_ws RX1 TX1 3
theorem nmX1 : ∀ a, a < 3 → ∀ b, b < 3 → a ≠ b → (TX1 a).2.1 ≠ (TX1 b).2.1 := by decide +kernel
theorem tyX1_ok : ∀ k, k < 3 → parseFieldDescriptor (TX1 k).2.2.1 = some (tyX1 k) := by decide +kernel
abbrev cX1_lock : ByteArray := prog_5_method_7_code
def yX1_lock : MethodName := ⟨RX1, "lock", "(I)V"⟩
def dkwX1_lock_0 : List UInt8 := [42, 4, 27, 182, 0, 45, 177]
abbrev dktX1_lock_0 : List UInt8 := dkwX1_lock_0 ++ []
theorem dksX1_lock_0 : cX1_lock.data.toList.drop 0 = dktX1_lock_0 := by decide +kernel
theorem dX1_lock_0 : decode cX1_lock 0 = .ok (.aload_n 0, 1) := dk_42 (dk_at dksX1_lock_0 0 rfl rfl)
theorem dX1_lock_1 : decode cX1_lock 1 = .ok (.iconst 1, 1) := dk_4 (dk_at dksX1_lock_0 1 rfl rfl)
theorem dX1_lock_2 : decode cX1_lock 2 = .ok (.iload_n 1, 1) := dk_27 (dk_at dksX1_lock_0 2 rfl rfl)
theorem dX1_lock_3 : decode cX1_lock 3 = .ok (.invokevirtual 45, 3) := dk_182 0 45 (dk_at dksX1_lock_0 3 rfl rfl)
theorem dX1_lock_6 : decode cX1_lock 6 = .ok (.return_, 1) := dk_177 (dk_at dksX1_lock_0 6 rfl rfl)
abbrev cX1_run : ByteArray := prog_5_method_5_code
def yX1_run : MethodName := ⟨RX1, "run", "(ZI)V"⟩
def dkwX1_run_3 : List UInt8 := [180, 0, 13, 3, 42, 180, 0, 16, 3, 185, 0, 41, 5, 0, 87, 177]
abbrev dktX1_run_3 : List UInt8 := dkwX1_run_3 ++ []
def dkwX1_run_2 : List UInt8 := [58, 5, 25, 5, 27, 187, 0, 30, 89, 25, 4, 183, 0, 32, 185, 0, 35, 3, 0, 25, 5, 42]
abbrev dktX1_run_2 : List UInt8 := dkwX1_run_2 ++ dktX1_run_3
def dkwX1_run_1 : List UInt8 := [21, 5, 42, 180, 0, 7, 21, 5, 51, 84, 132, 5, 1, 167, 255, 235, 187, 0, 27, 89, 183, 0, 29]
abbrev dktX1_run_1 : List UInt8 := dkwX1_run_1 ++ dktX1_run_2
def dkwX1_run_0 : List UInt8 := [28, 6, 126, 184, 0, 23, 62, 29, 188, 8, 58, 4, 3, 54, 5, 21, 5, 29, 162, 0, 21, 25, 4]
abbrev dktX1_run_0 : List UInt8 := dkwX1_run_0 ++ dktX1_run_1
theorem dksX1_run_0 : cX1_run.data.toList.drop 0 = dktX1_run_0 := by decide +kernel
theorem dksX1_run_1 : cX1_run.data.toList.drop 23 = dktX1_run_1 := dk_seg dksX1_run_0 23 rfl rfl
theorem dksX1_run_2 : cX1_run.data.toList.drop 46 = dktX1_run_2 := dk_seg dksX1_run_1 23 rfl rfl
theorem dksX1_run_3 : cX1_run.data.toList.drop 68 = dktX1_run_3 := dk_seg dksX1_run_2 22 rfl rfl
theorem dX1_run_0 : decode cX1_run 0 = .ok (.iload_n 2, 1) := dk_28 (dk_at dksX1_run_0 0 rfl rfl)
theorem dX1_run_1 : decode cX1_run 1 = .ok (.iconst 3, 1) := dk_6 (dk_at dksX1_run_0 1 rfl rfl)
theorem dX1_run_2 : decode cX1_run 2 = .ok (.iand, 1) := dk_126 (dk_at dksX1_run_0 2 rfl rfl)
theorem dX1_run_3 : decode cX1_run 3 = .ok (.invokestatic 23, 3) := dk_184 0 23 (dk_at dksX1_run_0 3 rfl rfl)
theorem dX1_run_6 : decode cX1_run 6 = .ok (.istore_n 3, 1) := dk_62 (dk_at dksX1_run_0 6 rfl rfl)
theorem dX1_run_7 : decode cX1_run 7 = .ok (.iload_n 3, 1) := dk_29 (dk_at dksX1_run_0 7 rfl rfl)
theorem dX1_run_8 : decode cX1_run 8 = .ok (.newarray .byte, 2) := dk_188_8 (dk_at dksX1_run_0 8 rfl rfl)
theorem dX1_run_10 : decode cX1_run 10 = .ok (.astore 4, 2) := dk_58 4 (dk_at dksX1_run_0 10 rfl rfl)
theorem dX1_run_12 : decode cX1_run 12 = .ok (.iconst 0, 1) := dk_3 (dk_at dksX1_run_0 12 rfl rfl)
theorem dX1_run_13 : decode cX1_run 13 = .ok (.istore 5, 2) := dk_54 5 (dk_at dksX1_run_0 13 rfl rfl)
theorem dX1_run_15 : decode cX1_run 15 = .ok (.iload 5, 2) := dk_21 5 (dk_at dksX1_run_0 15 rfl rfl)
theorem dX1_run_17 : decode cX1_run 17 = .ok (.iload_n 3, 1) := dk_29 (dk_at dksX1_run_0 17 rfl rfl)
theorem dX1_run_18 : decode cX1_run 18 = .ok (.if_icmp .ge 21, 3) := dk_162 0 21 (dk_at dksX1_run_0 18 rfl rfl)
theorem dX1_run_21 : decode cX1_run 21 = .ok (.aload 4, 2) := dk_25 4 (dk_at dksX1_run_0 21 rfl rfl)
theorem dX1_run_23 : decode cX1_run 23 = .ok (.iload 5, 2) := dk_21 5 (dk_at dksX1_run_1 0 rfl rfl)
theorem dX1_run_25 : decode cX1_run 25 = .ok (.aload_n 0, 1) := dk_42 (dk_at dksX1_run_1 2 rfl rfl)
theorem dX1_run_26 : decode cX1_run 26 = .ok (.getfield 7, 3) := dk_180 0 7 (dk_at dksX1_run_1 3 rfl rfl)
theorem dX1_run_29 : decode cX1_run 29 = .ok (.iload 5, 2) := dk_21 5 (dk_at dksX1_run_1 6 rfl rfl)
theorem dX1_run_31 : decode cX1_run 31 = .ok (.baload, 1) := dk_51 (dk_at dksX1_run_1 8 rfl rfl)
theorem dX1_run_32 : decode cX1_run 32 = .ok (.bastore, 1) := dk_84 (dk_at dksX1_run_1 9 rfl rfl)
theorem dX1_run_33 : decode cX1_run 33 = .ok (.iinc 5 1, 3) := dk_132 5 1 (dk_at dksX1_run_1 10 rfl rfl)
theorem dX1_run_36 : decode cX1_run 36 = .ok (.goto (-21), 3) := dk_167 255 235 (dk_at dksX1_run_1 13 rfl rfl)
theorem dX1_run_39 : decode cX1_run 39 = .ok (.new 27, 3) := dk_187 0 27 (dk_at dksX1_run_1 16 rfl rfl)
theorem dX1_run_42 : decode cX1_run 42 = .ok (.dup, 1) := dk_89 (dk_at dksX1_run_1 19 rfl rfl)
theorem dX1_run_43 : decode cX1_run 43 = .ok (.invokespecial 29, 3) := dk_183 0 29 (dk_at dksX1_run_1 20 rfl rfl)
theorem dX1_run_46 : decode cX1_run 46 = .ok (.astore 5, 2) := dk_58 5 (dk_at dksX1_run_2 0 rfl rfl)
theorem dX1_run_48 : decode cX1_run 48 = .ok (.aload 5, 2) := dk_25 5 (dk_at dksX1_run_2 2 rfl rfl)
theorem dX1_run_50 : decode cX1_run 50 = .ok (.iload_n 1, 1) := dk_27 (dk_at dksX1_run_2 4 rfl rfl)
theorem dX1_run_51 : decode cX1_run 51 = .ok (.new 30, 3) := dk_187 0 30 (dk_at dksX1_run_2 5 rfl rfl)
theorem dX1_run_54 : decode cX1_run 54 = .ok (.dup, 1) := dk_89 (dk_at dksX1_run_2 8 rfl rfl)
theorem dX1_run_55 : decode cX1_run 55 = .ok (.aload 4, 2) := dk_25 4 (dk_at dksX1_run_2 9 rfl rfl)
theorem dX1_run_57 : decode cX1_run 57 = .ok (.invokespecial 32, 3) := dk_183 0 32 (dk_at dksX1_run_2 11 rfl rfl)
theorem dX1_run_60 : decode cX1_run 60 = .ok (.invokeinterface 35 3, 5) := by decide +kernel
theorem dX1_run_65 : decode cX1_run 65 = .ok (.aload 5, 2) := dk_25 5 (dk_at dksX1_run_2 19 rfl rfl)
theorem dX1_run_67 : decode cX1_run 67 = .ok (.aload_n 0, 1) := dk_42 (dk_at dksX1_run_2 21 rfl rfl)
theorem dX1_run_68 : decode cX1_run 68 = .ok (.getfield 13, 3) := dk_180 0 13 (dk_at dksX1_run_3 0 rfl rfl)
theorem dX1_run_71 : decode cX1_run 71 = .ok (.iconst 0, 1) := dk_3 (dk_at dksX1_run_3 3 rfl rfl)
theorem dX1_run_72 : decode cX1_run 72 = .ok (.aload_n 0, 1) := dk_42 (dk_at dksX1_run_3 4 rfl rfl)
theorem dX1_run_73 : decode cX1_run 73 = .ok (.getfield 16, 3) := dk_180 0 16 (dk_at dksX1_run_3 5 rfl rfl)
theorem dX1_run_76 : decode cX1_run 76 = .ok (.iconst 0, 1) := dk_3 (dk_at dksX1_run_3 8 rfl rfl)
theorem dX1_run_77 : decode cX1_run 77 = .ok (.invokeinterface 41 5, 5) := by decide +kernel
theorem dX1_run_82 : decode cX1_run 82 = .ok (.pop, 1) := dk_87 (dk_at dksX1_run_3 14 rfl rfl)
theorem dX1_run_83 : decode cX1_run 83 = .ok (.return_, 1) := dk_177 (dk_at dksX1_run_3 15 rfl rfl)
abbrev cX1_size : ByteArray := prog_5_method_6_code
def yX1_size : MethodName := ⟨RX1, "size", "(I)I"⟩
theorem dX1_size_0 : decode cX1_size 0 = .ok (.bipush 16, 2) := by decide +kernel
theorem dX1_size_2 : decode cX1_size 2 = .ok (.ireturn, 1) := by decide +kernel
abbrev cX1_open : ByteArray := prog_5_method_8_code
def yX1_open : MethodName := ⟨RX1, "open", "(I)V"⟩
def dkwX1_open_0 : List UInt8 := [42, 3, 27, 182, 0, 45, 177]
abbrev dktX1_open_0 : List UInt8 := dkwX1_open_0 ++ []
theorem dksX1_open_0 : cX1_open.data.toList.drop 0 = dktX1_open_0 := by decide +kernel
theorem dX1_open_0 : decode cX1_open 0 = .ok (.aload_n 0, 1) := dk_42 (dk_at dksX1_open_0 0 rfl rfl)
theorem dX1_open_1 : decode cX1_open 1 = .ok (.iconst 0, 1) := dk_3 (dk_at dksX1_open_0 1 rfl rfl)
theorem dX1_open_2 : decode cX1_open 2 = .ok (.iload_n 1, 1) := dk_27 (dk_at dksX1_open_0 2 rfl rfl)
theorem dX1_open_3 : decode cX1_open 3 = .ok (.invokevirtual 45, 3) := dk_182 0 45 (dk_at dksX1_open_0 3 rfl rfl)
theorem dX1_open_6 : decode cX1_open 6 = .ok (.return_, 1) := dk_177 (dk_at dksX1_open_0 6 rfl rfl)
abbrev cX1_again : ByteArray := prog_5_method_9_code
def yX1_again : MethodName := ⟨RX1, "again", "()V"⟩
def dkwX1_again_1 : List UInt8 := [167, 255, 235, 177]
abbrev dktX1_again_1 : List UInt8 := dkwX1_again_1 ++ []
def dkwX1_again_0 : List UInt8 := [3, 60, 27, 16, 8, 162, 0, 21, 42, 180, 0, 13, 27, 42, 180, 0, 16, 27, 51, 84, 132, 1, 1]
abbrev dktX1_again_0 : List UInt8 := dkwX1_again_0 ++ dktX1_again_1
theorem dksX1_again_0 : cX1_again.data.toList.drop 0 = dktX1_again_0 := by decide +kernel
theorem dksX1_again_1 : cX1_again.data.toList.drop 23 = dktX1_again_1 := dk_seg dksX1_again_0 23 rfl rfl
theorem dX1_again_0 : decode cX1_again 0 = .ok (.iconst 0, 1) := dk_3 (dk_at dksX1_again_0 0 rfl rfl)
theorem dX1_again_1 : decode cX1_again 1 = .ok (.istore_n 1, 1) := dk_60 (dk_at dksX1_again_0 1 rfl rfl)
theorem dX1_again_2 : decode cX1_again 2 = .ok (.iload_n 1, 1) := dk_27 (dk_at dksX1_again_0 2 rfl rfl)
theorem dX1_again_3 : decode cX1_again 3 = .ok (.bipush 8, 2) := dk_16 8 (dk_at dksX1_again_0 3 rfl rfl)
theorem dX1_again_5 : decode cX1_again 5 = .ok (.if_icmp .ge 21, 3) := dk_162 0 21 (dk_at dksX1_again_0 5 rfl rfl)
theorem dX1_again_8 : decode cX1_again 8 = .ok (.aload_n 0, 1) := dk_42 (dk_at dksX1_again_0 8 rfl rfl)
theorem dX1_again_9 : decode cX1_again 9 = .ok (.getfield 13, 3) := dk_180 0 13 (dk_at dksX1_again_0 9 rfl rfl)
theorem dX1_again_12 : decode cX1_again 12 = .ok (.iload_n 1, 1) := dk_27 (dk_at dksX1_again_0 12 rfl rfl)
theorem dX1_again_13 : decode cX1_again 13 = .ok (.aload_n 0, 1) := dk_42 (dk_at dksX1_again_0 13 rfl rfl)
theorem dX1_again_14 : decode cX1_again 14 = .ok (.getfield 16, 3) := dk_180 0 16 (dk_at dksX1_again_0 14 rfl rfl)
theorem dX1_again_17 : decode cX1_again 17 = .ok (.iload_n 1, 1) := dk_27 (dk_at dksX1_again_0 17 rfl rfl)
theorem dX1_again_18 : decode cX1_again 18 = .ok (.baload, 1) := dk_51 (dk_at dksX1_again_0 18 rfl rfl)
theorem dX1_again_19 : decode cX1_again 19 = .ok (.bastore, 1) := dk_84 (dk_at dksX1_again_0 19 rfl rfl)
theorem dX1_again_20 : decode cX1_again 20 = .ok (.iinc 1 1, 3) := dk_132 1 1 (dk_at dksX1_again_0 20 rfl rfl)
theorem dX1_again_23 : decode cX1_again 23 = .ok (.goto (-21), 3) := dk_167 255 235 (dk_at dksX1_again_1 0 rfl rfl)
theorem dX1_again_26 : decode cX1_again 26 = .ok (.return_, 1) := dk_177 (dk_at dksX1_again_1 3 rfl rfl)
abbrev cX1_init : ByteArray := prog_5_method_1_code
def yX1_init : MethodName := ⟨RX1, "<init>", "()V"⟩
def dkwX1_init_1 : List UInt8 := [188, 8, 181, 0, 16, 177]
abbrev dktX1_init_1 : List UInt8 := dkwX1_init_1 ++ []
def dkwX1_init_0 : List UInt8 := [42, 183, 0, 1, 42, 16, 32, 188, 8, 181, 0, 7, 42, 16, 8, 188, 8, 181, 0, 13, 42, 16, 8]
abbrev dktX1_init_0 : List UInt8 := dkwX1_init_0 ++ dktX1_init_1
theorem dksX1_init_0 : cX1_init.data.toList.drop 0 = dktX1_init_0 := by decide +kernel
theorem dksX1_init_1 : cX1_init.data.toList.drop 23 = dktX1_init_1 := dk_seg dksX1_init_0 23 rfl rfl
theorem dX1_init_0 : decode cX1_init 0 = .ok (.aload_n 0, 1) := dk_42 (dk_at dksX1_init_0 0 rfl rfl)
theorem dX1_init_1 : decode cX1_init 1 = .ok (.invokespecial 1, 3) := dk_183 0 1 (dk_at dksX1_init_0 1 rfl rfl)
theorem dX1_init_4 : decode cX1_init 4 = .ok (.aload_n 0, 1) := dk_42 (dk_at dksX1_init_0 4 rfl rfl)
theorem dX1_init_5 : decode cX1_init 5 = .ok (.bipush 32, 2) := dk_16 32 (dk_at dksX1_init_0 5 rfl rfl)
theorem dX1_init_7 : decode cX1_init 7 = .ok (.newarray .byte, 2) := dk_188_8 (dk_at dksX1_init_0 7 rfl rfl)
theorem dX1_init_9 : decode cX1_init 9 = .ok (.putfield 7, 3) := dk_181 0 7 (dk_at dksX1_init_0 9 rfl rfl)
theorem dX1_init_12 : decode cX1_init 12 = .ok (.aload_n 0, 1) := dk_42 (dk_at dksX1_init_0 12 rfl rfl)
theorem dX1_init_13 : decode cX1_init 13 = .ok (.bipush 8, 2) := dk_16 8 (dk_at dksX1_init_0 13 rfl rfl)
theorem dX1_init_15 : decode cX1_init 15 = .ok (.newarray .byte, 2) := dk_188_8 (dk_at dksX1_init_0 15 rfl rfl)
theorem dX1_init_17 : decode cX1_init 17 = .ok (.putfield 13, 3) := dk_181 0 13 (dk_at dksX1_init_0 17 rfl rfl)
theorem dX1_init_20 : decode cX1_init 20 = .ok (.aload_n 0, 1) := dk_42 (dk_at dksX1_init_0 20 rfl rfl)
theorem dX1_init_21 : decode cX1_init 21 = .ok (.bipush 8, 2) := dk_16 8 (dk_at dksX1_init_0 21 rfl rfl)
theorem dX1_init_23 : decode cX1_init 23 = .ok (.newarray .byte, 2) := dk_188_8 (dk_at dksX1_init_1 0 rfl rfl)
theorem dX1_init_25 : decode cX1_init 25 = .ok (.putfield 16, 3) := dk_181 0 16 (dk_at dksX1_init_1 2 rfl rfl)
theorem dX1_init_28 : decode cX1_init 28 = .ok (.return_, 1) := dk_177 (dk_at dksX1_init_1 5 rfl rfl)
abbrev cX1_key : ByteArray := prog_5_method_3_code
def yX1_key : MethodName := ⟨RX1, "key", "(IIIII)V"⟩
def dkwX1_key_2 : List UInt8 := [21, 6, 16, 12, 96, 21, 5, 184, 0, 19, 177]
abbrev dktX1_key_2 : List UInt8 := dkwX1_key_2 ++ []
def dkwX1_key_1 : List UInt8 := [96, 29, 184, 0, 19, 42, 180, 0, 7, 21, 6, 16, 8, 96, 21, 4, 184, 0, 19, 42, 180, 0, 7]
abbrev dktX1_key_1 : List UInt8 := dkwX1_key_1 ++ dktX1_key_2
def dkwX1_key_0 : List UInt8 := [27, 4, 126, 7, 120, 54, 6, 42, 180, 0, 7, 21, 6, 28, 184, 0, 19, 42, 180, 0, 7, 21, 6, 7]
abbrev dktX1_key_0 : List UInt8 := dkwX1_key_0 ++ dktX1_key_1
theorem dksX1_key_0 : cX1_key.data.toList.drop 0 = dktX1_key_0 := by decide +kernel
theorem dksX1_key_1 : cX1_key.data.toList.drop 24 = dktX1_key_1 := dk_seg dksX1_key_0 24 rfl rfl
theorem dksX1_key_2 : cX1_key.data.toList.drop 47 = dktX1_key_2 := dk_seg dksX1_key_1 23 rfl rfl
theorem dX1_key_0 : decode cX1_key 0 = .ok (.iload_n 1, 1) := dk_27 (dk_at dksX1_key_0 0 rfl rfl)
theorem dX1_key_1 : decode cX1_key 1 = .ok (.iconst 1, 1) := dk_4 (dk_at dksX1_key_0 1 rfl rfl)
theorem dX1_key_2 : decode cX1_key 2 = .ok (.iand, 1) := dk_126 (dk_at dksX1_key_0 2 rfl rfl)
theorem dX1_key_3 : decode cX1_key 3 = .ok (.iconst 4, 1) := dk_7 (dk_at dksX1_key_0 3 rfl rfl)
theorem dX1_key_4 : decode cX1_key 4 = .ok (.ishl, 1) := dk_120 (dk_at dksX1_key_0 4 rfl rfl)
theorem dX1_key_5 : decode cX1_key 5 = .ok (.istore 6, 2) := dk_54 6 (dk_at dksX1_key_0 5 rfl rfl)
theorem dX1_key_7 : decode cX1_key 7 = .ok (.aload_n 0, 1) := dk_42 (dk_at dksX1_key_0 7 rfl rfl)
theorem dX1_key_8 : decode cX1_key 8 = .ok (.getfield 7, 3) := dk_180 0 7 (dk_at dksX1_key_0 8 rfl rfl)
theorem dX1_key_11 : decode cX1_key 11 = .ok (.iload 6, 2) := dk_21 6 (dk_at dksX1_key_0 11 rfl rfl)
theorem dX1_key_13 : decode cX1_key 13 = .ok (.iload_n 2, 1) := dk_28 (dk_at dksX1_key_0 13 rfl rfl)
theorem dX1_key_14 : decode cX1_key 14 = .ok (.invokestatic 19, 3) := dk_184 0 19 (dk_at dksX1_key_0 14 rfl rfl)
theorem dX1_key_17 : decode cX1_key 17 = .ok (.aload_n 0, 1) := dk_42 (dk_at dksX1_key_0 17 rfl rfl)
theorem dX1_key_18 : decode cX1_key 18 = .ok (.getfield 7, 3) := dk_180 0 7 (dk_at dksX1_key_0 18 rfl rfl)
theorem dX1_key_21 : decode cX1_key 21 = .ok (.iload 6, 2) := dk_21 6 (dk_at dksX1_key_0 21 rfl rfl)
theorem dX1_key_23 : decode cX1_key 23 = .ok (.iconst 4, 1) := dk_7 (dk_at dksX1_key_0 23 rfl rfl)
theorem dX1_key_24 : decode cX1_key 24 = .ok (.iadd, 1) := dk_96 (dk_at dksX1_key_1 0 rfl rfl)
theorem dX1_key_25 : decode cX1_key 25 = .ok (.iload_n 3, 1) := dk_29 (dk_at dksX1_key_1 1 rfl rfl)
theorem dX1_key_26 : decode cX1_key 26 = .ok (.invokestatic 19, 3) := dk_184 0 19 (dk_at dksX1_key_1 2 rfl rfl)
theorem dX1_key_29 : decode cX1_key 29 = .ok (.aload_n 0, 1) := dk_42 (dk_at dksX1_key_1 5 rfl rfl)
theorem dX1_key_30 : decode cX1_key 30 = .ok (.getfield 7, 3) := dk_180 0 7 (dk_at dksX1_key_1 6 rfl rfl)
theorem dX1_key_33 : decode cX1_key 33 = .ok (.iload 6, 2) := dk_21 6 (dk_at dksX1_key_1 9 rfl rfl)
theorem dX1_key_35 : decode cX1_key 35 = .ok (.bipush 8, 2) := dk_16 8 (dk_at dksX1_key_1 11 rfl rfl)
theorem dX1_key_37 : decode cX1_key 37 = .ok (.iadd, 1) := dk_96 (dk_at dksX1_key_1 13 rfl rfl)
theorem dX1_key_38 : decode cX1_key 38 = .ok (.iload 4, 2) := dk_21 4 (dk_at dksX1_key_1 14 rfl rfl)
theorem dX1_key_40 : decode cX1_key 40 = .ok (.invokestatic 19, 3) := dk_184 0 19 (dk_at dksX1_key_1 16 rfl rfl)
theorem dX1_key_43 : decode cX1_key 43 = .ok (.aload_n 0, 1) := dk_42 (dk_at dksX1_key_1 19 rfl rfl)
theorem dX1_key_44 : decode cX1_key 44 = .ok (.getfield 7, 3) := dk_180 0 7 (dk_at dksX1_key_1 20 rfl rfl)
theorem dX1_key_47 : decode cX1_key 47 = .ok (.iload 6, 2) := dk_21 6 (dk_at dksX1_key_2 0 rfl rfl)
theorem dX1_key_49 : decode cX1_key 49 = .ok (.bipush 12, 2) := dk_16 12 (dk_at dksX1_key_2 2 rfl rfl)
theorem dX1_key_51 : decode cX1_key 51 = .ok (.iadd, 1) := dk_96 (dk_at dksX1_key_2 4 rfl rfl)
theorem dX1_key_52 : decode cX1_key 52 = .ok (.iload 5, 2) := dk_21 5 (dk_at dksX1_key_2 5 rfl rfl)
theorem dX1_key_54 : decode cX1_key 54 = .ok (.invokestatic 19, 3) := dk_184 0 19 (dk_at dksX1_key_2 7 rfl rfl)
theorem dX1_key_57 : decode cX1_key 57 = .ok (.return_, 1) := dk_177 (dk_at dksX1_key_2 10 rfl rfl)
abbrev cX1_word : ByteArray := prog_5_method_2_code
def yX1_word : MethodName := ⟨RX1, "word", "([BII)V"⟩
def dkwX1_word_1 : List UInt8 := [16, 8, 122, 145, 84, 42, 27, 6, 96, 28, 145, 84, 177]
abbrev dktX1_word_1 : List UInt8 := dkwX1_word_1 ++ []
def dkwX1_word_0 : List UInt8 := [42, 27, 28, 16, 24, 122, 145, 84, 42, 27, 4, 96, 28, 16, 16, 122, 145, 84, 42, 27, 5, 96, 28]
abbrev dktX1_word_0 : List UInt8 := dkwX1_word_0 ++ dktX1_word_1
theorem dksX1_word_0 : cX1_word.data.toList.drop 0 = dktX1_word_0 := by decide +kernel
theorem dksX1_word_1 : cX1_word.data.toList.drop 23 = dktX1_word_1 := dk_seg dksX1_word_0 23 rfl rfl
theorem dX1_word_0 : decode cX1_word 0 = .ok (.aload_n 0, 1) := dk_42 (dk_at dksX1_word_0 0 rfl rfl)
theorem dX1_word_1 : decode cX1_word 1 = .ok (.iload_n 1, 1) := dk_27 (dk_at dksX1_word_0 1 rfl rfl)
theorem dX1_word_2 : decode cX1_word 2 = .ok (.iload_n 2, 1) := dk_28 (dk_at dksX1_word_0 2 rfl rfl)
theorem dX1_word_3 : decode cX1_word 3 = .ok (.bipush 24, 2) := dk_16 24 (dk_at dksX1_word_0 3 rfl rfl)
theorem dX1_word_5 : decode cX1_word 5 = .ok (.ishr, 1) := dk_122 (dk_at dksX1_word_0 5 rfl rfl)
theorem dX1_word_6 : decode cX1_word 6 = .ok (.i2b, 1) := dk_145 (dk_at dksX1_word_0 6 rfl rfl)
theorem dX1_word_7 : decode cX1_word 7 = .ok (.bastore, 1) := dk_84 (dk_at dksX1_word_0 7 rfl rfl)
theorem dX1_word_8 : decode cX1_word 8 = .ok (.aload_n 0, 1) := dk_42 (dk_at dksX1_word_0 8 rfl rfl)
theorem dX1_word_9 : decode cX1_word 9 = .ok (.iload_n 1, 1) := dk_27 (dk_at dksX1_word_0 9 rfl rfl)
theorem dX1_word_10 : decode cX1_word 10 = .ok (.iconst 1, 1) := dk_4 (dk_at dksX1_word_0 10 rfl rfl)
theorem dX1_word_11 : decode cX1_word 11 = .ok (.iadd, 1) := dk_96 (dk_at dksX1_word_0 11 rfl rfl)
theorem dX1_word_12 : decode cX1_word 12 = .ok (.iload_n 2, 1) := dk_28 (dk_at dksX1_word_0 12 rfl rfl)
theorem dX1_word_13 : decode cX1_word 13 = .ok (.bipush 16, 2) := dk_16 16 (dk_at dksX1_word_0 13 rfl rfl)
theorem dX1_word_15 : decode cX1_word 15 = .ok (.ishr, 1) := dk_122 (dk_at dksX1_word_0 15 rfl rfl)
theorem dX1_word_16 : decode cX1_word 16 = .ok (.i2b, 1) := dk_145 (dk_at dksX1_word_0 16 rfl rfl)
theorem dX1_word_17 : decode cX1_word 17 = .ok (.bastore, 1) := dk_84 (dk_at dksX1_word_0 17 rfl rfl)
theorem dX1_word_18 : decode cX1_word 18 = .ok (.aload_n 0, 1) := dk_42 (dk_at dksX1_word_0 18 rfl rfl)
theorem dX1_word_19 : decode cX1_word 19 = .ok (.iload_n 1, 1) := dk_27 (dk_at dksX1_word_0 19 rfl rfl)
theorem dX1_word_20 : decode cX1_word 20 = .ok (.iconst 2, 1) := dk_5 (dk_at dksX1_word_0 20 rfl rfl)
theorem dX1_word_21 : decode cX1_word 21 = .ok (.iadd, 1) := dk_96 (dk_at dksX1_word_0 21 rfl rfl)
theorem dX1_word_22 : decode cX1_word 22 = .ok (.iload_n 2, 1) := dk_28 (dk_at dksX1_word_0 22 rfl rfl)
theorem dX1_word_23 : decode cX1_word 23 = .ok (.bipush 8, 2) := dk_16 8 (dk_at dksX1_word_1 0 rfl rfl)
theorem dX1_word_25 : decode cX1_word 25 = .ok (.ishr, 1) := dk_122 (dk_at dksX1_word_1 2 rfl rfl)
theorem dX1_word_26 : decode cX1_word 26 = .ok (.i2b, 1) := dk_145 (dk_at dksX1_word_1 3 rfl rfl)
theorem dX1_word_27 : decode cX1_word 27 = .ok (.bastore, 1) := dk_84 (dk_at dksX1_word_1 4 rfl rfl)
theorem dX1_word_28 : decode cX1_word 28 = .ok (.aload_n 0, 1) := dk_42 (dk_at dksX1_word_1 5 rfl rfl)
theorem dX1_word_29 : decode cX1_word 29 = .ok (.iload_n 1, 1) := dk_27 (dk_at dksX1_word_1 6 rfl rfl)
theorem dX1_word_30 : decode cX1_word 30 = .ok (.iconst 3, 1) := dk_6 (dk_at dksX1_word_1 7 rfl rfl)
theorem dX1_word_31 : decode cX1_word 31 = .ok (.iadd, 1) := dk_96 (dk_at dksX1_word_1 8 rfl rfl)
theorem dX1_word_32 : decode cX1_word 32 = .ok (.iload_n 2, 1) := dk_28 (dk_at dksX1_word_1 9 rfl rfl)
theorem dX1_word_33 : decode cX1_word 33 = .ok (.i2b, 1) := dk_145 (dk_at dksX1_word_1 10 rfl rfl)
theorem dX1_word_34 : decode cX1_word 34 = .ok (.bastore, 1) := dk_84 (dk_at dksX1_word_1 11 rfl rfl)
theorem dX1_word_35 : decode cX1_word 35 = .ok (.return_, 1) := dk_177 (dk_at dksX1_word_1 12 rfl rfl)
abbrev cX1_block : ByteArray := prog_5_method_4_code
def yX1_block : MethodName := ⟨RX1, "block", "(II)V"⟩
def dkwX1_block_0 : List UInt8 := [42, 180, 0, 13, 3, 27, 184, 0, 19, 42, 180, 0, 13, 7, 28, 184, 0, 19, 177]
abbrev dktX1_block_0 : List UInt8 := dkwX1_block_0 ++ []
theorem dksX1_block_0 : cX1_block.data.toList.drop 0 = dktX1_block_0 := by decide +kernel
theorem dX1_block_0 : decode cX1_block 0 = .ok (.aload_n 0, 1) := dk_42 (dk_at dksX1_block_0 0 rfl rfl)
theorem dX1_block_1 : decode cX1_block 1 = .ok (.getfield 13, 3) := dk_180 0 13 (dk_at dksX1_block_0 1 rfl rfl)
theorem dX1_block_4 : decode cX1_block 4 = .ok (.iconst 0, 1) := dk_3 (dk_at dksX1_block_0 4 rfl rfl)
theorem dX1_block_5 : decode cX1_block 5 = .ok (.iload_n 1, 1) := dk_27 (dk_at dksX1_block_0 5 rfl rfl)
theorem dX1_block_6 : decode cX1_block 6 = .ok (.invokestatic 19, 3) := dk_184 0 19 (dk_at dksX1_block_0 6 rfl rfl)
theorem dX1_block_9 : decode cX1_block 9 = .ok (.aload_n 0, 1) := dk_42 (dk_at dksX1_block_0 9 rfl rfl)
theorem dX1_block_10 : decode cX1_block 10 = .ok (.getfield 13, 3) := dk_180 0 13 (dk_at dksX1_block_0 10 rfl rfl)
theorem dX1_block_13 : decode cX1_block 13 = .ok (.iconst 4, 1) := dk_7 (dk_at dksX1_block_0 13 rfl rfl)
theorem dX1_block_14 : decode cX1_block 14 = .ok (.iload_n 2, 1) := dk_28 (dk_at dksX1_block_0 14 rfl rfl)
theorem dX1_block_15 : decode cX1_block 15 = .ok (.invokestatic 19, 3) := dk_184 0 19 (dk_at dksX1_block_0 15 rfl rfl)
theorem dX1_block_18 : decode cX1_block 18 = .ok (.return_, 1) := dk_177 (dk_at dksX1_block_0 18 rfl rfl)
abbrev cX1_out : ByteArray := prog_5_method_10_code
def yX1_out : MethodName := ⟨RX1, "out", "(I)I"⟩
def dkwX1_out_0 : List UInt8 := [42, 180, 0, 16, 27, 16, 7, 126, 51, 17, 0, 255, 126, 172]
abbrev dktX1_out_0 : List UInt8 := dkwX1_out_0 ++ []
theorem dksX1_out_0 : cX1_out.data.toList.drop 0 = dktX1_out_0 := by decide +kernel
theorem dX1_out_0 : decode cX1_out 0 = .ok (.aload_n 0, 1) := dk_42 (dk_at dksX1_out_0 0 rfl rfl)
theorem dX1_out_1 : decode cX1_out 1 = .ok (.getfield 16, 3) := dk_180 0 16 (dk_at dksX1_out_0 1 rfl rfl)
theorem dX1_out_4 : decode cX1_out 4 = .ok (.iload_n 1, 1) := dk_27 (dk_at dksX1_out_0 4 rfl rfl)
theorem dX1_out_5 : decode cX1_out 5 = .ok (.bipush 7, 2) := dk_16 7 (dk_at dksX1_out_0 5 rfl rfl)
theorem dX1_out_7 : decode cX1_out 7 = .ok (.iand, 1) := dk_126 (dk_at dksX1_out_0 7 rfl rfl)
theorem dX1_out_8 : decode cX1_out 8 = .ok (.baload, 1) := dk_51 (dk_at dksX1_out_0 8 rfl rfl)
theorem dX1_out_9 : decode cX1_out 9 = .ok (.sipush 255, 3) := dk_17 0 255 (dk_at dksX1_out_0 9 rfl rfl)
theorem dX1_out_12 : decode cX1_out 12 = .ok (.iand, 1) := dk_126 (dk_at dksX1_out_0 12 rfl rfl)
theorem dX1_out_13 : decode cX1_out 13 = .ok (.ireturn, 1) := dk_172 (dk_at dksX1_out_0 13 rfl rfl)
theorem q11 : (Jvm.Cond.initialized "IdeaDesk") ∈ lw_all := lw_g (lw_at lw_m1 1 rfl) rfl
theorem q24 : (Jvm.Cond.instanceMethod ({ cls := "IdeaDesk", name := "lock", desc := "(I)V" } : Jvm.MethodName)) ∈ lw_all := lw_g (lw_at lw_m1 14 rfl) rfl
theorem q25 : (Jvm.Cond.selects "IdeaDesk" ({ cls := "IdeaDesk", name := "lock", desc := "(I)V" } : Jvm.MethodName) ({ cls := "IdeaDesk", name := "lock", desc := "(I)V" } : Jvm.MethodName)) ∈ lw_all := lw_g (lw_at lw_m1 15 rfl) rfl
theorem q26 : (Jvm.Cond.code ({ cls := "IdeaDesk", name := "lock", desc := "(I)V" } : Jvm.MethodName) prog_5_method_7_code (2 : Nat) (Option.none : Option Jvm.ClassFile.FieldType)) ∈ lw_all := lw_g (lw_at lw_m1 16 rfl) rfl
theorem q27 : (Jvm.Cond.methodLink "IdeaDesk" (45 : Nat) ({ cls := "IdeaDesk", name := "run", desc := "(ZI)V" } : Jvm.MethodName)) ∈ lw_all := lw_g (lw_at lw_m1 17 rfl) rfl
theorem q28 : (Jvm.Cond.privateMethod ({ cls := "IdeaDesk", name := "run", desc := "(ZI)V" } : Jvm.MethodName)) ∈ lw_tbl := lw_at lw_m1 18 rfl
theorem q29 : (Jvm.Cond.instanceMethod ({ cls := "IdeaDesk", name := "run", desc := "(ZI)V" } : Jvm.MethodName)) ∈ lw_all := lw_g (lw_at lw_m1 19 rfl) rfl
theorem q30 : (Jvm.Cond.instantiable "IdeaDesk" (3 : Nat)) ∈ lw_all := lw_g (lw_at lw_m1 20 rfl) rfl
theorem q31 : (Jvm.Cond.code ({ cls := "IdeaDesk", name := "run", desc := "(ZI)V" } : Jvm.MethodName) prog_5_method_5_code (6 : Nat) (Option.none : Option Jvm.ClassFile.FieldType)) ∈ lw_all := lw_g (lw_at lw_m1 21 rfl) rfl
theorem q32 : (Jvm.Cond.methodLink "IdeaDesk" (23 : Nat) ({ cls := "IdeaDesk", name := "size", desc := "(I)I" } : Jvm.MethodName)) ∈ lw_all := lw_g (lw_at lw_m1 22 rfl) rfl
theorem q33 : (Jvm.Cond.static ({ cls := "IdeaDesk", name := "size", desc := "(I)I" } : Jvm.MethodName)) ∈ lw_all := lw_g (lw_at lw_m1 23 rfl) rfl
theorem q34 : (Jvm.Cond.code ({ cls := "IdeaDesk", name := "size", desc := "(I)I" } : Jvm.MethodName) prog_5_method_6_code (1 : Nat) (Option.some Jvm.ClassFile.FieldType.int)) ∈ lw_all := lw_g (lw_at lw_m1 24 rfl) rfl
theorem q35 : (Jvm.Cond.classLink "IdeaDesk" (27 : Nat) "IDEAEngine") ∈ lw_all := lw_g (lw_at lw_m1 25 rfl) rfl
theorem q37 : (Jvm.Cond.methodLink "IdeaDesk" (29 : Nat) ({ cls := "IDEAEngine", name := "<init>", desc := "()V" } : Jvm.MethodName)) ∈ lw_all := lw_g (lw_at lw_m1 27 rfl) rfl
theorem q51 : (Jvm.Cond.classLink "IdeaDesk" (30 : Nat) "KeyParameter") ∈ lw_all := lw_g (lw_at lw_m1 41 rfl) rfl
theorem q53 : (Jvm.Cond.methodLink "IdeaDesk" (32 : Nat) ({ cls := "KeyParameter", name := "<init>", desc := "([B)V" } : Jvm.MethodName)) ∈ lw_all := lw_g (lw_at lw_m1 43 rfl) rfl
theorem q70 : (Jvm.Cond.interfaceEntry "IdeaDesk" (35 : Nat)) ∈ lw_tbl := lw_at lw_m1 60 rfl
theorem q71 : (Jvm.Cond.methodLink "IdeaDesk" (35 : Nat) ({ cls := "BlockCipher", name := "init", desc := "(ZLCipherParameters;)V" } : Jvm.MethodName)) ∈ lw_all := lw_g (lw_at lw_m1 61 rfl) rfl
theorem q182 : (Jvm.Cond.interfaceEntry "IdeaDesk" (41 : Nat)) ∈ lw_tbl := lw_at lw_m1 172 rfl
theorem q183 : (Jvm.Cond.methodLink "IdeaDesk" (41 : Nat) ({ cls := "BlockCipher", name := "processBlock", desc := "([BI[BI)I" } : Jvm.MethodName)) ∈ lw_all := lw_g (lw_at lw_m1 173 rfl) rfl
theorem q257 : (Jvm.Cond.instanceMethod ({ cls := "IdeaDesk", name := "open", desc := "(I)V" } : Jvm.MethodName)) ∈ lw_all := lw_g (lw_at lw_m2 7 rfl) rfl
theorem q258 : (Jvm.Cond.selects "IdeaDesk" ({ cls := "IdeaDesk", name := "open", desc := "(I)V" } : Jvm.MethodName) ({ cls := "IdeaDesk", name := "open", desc := "(I)V" } : Jvm.MethodName)) ∈ lw_all := lw_g (lw_at lw_m2 8 rfl) rfl
theorem q259 : (Jvm.Cond.code ({ cls := "IdeaDesk", name := "open", desc := "(I)V" } : Jvm.MethodName) prog_5_method_8_code (2 : Nat) (Option.none : Option Jvm.ClassFile.FieldType)) ∈ lw_all := lw_g (lw_at lw_m2 9 rfl) rfl
theorem q261 : (Jvm.Cond.instanceMethod ({ cls := "IdeaDesk", name := "again", desc := "()V" } : Jvm.MethodName)) ∈ lw_all := lw_g (lw_at lw_m2 11 rfl) rfl
theorem q262 : (Jvm.Cond.selects "IdeaDesk" ({ cls := "IdeaDesk", name := "again", desc := "()V" } : Jvm.MethodName) ({ cls := "IdeaDesk", name := "again", desc := "()V" } : Jvm.MethodName)) ∈ lw_all := lw_g (lw_at lw_m2 12 rfl) rfl
theorem q263 : (Jvm.Cond.code ({ cls := "IdeaDesk", name := "again", desc := "()V" } : Jvm.MethodName) prog_5_method_9_code (2 : Nat) (Option.none : Option Jvm.ClassFile.FieldType)) ∈ lw_all := lw_g (lw_at lw_m2 13 rfl) rfl
theorem q269 : (Jvm.Cond.instanceMethod ({ cls := "IdeaDesk", name := "<init>", desc := "()V" } : Jvm.MethodName)) ∈ lw_all := lw_g (lw_at lw_m2 19 rfl) rfl
theorem q270 : (Jvm.Cond.code ({ cls := "IdeaDesk", name := "<init>", desc := "()V" } : Jvm.MethodName) prog_5_method_1_code (1 : Nat) (Option.none : Option Jvm.ClassFile.FieldType)) ∈ lw_all := lw_g (lw_at lw_m2 20 rfl) rfl
theorem q271 : (Jvm.Cond.methodLink "IdeaDesk" (1 : Nat) ({ cls := "java/lang/Object", name := "<init>", desc := "()V" } : Jvm.MethodName)) ∈ lw_all := lw_g (lw_at lw_m2 21 rfl) rfl
theorem q272 : (Jvm.Cond.fieldLink "IdeaDesk" (7 : Nat) "IdeaDesk" "key" "[B") ∈ lw_all := lw_g (lw_at lw_m2 22 rfl) rfl
theorem q273 : (Jvm.Cond.fieldLink "IdeaDesk" (13 : Nat) "IdeaDesk" "block" "[B") ∈ lw_all := lw_g (lw_at lw_m2 23 rfl) rfl
theorem q274 : (Jvm.Cond.fieldLink "IdeaDesk" (16 : Nat) "IdeaDesk" "out" "[B") ∈ lw_all := lw_g (lw_at lw_m2 24 rfl) rfl
theorem q275 : (Jvm.Cond.laysFinal "IdeaDesk" "IdeaDesk" "key" "[B") ∈ lw_all := lw_g (lw_at lw_m2 25 rfl) rfl
theorem q276 : (Jvm.Cond.soleField "IdeaDesk" "key") ∈ lw_all := lw_g (lw_at lw_m2 26 rfl) rfl
theorem q277 : (Jvm.Cond.laysFinal "IdeaDesk" "IdeaDesk" "block" "[B") ∈ lw_all := lw_g (lw_at lw_m2 27 rfl) rfl
theorem q278 : (Jvm.Cond.soleField "IdeaDesk" "block") ∈ lw_all := lw_g (lw_at lw_m2 28 rfl) rfl
theorem q279 : (Jvm.Cond.laysFinal "IdeaDesk" "IdeaDesk" "out" "[B") ∈ lw_all := lw_g (lw_at lw_m2 29 rfl) rfl
theorem q280 : (Jvm.Cond.soleField "IdeaDesk" "out") ∈ lw_all := lw_g (lw_at lw_m2 30 rfl) rfl
theorem q281 : (Jvm.Cond.superclass "IdeaDesk" "java/lang/Object") ∈ lw_all := lw_g (lw_at lw_m2 31 rfl) rfl
theorem q286 : (Jvm.Cond.instanceMethod ({ cls := "IdeaDesk", name := "key", desc := "(IIIII)V" } : Jvm.MethodName)) ∈ lw_all := lw_g (lw_at lw_m2 36 rfl) rfl
theorem q287 : (Jvm.Cond.selects "IdeaDesk" ({ cls := "IdeaDesk", name := "key", desc := "(IIIII)V" } : Jvm.MethodName) ({ cls := "IdeaDesk", name := "key", desc := "(IIIII)V" } : Jvm.MethodName)) ∈ lw_all := lw_g (lw_at lw_m2 37 rfl) rfl
theorem q288 : (Jvm.Cond.code ({ cls := "IdeaDesk", name := "key", desc := "(IIIII)V" } : Jvm.MethodName) prog_5_method_3_code (7 : Nat) (Option.none : Option Jvm.ClassFile.FieldType)) ∈ lw_all := lw_g (lw_at lw_m2 38 rfl) rfl
theorem q289 : (Jvm.Cond.methodLink "IdeaDesk" (19 : Nat) ({ cls := "IdeaDesk", name := "word", desc := "([BII)V" } : Jvm.MethodName)) ∈ lw_all := lw_g (lw_at lw_m2 39 rfl) rfl
theorem q290 : (Jvm.Cond.static ({ cls := "IdeaDesk", name := "word", desc := "([BII)V" } : Jvm.MethodName)) ∈ lw_all := lw_g (lw_at lw_m2 40 rfl) rfl
theorem q291 : (Jvm.Cond.code ({ cls := "IdeaDesk", name := "word", desc := "([BII)V" } : Jvm.MethodName) prog_5_method_2_code (3 : Nat) (Option.none : Option Jvm.ClassFile.FieldType)) ∈ lw_all := lw_g (lw_at lw_m2 41 rfl) rfl
theorem q293 : (Jvm.Cond.instanceMethod ({ cls := "IdeaDesk", name := "block", desc := "(II)V" } : Jvm.MethodName)) ∈ lw_all := lw_g (lw_at lw_m2 43 rfl) rfl
theorem q294 : (Jvm.Cond.selects "IdeaDesk" ({ cls := "IdeaDesk", name := "block", desc := "(II)V" } : Jvm.MethodName) ({ cls := "IdeaDesk", name := "block", desc := "(II)V" } : Jvm.MethodName)) ∈ lw_all := lw_g (lw_at lw_m2 44 rfl) rfl
theorem q295 : (Jvm.Cond.code ({ cls := "IdeaDesk", name := "block", desc := "(II)V" } : Jvm.MethodName) prog_5_method_4_code (3 : Nat) (Option.none : Option Jvm.ClassFile.FieldType)) ∈ lw_all := lw_g (lw_at lw_m2 45 rfl) rfl
theorem q300 : (Jvm.Cond.instanceMethod ({ cls := "IdeaDesk", name := "out", desc := "(I)I" } : Jvm.MethodName)) ∈ lw_all := lw_g (lw_at lw_m2 50 rfl) rfl
theorem q301 : (Jvm.Cond.selects "IdeaDesk" ({ cls := "IdeaDesk", name := "out", desc := "(I)I" } : Jvm.MethodName) ({ cls := "IdeaDesk", name := "out", desc := "(I)I" } : Jvm.MethodName)) ∈ lw_all := lw_g (lw_at lw_m2 51 rfl) rfl
theorem q302 : (Jvm.Cond.code ({ cls := "IdeaDesk", name := "out", desc := "(I)I" } : Jvm.MethodName) prog_5_method_10_code (2 : Nat) (Option.some Jvm.ClassFile.FieldType.int)) ∈ lw_all := lw_g (lw_at lw_m2 52 rfl) rfl
theorem in_X1 : ∀ w ∈ wsX10, w ∈ lw_all := lw_in wsX10 [275, 277, 279] (by decide +kernel) (by decide +kernel)
/-! IDEAEngine -/
set_option maxRecDepth 100000
def RX2 : String := "IDEAEngine"
def TX2 : u_T := fun k => match k with
  | 0 => ("IDEAEngine", "workingKey", "[I", false)
  | _ => ("IDEAEngine", "forEncryption", "Z", false)
def tyX2 : Nat → FieldType := fun k => match k with
  | 0 => .array .int
  | _ => .boolean
abbrev wsX20 : List Cond := u_ws RX2 TX2 2
theorem nmX2 : ∀ a, a < 2 → ∀ b, b < 2 → a ≠ b → (TX2 a).2.1 ≠ (TX2 b).2.1 := by decide +kernel
theorem tyX2_ok : ∀ k, k < 2 → parseFieldDescriptor (TX2 k).2.2.1 = some (tyX2 k) := by decide +kernel
abbrev cX2_init : ByteArray := prog_4_method_1_code
def yX2_init : MethodName := ⟨RX2, "<init>", "()V"⟩
def dkwX2_init_0 : List UInt8 := [42, 183, 0, 1, 42, 1, 181, 0, 7, 177]
abbrev dktX2_init_0 : List UInt8 := dkwX2_init_0 ++ []
theorem dksX2_init_0 : cX2_init.data.toList.drop 0 = dktX2_init_0 := by decide +kernel
theorem dX2_init_0 : decode cX2_init 0 = .ok (.aload_n 0, 1) := dk_42 (dk_at dksX2_init_0 0 rfl rfl)
theorem dX2_init_1 : decode cX2_init 1 = .ok (.invokespecial 1, 3) := dk_183 0 1 (dk_at dksX2_init_0 1 rfl rfl)
theorem dX2_init_4 : decode cX2_init 4 = .ok (.aload_n 0, 1) := dk_42 (dk_at dksX2_init_0 4 rfl rfl)
theorem dX2_init_5 : decode cX2_init 5 = .ok (.aconst_null, 1) := dk_1 (dk_at dksX2_init_0 5 rfl rfl)
theorem dX2_init_6 : decode cX2_init 6 = .ok (.putfield 7, 3) := dk_181 0 7 (dk_at dksX2_init_0 6 rfl rfl)
theorem dX2_init_9 : decode cX2_init 9 = .ok (.return_, 1) := dk_177 (dk_at dksX2_init_0 9 rfl rfl)
abbrev cX2_init_2 : ByteArray := prog_4_method_2_code
def yX2_init_2 : MethodName := ⟨RX2, "init", "(ZLCipherParameters;)V"⟩
def dkwX2_init_2_1 : List UInt8 := [181, 0, 7, 42, 27, 181, 0, 23, 177, 187, 0, 27, 89, 18, 29, 183, 0, 31, 191]
abbrev dktX2_init_2_1 : List UInt8 := dkwX2_init_2_1 ++ []
def dkwX2_init_2_0 : List UInt8 := [44, 193, 0, 13, 153, 0, 27, 44, 192, 0, 13, 182, 0, 15, 78, 42, 42, 27, 45, 182, 0, 19]
abbrev dktX2_init_2_0 : List UInt8 := dkwX2_init_2_0 ++ dktX2_init_2_1
theorem dksX2_init_2_0 : cX2_init_2.data.toList.drop 0 = dktX2_init_2_0 := by decide +kernel
theorem dksX2_init_2_1 : cX2_init_2.data.toList.drop 22 = dktX2_init_2_1 := dk_seg dksX2_init_2_0 22 rfl rfl
theorem dX2_init_2_0 : decode cX2_init_2 0 = .ok (.aload_n 2, 1) := dk_44 (dk_at dksX2_init_2_0 0 rfl rfl)
theorem dX2_init_2_1 : decode cX2_init_2 1 = .ok (.instanceof 13, 3) := dk_193 0 13 (dk_at dksX2_init_2_0 1 rfl rfl)
theorem dX2_init_2_4 : decode cX2_init_2 4 = .ok (.ifCond .eq 27, 3) := dk_153 0 27 (dk_at dksX2_init_2_0 4 rfl rfl)
theorem dX2_init_2_7 : decode cX2_init_2 7 = .ok (.aload_n 2, 1) := dk_44 (dk_at dksX2_init_2_0 7 rfl rfl)
theorem dX2_init_2_8 : decode cX2_init_2 8 = .ok (.checkcast 13, 3) := dk_192 0 13 (dk_at dksX2_init_2_0 8 rfl rfl)
theorem dX2_init_2_11 : decode cX2_init_2 11 = .ok (.invokevirtual 15, 3) := dk_182 0 15 (dk_at dksX2_init_2_0 11 rfl rfl)
theorem dX2_init_2_14 : decode cX2_init_2 14 = .ok (.astore_n 3, 1) := dk_78 (dk_at dksX2_init_2_0 14 rfl rfl)
theorem dX2_init_2_15 : decode cX2_init_2 15 = .ok (.aload_n 0, 1) := dk_42 (dk_at dksX2_init_2_0 15 rfl rfl)
theorem dX2_init_2_16 : decode cX2_init_2 16 = .ok (.aload_n 0, 1) := dk_42 (dk_at dksX2_init_2_0 16 rfl rfl)
theorem dX2_init_2_17 : decode cX2_init_2 17 = .ok (.iload_n 1, 1) := dk_27 (dk_at dksX2_init_2_0 17 rfl rfl)
theorem dX2_init_2_18 : decode cX2_init_2 18 = .ok (.aload_n 3, 1) := dk_45 (dk_at dksX2_init_2_0 18 rfl rfl)
theorem dX2_init_2_19 : decode cX2_init_2 19 = .ok (.invokevirtual 19, 3) := dk_182 0 19 (dk_at dksX2_init_2_0 19 rfl rfl)
theorem dX2_init_2_22 : decode cX2_init_2 22 = .ok (.putfield 7, 3) := dk_181 0 7 (dk_at dksX2_init_2_1 0 rfl rfl)
theorem dX2_init_2_25 : decode cX2_init_2 25 = .ok (.aload_n 0, 1) := dk_42 (dk_at dksX2_init_2_1 3 rfl rfl)
theorem dX2_init_2_26 : decode cX2_init_2 26 = .ok (.iload_n 1, 1) := dk_27 (dk_at dksX2_init_2_1 4 rfl rfl)
theorem dX2_init_2_27 : decode cX2_init_2 27 = .ok (.putfield 23, 3) := dk_181 0 23 (dk_at dksX2_init_2_1 5 rfl rfl)
theorem dX2_init_2_30 : decode cX2_init_2 30 = .ok (.return_, 1) := dk_177 (dk_at dksX2_init_2_1 8 rfl rfl)
theorem dX2_init_2_31 : decode cX2_init_2 31 = .ok (.new 27, 3) := dk_187 0 27 (dk_at dksX2_init_2_1 9 rfl rfl)
theorem dX2_init_2_34 : decode cX2_init_2 34 = .ok (.dup, 1) := dk_89 (dk_at dksX2_init_2_1 12 rfl rfl)
theorem dX2_init_2_35 : decode cX2_init_2 35 = .ok (.ldc 29, 2) := dk_18 29 (dk_at dksX2_init_2_1 13 rfl rfl)
theorem dX2_init_2_37 : decode cX2_init_2 37 = .ok (.invokespecial 31, 3) := dk_183 0 31 (dk_at dksX2_init_2_1 15 rfl rfl)
theorem dX2_init_2_40 : decode cX2_init_2 40 = .ok (.athrow, 1) := dk_191 (dk_at dksX2_init_2_1 18 rfl rfl)
abbrev cX2_generateWorkingKey : ByteArray := prog_4_method_12_code
def yX2_generateWorkingKey : MethodName := ⟨RX2, "generateWorkingKey", "(Z[B)[I"⟩
def dkwX2_generateWorkingKey_0 : List UInt8 := [27, 153, 0, 9, 42, 44, 182, 0, 81, 176, 42, 42, 44, 182, 0, 81, 182, 0, 85, 176]
abbrev dktX2_generateWorkingKey_0 : List UInt8 := dkwX2_generateWorkingKey_0 ++ []
theorem dksX2_generateWorkingKey_0 : cX2_generateWorkingKey.data.toList.drop 0 = dktX2_generateWorkingKey_0 := by decide +kernel
theorem dX2_generateWorkingKey_0 : decode cX2_generateWorkingKey 0 = .ok (.iload_n 1, 1) := dk_27 (dk_at dksX2_generateWorkingKey_0 0 rfl rfl)
theorem dX2_generateWorkingKey_1 : decode cX2_generateWorkingKey 1 = .ok (.ifCond .eq 9, 3) := dk_153 0 9 (dk_at dksX2_generateWorkingKey_0 1 rfl rfl)
theorem dX2_generateWorkingKey_4 : decode cX2_generateWorkingKey 4 = .ok (.aload_n 0, 1) := dk_42 (dk_at dksX2_generateWorkingKey_0 4 rfl rfl)
theorem dX2_generateWorkingKey_5 : decode cX2_generateWorkingKey 5 = .ok (.aload_n 2, 1) := dk_44 (dk_at dksX2_generateWorkingKey_0 5 rfl rfl)
theorem dX2_generateWorkingKey_6 : decode cX2_generateWorkingKey 6 = .ok (.invokevirtual 81, 3) := dk_182 0 81 (dk_at dksX2_generateWorkingKey_0 6 rfl rfl)
theorem dX2_generateWorkingKey_9 : decode cX2_generateWorkingKey 9 = .ok (.areturn, 1) := dk_176 (dk_at dksX2_generateWorkingKey_0 9 rfl rfl)
theorem dX2_generateWorkingKey_10 : decode cX2_generateWorkingKey 10 = .ok (.aload_n 0, 1) := dk_42 (dk_at dksX2_generateWorkingKey_0 10 rfl rfl)
theorem dX2_generateWorkingKey_11 : decode cX2_generateWorkingKey 11 = .ok (.aload_n 0, 1) := dk_42 (dk_at dksX2_generateWorkingKey_0 11 rfl rfl)
theorem dX2_generateWorkingKey_12 : decode cX2_generateWorkingKey 12 = .ok (.aload_n 2, 1) := dk_44 (dk_at dksX2_generateWorkingKey_0 12 rfl rfl)
theorem dX2_generateWorkingKey_13 : decode cX2_generateWorkingKey 13 = .ok (.invokevirtual 81, 3) := dk_182 0 81 (dk_at dksX2_generateWorkingKey_0 13 rfl rfl)
theorem dX2_generateWorkingKey_16 : decode cX2_generateWorkingKey 16 = .ok (.invokevirtual 85, 3) := dk_182 0 85 (dk_at dksX2_generateWorkingKey_0 16 rfl rfl)
theorem dX2_generateWorkingKey_19 : decode cX2_generateWorkingKey 19 = .ok (.areturn, 1) := dk_176 (dk_at dksX2_generateWorkingKey_0 19 rfl rfl)
abbrev cX2_expandKey : ByteArray := prog_4_method_8_code
def yX2_expandKey : MethodName := ⟨RX2, "expandKey", "([B)[I"⟩
def dkwX2_expandKey_7 : List UInt8 := [16, 7, 122, 128, 18, 55, 126, 79, 132, 3, 1, 167, 255, 139, 44, 176]
abbrev dktX2_expandKey_7 : List UInt8 := dkwX2_expandKey_7 ++ []
def dkwX2_expandKey_6 : List UInt8 := [79, 167, 0, 31, 44, 29, 44, 29, 16, 15, 100, 46, 16, 127, 126, 16, 9, 120, 44, 29, 16, 14, 100, 46]
abbrev dktX2_expandKey_6 : List UInt8 := dkwX2_expandKey_6 ++ dktX2_expandKey_7
def dkwX2_expandKey_5 : List UInt8 := [29, 16, 7, 100, 46, 16, 127, 126, 16, 9, 120, 44, 29, 16, 14, 100, 46, 16, 7, 122, 128, 18, 55, 126]
abbrev dktX2_expandKey_5 : List UInt8 := dkwX2_expandKey_5 ++ dktX2_expandKey_6
def dkwX2_expandKey_4 : List UInt8 := [46, 16, 7, 122, 128, 18, 55, 126, 79, 167, 0, 71, 29, 16, 7, 126, 16, 6, 160, 0, 34, 44, 29, 44]
abbrev dktX2_expandKey_4 : List UInt8 := dkwX2_expandKey_4 ++ dktX2_expandKey_5
def dkwX2_expandKey_3 : List UInt8 := [16, 6, 162, 0, 34, 44, 29, 44, 29, 16, 7, 100, 46, 16, 127, 126, 16, 9, 120, 44, 29, 16, 6, 100]
abbrev dktX2_expandKey_3 : List UInt8 := dkwX2_expandKey_3 ++ dktX2_expandKey_4
def dkwX2_expandKey_2 : List UInt8 := [182, 0, 56, 79, 132, 3, 1, 167, 255, 236, 16, 8, 62, 29, 16, 52, 162, 0, 117, 29, 16, 7, 126]
abbrev dktX2_expandKey_2 : List UInt8 := dkwX2_expandKey_2 ++ dktX2_expandKey_3
def dkwX2_expandKey_1 : List UInt8 := [100, 43, 190, 184, 0, 68, 45, 76, 3, 62, 29, 16, 8, 162, 0, 20, 44, 29, 42, 43, 29, 5, 104]
abbrev dktX2_expandKey_1 : List UInt8 := dkwX2_expandKey_1 ++ dktX2_expandKey_2
def dkwX2_expandKey_0 : List UInt8 := [16, 52, 188, 10, 77, 43, 190, 16, 16, 162, 0, 23, 16, 16, 188, 8, 78, 43, 3, 45, 45, 190, 43, 190]
abbrev dktX2_expandKey_0 : List UInt8 := dkwX2_expandKey_0 ++ dktX2_expandKey_1
theorem dksX2_expandKey_0 : cX2_expandKey.data.toList.drop 0 = dktX2_expandKey_0 := by decide +kernel
theorem dksX2_expandKey_1 : cX2_expandKey.data.toList.drop 24 = dktX2_expandKey_1 := dk_seg dksX2_expandKey_0 24 rfl rfl
theorem dksX2_expandKey_2 : cX2_expandKey.data.toList.drop 47 = dktX2_expandKey_2 := dk_seg dksX2_expandKey_1 23 rfl rfl
theorem dksX2_expandKey_3 : cX2_expandKey.data.toList.drop 70 = dktX2_expandKey_3 := dk_seg dksX2_expandKey_2 23 rfl rfl
theorem dksX2_expandKey_4 : cX2_expandKey.data.toList.drop 94 = dktX2_expandKey_4 := dk_seg dksX2_expandKey_3 24 rfl rfl
theorem dksX2_expandKey_5 : cX2_expandKey.data.toList.drop 118 = dktX2_expandKey_5 := dk_seg dksX2_expandKey_4 24 rfl rfl
theorem dksX2_expandKey_6 : cX2_expandKey.data.toList.drop 142 = dktX2_expandKey_6 := dk_seg dksX2_expandKey_5 24 rfl rfl
theorem dksX2_expandKey_7 : cX2_expandKey.data.toList.drop 166 = dktX2_expandKey_7 := dk_seg dksX2_expandKey_6 24 rfl rfl
theorem dX2_expandKey_0 : decode cX2_expandKey 0 = .ok (.bipush 52, 2) := dk_16 52 (dk_at dksX2_expandKey_0 0 rfl rfl)
theorem dX2_expandKey_2 : decode cX2_expandKey 2 = .ok (.newarray .int, 2) := dk_188_10 (dk_at dksX2_expandKey_0 2 rfl rfl)
theorem dX2_expandKey_4 : decode cX2_expandKey 4 = .ok (.astore_n 2, 1) := dk_77 (dk_at dksX2_expandKey_0 4 rfl rfl)
theorem dX2_expandKey_5 : decode cX2_expandKey 5 = .ok (.aload_n 1, 1) := dk_43 (dk_at dksX2_expandKey_0 5 rfl rfl)
theorem dX2_expandKey_6 : decode cX2_expandKey 6 = .ok (.arraylength, 1) := dk_190 (dk_at dksX2_expandKey_0 6 rfl rfl)
theorem dX2_expandKey_7 : decode cX2_expandKey 7 = .ok (.bipush 16, 2) := dk_16 16 (dk_at dksX2_expandKey_0 7 rfl rfl)
theorem dX2_expandKey_9 : decode cX2_expandKey 9 = .ok (.if_icmp .ge 23, 3) := dk_162 0 23 (dk_at dksX2_expandKey_0 9 rfl rfl)
theorem dX2_expandKey_12 : decode cX2_expandKey 12 = .ok (.bipush 16, 2) := dk_16 16 (dk_at dksX2_expandKey_0 12 rfl rfl)
theorem dX2_expandKey_14 : decode cX2_expandKey 14 = .ok (.newarray .byte, 2) := dk_188_8 (dk_at dksX2_expandKey_0 14 rfl rfl)
theorem dX2_expandKey_16 : decode cX2_expandKey 16 = .ok (.astore_n 3, 1) := dk_78 (dk_at dksX2_expandKey_0 16 rfl rfl)
theorem dX2_expandKey_17 : decode cX2_expandKey 17 = .ok (.aload_n 1, 1) := dk_43 (dk_at dksX2_expandKey_0 17 rfl rfl)
theorem dX2_expandKey_18 : decode cX2_expandKey 18 = .ok (.iconst 0, 1) := dk_3 (dk_at dksX2_expandKey_0 18 rfl rfl)
theorem dX2_expandKey_19 : decode cX2_expandKey 19 = .ok (.aload_n 3, 1) := dk_45 (dk_at dksX2_expandKey_0 19 rfl rfl)
theorem dX2_expandKey_20 : decode cX2_expandKey 20 = .ok (.aload_n 3, 1) := dk_45 (dk_at dksX2_expandKey_0 20 rfl rfl)
theorem dX2_expandKey_21 : decode cX2_expandKey 21 = .ok (.arraylength, 1) := dk_190 (dk_at dksX2_expandKey_0 21 rfl rfl)
theorem dX2_expandKey_22 : decode cX2_expandKey 22 = .ok (.aload_n 1, 1) := dk_43 (dk_at dksX2_expandKey_0 22 rfl rfl)
theorem dX2_expandKey_23 : decode cX2_expandKey 23 = .ok (.arraylength, 1) := dk_190 (dk_at dksX2_expandKey_0 23 rfl rfl)
theorem dX2_expandKey_24 : decode cX2_expandKey 24 = .ok (.isub, 1) := dk_100 (dk_at dksX2_expandKey_1 0 rfl rfl)
theorem dX2_expandKey_25 : decode cX2_expandKey 25 = .ok (.aload_n 1, 1) := dk_43 (dk_at dksX2_expandKey_1 1 rfl rfl)
theorem dX2_expandKey_26 : decode cX2_expandKey 26 = .ok (.arraylength, 1) := dk_190 (dk_at dksX2_expandKey_1 2 rfl rfl)
theorem dX2_expandKey_27 : decode cX2_expandKey 27 = .ok (.invokestatic 68, 3) := dk_184 0 68 (dk_at dksX2_expandKey_1 3 rfl rfl)
theorem dX2_expandKey_30 : decode cX2_expandKey 30 = .ok (.aload_n 3, 1) := dk_45 (dk_at dksX2_expandKey_1 6 rfl rfl)
theorem dX2_expandKey_31 : decode cX2_expandKey 31 = .ok (.astore_n 1, 1) := dk_76 (dk_at dksX2_expandKey_1 7 rfl rfl)
theorem dX2_expandKey_32 : decode cX2_expandKey 32 = .ok (.iconst 0, 1) := dk_3 (dk_at dksX2_expandKey_1 8 rfl rfl)
theorem dX2_expandKey_33 : decode cX2_expandKey 33 = .ok (.istore_n 3, 1) := dk_62 (dk_at dksX2_expandKey_1 9 rfl rfl)
theorem dX2_expandKey_34 : decode cX2_expandKey 34 = .ok (.iload_n 3, 1) := dk_29 (dk_at dksX2_expandKey_1 10 rfl rfl)
theorem dX2_expandKey_35 : decode cX2_expandKey 35 = .ok (.bipush 8, 2) := dk_16 8 (dk_at dksX2_expandKey_1 11 rfl rfl)
theorem dX2_expandKey_37 : decode cX2_expandKey 37 = .ok (.if_icmp .ge 20, 3) := dk_162 0 20 (dk_at dksX2_expandKey_1 13 rfl rfl)
theorem dX2_expandKey_40 : decode cX2_expandKey 40 = .ok (.aload_n 2, 1) := dk_44 (dk_at dksX2_expandKey_1 16 rfl rfl)
theorem dX2_expandKey_41 : decode cX2_expandKey 41 = .ok (.iload_n 3, 1) := dk_29 (dk_at dksX2_expandKey_1 17 rfl rfl)
theorem dX2_expandKey_42 : decode cX2_expandKey 42 = .ok (.aload_n 0, 1) := dk_42 (dk_at dksX2_expandKey_1 18 rfl rfl)
theorem dX2_expandKey_43 : decode cX2_expandKey 43 = .ok (.aload_n 1, 1) := dk_43 (dk_at dksX2_expandKey_1 19 rfl rfl)
theorem dX2_expandKey_44 : decode cX2_expandKey 44 = .ok (.iload_n 3, 1) := dk_29 (dk_at dksX2_expandKey_1 20 rfl rfl)
theorem dX2_expandKey_45 : decode cX2_expandKey 45 = .ok (.iconst 2, 1) := dk_5 (dk_at dksX2_expandKey_1 21 rfl rfl)
theorem dX2_expandKey_46 : decode cX2_expandKey 46 = .ok (.imul, 1) := dk_104 (dk_at dksX2_expandKey_1 22 rfl rfl)
theorem dX2_expandKey_47 : decode cX2_expandKey 47 = .ok (.invokevirtual 56, 3) := dk_182 0 56 (dk_at dksX2_expandKey_2 0 rfl rfl)
theorem dX2_expandKey_50 : decode cX2_expandKey 50 = .ok (.iastore, 1) := dk_79 (dk_at dksX2_expandKey_2 3 rfl rfl)
theorem dX2_expandKey_51 : decode cX2_expandKey 51 = .ok (.iinc 3 1, 3) := dk_132 3 1 (dk_at dksX2_expandKey_2 4 rfl rfl)
theorem dX2_expandKey_54 : decode cX2_expandKey 54 = .ok (.goto (-20), 3) := dk_167 255 236 (dk_at dksX2_expandKey_2 7 rfl rfl)
theorem dX2_expandKey_57 : decode cX2_expandKey 57 = .ok (.bipush 8, 2) := dk_16 8 (dk_at dksX2_expandKey_2 10 rfl rfl)
theorem dX2_expandKey_59 : decode cX2_expandKey 59 = .ok (.istore_n 3, 1) := dk_62 (dk_at dksX2_expandKey_2 12 rfl rfl)
theorem dX2_expandKey_60 : decode cX2_expandKey 60 = .ok (.iload_n 3, 1) := dk_29 (dk_at dksX2_expandKey_2 13 rfl rfl)
theorem dX2_expandKey_61 : decode cX2_expandKey 61 = .ok (.bipush 52, 2) := dk_16 52 (dk_at dksX2_expandKey_2 14 rfl rfl)
theorem dX2_expandKey_63 : decode cX2_expandKey 63 = .ok (.if_icmp .ge 117, 3) := dk_162 0 117 (dk_at dksX2_expandKey_2 16 rfl rfl)
theorem dX2_expandKey_66 : decode cX2_expandKey 66 = .ok (.iload_n 3, 1) := dk_29 (dk_at dksX2_expandKey_2 19 rfl rfl)
theorem dX2_expandKey_67 : decode cX2_expandKey 67 = .ok (.bipush 7, 2) := dk_16 7 (dk_at dksX2_expandKey_2 20 rfl rfl)
theorem dX2_expandKey_69 : decode cX2_expandKey 69 = .ok (.iand, 1) := dk_126 (dk_at dksX2_expandKey_2 22 rfl rfl)
theorem dX2_expandKey_70 : decode cX2_expandKey 70 = .ok (.bipush 6, 2) := dk_16 6 (dk_at dksX2_expandKey_3 0 rfl rfl)
theorem dX2_expandKey_72 : decode cX2_expandKey 72 = .ok (.if_icmp .ge 34, 3) := dk_162 0 34 (dk_at dksX2_expandKey_3 2 rfl rfl)
theorem dX2_expandKey_75 : decode cX2_expandKey 75 = .ok (.aload_n 2, 1) := dk_44 (dk_at dksX2_expandKey_3 5 rfl rfl)
theorem dX2_expandKey_76 : decode cX2_expandKey 76 = .ok (.iload_n 3, 1) := dk_29 (dk_at dksX2_expandKey_3 6 rfl rfl)
theorem dX2_expandKey_77 : decode cX2_expandKey 77 = .ok (.aload_n 2, 1) := dk_44 (dk_at dksX2_expandKey_3 7 rfl rfl)
theorem dX2_expandKey_78 : decode cX2_expandKey 78 = .ok (.iload_n 3, 1) := dk_29 (dk_at dksX2_expandKey_3 8 rfl rfl)
theorem dX2_expandKey_79 : decode cX2_expandKey 79 = .ok (.bipush 7, 2) := dk_16 7 (dk_at dksX2_expandKey_3 9 rfl rfl)
theorem dX2_expandKey_81 : decode cX2_expandKey 81 = .ok (.isub, 1) := dk_100 (dk_at dksX2_expandKey_3 11 rfl rfl)
theorem dX2_expandKey_82 : decode cX2_expandKey 82 = .ok (.iaload, 1) := dk_46 (dk_at dksX2_expandKey_3 12 rfl rfl)
theorem dX2_expandKey_83 : decode cX2_expandKey 83 = .ok (.bipush 127, 2) := dk_16 127 (dk_at dksX2_expandKey_3 13 rfl rfl)
theorem dX2_expandKey_85 : decode cX2_expandKey 85 = .ok (.iand, 1) := dk_126 (dk_at dksX2_expandKey_3 15 rfl rfl)
theorem dX2_expandKey_86 : decode cX2_expandKey 86 = .ok (.bipush 9, 2) := dk_16 9 (dk_at dksX2_expandKey_3 16 rfl rfl)
theorem dX2_expandKey_88 : decode cX2_expandKey 88 = .ok (.ishl, 1) := dk_120 (dk_at dksX2_expandKey_3 18 rfl rfl)
theorem dX2_expandKey_89 : decode cX2_expandKey 89 = .ok (.aload_n 2, 1) := dk_44 (dk_at dksX2_expandKey_3 19 rfl rfl)
theorem dX2_expandKey_90 : decode cX2_expandKey 90 = .ok (.iload_n 3, 1) := dk_29 (dk_at dksX2_expandKey_3 20 rfl rfl)
theorem dX2_expandKey_91 : decode cX2_expandKey 91 = .ok (.bipush 6, 2) := dk_16 6 (dk_at dksX2_expandKey_3 21 rfl rfl)
theorem dX2_expandKey_93 : decode cX2_expandKey 93 = .ok (.isub, 1) := dk_100 (dk_at dksX2_expandKey_3 23 rfl rfl)
theorem dX2_expandKey_94 : decode cX2_expandKey 94 = .ok (.iaload, 1) := dk_46 (dk_at dksX2_expandKey_4 0 rfl rfl)
theorem dX2_expandKey_95 : decode cX2_expandKey 95 = .ok (.bipush 7, 2) := dk_16 7 (dk_at dksX2_expandKey_4 1 rfl rfl)
theorem dX2_expandKey_97 : decode cX2_expandKey 97 = .ok (.ishr, 1) := dk_122 (dk_at dksX2_expandKey_4 3 rfl rfl)
theorem dX2_expandKey_98 : decode cX2_expandKey 98 = .ok (.ior, 1) := dk_128 (dk_at dksX2_expandKey_4 4 rfl rfl)
theorem dX2_expandKey_99 : decode cX2_expandKey 99 = .ok (.ldc 55, 2) := dk_18 55 (dk_at dksX2_expandKey_4 5 rfl rfl)
theorem dX2_expandKey_101 : decode cX2_expandKey 101 = .ok (.iand, 1) := dk_126 (dk_at dksX2_expandKey_4 7 rfl rfl)
theorem dX2_expandKey_102 : decode cX2_expandKey 102 = .ok (.iastore, 1) := dk_79 (dk_at dksX2_expandKey_4 8 rfl rfl)
theorem dX2_expandKey_103 : decode cX2_expandKey 103 = .ok (.goto 71, 3) := dk_167 0 71 (dk_at dksX2_expandKey_4 9 rfl rfl)
theorem dX2_expandKey_106 : decode cX2_expandKey 106 = .ok (.iload_n 3, 1) := dk_29 (dk_at dksX2_expandKey_4 12 rfl rfl)
theorem dX2_expandKey_107 : decode cX2_expandKey 107 = .ok (.bipush 7, 2) := dk_16 7 (dk_at dksX2_expandKey_4 13 rfl rfl)
theorem dX2_expandKey_109 : decode cX2_expandKey 109 = .ok (.iand, 1) := dk_126 (dk_at dksX2_expandKey_4 15 rfl rfl)
theorem dX2_expandKey_110 : decode cX2_expandKey 110 = .ok (.bipush 6, 2) := dk_16 6 (dk_at dksX2_expandKey_4 16 rfl rfl)
theorem dX2_expandKey_112 : decode cX2_expandKey 112 = .ok (.if_icmp .ne 34, 3) := dk_160 0 34 (dk_at dksX2_expandKey_4 18 rfl rfl)
theorem dX2_expandKey_115 : decode cX2_expandKey 115 = .ok (.aload_n 2, 1) := dk_44 (dk_at dksX2_expandKey_4 21 rfl rfl)
theorem dX2_expandKey_116 : decode cX2_expandKey 116 = .ok (.iload_n 3, 1) := dk_29 (dk_at dksX2_expandKey_4 22 rfl rfl)
theorem dX2_expandKey_117 : decode cX2_expandKey 117 = .ok (.aload_n 2, 1) := dk_44 (dk_at dksX2_expandKey_4 23 rfl rfl)
theorem dX2_expandKey_118 : decode cX2_expandKey 118 = .ok (.iload_n 3, 1) := dk_29 (dk_at dksX2_expandKey_5 0 rfl rfl)
theorem dX2_expandKey_119 : decode cX2_expandKey 119 = .ok (.bipush 7, 2) := dk_16 7 (dk_at dksX2_expandKey_5 1 rfl rfl)
theorem dX2_expandKey_121 : decode cX2_expandKey 121 = .ok (.isub, 1) := dk_100 (dk_at dksX2_expandKey_5 3 rfl rfl)
theorem dX2_expandKey_122 : decode cX2_expandKey 122 = .ok (.iaload, 1) := dk_46 (dk_at dksX2_expandKey_5 4 rfl rfl)
theorem dX2_expandKey_123 : decode cX2_expandKey 123 = .ok (.bipush 127, 2) := dk_16 127 (dk_at dksX2_expandKey_5 5 rfl rfl)
theorem dX2_expandKey_125 : decode cX2_expandKey 125 = .ok (.iand, 1) := dk_126 (dk_at dksX2_expandKey_5 7 rfl rfl)
theorem dX2_expandKey_126 : decode cX2_expandKey 126 = .ok (.bipush 9, 2) := dk_16 9 (dk_at dksX2_expandKey_5 8 rfl rfl)
theorem dX2_expandKey_128 : decode cX2_expandKey 128 = .ok (.ishl, 1) := dk_120 (dk_at dksX2_expandKey_5 10 rfl rfl)
theorem dX2_expandKey_129 : decode cX2_expandKey 129 = .ok (.aload_n 2, 1) := dk_44 (dk_at dksX2_expandKey_5 11 rfl rfl)
theorem dX2_expandKey_130 : decode cX2_expandKey 130 = .ok (.iload_n 3, 1) := dk_29 (dk_at dksX2_expandKey_5 12 rfl rfl)
theorem dX2_expandKey_131 : decode cX2_expandKey 131 = .ok (.bipush 14, 2) := dk_16 14 (dk_at dksX2_expandKey_5 13 rfl rfl)
theorem dX2_expandKey_133 : decode cX2_expandKey 133 = .ok (.isub, 1) := dk_100 (dk_at dksX2_expandKey_5 15 rfl rfl)
theorem dX2_expandKey_134 : decode cX2_expandKey 134 = .ok (.iaload, 1) := dk_46 (dk_at dksX2_expandKey_5 16 rfl rfl)
theorem dX2_expandKey_135 : decode cX2_expandKey 135 = .ok (.bipush 7, 2) := dk_16 7 (dk_at dksX2_expandKey_5 17 rfl rfl)
theorem dX2_expandKey_137 : decode cX2_expandKey 137 = .ok (.ishr, 1) := dk_122 (dk_at dksX2_expandKey_5 19 rfl rfl)
theorem dX2_expandKey_138 : decode cX2_expandKey 138 = .ok (.ior, 1) := dk_128 (dk_at dksX2_expandKey_5 20 rfl rfl)
theorem dX2_expandKey_139 : decode cX2_expandKey 139 = .ok (.ldc 55, 2) := dk_18 55 (dk_at dksX2_expandKey_5 21 rfl rfl)
theorem dX2_expandKey_141 : decode cX2_expandKey 141 = .ok (.iand, 1) := dk_126 (dk_at dksX2_expandKey_5 23 rfl rfl)
theorem dX2_expandKey_142 : decode cX2_expandKey 142 = .ok (.iastore, 1) := dk_79 (dk_at dksX2_expandKey_6 0 rfl rfl)
theorem dX2_expandKey_143 : decode cX2_expandKey 143 = .ok (.goto 31, 3) := dk_167 0 31 (dk_at dksX2_expandKey_6 1 rfl rfl)
theorem dX2_expandKey_146 : decode cX2_expandKey 146 = .ok (.aload_n 2, 1) := dk_44 (dk_at dksX2_expandKey_6 4 rfl rfl)
theorem dX2_expandKey_147 : decode cX2_expandKey 147 = .ok (.iload_n 3, 1) := dk_29 (dk_at dksX2_expandKey_6 5 rfl rfl)
theorem dX2_expandKey_148 : decode cX2_expandKey 148 = .ok (.aload_n 2, 1) := dk_44 (dk_at dksX2_expandKey_6 6 rfl rfl)
theorem dX2_expandKey_149 : decode cX2_expandKey 149 = .ok (.iload_n 3, 1) := dk_29 (dk_at dksX2_expandKey_6 7 rfl rfl)
theorem dX2_expandKey_150 : decode cX2_expandKey 150 = .ok (.bipush 15, 2) := dk_16 15 (dk_at dksX2_expandKey_6 8 rfl rfl)
theorem dX2_expandKey_152 : decode cX2_expandKey 152 = .ok (.isub, 1) := dk_100 (dk_at dksX2_expandKey_6 10 rfl rfl)
theorem dX2_expandKey_153 : decode cX2_expandKey 153 = .ok (.iaload, 1) := dk_46 (dk_at dksX2_expandKey_6 11 rfl rfl)
theorem dX2_expandKey_154 : decode cX2_expandKey 154 = .ok (.bipush 127, 2) := dk_16 127 (dk_at dksX2_expandKey_6 12 rfl rfl)
theorem dX2_expandKey_156 : decode cX2_expandKey 156 = .ok (.iand, 1) := dk_126 (dk_at dksX2_expandKey_6 14 rfl rfl)
theorem dX2_expandKey_157 : decode cX2_expandKey 157 = .ok (.bipush 9, 2) := dk_16 9 (dk_at dksX2_expandKey_6 15 rfl rfl)
theorem dX2_expandKey_159 : decode cX2_expandKey 159 = .ok (.ishl, 1) := dk_120 (dk_at dksX2_expandKey_6 17 rfl rfl)
theorem dX2_expandKey_160 : decode cX2_expandKey 160 = .ok (.aload_n 2, 1) := dk_44 (dk_at dksX2_expandKey_6 18 rfl rfl)
theorem dX2_expandKey_161 : decode cX2_expandKey 161 = .ok (.iload_n 3, 1) := dk_29 (dk_at dksX2_expandKey_6 19 rfl rfl)
theorem dX2_expandKey_162 : decode cX2_expandKey 162 = .ok (.bipush 14, 2) := dk_16 14 (dk_at dksX2_expandKey_6 20 rfl rfl)
theorem dX2_expandKey_164 : decode cX2_expandKey 164 = .ok (.isub, 1) := dk_100 (dk_at dksX2_expandKey_6 22 rfl rfl)
theorem dX2_expandKey_165 : decode cX2_expandKey 165 = .ok (.iaload, 1) := dk_46 (dk_at dksX2_expandKey_6 23 rfl rfl)
theorem dX2_expandKey_166 : decode cX2_expandKey 166 = .ok (.bipush 7, 2) := dk_16 7 (dk_at dksX2_expandKey_7 0 rfl rfl)
theorem dX2_expandKey_168 : decode cX2_expandKey 168 = .ok (.ishr, 1) := dk_122 (dk_at dksX2_expandKey_7 2 rfl rfl)
theorem dX2_expandKey_169 : decode cX2_expandKey 169 = .ok (.ior, 1) := dk_128 (dk_at dksX2_expandKey_7 3 rfl rfl)
theorem dX2_expandKey_170 : decode cX2_expandKey 170 = .ok (.ldc 55, 2) := dk_18 55 (dk_at dksX2_expandKey_7 4 rfl rfl)
theorem dX2_expandKey_172 : decode cX2_expandKey 172 = .ok (.iand, 1) := dk_126 (dk_at dksX2_expandKey_7 6 rfl rfl)
theorem dX2_expandKey_173 : decode cX2_expandKey 173 = .ok (.iastore, 1) := dk_79 (dk_at dksX2_expandKey_7 7 rfl rfl)
theorem dX2_expandKey_174 : decode cX2_expandKey 174 = .ok (.iinc 3 1, 3) := dk_132 3 1 (dk_at dksX2_expandKey_7 8 rfl rfl)
theorem dX2_expandKey_177 : decode cX2_expandKey 177 = .ok (.goto (-117), 3) := dk_167 255 139 (dk_at dksX2_expandKey_7 11 rfl rfl)
theorem dX2_expandKey_180 : decode cX2_expandKey 180 = .ok (.aload_n 2, 1) := dk_44 (dk_at dksX2_expandKey_7 14 rfl rfl)
theorem dX2_expandKey_181 : decode cX2_expandKey 181 = .ok (.areturn, 1) := dk_176 (dk_at dksX2_expandKey_7 15 rfl rfl)
abbrev cX2_bytesToWord : ByteArray := prog_4_method_4_code
def yX2_bytesToWord : MethodName := ⟨RX2, "bytesToWord", "([BI)I"⟩
def dkwX2_bytesToWord_0 : List UInt8 := [43, 28, 51, 16, 8, 120, 18, 53, 126, 43, 28, 4, 96, 51, 17, 0, 255, 126, 96, 172]
abbrev dktX2_bytesToWord_0 : List UInt8 := dkwX2_bytesToWord_0 ++ []
theorem dksX2_bytesToWord_0 : cX2_bytesToWord.data.toList.drop 0 = dktX2_bytesToWord_0 := by decide +kernel
theorem dX2_bytesToWord_0 : decode cX2_bytesToWord 0 = .ok (.aload_n 1, 1) := dk_43 (dk_at dksX2_bytesToWord_0 0 rfl rfl)
theorem dX2_bytesToWord_1 : decode cX2_bytesToWord 1 = .ok (.iload_n 2, 1) := dk_28 (dk_at dksX2_bytesToWord_0 1 rfl rfl)
theorem dX2_bytesToWord_2 : decode cX2_bytesToWord 2 = .ok (.baload, 1) := dk_51 (dk_at dksX2_bytesToWord_0 2 rfl rfl)
theorem dX2_bytesToWord_3 : decode cX2_bytesToWord 3 = .ok (.bipush 8, 2) := dk_16 8 (dk_at dksX2_bytesToWord_0 3 rfl rfl)
theorem dX2_bytesToWord_5 : decode cX2_bytesToWord 5 = .ok (.ishl, 1) := dk_120 (dk_at dksX2_bytesToWord_0 5 rfl rfl)
theorem dX2_bytesToWord_6 : decode cX2_bytesToWord 6 = .ok (.ldc 53, 2) := dk_18 53 (dk_at dksX2_bytesToWord_0 6 rfl rfl)
theorem dX2_bytesToWord_8 : decode cX2_bytesToWord 8 = .ok (.iand, 1) := dk_126 (dk_at dksX2_bytesToWord_0 8 rfl rfl)
theorem dX2_bytesToWord_9 : decode cX2_bytesToWord 9 = .ok (.aload_n 1, 1) := dk_43 (dk_at dksX2_bytesToWord_0 9 rfl rfl)
theorem dX2_bytesToWord_10 : decode cX2_bytesToWord 10 = .ok (.iload_n 2, 1) := dk_28 (dk_at dksX2_bytesToWord_0 10 rfl rfl)
theorem dX2_bytesToWord_11 : decode cX2_bytesToWord 11 = .ok (.iconst 1, 1) := dk_4 (dk_at dksX2_bytesToWord_0 11 rfl rfl)
theorem dX2_bytesToWord_12 : decode cX2_bytesToWord 12 = .ok (.iadd, 1) := dk_96 (dk_at dksX2_bytesToWord_0 12 rfl rfl)
theorem dX2_bytesToWord_13 : decode cX2_bytesToWord 13 = .ok (.baload, 1) := dk_51 (dk_at dksX2_bytesToWord_0 13 rfl rfl)
theorem dX2_bytesToWord_14 : decode cX2_bytesToWord 14 = .ok (.sipush 255, 3) := dk_17 0 255 (dk_at dksX2_bytesToWord_0 14 rfl rfl)
theorem dX2_bytesToWord_17 : decode cX2_bytesToWord 17 = .ok (.iand, 1) := dk_126 (dk_at dksX2_bytesToWord_0 17 rfl rfl)
theorem dX2_bytesToWord_18 : decode cX2_bytesToWord 18 = .ok (.iadd, 1) := dk_96 (dk_at dksX2_bytesToWord_0 18 rfl rfl)
theorem dX2_bytesToWord_19 : decode cX2_bytesToWord 19 = .ok (.ireturn, 1) := dk_172 (dk_at dksX2_bytesToWord_0 19 rfl rfl)
abbrev cX2_invertKey : ByteArray := prog_4_method_11_code
def yX2_invertKey : MethodName := ⟨RX2, "invertKey", "([I)[I"⟩
def dkwX2_invertKey_15 : List UInt8 := [28, 79, 25, 7, 176]
abbrev dktX2_invertKey_15 : List UInt8 := dkwX2_invertKey_15 ++ []
def dkwX2_invertKey_14 : List UInt8 := [132, 6, 255, 21, 6, 21, 4, 79, 25, 7, 132, 6, 255, 21, 6, 29, 79, 25, 7, 132, 6, 255, 21, 6]
abbrev dktX2_invertKey_14 : List UInt8 := dkwX2_invertKey_14 ++ dktX2_invertKey_15
def dkwX2_invertKey_13 : List UInt8 := [54, 4, 42, 43, 21, 8, 46, 182, 0, 74, 54, 5, 25, 7, 132, 6, 255, 21, 6, 21, 5, 79, 25, 7]
abbrev dktX2_invertKey_13 : List UInt8 := dkwX2_invertKey_13 ++ dktX2_invertKey_14
def dkwX2_invertKey_12 : List UInt8 := [61, 42, 43, 21, 8, 132, 8, 1, 46, 182, 0, 78, 62, 42, 43, 21, 8, 132, 8, 1, 46, 182, 0, 78]
abbrev dktX2_invertKey_12 : List UInt8 := dkwX2_invertKey_12 ++ dktX2_invertKey_13
def dkwX2_invertKey_11 : List UInt8 := [21, 6, 29, 79, 25, 7, 132, 6, 255, 21, 6, 28, 79, 42, 43, 21, 8, 132, 8, 1, 46, 182, 0, 74]
abbrev dktX2_invertKey_11 : List UInt8 := dkwX2_invertKey_11 ++ dktX2_invertKey_12
def dkwX2_invertKey_10 : List UInt8 := [167, 255, 124, 43, 21, 8, 132, 8, 1, 46, 61, 43, 21, 8, 132, 8, 1, 46, 62, 25, 7, 132, 6, 255]
abbrev dktX2_invertKey_10 : List UInt8 := dkwX2_invertKey_10 ++ dktX2_invertKey_11
def dkwX2_invertKey_9 : List UInt8 := [79, 25, 7, 132, 6, 255, 21, 6, 21, 4, 79, 25, 7, 132, 6, 255, 21, 6, 28, 79, 132, 9, 1]
abbrev dktX2_invertKey_9 : List UInt8 := dkwX2_invertKey_9 ++ dktX2_invertKey_10
def dkwX2_invertKey_8 : List UInt8 := [46, 182, 0, 74, 54, 5, 25, 7, 132, 6, 255, 21, 6, 21, 5, 79, 25, 7, 132, 6, 255, 21, 6, 29]
abbrev dktX2_invertKey_8 : List UInt8 := dkwX2_invertKey_8 ++ dktX2_invertKey_9
def dkwX2_invertKey_7 : List UInt8 := [182, 0, 78, 62, 42, 43, 21, 8, 132, 8, 1, 46, 182, 0, 78, 54, 4, 42, 43, 21, 8, 132, 8, 1]
abbrev dktX2_invertKey_7 : List UInt8 := dkwX2_invertKey_7 ++ dktX2_invertKey_8
def dkwX2_invertKey_6 : List UInt8 := [21, 6, 28, 79, 42, 43, 21, 8, 132, 8, 1, 46, 182, 0, 74, 61, 42, 43, 21, 8, 132, 8, 1, 46]
abbrev dktX2_invertKey_6 : List UInt8 := dkwX2_invertKey_6 ++ dktX2_invertKey_7
def dkwX2_invertKey_5 : List UInt8 := [61, 43, 21, 8, 132, 8, 1, 46, 62, 25, 7, 132, 6, 255, 21, 6, 29, 79, 25, 7, 132, 6, 255]
abbrev dktX2_invertKey_5 : List UInt8 := dkwX2_invertKey_5 ++ dktX2_invertKey_6
def dkwX2_invertKey_4 : List UInt8 := [132, 6, 255, 21, 6, 28, 79, 4, 54, 9, 21, 9, 16, 8, 162, 0, 131, 43, 21, 8, 132, 8, 1, 46]
abbrev dktX2_invertKey_4 : List UInt8 := dkwX2_invertKey_4 ++ dktX2_invertKey_5
def dkwX2_invertKey_3 : List UInt8 := [79, 25, 7, 132, 6, 255, 21, 6, 21, 4, 79, 25, 7, 132, 6, 255, 21, 6, 29, 79, 25, 7]
abbrev dktX2_invertKey_3 : List UInt8 := dkwX2_invertKey_3 ++ dktX2_invertKey_4
def dkwX2_invertKey_2 : List UInt8 := [54, 4, 42, 43, 21, 8, 132, 8, 1, 46, 182, 0, 74, 54, 5, 25, 7, 132, 6, 255, 21, 6, 21, 5]
abbrev dktX2_invertKey_2 : List UInt8 := dkwX2_invertKey_2 ++ dktX2_invertKey_3
def dkwX2_invertKey_1 : List UInt8 := [61, 42, 43, 21, 8, 132, 8, 1, 46, 182, 0, 78, 62, 42, 43, 21, 8, 132, 8, 1, 46, 182, 0, 78]
abbrev dktX2_invertKey_1 : List UInt8 := dkwX2_invertKey_1 ++ dktX2_invertKey_2
def dkwX2_invertKey_0 : List UInt8 := [16, 52, 54, 6, 16, 52, 188, 10, 58, 7, 3, 54, 8, 42, 43, 21, 8, 132, 8, 1, 46, 182, 0, 74]
abbrev dktX2_invertKey_0 : List UInt8 := dkwX2_invertKey_0 ++ dktX2_invertKey_1
theorem dksX2_invertKey_0 : cX2_invertKey.data.toList.drop 0 = dktX2_invertKey_0 := by decide +kernel
theorem dksX2_invertKey_1 : cX2_invertKey.data.toList.drop 24 = dktX2_invertKey_1 := dk_seg dksX2_invertKey_0 24 rfl rfl
theorem dksX2_invertKey_2 : cX2_invertKey.data.toList.drop 48 = dktX2_invertKey_2 := dk_seg dksX2_invertKey_1 24 rfl rfl
theorem dksX2_invertKey_3 : cX2_invertKey.data.toList.drop 72 = dktX2_invertKey_3 := dk_seg dksX2_invertKey_2 24 rfl rfl
theorem dksX2_invertKey_4 : cX2_invertKey.data.toList.drop 94 = dktX2_invertKey_4 := dk_seg dksX2_invertKey_3 22 rfl rfl
theorem dksX2_invertKey_5 : cX2_invertKey.data.toList.drop 118 = dktX2_invertKey_5 := dk_seg dksX2_invertKey_4 24 rfl rfl
theorem dksX2_invertKey_6 : cX2_invertKey.data.toList.drop 141 = dktX2_invertKey_6 := dk_seg dksX2_invertKey_5 23 rfl rfl
theorem dksX2_invertKey_7 : cX2_invertKey.data.toList.drop 165 = dktX2_invertKey_7 := dk_seg dksX2_invertKey_6 24 rfl rfl
theorem dksX2_invertKey_8 : cX2_invertKey.data.toList.drop 189 = dktX2_invertKey_8 := dk_seg dksX2_invertKey_7 24 rfl rfl
theorem dksX2_invertKey_9 : cX2_invertKey.data.toList.drop 213 = dktX2_invertKey_9 := dk_seg dksX2_invertKey_8 24 rfl rfl
theorem dksX2_invertKey_10 : cX2_invertKey.data.toList.drop 236 = dktX2_invertKey_10 := dk_seg dksX2_invertKey_9 23 rfl rfl
theorem dksX2_invertKey_11 : cX2_invertKey.data.toList.drop 260 = dktX2_invertKey_11 := dk_seg dksX2_invertKey_10 24 rfl rfl
theorem dksX2_invertKey_12 : cX2_invertKey.data.toList.drop 284 = dktX2_invertKey_12 := dk_seg dksX2_invertKey_11 24 rfl rfl
theorem dksX2_invertKey_13 : cX2_invertKey.data.toList.drop 308 = dktX2_invertKey_13 := dk_seg dksX2_invertKey_12 24 rfl rfl
theorem dksX2_invertKey_14 : cX2_invertKey.data.toList.drop 332 = dktX2_invertKey_14 := dk_seg dksX2_invertKey_13 24 rfl rfl
theorem dksX2_invertKey_15 : cX2_invertKey.data.toList.drop 356 = dktX2_invertKey_15 := dk_seg dksX2_invertKey_14 24 rfl rfl
theorem dX2_invertKey_0 : decode cX2_invertKey 0 = .ok (.bipush 52, 2) := dk_16 52 (dk_at dksX2_invertKey_0 0 rfl rfl)
theorem dX2_invertKey_2 : decode cX2_invertKey 2 = .ok (.istore 6, 2) := dk_54 6 (dk_at dksX2_invertKey_0 2 rfl rfl)
theorem dX2_invertKey_4 : decode cX2_invertKey 4 = .ok (.bipush 52, 2) := dk_16 52 (dk_at dksX2_invertKey_0 4 rfl rfl)
theorem dX2_invertKey_6 : decode cX2_invertKey 6 = .ok (.newarray .int, 2) := dk_188_10 (dk_at dksX2_invertKey_0 6 rfl rfl)
theorem dX2_invertKey_8 : decode cX2_invertKey 8 = .ok (.astore 7, 2) := dk_58 7 (dk_at dksX2_invertKey_0 8 rfl rfl)
theorem dX2_invertKey_10 : decode cX2_invertKey 10 = .ok (.iconst 0, 1) := dk_3 (dk_at dksX2_invertKey_0 10 rfl rfl)
theorem dX2_invertKey_11 : decode cX2_invertKey 11 = .ok (.istore 8, 2) := dk_54 8 (dk_at dksX2_invertKey_0 11 rfl rfl)
theorem dX2_invertKey_13 : decode cX2_invertKey 13 = .ok (.aload_n 0, 1) := dk_42 (dk_at dksX2_invertKey_0 13 rfl rfl)
theorem dX2_invertKey_14 : decode cX2_invertKey 14 = .ok (.aload_n 1, 1) := dk_43 (dk_at dksX2_invertKey_0 14 rfl rfl)
theorem dX2_invertKey_15 : decode cX2_invertKey 15 = .ok (.iload 8, 2) := dk_21 8 (dk_at dksX2_invertKey_0 15 rfl rfl)
theorem dX2_invertKey_17 : decode cX2_invertKey 17 = .ok (.iinc 8 1, 3) := dk_132 8 1 (dk_at dksX2_invertKey_0 17 rfl rfl)
theorem dX2_invertKey_20 : decode cX2_invertKey 20 = .ok (.iaload, 1) := dk_46 (dk_at dksX2_invertKey_0 20 rfl rfl)
theorem dX2_invertKey_21 : decode cX2_invertKey 21 = .ok (.invokevirtual 74, 3) := dk_182 0 74 (dk_at dksX2_invertKey_0 21 rfl rfl)
theorem dX2_invertKey_24 : decode cX2_invertKey 24 = .ok (.istore_n 2, 1) := dk_61 (dk_at dksX2_invertKey_1 0 rfl rfl)
theorem dX2_invertKey_25 : decode cX2_invertKey 25 = .ok (.aload_n 0, 1) := dk_42 (dk_at dksX2_invertKey_1 1 rfl rfl)
theorem dX2_invertKey_26 : decode cX2_invertKey 26 = .ok (.aload_n 1, 1) := dk_43 (dk_at dksX2_invertKey_1 2 rfl rfl)
theorem dX2_invertKey_27 : decode cX2_invertKey 27 = .ok (.iload 8, 2) := dk_21 8 (dk_at dksX2_invertKey_1 3 rfl rfl)
theorem dX2_invertKey_29 : decode cX2_invertKey 29 = .ok (.iinc 8 1, 3) := dk_132 8 1 (dk_at dksX2_invertKey_1 5 rfl rfl)
theorem dX2_invertKey_32 : decode cX2_invertKey 32 = .ok (.iaload, 1) := dk_46 (dk_at dksX2_invertKey_1 8 rfl rfl)
theorem dX2_invertKey_33 : decode cX2_invertKey 33 = .ok (.invokevirtual 78, 3) := dk_182 0 78 (dk_at dksX2_invertKey_1 9 rfl rfl)
theorem dX2_invertKey_36 : decode cX2_invertKey 36 = .ok (.istore_n 3, 1) := dk_62 (dk_at dksX2_invertKey_1 12 rfl rfl)
theorem dX2_invertKey_37 : decode cX2_invertKey 37 = .ok (.aload_n 0, 1) := dk_42 (dk_at dksX2_invertKey_1 13 rfl rfl)
theorem dX2_invertKey_38 : decode cX2_invertKey 38 = .ok (.aload_n 1, 1) := dk_43 (dk_at dksX2_invertKey_1 14 rfl rfl)
theorem dX2_invertKey_39 : decode cX2_invertKey 39 = .ok (.iload 8, 2) := dk_21 8 (dk_at dksX2_invertKey_1 15 rfl rfl)
theorem dX2_invertKey_41 : decode cX2_invertKey 41 = .ok (.iinc 8 1, 3) := dk_132 8 1 (dk_at dksX2_invertKey_1 17 rfl rfl)
theorem dX2_invertKey_44 : decode cX2_invertKey 44 = .ok (.iaload, 1) := dk_46 (dk_at dksX2_invertKey_1 20 rfl rfl)
theorem dX2_invertKey_45 : decode cX2_invertKey 45 = .ok (.invokevirtual 78, 3) := dk_182 0 78 (dk_at dksX2_invertKey_1 21 rfl rfl)
theorem dX2_invertKey_48 : decode cX2_invertKey 48 = .ok (.istore 4, 2) := dk_54 4 (dk_at dksX2_invertKey_2 0 rfl rfl)
theorem dX2_invertKey_50 : decode cX2_invertKey 50 = .ok (.aload_n 0, 1) := dk_42 (dk_at dksX2_invertKey_2 2 rfl rfl)
theorem dX2_invertKey_51 : decode cX2_invertKey 51 = .ok (.aload_n 1, 1) := dk_43 (dk_at dksX2_invertKey_2 3 rfl rfl)
theorem dX2_invertKey_52 : decode cX2_invertKey 52 = .ok (.iload 8, 2) := dk_21 8 (dk_at dksX2_invertKey_2 4 rfl rfl)
theorem dX2_invertKey_54 : decode cX2_invertKey 54 = .ok (.iinc 8 1, 3) := dk_132 8 1 (dk_at dksX2_invertKey_2 6 rfl rfl)
theorem dX2_invertKey_57 : decode cX2_invertKey 57 = .ok (.iaload, 1) := dk_46 (dk_at dksX2_invertKey_2 9 rfl rfl)
theorem dX2_invertKey_58 : decode cX2_invertKey 58 = .ok (.invokevirtual 74, 3) := dk_182 0 74 (dk_at dksX2_invertKey_2 10 rfl rfl)
theorem dX2_invertKey_61 : decode cX2_invertKey 61 = .ok (.istore 5, 2) := dk_54 5 (dk_at dksX2_invertKey_2 13 rfl rfl)
theorem dX2_invertKey_63 : decode cX2_invertKey 63 = .ok (.aload 7, 2) := dk_25 7 (dk_at dksX2_invertKey_2 15 rfl rfl)
theorem dX2_invertKey_65 : decode cX2_invertKey 65 = .ok (.iinc 6 (-1), 3) := dk_132 6 255 (dk_at dksX2_invertKey_2 17 rfl rfl)
theorem dX2_invertKey_68 : decode cX2_invertKey 68 = .ok (.iload 6, 2) := dk_21 6 (dk_at dksX2_invertKey_2 20 rfl rfl)
theorem dX2_invertKey_70 : decode cX2_invertKey 70 = .ok (.iload 5, 2) := dk_21 5 (dk_at dksX2_invertKey_2 22 rfl rfl)
theorem dX2_invertKey_72 : decode cX2_invertKey 72 = .ok (.iastore, 1) := dk_79 (dk_at dksX2_invertKey_3 0 rfl rfl)
theorem dX2_invertKey_73 : decode cX2_invertKey 73 = .ok (.aload 7, 2) := dk_25 7 (dk_at dksX2_invertKey_3 1 rfl rfl)
theorem dX2_invertKey_75 : decode cX2_invertKey 75 = .ok (.iinc 6 (-1), 3) := dk_132 6 255 (dk_at dksX2_invertKey_3 3 rfl rfl)
theorem dX2_invertKey_78 : decode cX2_invertKey 78 = .ok (.iload 6, 2) := dk_21 6 (dk_at dksX2_invertKey_3 6 rfl rfl)
theorem dX2_invertKey_80 : decode cX2_invertKey 80 = .ok (.iload 4, 2) := dk_21 4 (dk_at dksX2_invertKey_3 8 rfl rfl)
theorem dX2_invertKey_82 : decode cX2_invertKey 82 = .ok (.iastore, 1) := dk_79 (dk_at dksX2_invertKey_3 10 rfl rfl)
theorem dX2_invertKey_83 : decode cX2_invertKey 83 = .ok (.aload 7, 2) := dk_25 7 (dk_at dksX2_invertKey_3 11 rfl rfl)
theorem dX2_invertKey_85 : decode cX2_invertKey 85 = .ok (.iinc 6 (-1), 3) := dk_132 6 255 (dk_at dksX2_invertKey_3 13 rfl rfl)
theorem dX2_invertKey_88 : decode cX2_invertKey 88 = .ok (.iload 6, 2) := dk_21 6 (dk_at dksX2_invertKey_3 16 rfl rfl)
theorem dX2_invertKey_90 : decode cX2_invertKey 90 = .ok (.iload_n 3, 1) := dk_29 (dk_at dksX2_invertKey_3 18 rfl rfl)
theorem dX2_invertKey_91 : decode cX2_invertKey 91 = .ok (.iastore, 1) := dk_79 (dk_at dksX2_invertKey_3 19 rfl rfl)
theorem dX2_invertKey_92 : decode cX2_invertKey 92 = .ok (.aload 7, 2) := dk_25 7 (dk_at dksX2_invertKey_3 20 rfl rfl)
theorem dX2_invertKey_94 : decode cX2_invertKey 94 = .ok (.iinc 6 (-1), 3) := dk_132 6 255 (dk_at dksX2_invertKey_4 0 rfl rfl)
theorem dX2_invertKey_97 : decode cX2_invertKey 97 = .ok (.iload 6, 2) := dk_21 6 (dk_at dksX2_invertKey_4 3 rfl rfl)
theorem dX2_invertKey_99 : decode cX2_invertKey 99 = .ok (.iload_n 2, 1) := dk_28 (dk_at dksX2_invertKey_4 5 rfl rfl)
theorem dX2_invertKey_100 : decode cX2_invertKey 100 = .ok (.iastore, 1) := dk_79 (dk_at dksX2_invertKey_4 6 rfl rfl)
theorem dX2_invertKey_101 : decode cX2_invertKey 101 = .ok (.iconst 1, 1) := dk_4 (dk_at dksX2_invertKey_4 7 rfl rfl)
theorem dX2_invertKey_102 : decode cX2_invertKey 102 = .ok (.istore 9, 2) := dk_54 9 (dk_at dksX2_invertKey_4 8 rfl rfl)
theorem dX2_invertKey_104 : decode cX2_invertKey 104 = .ok (.iload 9, 2) := dk_21 9 (dk_at dksX2_invertKey_4 10 rfl rfl)
theorem dX2_invertKey_106 : decode cX2_invertKey 106 = .ok (.bipush 8, 2) := dk_16 8 (dk_at dksX2_invertKey_4 12 rfl rfl)
theorem dX2_invertKey_108 : decode cX2_invertKey 108 = .ok (.if_icmp .ge 131, 3) := dk_162 0 131 (dk_at dksX2_invertKey_4 14 rfl rfl)
theorem dX2_invertKey_111 : decode cX2_invertKey 111 = .ok (.aload_n 1, 1) := dk_43 (dk_at dksX2_invertKey_4 17 rfl rfl)
theorem dX2_invertKey_112 : decode cX2_invertKey 112 = .ok (.iload 8, 2) := dk_21 8 (dk_at dksX2_invertKey_4 18 rfl rfl)
theorem dX2_invertKey_114 : decode cX2_invertKey 114 = .ok (.iinc 8 1, 3) := dk_132 8 1 (dk_at dksX2_invertKey_4 20 rfl rfl)
theorem dX2_invertKey_117 : decode cX2_invertKey 117 = .ok (.iaload, 1) := dk_46 (dk_at dksX2_invertKey_4 23 rfl rfl)
theorem dX2_invertKey_118 : decode cX2_invertKey 118 = .ok (.istore_n 2, 1) := dk_61 (dk_at dksX2_invertKey_5 0 rfl rfl)
theorem dX2_invertKey_119 : decode cX2_invertKey 119 = .ok (.aload_n 1, 1) := dk_43 (dk_at dksX2_invertKey_5 1 rfl rfl)
theorem dX2_invertKey_120 : decode cX2_invertKey 120 = .ok (.iload 8, 2) := dk_21 8 (dk_at dksX2_invertKey_5 2 rfl rfl)
theorem dX2_invertKey_122 : decode cX2_invertKey 122 = .ok (.iinc 8 1, 3) := dk_132 8 1 (dk_at dksX2_invertKey_5 4 rfl rfl)
theorem dX2_invertKey_125 : decode cX2_invertKey 125 = .ok (.iaload, 1) := dk_46 (dk_at dksX2_invertKey_5 7 rfl rfl)
theorem dX2_invertKey_126 : decode cX2_invertKey 126 = .ok (.istore_n 3, 1) := dk_62 (dk_at dksX2_invertKey_5 8 rfl rfl)
theorem dX2_invertKey_127 : decode cX2_invertKey 127 = .ok (.aload 7, 2) := dk_25 7 (dk_at dksX2_invertKey_5 9 rfl rfl)
theorem dX2_invertKey_129 : decode cX2_invertKey 129 = .ok (.iinc 6 (-1), 3) := dk_132 6 255 (dk_at dksX2_invertKey_5 11 rfl rfl)
theorem dX2_invertKey_132 : decode cX2_invertKey 132 = .ok (.iload 6, 2) := dk_21 6 (dk_at dksX2_invertKey_5 14 rfl rfl)
theorem dX2_invertKey_134 : decode cX2_invertKey 134 = .ok (.iload_n 3, 1) := dk_29 (dk_at dksX2_invertKey_5 16 rfl rfl)
theorem dX2_invertKey_135 : decode cX2_invertKey 135 = .ok (.iastore, 1) := dk_79 (dk_at dksX2_invertKey_5 17 rfl rfl)
theorem dX2_invertKey_136 : decode cX2_invertKey 136 = .ok (.aload 7, 2) := dk_25 7 (dk_at dksX2_invertKey_5 18 rfl rfl)
theorem dX2_invertKey_138 : decode cX2_invertKey 138 = .ok (.iinc 6 (-1), 3) := dk_132 6 255 (dk_at dksX2_invertKey_5 20 rfl rfl)
theorem dX2_invertKey_141 : decode cX2_invertKey 141 = .ok (.iload 6, 2) := dk_21 6 (dk_at dksX2_invertKey_6 0 rfl rfl)
theorem dX2_invertKey_143 : decode cX2_invertKey 143 = .ok (.iload_n 2, 1) := dk_28 (dk_at dksX2_invertKey_6 2 rfl rfl)
theorem dX2_invertKey_144 : decode cX2_invertKey 144 = .ok (.iastore, 1) := dk_79 (dk_at dksX2_invertKey_6 3 rfl rfl)
theorem dX2_invertKey_145 : decode cX2_invertKey 145 = .ok (.aload_n 0, 1) := dk_42 (dk_at dksX2_invertKey_6 4 rfl rfl)
theorem dX2_invertKey_146 : decode cX2_invertKey 146 = .ok (.aload_n 1, 1) := dk_43 (dk_at dksX2_invertKey_6 5 rfl rfl)
theorem dX2_invertKey_147 : decode cX2_invertKey 147 = .ok (.iload 8, 2) := dk_21 8 (dk_at dksX2_invertKey_6 6 rfl rfl)
theorem dX2_invertKey_149 : decode cX2_invertKey 149 = .ok (.iinc 8 1, 3) := dk_132 8 1 (dk_at dksX2_invertKey_6 8 rfl rfl)
theorem dX2_invertKey_152 : decode cX2_invertKey 152 = .ok (.iaload, 1) := dk_46 (dk_at dksX2_invertKey_6 11 rfl rfl)
theorem dX2_invertKey_153 : decode cX2_invertKey 153 = .ok (.invokevirtual 74, 3) := dk_182 0 74 (dk_at dksX2_invertKey_6 12 rfl rfl)
theorem dX2_invertKey_156 : decode cX2_invertKey 156 = .ok (.istore_n 2, 1) := dk_61 (dk_at dksX2_invertKey_6 15 rfl rfl)
theorem dX2_invertKey_157 : decode cX2_invertKey 157 = .ok (.aload_n 0, 1) := dk_42 (dk_at dksX2_invertKey_6 16 rfl rfl)
theorem dX2_invertKey_158 : decode cX2_invertKey 158 = .ok (.aload_n 1, 1) := dk_43 (dk_at dksX2_invertKey_6 17 rfl rfl)
theorem dX2_invertKey_159 : decode cX2_invertKey 159 = .ok (.iload 8, 2) := dk_21 8 (dk_at dksX2_invertKey_6 18 rfl rfl)
theorem dX2_invertKey_161 : decode cX2_invertKey 161 = .ok (.iinc 8 1, 3) := dk_132 8 1 (dk_at dksX2_invertKey_6 20 rfl rfl)
theorem dX2_invertKey_164 : decode cX2_invertKey 164 = .ok (.iaload, 1) := dk_46 (dk_at dksX2_invertKey_6 23 rfl rfl)
theorem dX2_invertKey_165 : decode cX2_invertKey 165 = .ok (.invokevirtual 78, 3) := dk_182 0 78 (dk_at dksX2_invertKey_7 0 rfl rfl)
theorem dX2_invertKey_168 : decode cX2_invertKey 168 = .ok (.istore_n 3, 1) := dk_62 (dk_at dksX2_invertKey_7 3 rfl rfl)
theorem dX2_invertKey_169 : decode cX2_invertKey 169 = .ok (.aload_n 0, 1) := dk_42 (dk_at dksX2_invertKey_7 4 rfl rfl)
theorem dX2_invertKey_170 : decode cX2_invertKey 170 = .ok (.aload_n 1, 1) := dk_43 (dk_at dksX2_invertKey_7 5 rfl rfl)
theorem dX2_invertKey_171 : decode cX2_invertKey 171 = .ok (.iload 8, 2) := dk_21 8 (dk_at dksX2_invertKey_7 6 rfl rfl)
theorem dX2_invertKey_173 : decode cX2_invertKey 173 = .ok (.iinc 8 1, 3) := dk_132 8 1 (dk_at dksX2_invertKey_7 8 rfl rfl)
theorem dX2_invertKey_176 : decode cX2_invertKey 176 = .ok (.iaload, 1) := dk_46 (dk_at dksX2_invertKey_7 11 rfl rfl)
theorem dX2_invertKey_177 : decode cX2_invertKey 177 = .ok (.invokevirtual 78, 3) := dk_182 0 78 (dk_at dksX2_invertKey_7 12 rfl rfl)
theorem dX2_invertKey_180 : decode cX2_invertKey 180 = .ok (.istore 4, 2) := dk_54 4 (dk_at dksX2_invertKey_7 15 rfl rfl)
theorem dX2_invertKey_182 : decode cX2_invertKey 182 = .ok (.aload_n 0, 1) := dk_42 (dk_at dksX2_invertKey_7 17 rfl rfl)
theorem dX2_invertKey_183 : decode cX2_invertKey 183 = .ok (.aload_n 1, 1) := dk_43 (dk_at dksX2_invertKey_7 18 rfl rfl)
theorem dX2_invertKey_184 : decode cX2_invertKey 184 = .ok (.iload 8, 2) := dk_21 8 (dk_at dksX2_invertKey_7 19 rfl rfl)
theorem dX2_invertKey_186 : decode cX2_invertKey 186 = .ok (.iinc 8 1, 3) := dk_132 8 1 (dk_at dksX2_invertKey_7 21 rfl rfl)
theorem dX2_invertKey_189 : decode cX2_invertKey 189 = .ok (.iaload, 1) := dk_46 (dk_at dksX2_invertKey_8 0 rfl rfl)
theorem dX2_invertKey_190 : decode cX2_invertKey 190 = .ok (.invokevirtual 74, 3) := dk_182 0 74 (dk_at dksX2_invertKey_8 1 rfl rfl)
theorem dX2_invertKey_193 : decode cX2_invertKey 193 = .ok (.istore 5, 2) := dk_54 5 (dk_at dksX2_invertKey_8 4 rfl rfl)
theorem dX2_invertKey_195 : decode cX2_invertKey 195 = .ok (.aload 7, 2) := dk_25 7 (dk_at dksX2_invertKey_8 6 rfl rfl)
theorem dX2_invertKey_197 : decode cX2_invertKey 197 = .ok (.iinc 6 (-1), 3) := dk_132 6 255 (dk_at dksX2_invertKey_8 8 rfl rfl)
theorem dX2_invertKey_200 : decode cX2_invertKey 200 = .ok (.iload 6, 2) := dk_21 6 (dk_at dksX2_invertKey_8 11 rfl rfl)
theorem dX2_invertKey_202 : decode cX2_invertKey 202 = .ok (.iload 5, 2) := dk_21 5 (dk_at dksX2_invertKey_8 13 rfl rfl)
theorem dX2_invertKey_204 : decode cX2_invertKey 204 = .ok (.iastore, 1) := dk_79 (dk_at dksX2_invertKey_8 15 rfl rfl)
theorem dX2_invertKey_205 : decode cX2_invertKey 205 = .ok (.aload 7, 2) := dk_25 7 (dk_at dksX2_invertKey_8 16 rfl rfl)
theorem dX2_invertKey_207 : decode cX2_invertKey 207 = .ok (.iinc 6 (-1), 3) := dk_132 6 255 (dk_at dksX2_invertKey_8 18 rfl rfl)
theorem dX2_invertKey_210 : decode cX2_invertKey 210 = .ok (.iload 6, 2) := dk_21 6 (dk_at dksX2_invertKey_8 21 rfl rfl)
theorem dX2_invertKey_212 : decode cX2_invertKey 212 = .ok (.iload_n 3, 1) := dk_29 (dk_at dksX2_invertKey_8 23 rfl rfl)
theorem dX2_invertKey_213 : decode cX2_invertKey 213 = .ok (.iastore, 1) := dk_79 (dk_at dksX2_invertKey_9 0 rfl rfl)
theorem dX2_invertKey_214 : decode cX2_invertKey 214 = .ok (.aload 7, 2) := dk_25 7 (dk_at dksX2_invertKey_9 1 rfl rfl)
theorem dX2_invertKey_216 : decode cX2_invertKey 216 = .ok (.iinc 6 (-1), 3) := dk_132 6 255 (dk_at dksX2_invertKey_9 3 rfl rfl)
theorem dX2_invertKey_219 : decode cX2_invertKey 219 = .ok (.iload 6, 2) := dk_21 6 (dk_at dksX2_invertKey_9 6 rfl rfl)
theorem dX2_invertKey_221 : decode cX2_invertKey 221 = .ok (.iload 4, 2) := dk_21 4 (dk_at dksX2_invertKey_9 8 rfl rfl)
theorem dX2_invertKey_223 : decode cX2_invertKey 223 = .ok (.iastore, 1) := dk_79 (dk_at dksX2_invertKey_9 10 rfl rfl)
theorem dX2_invertKey_224 : decode cX2_invertKey 224 = .ok (.aload 7, 2) := dk_25 7 (dk_at dksX2_invertKey_9 11 rfl rfl)
theorem dX2_invertKey_226 : decode cX2_invertKey 226 = .ok (.iinc 6 (-1), 3) := dk_132 6 255 (dk_at dksX2_invertKey_9 13 rfl rfl)
theorem dX2_invertKey_229 : decode cX2_invertKey 229 = .ok (.iload 6, 2) := dk_21 6 (dk_at dksX2_invertKey_9 16 rfl rfl)
theorem dX2_invertKey_231 : decode cX2_invertKey 231 = .ok (.iload_n 2, 1) := dk_28 (dk_at dksX2_invertKey_9 18 rfl rfl)
theorem dX2_invertKey_232 : decode cX2_invertKey 232 = .ok (.iastore, 1) := dk_79 (dk_at dksX2_invertKey_9 19 rfl rfl)
theorem dX2_invertKey_233 : decode cX2_invertKey 233 = .ok (.iinc 9 1, 3) := dk_132 9 1 (dk_at dksX2_invertKey_9 20 rfl rfl)
theorem dX2_invertKey_236 : decode cX2_invertKey 236 = .ok (.goto (-132), 3) := dk_167 255 124 (dk_at dksX2_invertKey_10 0 rfl rfl)
theorem dX2_invertKey_239 : decode cX2_invertKey 239 = .ok (.aload_n 1, 1) := dk_43 (dk_at dksX2_invertKey_10 3 rfl rfl)
theorem dX2_invertKey_240 : decode cX2_invertKey 240 = .ok (.iload 8, 2) := dk_21 8 (dk_at dksX2_invertKey_10 4 rfl rfl)
theorem dX2_invertKey_242 : decode cX2_invertKey 242 = .ok (.iinc 8 1, 3) := dk_132 8 1 (dk_at dksX2_invertKey_10 6 rfl rfl)
theorem dX2_invertKey_245 : decode cX2_invertKey 245 = .ok (.iaload, 1) := dk_46 (dk_at dksX2_invertKey_10 9 rfl rfl)
theorem dX2_invertKey_246 : decode cX2_invertKey 246 = .ok (.istore_n 2, 1) := dk_61 (dk_at dksX2_invertKey_10 10 rfl rfl)
theorem dX2_invertKey_247 : decode cX2_invertKey 247 = .ok (.aload_n 1, 1) := dk_43 (dk_at dksX2_invertKey_10 11 rfl rfl)
theorem dX2_invertKey_248 : decode cX2_invertKey 248 = .ok (.iload 8, 2) := dk_21 8 (dk_at dksX2_invertKey_10 12 rfl rfl)
theorem dX2_invertKey_250 : decode cX2_invertKey 250 = .ok (.iinc 8 1, 3) := dk_132 8 1 (dk_at dksX2_invertKey_10 14 rfl rfl)
theorem dX2_invertKey_253 : decode cX2_invertKey 253 = .ok (.iaload, 1) := dk_46 (dk_at dksX2_invertKey_10 17 rfl rfl)
theorem dX2_invertKey_254 : decode cX2_invertKey 254 = .ok (.istore_n 3, 1) := dk_62 (dk_at dksX2_invertKey_10 18 rfl rfl)
theorem dX2_invertKey_255 : decode cX2_invertKey 255 = .ok (.aload 7, 2) := dk_25 7 (dk_at dksX2_invertKey_10 19 rfl rfl)
theorem dX2_invertKey_257 : decode cX2_invertKey 257 = .ok (.iinc 6 (-1), 3) := dk_132 6 255 (dk_at dksX2_invertKey_10 21 rfl rfl)
theorem dX2_invertKey_260 : decode cX2_invertKey 260 = .ok (.iload 6, 2) := dk_21 6 (dk_at dksX2_invertKey_11 0 rfl rfl)
theorem dX2_invertKey_262 : decode cX2_invertKey 262 = .ok (.iload_n 3, 1) := dk_29 (dk_at dksX2_invertKey_11 2 rfl rfl)
theorem dX2_invertKey_263 : decode cX2_invertKey 263 = .ok (.iastore, 1) := dk_79 (dk_at dksX2_invertKey_11 3 rfl rfl)
theorem dX2_invertKey_264 : decode cX2_invertKey 264 = .ok (.aload 7, 2) := dk_25 7 (dk_at dksX2_invertKey_11 4 rfl rfl)
theorem dX2_invertKey_266 : decode cX2_invertKey 266 = .ok (.iinc 6 (-1), 3) := dk_132 6 255 (dk_at dksX2_invertKey_11 6 rfl rfl)
theorem dX2_invertKey_269 : decode cX2_invertKey 269 = .ok (.iload 6, 2) := dk_21 6 (dk_at dksX2_invertKey_11 9 rfl rfl)
theorem dX2_invertKey_271 : decode cX2_invertKey 271 = .ok (.iload_n 2, 1) := dk_28 (dk_at dksX2_invertKey_11 11 rfl rfl)
theorem dX2_invertKey_272 : decode cX2_invertKey 272 = .ok (.iastore, 1) := dk_79 (dk_at dksX2_invertKey_11 12 rfl rfl)
theorem dX2_invertKey_273 : decode cX2_invertKey 273 = .ok (.aload_n 0, 1) := dk_42 (dk_at dksX2_invertKey_11 13 rfl rfl)
theorem dX2_invertKey_274 : decode cX2_invertKey 274 = .ok (.aload_n 1, 1) := dk_43 (dk_at dksX2_invertKey_11 14 rfl rfl)
theorem dX2_invertKey_275 : decode cX2_invertKey 275 = .ok (.iload 8, 2) := dk_21 8 (dk_at dksX2_invertKey_11 15 rfl rfl)
theorem dX2_invertKey_277 : decode cX2_invertKey 277 = .ok (.iinc 8 1, 3) := dk_132 8 1 (dk_at dksX2_invertKey_11 17 rfl rfl)
theorem dX2_invertKey_280 : decode cX2_invertKey 280 = .ok (.iaload, 1) := dk_46 (dk_at dksX2_invertKey_11 20 rfl rfl)
theorem dX2_invertKey_281 : decode cX2_invertKey 281 = .ok (.invokevirtual 74, 3) := dk_182 0 74 (dk_at dksX2_invertKey_11 21 rfl rfl)
theorem dX2_invertKey_284 : decode cX2_invertKey 284 = .ok (.istore_n 2, 1) := dk_61 (dk_at dksX2_invertKey_12 0 rfl rfl)
theorem dX2_invertKey_285 : decode cX2_invertKey 285 = .ok (.aload_n 0, 1) := dk_42 (dk_at dksX2_invertKey_12 1 rfl rfl)
theorem dX2_invertKey_286 : decode cX2_invertKey 286 = .ok (.aload_n 1, 1) := dk_43 (dk_at dksX2_invertKey_12 2 rfl rfl)
theorem dX2_invertKey_287 : decode cX2_invertKey 287 = .ok (.iload 8, 2) := dk_21 8 (dk_at dksX2_invertKey_12 3 rfl rfl)
theorem dX2_invertKey_289 : decode cX2_invertKey 289 = .ok (.iinc 8 1, 3) := dk_132 8 1 (dk_at dksX2_invertKey_12 5 rfl rfl)
theorem dX2_invertKey_292 : decode cX2_invertKey 292 = .ok (.iaload, 1) := dk_46 (dk_at dksX2_invertKey_12 8 rfl rfl)
theorem dX2_invertKey_293 : decode cX2_invertKey 293 = .ok (.invokevirtual 78, 3) := dk_182 0 78 (dk_at dksX2_invertKey_12 9 rfl rfl)
theorem dX2_invertKey_296 : decode cX2_invertKey 296 = .ok (.istore_n 3, 1) := dk_62 (dk_at dksX2_invertKey_12 12 rfl rfl)
theorem dX2_invertKey_297 : decode cX2_invertKey 297 = .ok (.aload_n 0, 1) := dk_42 (dk_at dksX2_invertKey_12 13 rfl rfl)
theorem dX2_invertKey_298 : decode cX2_invertKey 298 = .ok (.aload_n 1, 1) := dk_43 (dk_at dksX2_invertKey_12 14 rfl rfl)
theorem dX2_invertKey_299 : decode cX2_invertKey 299 = .ok (.iload 8, 2) := dk_21 8 (dk_at dksX2_invertKey_12 15 rfl rfl)
theorem dX2_invertKey_301 : decode cX2_invertKey 301 = .ok (.iinc 8 1, 3) := dk_132 8 1 (dk_at dksX2_invertKey_12 17 rfl rfl)
theorem dX2_invertKey_304 : decode cX2_invertKey 304 = .ok (.iaload, 1) := dk_46 (dk_at dksX2_invertKey_12 20 rfl rfl)
theorem dX2_invertKey_305 : decode cX2_invertKey 305 = .ok (.invokevirtual 78, 3) := dk_182 0 78 (dk_at dksX2_invertKey_12 21 rfl rfl)
theorem dX2_invertKey_308 : decode cX2_invertKey 308 = .ok (.istore 4, 2) := dk_54 4 (dk_at dksX2_invertKey_13 0 rfl rfl)
theorem dX2_invertKey_310 : decode cX2_invertKey 310 = .ok (.aload_n 0, 1) := dk_42 (dk_at dksX2_invertKey_13 2 rfl rfl)
theorem dX2_invertKey_311 : decode cX2_invertKey 311 = .ok (.aload_n 1, 1) := dk_43 (dk_at dksX2_invertKey_13 3 rfl rfl)
theorem dX2_invertKey_312 : decode cX2_invertKey 312 = .ok (.iload 8, 2) := dk_21 8 (dk_at dksX2_invertKey_13 4 rfl rfl)
theorem dX2_invertKey_314 : decode cX2_invertKey 314 = .ok (.iaload, 1) := dk_46 (dk_at dksX2_invertKey_13 6 rfl rfl)
theorem dX2_invertKey_315 : decode cX2_invertKey 315 = .ok (.invokevirtual 74, 3) := dk_182 0 74 (dk_at dksX2_invertKey_13 7 rfl rfl)
theorem dX2_invertKey_318 : decode cX2_invertKey 318 = .ok (.istore 5, 2) := dk_54 5 (dk_at dksX2_invertKey_13 10 rfl rfl)
theorem dX2_invertKey_320 : decode cX2_invertKey 320 = .ok (.aload 7, 2) := dk_25 7 (dk_at dksX2_invertKey_13 12 rfl rfl)
theorem dX2_invertKey_322 : decode cX2_invertKey 322 = .ok (.iinc 6 (-1), 3) := dk_132 6 255 (dk_at dksX2_invertKey_13 14 rfl rfl)
theorem dX2_invertKey_325 : decode cX2_invertKey 325 = .ok (.iload 6, 2) := dk_21 6 (dk_at dksX2_invertKey_13 17 rfl rfl)
theorem dX2_invertKey_327 : decode cX2_invertKey 327 = .ok (.iload 5, 2) := dk_21 5 (dk_at dksX2_invertKey_13 19 rfl rfl)
theorem dX2_invertKey_329 : decode cX2_invertKey 329 = .ok (.iastore, 1) := dk_79 (dk_at dksX2_invertKey_13 21 rfl rfl)
theorem dX2_invertKey_330 : decode cX2_invertKey 330 = .ok (.aload 7, 2) := dk_25 7 (dk_at dksX2_invertKey_13 22 rfl rfl)
theorem dX2_invertKey_332 : decode cX2_invertKey 332 = .ok (.iinc 6 (-1), 3) := dk_132 6 255 (dk_at dksX2_invertKey_14 0 rfl rfl)
theorem dX2_invertKey_335 : decode cX2_invertKey 335 = .ok (.iload 6, 2) := dk_21 6 (dk_at dksX2_invertKey_14 3 rfl rfl)
theorem dX2_invertKey_337 : decode cX2_invertKey 337 = .ok (.iload 4, 2) := dk_21 4 (dk_at dksX2_invertKey_14 5 rfl rfl)
theorem dX2_invertKey_339 : decode cX2_invertKey 339 = .ok (.iastore, 1) := dk_79 (dk_at dksX2_invertKey_14 7 rfl rfl)
theorem dX2_invertKey_340 : decode cX2_invertKey 340 = .ok (.aload 7, 2) := dk_25 7 (dk_at dksX2_invertKey_14 8 rfl rfl)
theorem dX2_invertKey_342 : decode cX2_invertKey 342 = .ok (.iinc 6 (-1), 3) := dk_132 6 255 (dk_at dksX2_invertKey_14 10 rfl rfl)
theorem dX2_invertKey_345 : decode cX2_invertKey 345 = .ok (.iload 6, 2) := dk_21 6 (dk_at dksX2_invertKey_14 13 rfl rfl)
theorem dX2_invertKey_347 : decode cX2_invertKey 347 = .ok (.iload_n 3, 1) := dk_29 (dk_at dksX2_invertKey_14 15 rfl rfl)
theorem dX2_invertKey_348 : decode cX2_invertKey 348 = .ok (.iastore, 1) := dk_79 (dk_at dksX2_invertKey_14 16 rfl rfl)
theorem dX2_invertKey_349 : decode cX2_invertKey 349 = .ok (.aload 7, 2) := dk_25 7 (dk_at dksX2_invertKey_14 17 rfl rfl)
theorem dX2_invertKey_351 : decode cX2_invertKey 351 = .ok (.iinc 6 (-1), 3) := dk_132 6 255 (dk_at dksX2_invertKey_14 19 rfl rfl)
theorem dX2_invertKey_354 : decode cX2_invertKey 354 = .ok (.iload 6, 2) := dk_21 6 (dk_at dksX2_invertKey_14 22 rfl rfl)
theorem dX2_invertKey_356 : decode cX2_invertKey 356 = .ok (.iload_n 2, 1) := dk_28 (dk_at dksX2_invertKey_15 0 rfl rfl)
theorem dX2_invertKey_357 : decode cX2_invertKey 357 = .ok (.iastore, 1) := dk_79 (dk_at dksX2_invertKey_15 1 rfl rfl)
theorem dX2_invertKey_358 : decode cX2_invertKey 358 = .ok (.aload 7, 2) := dk_25 7 (dk_at dksX2_invertKey_15 2 rfl rfl)
theorem dX2_invertKey_360 : decode cX2_invertKey 360 = .ok (.areturn, 1) := dk_176 (dk_at dksX2_invertKey_15 4 rfl rfl)
abbrev cX2_mulInv : ByteArray := prog_4_method_9_code
def yX2_mulInv : MethodName := ⟨RX2, "mulInv", "(I)I"⟩
def dkwX2_mulInv_3 : List UInt8 := [96, 18, 55, 126, 62, 167, 255, 200, 4, 29, 100, 18, 55, 126, 172]
abbrev dktX2_mulInv_3 : List UInt8 := dkwX2_mulInv_3 ++ []
def dkwX2_mulInv_2 : List UInt8 := [27, 4, 160, 0, 5, 28, 172, 21, 5, 27, 108, 54, 4, 21, 5, 27, 112, 54, 5, 29, 28, 21, 4, 104]
abbrev dktX2_mulInv_2 : List UInt8 := dkwX2_mulInv_2 ++ dktX2_mulInv_3
def dkwX2_mulInv_1 : List UInt8 := [159, 0, 56, 27, 21, 5, 108, 54, 4, 27, 21, 5, 112, 60, 28, 29, 21, 4, 104, 96, 18, 55, 126, 61]
abbrev dktX2_mulInv_1 : List UInt8 := dkwX2_mulInv_1 ++ dktX2_mulInv_2
def dkwX2_mulInv_0 : List UInt8 := [27, 5, 162, 0, 5, 27, 172, 4, 61, 18, 54, 27, 108, 62, 18, 54, 27, 112, 54, 5, 21, 5, 4]
abbrev dktX2_mulInv_0 : List UInt8 := dkwX2_mulInv_0 ++ dktX2_mulInv_1
theorem dksX2_mulInv_0 : cX2_mulInv.data.toList.drop 0 = dktX2_mulInv_0 := by decide +kernel
theorem dksX2_mulInv_1 : cX2_mulInv.data.toList.drop 23 = dktX2_mulInv_1 := dk_seg dksX2_mulInv_0 23 rfl rfl
theorem dksX2_mulInv_2 : cX2_mulInv.data.toList.drop 47 = dktX2_mulInv_2 := dk_seg dksX2_mulInv_1 24 rfl rfl
theorem dksX2_mulInv_3 : cX2_mulInv.data.toList.drop 71 = dktX2_mulInv_3 := dk_seg dksX2_mulInv_2 24 rfl rfl
theorem dX2_mulInv_0 : decode cX2_mulInv 0 = .ok (.iload_n 1, 1) := dk_27 (dk_at dksX2_mulInv_0 0 rfl rfl)
theorem dX2_mulInv_1 : decode cX2_mulInv 1 = .ok (.iconst 2, 1) := dk_5 (dk_at dksX2_mulInv_0 1 rfl rfl)
theorem dX2_mulInv_2 : decode cX2_mulInv 2 = .ok (.if_icmp .ge 5, 3) := dk_162 0 5 (dk_at dksX2_mulInv_0 2 rfl rfl)
theorem dX2_mulInv_5 : decode cX2_mulInv 5 = .ok (.iload_n 1, 1) := dk_27 (dk_at dksX2_mulInv_0 5 rfl rfl)
theorem dX2_mulInv_6 : decode cX2_mulInv 6 = .ok (.ireturn, 1) := dk_172 (dk_at dksX2_mulInv_0 6 rfl rfl)
theorem dX2_mulInv_7 : decode cX2_mulInv 7 = .ok (.iconst 1, 1) := dk_4 (dk_at dksX2_mulInv_0 7 rfl rfl)
theorem dX2_mulInv_8 : decode cX2_mulInv 8 = .ok (.istore_n 2, 1) := dk_61 (dk_at dksX2_mulInv_0 8 rfl rfl)
theorem dX2_mulInv_9 : decode cX2_mulInv 9 = .ok (.ldc 54, 2) := dk_18 54 (dk_at dksX2_mulInv_0 9 rfl rfl)
theorem dX2_mulInv_11 : decode cX2_mulInv 11 = .ok (.iload_n 1, 1) := dk_27 (dk_at dksX2_mulInv_0 11 rfl rfl)
theorem dX2_mulInv_12 : decode cX2_mulInv 12 = .ok (.idiv, 1) := dk_108 (dk_at dksX2_mulInv_0 12 rfl rfl)
theorem dX2_mulInv_13 : decode cX2_mulInv 13 = .ok (.istore_n 3, 1) := dk_62 (dk_at dksX2_mulInv_0 13 rfl rfl)
theorem dX2_mulInv_14 : decode cX2_mulInv 14 = .ok (.ldc 54, 2) := dk_18 54 (dk_at dksX2_mulInv_0 14 rfl rfl)
theorem dX2_mulInv_16 : decode cX2_mulInv 16 = .ok (.iload_n 1, 1) := dk_27 (dk_at dksX2_mulInv_0 16 rfl rfl)
theorem dX2_mulInv_17 : decode cX2_mulInv 17 = .ok (.irem, 1) := dk_112 (dk_at dksX2_mulInv_0 17 rfl rfl)
theorem dX2_mulInv_18 : decode cX2_mulInv 18 = .ok (.istore 5, 2) := dk_54 5 (dk_at dksX2_mulInv_0 18 rfl rfl)
theorem dX2_mulInv_20 : decode cX2_mulInv 20 = .ok (.iload 5, 2) := dk_21 5 (dk_at dksX2_mulInv_0 20 rfl rfl)
theorem dX2_mulInv_22 : decode cX2_mulInv 22 = .ok (.iconst 1, 1) := dk_4 (dk_at dksX2_mulInv_0 22 rfl rfl)
theorem dX2_mulInv_23 : decode cX2_mulInv 23 = .ok (.if_icmp .eq 56, 3) := dk_159 0 56 (dk_at dksX2_mulInv_1 0 rfl rfl)
theorem dX2_mulInv_26 : decode cX2_mulInv 26 = .ok (.iload_n 1, 1) := dk_27 (dk_at dksX2_mulInv_1 3 rfl rfl)
theorem dX2_mulInv_27 : decode cX2_mulInv 27 = .ok (.iload 5, 2) := dk_21 5 (dk_at dksX2_mulInv_1 4 rfl rfl)
theorem dX2_mulInv_29 : decode cX2_mulInv 29 = .ok (.idiv, 1) := dk_108 (dk_at dksX2_mulInv_1 6 rfl rfl)
theorem dX2_mulInv_30 : decode cX2_mulInv 30 = .ok (.istore 4, 2) := dk_54 4 (dk_at dksX2_mulInv_1 7 rfl rfl)
theorem dX2_mulInv_32 : decode cX2_mulInv 32 = .ok (.iload_n 1, 1) := dk_27 (dk_at dksX2_mulInv_1 9 rfl rfl)
theorem dX2_mulInv_33 : decode cX2_mulInv 33 = .ok (.iload 5, 2) := dk_21 5 (dk_at dksX2_mulInv_1 10 rfl rfl)
theorem dX2_mulInv_35 : decode cX2_mulInv 35 = .ok (.irem, 1) := dk_112 (dk_at dksX2_mulInv_1 12 rfl rfl)
theorem dX2_mulInv_36 : decode cX2_mulInv 36 = .ok (.istore_n 1, 1) := dk_60 (dk_at dksX2_mulInv_1 13 rfl rfl)
theorem dX2_mulInv_37 : decode cX2_mulInv 37 = .ok (.iload_n 2, 1) := dk_28 (dk_at dksX2_mulInv_1 14 rfl rfl)
theorem dX2_mulInv_38 : decode cX2_mulInv 38 = .ok (.iload_n 3, 1) := dk_29 (dk_at dksX2_mulInv_1 15 rfl rfl)
theorem dX2_mulInv_39 : decode cX2_mulInv 39 = .ok (.iload 4, 2) := dk_21 4 (dk_at dksX2_mulInv_1 16 rfl rfl)
theorem dX2_mulInv_41 : decode cX2_mulInv 41 = .ok (.imul, 1) := dk_104 (dk_at dksX2_mulInv_1 18 rfl rfl)
theorem dX2_mulInv_42 : decode cX2_mulInv 42 = .ok (.iadd, 1) := dk_96 (dk_at dksX2_mulInv_1 19 rfl rfl)
theorem dX2_mulInv_43 : decode cX2_mulInv 43 = .ok (.ldc 55, 2) := dk_18 55 (dk_at dksX2_mulInv_1 20 rfl rfl)
theorem dX2_mulInv_45 : decode cX2_mulInv 45 = .ok (.iand, 1) := dk_126 (dk_at dksX2_mulInv_1 22 rfl rfl)
theorem dX2_mulInv_46 : decode cX2_mulInv 46 = .ok (.istore_n 2, 1) := dk_61 (dk_at dksX2_mulInv_1 23 rfl rfl)
theorem dX2_mulInv_47 : decode cX2_mulInv 47 = .ok (.iload_n 1, 1) := dk_27 (dk_at dksX2_mulInv_2 0 rfl rfl)
theorem dX2_mulInv_48 : decode cX2_mulInv 48 = .ok (.iconst 1, 1) := dk_4 (dk_at dksX2_mulInv_2 1 rfl rfl)
theorem dX2_mulInv_49 : decode cX2_mulInv 49 = .ok (.if_icmp .ne 5, 3) := dk_160 0 5 (dk_at dksX2_mulInv_2 2 rfl rfl)
theorem dX2_mulInv_52 : decode cX2_mulInv 52 = .ok (.iload_n 2, 1) := dk_28 (dk_at dksX2_mulInv_2 5 rfl rfl)
theorem dX2_mulInv_53 : decode cX2_mulInv 53 = .ok (.ireturn, 1) := dk_172 (dk_at dksX2_mulInv_2 6 rfl rfl)
theorem dX2_mulInv_54 : decode cX2_mulInv 54 = .ok (.iload 5, 2) := dk_21 5 (dk_at dksX2_mulInv_2 7 rfl rfl)
theorem dX2_mulInv_56 : decode cX2_mulInv 56 = .ok (.iload_n 1, 1) := dk_27 (dk_at dksX2_mulInv_2 9 rfl rfl)
theorem dX2_mulInv_57 : decode cX2_mulInv 57 = .ok (.idiv, 1) := dk_108 (dk_at dksX2_mulInv_2 10 rfl rfl)
theorem dX2_mulInv_58 : decode cX2_mulInv 58 = .ok (.istore 4, 2) := dk_54 4 (dk_at dksX2_mulInv_2 11 rfl rfl)
theorem dX2_mulInv_60 : decode cX2_mulInv 60 = .ok (.iload 5, 2) := dk_21 5 (dk_at dksX2_mulInv_2 13 rfl rfl)
theorem dX2_mulInv_62 : decode cX2_mulInv 62 = .ok (.iload_n 1, 1) := dk_27 (dk_at dksX2_mulInv_2 15 rfl rfl)
theorem dX2_mulInv_63 : decode cX2_mulInv 63 = .ok (.irem, 1) := dk_112 (dk_at dksX2_mulInv_2 16 rfl rfl)
theorem dX2_mulInv_64 : decode cX2_mulInv 64 = .ok (.istore 5, 2) := dk_54 5 (dk_at dksX2_mulInv_2 17 rfl rfl)
theorem dX2_mulInv_66 : decode cX2_mulInv 66 = .ok (.iload_n 3, 1) := dk_29 (dk_at dksX2_mulInv_2 19 rfl rfl)
theorem dX2_mulInv_67 : decode cX2_mulInv 67 = .ok (.iload_n 2, 1) := dk_28 (dk_at dksX2_mulInv_2 20 rfl rfl)
theorem dX2_mulInv_68 : decode cX2_mulInv 68 = .ok (.iload 4, 2) := dk_21 4 (dk_at dksX2_mulInv_2 21 rfl rfl)
theorem dX2_mulInv_70 : decode cX2_mulInv 70 = .ok (.imul, 1) := dk_104 (dk_at dksX2_mulInv_2 23 rfl rfl)
theorem dX2_mulInv_71 : decode cX2_mulInv 71 = .ok (.iadd, 1) := dk_96 (dk_at dksX2_mulInv_3 0 rfl rfl)
theorem dX2_mulInv_72 : decode cX2_mulInv 72 = .ok (.ldc 55, 2) := dk_18 55 (dk_at dksX2_mulInv_3 1 rfl rfl)
theorem dX2_mulInv_74 : decode cX2_mulInv 74 = .ok (.iand, 1) := dk_126 (dk_at dksX2_mulInv_3 3 rfl rfl)
theorem dX2_mulInv_75 : decode cX2_mulInv 75 = .ok (.istore_n 3, 1) := dk_62 (dk_at dksX2_mulInv_3 4 rfl rfl)
theorem dX2_mulInv_76 : decode cX2_mulInv 76 = .ok (.goto (-56), 3) := dk_167 255 200 (dk_at dksX2_mulInv_3 5 rfl rfl)
theorem dX2_mulInv_79 : decode cX2_mulInv 79 = .ok (.iconst 1, 1) := dk_4 (dk_at dksX2_mulInv_3 8 rfl rfl)
theorem dX2_mulInv_80 : decode cX2_mulInv 80 = .ok (.iload_n 3, 1) := dk_29 (dk_at dksX2_mulInv_3 9 rfl rfl)
theorem dX2_mulInv_81 : decode cX2_mulInv 81 = .ok (.isub, 1) := dk_100 (dk_at dksX2_mulInv_3 10 rfl rfl)
theorem dX2_mulInv_82 : decode cX2_mulInv 82 = .ok (.ldc 55, 2) := dk_18 55 (dk_at dksX2_mulInv_3 11 rfl rfl)
theorem dX2_mulInv_84 : decode cX2_mulInv 84 = .ok (.iand, 1) := dk_126 (dk_at dksX2_mulInv_3 13 rfl rfl)
theorem dX2_mulInv_85 : decode cX2_mulInv 85 = .ok (.ireturn, 1) := dk_172 (dk_at dksX2_mulInv_3 14 rfl rfl)
abbrev cX2_addInv : ByteArray := prog_4_method_10_code
def yX2_addInv : MethodName := ⟨RX2, "addInv", "(I)I"⟩
def dkwX2_addInv_0 : List UInt8 := [3, 27, 100, 18, 55, 126, 172]
abbrev dktX2_addInv_0 : List UInt8 := dkwX2_addInv_0 ++ []
theorem dksX2_addInv_0 : cX2_addInv.data.toList.drop 0 = dktX2_addInv_0 := by decide +kernel
theorem dX2_addInv_0 : decode cX2_addInv 0 = .ok (.iconst 0, 1) := dk_3 (dk_at dksX2_addInv_0 0 rfl rfl)
theorem dX2_addInv_1 : decode cX2_addInv 1 = .ok (.iload_n 1, 1) := dk_27 (dk_at dksX2_addInv_0 1 rfl rfl)
theorem dX2_addInv_2 : decode cX2_addInv 2 = .ok (.isub, 1) := dk_100 (dk_at dksX2_addInv_0 2 rfl rfl)
theorem dX2_addInv_3 : decode cX2_addInv 3 = .ok (.ldc 55, 2) := dk_18 55 (dk_at dksX2_addInv_0 3 rfl rfl)
theorem dX2_addInv_5 : decode cX2_addInv 5 = .ok (.iand, 1) := dk_126 (dk_at dksX2_addInv_0 5 rfl rfl)
theorem dX2_addInv_6 : decode cX2_addInv 6 = .ok (.ireturn, 1) := dk_172 (dk_at dksX2_addInv_0 6 rfl rfl)
abbrev cX2_processBlock : ByteArray := prog_4_method_3_code
def yX2_processBlock : MethodName := ⟨RX2, "processBlock", "([BI[BI)I"⟩
def dkwX2_processBlock_3 : List UInt8 := [16, 8, 172]
abbrev dktX2_processBlock_3 : List UInt8 := dkwX2_processBlock_3 ++ []
def dkwX2_processBlock_2 : List UInt8 := [187, 0, 44, 89, 18, 46, 183, 0, 48, 191, 42, 42, 180, 0, 7, 43, 28, 45, 21, 4, 182, 0, 49]
abbrev dktX2_processBlock_2 : List UInt8 := dkwX2_processBlock_2 ++ dktX2_processBlock_3
def dkwX2_processBlock_1 : List UInt8 := [164, 0, 13, 187, 0, 39, 89, 18, 41, 183, 0, 43, 191, 21, 4, 16, 8, 96, 45, 190, 164, 0, 13]
abbrev dktX2_processBlock_1 : List UInt8 := dkwX2_processBlock_1 ++ dktX2_processBlock_2
def dkwX2_processBlock_0 : List UInt8 := [42, 180, 0, 7, 199, 0, 13, 187, 0, 34, 89, 18, 36, 183, 0, 38, 191, 28, 16, 8, 96, 43, 190]
abbrev dktX2_processBlock_0 : List UInt8 := dkwX2_processBlock_0 ++ dktX2_processBlock_1
theorem dksX2_processBlock_0 : cX2_processBlock.data.toList.drop 0 = dktX2_processBlock_0 := by decide +kernel
theorem dksX2_processBlock_1 : cX2_processBlock.data.toList.drop 23 = dktX2_processBlock_1 := dk_seg dksX2_processBlock_0 23 rfl rfl
theorem dksX2_processBlock_2 : cX2_processBlock.data.toList.drop 46 = dktX2_processBlock_2 := dk_seg dksX2_processBlock_1 23 rfl rfl
theorem dksX2_processBlock_3 : cX2_processBlock.data.toList.drop 69 = dktX2_processBlock_3 := dk_seg dksX2_processBlock_2 23 rfl rfl
theorem dX2_processBlock_0 : decode cX2_processBlock 0 = .ok (.aload_n 0, 1) := dk_42 (dk_at dksX2_processBlock_0 0 rfl rfl)
theorem dX2_processBlock_1 : decode cX2_processBlock 1 = .ok (.getfield 7, 3) := dk_180 0 7 (dk_at dksX2_processBlock_0 1 rfl rfl)
theorem dX2_processBlock_4 : decode cX2_processBlock 4 = .ok (.ifnonnull 13, 3) := dk_199 0 13 (dk_at dksX2_processBlock_0 4 rfl rfl)
theorem dX2_processBlock_7 : decode cX2_processBlock 7 = .ok (.new 34, 3) := dk_187 0 34 (dk_at dksX2_processBlock_0 7 rfl rfl)
theorem dX2_processBlock_10 : decode cX2_processBlock 10 = .ok (.dup, 1) := dk_89 (dk_at dksX2_processBlock_0 10 rfl rfl)
theorem dX2_processBlock_11 : decode cX2_processBlock 11 = .ok (.ldc 36, 2) := dk_18 36 (dk_at dksX2_processBlock_0 11 rfl rfl)
theorem dX2_processBlock_13 : decode cX2_processBlock 13 = .ok (.invokespecial 38, 3) := dk_183 0 38 (dk_at dksX2_processBlock_0 13 rfl rfl)
theorem dX2_processBlock_16 : decode cX2_processBlock 16 = .ok (.athrow, 1) := dk_191 (dk_at dksX2_processBlock_0 16 rfl rfl)
theorem dX2_processBlock_17 : decode cX2_processBlock 17 = .ok (.iload_n 2, 1) := dk_28 (dk_at dksX2_processBlock_0 17 rfl rfl)
theorem dX2_processBlock_18 : decode cX2_processBlock 18 = .ok (.bipush 8, 2) := dk_16 8 (dk_at dksX2_processBlock_0 18 rfl rfl)
theorem dX2_processBlock_20 : decode cX2_processBlock 20 = .ok (.iadd, 1) := dk_96 (dk_at dksX2_processBlock_0 20 rfl rfl)
theorem dX2_processBlock_21 : decode cX2_processBlock 21 = .ok (.aload_n 1, 1) := dk_43 (dk_at dksX2_processBlock_0 21 rfl rfl)
theorem dX2_processBlock_22 : decode cX2_processBlock 22 = .ok (.arraylength, 1) := dk_190 (dk_at dksX2_processBlock_0 22 rfl rfl)
theorem dX2_processBlock_23 : decode cX2_processBlock 23 = .ok (.if_icmp .le 13, 3) := dk_164 0 13 (dk_at dksX2_processBlock_1 0 rfl rfl)
theorem dX2_processBlock_26 : decode cX2_processBlock 26 = .ok (.new 39, 3) := dk_187 0 39 (dk_at dksX2_processBlock_1 3 rfl rfl)
theorem dX2_processBlock_29 : decode cX2_processBlock 29 = .ok (.dup, 1) := dk_89 (dk_at dksX2_processBlock_1 6 rfl rfl)
theorem dX2_processBlock_30 : decode cX2_processBlock 30 = .ok (.ldc 41, 2) := dk_18 41 (dk_at dksX2_processBlock_1 7 rfl rfl)
theorem dX2_processBlock_32 : decode cX2_processBlock 32 = .ok (.invokespecial 43, 3) := dk_183 0 43 (dk_at dksX2_processBlock_1 9 rfl rfl)
theorem dX2_processBlock_35 : decode cX2_processBlock 35 = .ok (.athrow, 1) := dk_191 (dk_at dksX2_processBlock_1 12 rfl rfl)
theorem dX2_processBlock_36 : decode cX2_processBlock 36 = .ok (.iload 4, 2) := dk_21 4 (dk_at dksX2_processBlock_1 13 rfl rfl)
theorem dX2_processBlock_38 : decode cX2_processBlock 38 = .ok (.bipush 8, 2) := dk_16 8 (dk_at dksX2_processBlock_1 15 rfl rfl)
theorem dX2_processBlock_40 : decode cX2_processBlock 40 = .ok (.iadd, 1) := dk_96 (dk_at dksX2_processBlock_1 17 rfl rfl)
theorem dX2_processBlock_41 : decode cX2_processBlock 41 = .ok (.aload_n 3, 1) := dk_45 (dk_at dksX2_processBlock_1 18 rfl rfl)
theorem dX2_processBlock_42 : decode cX2_processBlock 42 = .ok (.arraylength, 1) := dk_190 (dk_at dksX2_processBlock_1 19 rfl rfl)
theorem dX2_processBlock_43 : decode cX2_processBlock 43 = .ok (.if_icmp .le 13, 3) := dk_164 0 13 (dk_at dksX2_processBlock_1 20 rfl rfl)
theorem dX2_processBlock_46 : decode cX2_processBlock 46 = .ok (.new 44, 3) := dk_187 0 44 (dk_at dksX2_processBlock_2 0 rfl rfl)
theorem dX2_processBlock_49 : decode cX2_processBlock 49 = .ok (.dup, 1) := dk_89 (dk_at dksX2_processBlock_2 3 rfl rfl)
theorem dX2_processBlock_50 : decode cX2_processBlock 50 = .ok (.ldc 46, 2) := dk_18 46 (dk_at dksX2_processBlock_2 4 rfl rfl)
theorem dX2_processBlock_52 : decode cX2_processBlock 52 = .ok (.invokespecial 48, 3) := dk_183 0 48 (dk_at dksX2_processBlock_2 6 rfl rfl)
theorem dX2_processBlock_55 : decode cX2_processBlock 55 = .ok (.athrow, 1) := dk_191 (dk_at dksX2_processBlock_2 9 rfl rfl)
theorem dX2_processBlock_56 : decode cX2_processBlock 56 = .ok (.aload_n 0, 1) := dk_42 (dk_at dksX2_processBlock_2 10 rfl rfl)
theorem dX2_processBlock_57 : decode cX2_processBlock 57 = .ok (.aload_n 0, 1) := dk_42 (dk_at dksX2_processBlock_2 11 rfl rfl)
theorem dX2_processBlock_58 : decode cX2_processBlock 58 = .ok (.getfield 7, 3) := dk_180 0 7 (dk_at dksX2_processBlock_2 12 rfl rfl)
theorem dX2_processBlock_61 : decode cX2_processBlock 61 = .ok (.aload_n 1, 1) := dk_43 (dk_at dksX2_processBlock_2 15 rfl rfl)
theorem dX2_processBlock_62 : decode cX2_processBlock 62 = .ok (.iload_n 2, 1) := dk_28 (dk_at dksX2_processBlock_2 16 rfl rfl)
theorem dX2_processBlock_63 : decode cX2_processBlock 63 = .ok (.aload_n 3, 1) := dk_45 (dk_at dksX2_processBlock_2 17 rfl rfl)
theorem dX2_processBlock_64 : decode cX2_processBlock 64 = .ok (.iload 4, 2) := dk_21 4 (dk_at dksX2_processBlock_2 18 rfl rfl)
theorem dX2_processBlock_66 : decode cX2_processBlock 66 = .ok (.invokevirtual 49, 3) := dk_182 0 49 (dk_at dksX2_processBlock_2 20 rfl rfl)
theorem dX2_processBlock_69 : decode cX2_processBlock 69 = .ok (.bipush 8, 2) := dk_16 8 (dk_at dksX2_processBlock_3 0 rfl rfl)
theorem dX2_processBlock_71 : decode cX2_processBlock 71 = .ok (.ireturn, 1) := dk_172 (dk_at dksX2_processBlock_3 2 rfl rfl)
abbrev cX2_ideaFunc : ByteArray := prog_4_method_7_code
def yX2_ideaFunc : MethodName := ⟨RX2, "ideaFunc", "([I[BI[BI)V"⟩
def dkwX2_ideaFunc_13 : List UInt8 := [21, 5, 16, 6, 96, 182, 0, 64, 177]
abbrev dktX2_ideaFunc_13 : List UInt8 := dkwX2_ideaFunc_13 ++ []
def dkwX2_ideaFunc_12 : List UInt8 := [96, 25, 4, 21, 5, 7, 96, 182, 0, 64, 42, 42, 21, 9, 43, 21, 12, 46, 182, 0, 60, 25, 4]
abbrev dktX2_ideaFunc_12 : List UInt8 := dkwX2_ideaFunc_12 ++ dktX2_ideaFunc_13
def dkwX2_ideaFunc_11 : List UInt8 := [132, 12, 1, 46, 96, 25, 4, 21, 5, 5, 96, 182, 0, 64, 42, 21, 7, 43, 21, 12, 132, 12, 1, 46]
abbrev dktX2_ideaFunc_11 : List UInt8 := dkwX2_ideaFunc_11 ++ dktX2_ideaFunc_12
def dkwX2_ideaFunc_10 : List UInt8 := [43, 21, 12, 132, 12, 1, 46, 182, 0, 60, 25, 4, 21, 5, 182, 0, 64, 42, 21, 8, 43, 21, 12]
abbrev dktX2_ideaFunc_10 : List UInt8 := dkwX2_ideaFunc_10 ++ dktX2_ideaFunc_11
def dkwX2_ideaFunc_9 : List UInt8 := [21, 7, 21, 11, 130, 54, 7, 21, 8, 21, 10, 130, 54, 8, 132, 13, 1, 167, 255, 70, 42, 42, 21, 6]
abbrev dktX2_ideaFunc_9 : List UInt8 := dkwX2_ideaFunc_9 ++ dktX2_ideaFunc_10
def dkwX2_ideaFunc_8 : List UInt8 := [96, 54, 8, 21, 8, 18, 55, 126, 54, 8, 21, 6, 21, 7, 130, 54, 6, 21, 9, 21, 8, 130, 54, 9]
abbrev dktX2_ideaFunc_8 : List UInt8 := dkwX2_ideaFunc_8 ++ dktX2_ideaFunc_9
def dkwX2_ideaFunc_7 : List UInt8 := [18, 55, 126, 54, 7, 42, 21, 7, 43, 21, 12, 132, 12, 1, 46, 182, 0, 60, 54, 7, 21, 8, 21, 7]
abbrev dktX2_ideaFunc_7 : List UInt8 := dkwX2_ideaFunc_7 ++ dktX2_ideaFunc_8
def dkwX2_ideaFunc_6 : List UInt8 := [42, 21, 8, 43, 21, 12, 132, 12, 1, 46, 182, 0, 60, 54, 8, 21, 7, 21, 8, 96, 54, 7, 21, 7]
abbrev dktX2_ideaFunc_6 : List UInt8 := dkwX2_ideaFunc_6 ++ dktX2_ideaFunc_7
def dkwX2_ideaFunc_5 : List UInt8 := [54, 9, 21, 7, 54, 10, 21, 8, 54, 11, 21, 8, 21, 6, 130, 54, 8, 21, 7, 21, 9, 130, 54, 7]
abbrev dktX2_ideaFunc_5 : List UInt8 := dkwX2_ideaFunc_5 ++ dktX2_ideaFunc_6
def dkwX2_ideaFunc_4 : List UInt8 := [46, 96, 54, 8, 21, 8, 18, 55, 126, 54, 8, 42, 21, 9, 43, 21, 12, 132, 12, 1, 46, 182, 0, 60]
abbrev dktX2_ideaFunc_4 : List UInt8 := dkwX2_ideaFunc_4 ++ dktX2_ideaFunc_5
def dkwX2_ideaFunc_3 : List UInt8 := [21, 12, 132, 12, 1, 46, 96, 54, 7, 21, 7, 18, 55, 126, 54, 7, 21, 8, 43, 21, 12, 132, 12, 1]
abbrev dktX2_ideaFunc_3 : List UInt8 := dkwX2_ideaFunc_3 ++ dktX2_ideaFunc_4
def dkwX2_ideaFunc_2 : List UInt8 := [16, 8, 162, 0, 185, 42, 21, 6, 43, 21, 12, 132, 12, 1, 46, 182, 0, 60, 54, 6, 21, 7, 43]
abbrev dktX2_ideaFunc_2 : List UInt8 := dkwX2_ideaFunc_2 ++ dktX2_ideaFunc_3
def dkwX2_ideaFunc_1 : List UInt8 := [7, 96, 182, 0, 56, 54, 8, 42, 44, 29, 16, 6, 96, 182, 0, 56, 54, 9, 3, 54, 13, 21, 13]
abbrev dktX2_ideaFunc_1 : List UInt8 := dkwX2_ideaFunc_1 ++ dktX2_ideaFunc_2
def dkwX2_ideaFunc_0 : List UInt8 := [3, 54, 12, 42, 44, 29, 182, 0, 56, 54, 6, 42, 44, 29, 5, 96, 182, 0, 56, 54, 7, 42, 44, 29]
abbrev dktX2_ideaFunc_0 : List UInt8 := dkwX2_ideaFunc_0 ++ dktX2_ideaFunc_1
theorem dksX2_ideaFunc_0 : cX2_ideaFunc.data.toList.drop 0 = dktX2_ideaFunc_0 := by decide +kernel
theorem dksX2_ideaFunc_1 : cX2_ideaFunc.data.toList.drop 24 = dktX2_ideaFunc_1 := dk_seg dksX2_ideaFunc_0 24 rfl rfl
theorem dksX2_ideaFunc_2 : cX2_ideaFunc.data.toList.drop 47 = dktX2_ideaFunc_2 := dk_seg dksX2_ideaFunc_1 23 rfl rfl
theorem dksX2_ideaFunc_3 : cX2_ideaFunc.data.toList.drop 70 = dktX2_ideaFunc_3 := dk_seg dksX2_ideaFunc_2 23 rfl rfl
theorem dksX2_ideaFunc_4 : cX2_ideaFunc.data.toList.drop 94 = dktX2_ideaFunc_4 := dk_seg dksX2_ideaFunc_3 24 rfl rfl
theorem dksX2_ideaFunc_5 : cX2_ideaFunc.data.toList.drop 118 = dktX2_ideaFunc_5 := dk_seg dksX2_ideaFunc_4 24 rfl rfl
theorem dksX2_ideaFunc_6 : cX2_ideaFunc.data.toList.drop 142 = dktX2_ideaFunc_6 := dk_seg dksX2_ideaFunc_5 24 rfl rfl
theorem dksX2_ideaFunc_7 : cX2_ideaFunc.data.toList.drop 166 = dktX2_ideaFunc_7 := dk_seg dksX2_ideaFunc_6 24 rfl rfl
theorem dksX2_ideaFunc_8 : cX2_ideaFunc.data.toList.drop 190 = dktX2_ideaFunc_8 := dk_seg dksX2_ideaFunc_7 24 rfl rfl
theorem dksX2_ideaFunc_9 : cX2_ideaFunc.data.toList.drop 214 = dktX2_ideaFunc_9 := dk_seg dksX2_ideaFunc_8 24 rfl rfl
theorem dksX2_ideaFunc_10 : cX2_ideaFunc.data.toList.drop 238 = dktX2_ideaFunc_10 := dk_seg dksX2_ideaFunc_9 24 rfl rfl
theorem dksX2_ideaFunc_11 : cX2_ideaFunc.data.toList.drop 261 = dktX2_ideaFunc_11 := dk_seg dksX2_ideaFunc_10 23 rfl rfl
theorem dksX2_ideaFunc_12 : cX2_ideaFunc.data.toList.drop 285 = dktX2_ideaFunc_12 := dk_seg dksX2_ideaFunc_11 24 rfl rfl
theorem dksX2_ideaFunc_13 : cX2_ideaFunc.data.toList.drop 308 = dktX2_ideaFunc_13 := dk_seg dksX2_ideaFunc_12 23 rfl rfl
theorem dX2_ideaFunc_0 : decode cX2_ideaFunc 0 = .ok (.iconst 0, 1) := dk_3 (dk_at dksX2_ideaFunc_0 0 rfl rfl)
theorem dX2_ideaFunc_1 : decode cX2_ideaFunc 1 = .ok (.istore 12, 2) := dk_54 12 (dk_at dksX2_ideaFunc_0 1 rfl rfl)
theorem dX2_ideaFunc_3 : decode cX2_ideaFunc 3 = .ok (.aload_n 0, 1) := dk_42 (dk_at dksX2_ideaFunc_0 3 rfl rfl)
theorem dX2_ideaFunc_4 : decode cX2_ideaFunc 4 = .ok (.aload_n 2, 1) := dk_44 (dk_at dksX2_ideaFunc_0 4 rfl rfl)
theorem dX2_ideaFunc_5 : decode cX2_ideaFunc 5 = .ok (.iload_n 3, 1) := dk_29 (dk_at dksX2_ideaFunc_0 5 rfl rfl)
theorem dX2_ideaFunc_6 : decode cX2_ideaFunc 6 = .ok (.invokevirtual 56, 3) := dk_182 0 56 (dk_at dksX2_ideaFunc_0 6 rfl rfl)
theorem dX2_ideaFunc_9 : decode cX2_ideaFunc 9 = .ok (.istore 6, 2) := dk_54 6 (dk_at dksX2_ideaFunc_0 9 rfl rfl)
theorem dX2_ideaFunc_11 : decode cX2_ideaFunc 11 = .ok (.aload_n 0, 1) := dk_42 (dk_at dksX2_ideaFunc_0 11 rfl rfl)
theorem dX2_ideaFunc_12 : decode cX2_ideaFunc 12 = .ok (.aload_n 2, 1) := dk_44 (dk_at dksX2_ideaFunc_0 12 rfl rfl)
theorem dX2_ideaFunc_13 : decode cX2_ideaFunc 13 = .ok (.iload_n 3, 1) := dk_29 (dk_at dksX2_ideaFunc_0 13 rfl rfl)
theorem dX2_ideaFunc_14 : decode cX2_ideaFunc 14 = .ok (.iconst 2, 1) := dk_5 (dk_at dksX2_ideaFunc_0 14 rfl rfl)
theorem dX2_ideaFunc_15 : decode cX2_ideaFunc 15 = .ok (.iadd, 1) := dk_96 (dk_at dksX2_ideaFunc_0 15 rfl rfl)
theorem dX2_ideaFunc_16 : decode cX2_ideaFunc 16 = .ok (.invokevirtual 56, 3) := dk_182 0 56 (dk_at dksX2_ideaFunc_0 16 rfl rfl)
theorem dX2_ideaFunc_19 : decode cX2_ideaFunc 19 = .ok (.istore 7, 2) := dk_54 7 (dk_at dksX2_ideaFunc_0 19 rfl rfl)
theorem dX2_ideaFunc_21 : decode cX2_ideaFunc 21 = .ok (.aload_n 0, 1) := dk_42 (dk_at dksX2_ideaFunc_0 21 rfl rfl)
theorem dX2_ideaFunc_22 : decode cX2_ideaFunc 22 = .ok (.aload_n 2, 1) := dk_44 (dk_at dksX2_ideaFunc_0 22 rfl rfl)
theorem dX2_ideaFunc_23 : decode cX2_ideaFunc 23 = .ok (.iload_n 3, 1) := dk_29 (dk_at dksX2_ideaFunc_0 23 rfl rfl)
theorem dX2_ideaFunc_24 : decode cX2_ideaFunc 24 = .ok (.iconst 4, 1) := dk_7 (dk_at dksX2_ideaFunc_1 0 rfl rfl)
theorem dX2_ideaFunc_25 : decode cX2_ideaFunc 25 = .ok (.iadd, 1) := dk_96 (dk_at dksX2_ideaFunc_1 1 rfl rfl)
theorem dX2_ideaFunc_26 : decode cX2_ideaFunc 26 = .ok (.invokevirtual 56, 3) := dk_182 0 56 (dk_at dksX2_ideaFunc_1 2 rfl rfl)
theorem dX2_ideaFunc_29 : decode cX2_ideaFunc 29 = .ok (.istore 8, 2) := dk_54 8 (dk_at dksX2_ideaFunc_1 5 rfl rfl)
theorem dX2_ideaFunc_31 : decode cX2_ideaFunc 31 = .ok (.aload_n 0, 1) := dk_42 (dk_at dksX2_ideaFunc_1 7 rfl rfl)
theorem dX2_ideaFunc_32 : decode cX2_ideaFunc 32 = .ok (.aload_n 2, 1) := dk_44 (dk_at dksX2_ideaFunc_1 8 rfl rfl)
theorem dX2_ideaFunc_33 : decode cX2_ideaFunc 33 = .ok (.iload_n 3, 1) := dk_29 (dk_at dksX2_ideaFunc_1 9 rfl rfl)
theorem dX2_ideaFunc_34 : decode cX2_ideaFunc 34 = .ok (.bipush 6, 2) := dk_16 6 (dk_at dksX2_ideaFunc_1 10 rfl rfl)
theorem dX2_ideaFunc_36 : decode cX2_ideaFunc 36 = .ok (.iadd, 1) := dk_96 (dk_at dksX2_ideaFunc_1 12 rfl rfl)
theorem dX2_ideaFunc_37 : decode cX2_ideaFunc 37 = .ok (.invokevirtual 56, 3) := dk_182 0 56 (dk_at dksX2_ideaFunc_1 13 rfl rfl)
theorem dX2_ideaFunc_40 : decode cX2_ideaFunc 40 = .ok (.istore 9, 2) := dk_54 9 (dk_at dksX2_ideaFunc_1 16 rfl rfl)
theorem dX2_ideaFunc_42 : decode cX2_ideaFunc 42 = .ok (.iconst 0, 1) := dk_3 (dk_at dksX2_ideaFunc_1 18 rfl rfl)
theorem dX2_ideaFunc_43 : decode cX2_ideaFunc 43 = .ok (.istore 13, 2) := dk_54 13 (dk_at dksX2_ideaFunc_1 19 rfl rfl)
theorem dX2_ideaFunc_45 : decode cX2_ideaFunc 45 = .ok (.iload 13, 2) := dk_21 13 (dk_at dksX2_ideaFunc_1 21 rfl rfl)
theorem dX2_ideaFunc_47 : decode cX2_ideaFunc 47 = .ok (.bipush 8, 2) := dk_16 8 (dk_at dksX2_ideaFunc_2 0 rfl rfl)
theorem dX2_ideaFunc_49 : decode cX2_ideaFunc 49 = .ok (.if_icmp .ge 185, 3) := dk_162 0 185 (dk_at dksX2_ideaFunc_2 2 rfl rfl)
theorem dX2_ideaFunc_52 : decode cX2_ideaFunc 52 = .ok (.aload_n 0, 1) := dk_42 (dk_at dksX2_ideaFunc_2 5 rfl rfl)
theorem dX2_ideaFunc_53 : decode cX2_ideaFunc 53 = .ok (.iload 6, 2) := dk_21 6 (dk_at dksX2_ideaFunc_2 6 rfl rfl)
theorem dX2_ideaFunc_55 : decode cX2_ideaFunc 55 = .ok (.aload_n 1, 1) := dk_43 (dk_at dksX2_ideaFunc_2 8 rfl rfl)
theorem dX2_ideaFunc_56 : decode cX2_ideaFunc 56 = .ok (.iload 12, 2) := dk_21 12 (dk_at dksX2_ideaFunc_2 9 rfl rfl)
theorem dX2_ideaFunc_58 : decode cX2_ideaFunc 58 = .ok (.iinc 12 1, 3) := dk_132 12 1 (dk_at dksX2_ideaFunc_2 11 rfl rfl)
theorem dX2_ideaFunc_61 : decode cX2_ideaFunc 61 = .ok (.iaload, 1) := dk_46 (dk_at dksX2_ideaFunc_2 14 rfl rfl)
theorem dX2_ideaFunc_62 : decode cX2_ideaFunc 62 = .ok (.invokevirtual 60, 3) := dk_182 0 60 (dk_at dksX2_ideaFunc_2 15 rfl rfl)
theorem dX2_ideaFunc_65 : decode cX2_ideaFunc 65 = .ok (.istore 6, 2) := dk_54 6 (dk_at dksX2_ideaFunc_2 18 rfl rfl)
theorem dX2_ideaFunc_67 : decode cX2_ideaFunc 67 = .ok (.iload 7, 2) := dk_21 7 (dk_at dksX2_ideaFunc_2 20 rfl rfl)
theorem dX2_ideaFunc_69 : decode cX2_ideaFunc 69 = .ok (.aload_n 1, 1) := dk_43 (dk_at dksX2_ideaFunc_2 22 rfl rfl)
theorem dX2_ideaFunc_70 : decode cX2_ideaFunc 70 = .ok (.iload 12, 2) := dk_21 12 (dk_at dksX2_ideaFunc_3 0 rfl rfl)
theorem dX2_ideaFunc_72 : decode cX2_ideaFunc 72 = .ok (.iinc 12 1, 3) := dk_132 12 1 (dk_at dksX2_ideaFunc_3 2 rfl rfl)
theorem dX2_ideaFunc_75 : decode cX2_ideaFunc 75 = .ok (.iaload, 1) := dk_46 (dk_at dksX2_ideaFunc_3 5 rfl rfl)
theorem dX2_ideaFunc_76 : decode cX2_ideaFunc 76 = .ok (.iadd, 1) := dk_96 (dk_at dksX2_ideaFunc_3 6 rfl rfl)
theorem dX2_ideaFunc_77 : decode cX2_ideaFunc 77 = .ok (.istore 7, 2) := dk_54 7 (dk_at dksX2_ideaFunc_3 7 rfl rfl)
theorem dX2_ideaFunc_79 : decode cX2_ideaFunc 79 = .ok (.iload 7, 2) := dk_21 7 (dk_at dksX2_ideaFunc_3 9 rfl rfl)
theorem dX2_ideaFunc_81 : decode cX2_ideaFunc 81 = .ok (.ldc 55, 2) := dk_18 55 (dk_at dksX2_ideaFunc_3 11 rfl rfl)
theorem dX2_ideaFunc_83 : decode cX2_ideaFunc 83 = .ok (.iand, 1) := dk_126 (dk_at dksX2_ideaFunc_3 13 rfl rfl)
theorem dX2_ideaFunc_84 : decode cX2_ideaFunc 84 = .ok (.istore 7, 2) := dk_54 7 (dk_at dksX2_ideaFunc_3 14 rfl rfl)
theorem dX2_ideaFunc_86 : decode cX2_ideaFunc 86 = .ok (.iload 8, 2) := dk_21 8 (dk_at dksX2_ideaFunc_3 16 rfl rfl)
theorem dX2_ideaFunc_88 : decode cX2_ideaFunc 88 = .ok (.aload_n 1, 1) := dk_43 (dk_at dksX2_ideaFunc_3 18 rfl rfl)
theorem dX2_ideaFunc_89 : decode cX2_ideaFunc 89 = .ok (.iload 12, 2) := dk_21 12 (dk_at dksX2_ideaFunc_3 19 rfl rfl)
theorem dX2_ideaFunc_91 : decode cX2_ideaFunc 91 = .ok (.iinc 12 1, 3) := dk_132 12 1 (dk_at dksX2_ideaFunc_3 21 rfl rfl)
theorem dX2_ideaFunc_94 : decode cX2_ideaFunc 94 = .ok (.iaload, 1) := dk_46 (dk_at dksX2_ideaFunc_4 0 rfl rfl)
theorem dX2_ideaFunc_95 : decode cX2_ideaFunc 95 = .ok (.iadd, 1) := dk_96 (dk_at dksX2_ideaFunc_4 1 rfl rfl)
theorem dX2_ideaFunc_96 : decode cX2_ideaFunc 96 = .ok (.istore 8, 2) := dk_54 8 (dk_at dksX2_ideaFunc_4 2 rfl rfl)
theorem dX2_ideaFunc_98 : decode cX2_ideaFunc 98 = .ok (.iload 8, 2) := dk_21 8 (dk_at dksX2_ideaFunc_4 4 rfl rfl)
theorem dX2_ideaFunc_100 : decode cX2_ideaFunc 100 = .ok (.ldc 55, 2) := dk_18 55 (dk_at dksX2_ideaFunc_4 6 rfl rfl)
theorem dX2_ideaFunc_102 : decode cX2_ideaFunc 102 = .ok (.iand, 1) := dk_126 (dk_at dksX2_ideaFunc_4 8 rfl rfl)
theorem dX2_ideaFunc_103 : decode cX2_ideaFunc 103 = .ok (.istore 8, 2) := dk_54 8 (dk_at dksX2_ideaFunc_4 9 rfl rfl)
theorem dX2_ideaFunc_105 : decode cX2_ideaFunc 105 = .ok (.aload_n 0, 1) := dk_42 (dk_at dksX2_ideaFunc_4 11 rfl rfl)
theorem dX2_ideaFunc_106 : decode cX2_ideaFunc 106 = .ok (.iload 9, 2) := dk_21 9 (dk_at dksX2_ideaFunc_4 12 rfl rfl)
theorem dX2_ideaFunc_108 : decode cX2_ideaFunc 108 = .ok (.aload_n 1, 1) := dk_43 (dk_at dksX2_ideaFunc_4 14 rfl rfl)
theorem dX2_ideaFunc_109 : decode cX2_ideaFunc 109 = .ok (.iload 12, 2) := dk_21 12 (dk_at dksX2_ideaFunc_4 15 rfl rfl)
theorem dX2_ideaFunc_111 : decode cX2_ideaFunc 111 = .ok (.iinc 12 1, 3) := dk_132 12 1 (dk_at dksX2_ideaFunc_4 17 rfl rfl)
theorem dX2_ideaFunc_114 : decode cX2_ideaFunc 114 = .ok (.iaload, 1) := dk_46 (dk_at dksX2_ideaFunc_4 20 rfl rfl)
theorem dX2_ideaFunc_115 : decode cX2_ideaFunc 115 = .ok (.invokevirtual 60, 3) := dk_182 0 60 (dk_at dksX2_ideaFunc_4 21 rfl rfl)
theorem dX2_ideaFunc_118 : decode cX2_ideaFunc 118 = .ok (.istore 9, 2) := dk_54 9 (dk_at dksX2_ideaFunc_5 0 rfl rfl)
theorem dX2_ideaFunc_120 : decode cX2_ideaFunc 120 = .ok (.iload 7, 2) := dk_21 7 (dk_at dksX2_ideaFunc_5 2 rfl rfl)
theorem dX2_ideaFunc_122 : decode cX2_ideaFunc 122 = .ok (.istore 10, 2) := dk_54 10 (dk_at dksX2_ideaFunc_5 4 rfl rfl)
theorem dX2_ideaFunc_124 : decode cX2_ideaFunc 124 = .ok (.iload 8, 2) := dk_21 8 (dk_at dksX2_ideaFunc_5 6 rfl rfl)
theorem dX2_ideaFunc_126 : decode cX2_ideaFunc 126 = .ok (.istore 11, 2) := dk_54 11 (dk_at dksX2_ideaFunc_5 8 rfl rfl)
theorem dX2_ideaFunc_128 : decode cX2_ideaFunc 128 = .ok (.iload 8, 2) := dk_21 8 (dk_at dksX2_ideaFunc_5 10 rfl rfl)
theorem dX2_ideaFunc_130 : decode cX2_ideaFunc 130 = .ok (.iload 6, 2) := dk_21 6 (dk_at dksX2_ideaFunc_5 12 rfl rfl)
theorem dX2_ideaFunc_132 : decode cX2_ideaFunc 132 = .ok (.ixor, 1) := dk_130 (dk_at dksX2_ideaFunc_5 14 rfl rfl)
theorem dX2_ideaFunc_133 : decode cX2_ideaFunc 133 = .ok (.istore 8, 2) := dk_54 8 (dk_at dksX2_ideaFunc_5 15 rfl rfl)
theorem dX2_ideaFunc_135 : decode cX2_ideaFunc 135 = .ok (.iload 7, 2) := dk_21 7 (dk_at dksX2_ideaFunc_5 17 rfl rfl)
theorem dX2_ideaFunc_137 : decode cX2_ideaFunc 137 = .ok (.iload 9, 2) := dk_21 9 (dk_at dksX2_ideaFunc_5 19 rfl rfl)
theorem dX2_ideaFunc_139 : decode cX2_ideaFunc 139 = .ok (.ixor, 1) := dk_130 (dk_at dksX2_ideaFunc_5 21 rfl rfl)
theorem dX2_ideaFunc_140 : decode cX2_ideaFunc 140 = .ok (.istore 7, 2) := dk_54 7 (dk_at dksX2_ideaFunc_5 22 rfl rfl)
theorem dX2_ideaFunc_142 : decode cX2_ideaFunc 142 = .ok (.aload_n 0, 1) := dk_42 (dk_at dksX2_ideaFunc_6 0 rfl rfl)
theorem dX2_ideaFunc_143 : decode cX2_ideaFunc 143 = .ok (.iload 8, 2) := dk_21 8 (dk_at dksX2_ideaFunc_6 1 rfl rfl)
theorem dX2_ideaFunc_145 : decode cX2_ideaFunc 145 = .ok (.aload_n 1, 1) := dk_43 (dk_at dksX2_ideaFunc_6 3 rfl rfl)
theorem dX2_ideaFunc_146 : decode cX2_ideaFunc 146 = .ok (.iload 12, 2) := dk_21 12 (dk_at dksX2_ideaFunc_6 4 rfl rfl)
theorem dX2_ideaFunc_148 : decode cX2_ideaFunc 148 = .ok (.iinc 12 1, 3) := dk_132 12 1 (dk_at dksX2_ideaFunc_6 6 rfl rfl)
theorem dX2_ideaFunc_151 : decode cX2_ideaFunc 151 = .ok (.iaload, 1) := dk_46 (dk_at dksX2_ideaFunc_6 9 rfl rfl)
theorem dX2_ideaFunc_152 : decode cX2_ideaFunc 152 = .ok (.invokevirtual 60, 3) := dk_182 0 60 (dk_at dksX2_ideaFunc_6 10 rfl rfl)
theorem dX2_ideaFunc_155 : decode cX2_ideaFunc 155 = .ok (.istore 8, 2) := dk_54 8 (dk_at dksX2_ideaFunc_6 13 rfl rfl)
theorem dX2_ideaFunc_157 : decode cX2_ideaFunc 157 = .ok (.iload 7, 2) := dk_21 7 (dk_at dksX2_ideaFunc_6 15 rfl rfl)
theorem dX2_ideaFunc_159 : decode cX2_ideaFunc 159 = .ok (.iload 8, 2) := dk_21 8 (dk_at dksX2_ideaFunc_6 17 rfl rfl)
theorem dX2_ideaFunc_161 : decode cX2_ideaFunc 161 = .ok (.iadd, 1) := dk_96 (dk_at dksX2_ideaFunc_6 19 rfl rfl)
theorem dX2_ideaFunc_162 : decode cX2_ideaFunc 162 = .ok (.istore 7, 2) := dk_54 7 (dk_at dksX2_ideaFunc_6 20 rfl rfl)
theorem dX2_ideaFunc_164 : decode cX2_ideaFunc 164 = .ok (.iload 7, 2) := dk_21 7 (dk_at dksX2_ideaFunc_6 22 rfl rfl)
theorem dX2_ideaFunc_166 : decode cX2_ideaFunc 166 = .ok (.ldc 55, 2) := dk_18 55 (dk_at dksX2_ideaFunc_7 0 rfl rfl)
theorem dX2_ideaFunc_168 : decode cX2_ideaFunc 168 = .ok (.iand, 1) := dk_126 (dk_at dksX2_ideaFunc_7 2 rfl rfl)
theorem dX2_ideaFunc_169 : decode cX2_ideaFunc 169 = .ok (.istore 7, 2) := dk_54 7 (dk_at dksX2_ideaFunc_7 3 rfl rfl)
theorem dX2_ideaFunc_171 : decode cX2_ideaFunc 171 = .ok (.aload_n 0, 1) := dk_42 (dk_at dksX2_ideaFunc_7 5 rfl rfl)
theorem dX2_ideaFunc_172 : decode cX2_ideaFunc 172 = .ok (.iload 7, 2) := dk_21 7 (dk_at dksX2_ideaFunc_7 6 rfl rfl)
theorem dX2_ideaFunc_174 : decode cX2_ideaFunc 174 = .ok (.aload_n 1, 1) := dk_43 (dk_at dksX2_ideaFunc_7 8 rfl rfl)
theorem dX2_ideaFunc_175 : decode cX2_ideaFunc 175 = .ok (.iload 12, 2) := dk_21 12 (dk_at dksX2_ideaFunc_7 9 rfl rfl)
theorem dX2_ideaFunc_177 : decode cX2_ideaFunc 177 = .ok (.iinc 12 1, 3) := dk_132 12 1 (dk_at dksX2_ideaFunc_7 11 rfl rfl)
theorem dX2_ideaFunc_180 : decode cX2_ideaFunc 180 = .ok (.iaload, 1) := dk_46 (dk_at dksX2_ideaFunc_7 14 rfl rfl)
theorem dX2_ideaFunc_181 : decode cX2_ideaFunc 181 = .ok (.invokevirtual 60, 3) := dk_182 0 60 (dk_at dksX2_ideaFunc_7 15 rfl rfl)
theorem dX2_ideaFunc_184 : decode cX2_ideaFunc 184 = .ok (.istore 7, 2) := dk_54 7 (dk_at dksX2_ideaFunc_7 18 rfl rfl)
theorem dX2_ideaFunc_186 : decode cX2_ideaFunc 186 = .ok (.iload 8, 2) := dk_21 8 (dk_at dksX2_ideaFunc_7 20 rfl rfl)
theorem dX2_ideaFunc_188 : decode cX2_ideaFunc 188 = .ok (.iload 7, 2) := dk_21 7 (dk_at dksX2_ideaFunc_7 22 rfl rfl)
theorem dX2_ideaFunc_190 : decode cX2_ideaFunc 190 = .ok (.iadd, 1) := dk_96 (dk_at dksX2_ideaFunc_8 0 rfl rfl)
theorem dX2_ideaFunc_191 : decode cX2_ideaFunc 191 = .ok (.istore 8, 2) := dk_54 8 (dk_at dksX2_ideaFunc_8 1 rfl rfl)
theorem dX2_ideaFunc_193 : decode cX2_ideaFunc 193 = .ok (.iload 8, 2) := dk_21 8 (dk_at dksX2_ideaFunc_8 3 rfl rfl)
theorem dX2_ideaFunc_195 : decode cX2_ideaFunc 195 = .ok (.ldc 55, 2) := dk_18 55 (dk_at dksX2_ideaFunc_8 5 rfl rfl)
theorem dX2_ideaFunc_197 : decode cX2_ideaFunc 197 = .ok (.iand, 1) := dk_126 (dk_at dksX2_ideaFunc_8 7 rfl rfl)
theorem dX2_ideaFunc_198 : decode cX2_ideaFunc 198 = .ok (.istore 8, 2) := dk_54 8 (dk_at dksX2_ideaFunc_8 8 rfl rfl)
theorem dX2_ideaFunc_200 : decode cX2_ideaFunc 200 = .ok (.iload 6, 2) := dk_21 6 (dk_at dksX2_ideaFunc_8 10 rfl rfl)
theorem dX2_ideaFunc_202 : decode cX2_ideaFunc 202 = .ok (.iload 7, 2) := dk_21 7 (dk_at dksX2_ideaFunc_8 12 rfl rfl)
theorem dX2_ideaFunc_204 : decode cX2_ideaFunc 204 = .ok (.ixor, 1) := dk_130 (dk_at dksX2_ideaFunc_8 14 rfl rfl)
theorem dX2_ideaFunc_205 : decode cX2_ideaFunc 205 = .ok (.istore 6, 2) := dk_54 6 (dk_at dksX2_ideaFunc_8 15 rfl rfl)
theorem dX2_ideaFunc_207 : decode cX2_ideaFunc 207 = .ok (.iload 9, 2) := dk_21 9 (dk_at dksX2_ideaFunc_8 17 rfl rfl)
theorem dX2_ideaFunc_209 : decode cX2_ideaFunc 209 = .ok (.iload 8, 2) := dk_21 8 (dk_at dksX2_ideaFunc_8 19 rfl rfl)
theorem dX2_ideaFunc_211 : decode cX2_ideaFunc 211 = .ok (.ixor, 1) := dk_130 (dk_at dksX2_ideaFunc_8 21 rfl rfl)
theorem dX2_ideaFunc_212 : decode cX2_ideaFunc 212 = .ok (.istore 9, 2) := dk_54 9 (dk_at dksX2_ideaFunc_8 22 rfl rfl)
theorem dX2_ideaFunc_214 : decode cX2_ideaFunc 214 = .ok (.iload 7, 2) := dk_21 7 (dk_at dksX2_ideaFunc_9 0 rfl rfl)
theorem dX2_ideaFunc_216 : decode cX2_ideaFunc 216 = .ok (.iload 11, 2) := dk_21 11 (dk_at dksX2_ideaFunc_9 2 rfl rfl)
theorem dX2_ideaFunc_218 : decode cX2_ideaFunc 218 = .ok (.ixor, 1) := dk_130 (dk_at dksX2_ideaFunc_9 4 rfl rfl)
theorem dX2_ideaFunc_219 : decode cX2_ideaFunc 219 = .ok (.istore 7, 2) := dk_54 7 (dk_at dksX2_ideaFunc_9 5 rfl rfl)
theorem dX2_ideaFunc_221 : decode cX2_ideaFunc 221 = .ok (.iload 8, 2) := dk_21 8 (dk_at dksX2_ideaFunc_9 7 rfl rfl)
theorem dX2_ideaFunc_223 : decode cX2_ideaFunc 223 = .ok (.iload 10, 2) := dk_21 10 (dk_at dksX2_ideaFunc_9 9 rfl rfl)
theorem dX2_ideaFunc_225 : decode cX2_ideaFunc 225 = .ok (.ixor, 1) := dk_130 (dk_at dksX2_ideaFunc_9 11 rfl rfl)
theorem dX2_ideaFunc_226 : decode cX2_ideaFunc 226 = .ok (.istore 8, 2) := dk_54 8 (dk_at dksX2_ideaFunc_9 12 rfl rfl)
theorem dX2_ideaFunc_228 : decode cX2_ideaFunc 228 = .ok (.iinc 13 1, 3) := dk_132 13 1 (dk_at dksX2_ideaFunc_9 14 rfl rfl)
theorem dX2_ideaFunc_231 : decode cX2_ideaFunc 231 = .ok (.goto (-186), 3) := dk_167 255 70 (dk_at dksX2_ideaFunc_9 17 rfl rfl)
theorem dX2_ideaFunc_234 : decode cX2_ideaFunc 234 = .ok (.aload_n 0, 1) := dk_42 (dk_at dksX2_ideaFunc_9 20 rfl rfl)
theorem dX2_ideaFunc_235 : decode cX2_ideaFunc 235 = .ok (.aload_n 0, 1) := dk_42 (dk_at dksX2_ideaFunc_9 21 rfl rfl)
theorem dX2_ideaFunc_236 : decode cX2_ideaFunc 236 = .ok (.iload 6, 2) := dk_21 6 (dk_at dksX2_ideaFunc_9 22 rfl rfl)
theorem dX2_ideaFunc_238 : decode cX2_ideaFunc 238 = .ok (.aload_n 1, 1) := dk_43 (dk_at dksX2_ideaFunc_10 0 rfl rfl)
theorem dX2_ideaFunc_239 : decode cX2_ideaFunc 239 = .ok (.iload 12, 2) := dk_21 12 (dk_at dksX2_ideaFunc_10 1 rfl rfl)
theorem dX2_ideaFunc_241 : decode cX2_ideaFunc 241 = .ok (.iinc 12 1, 3) := dk_132 12 1 (dk_at dksX2_ideaFunc_10 3 rfl rfl)
theorem dX2_ideaFunc_244 : decode cX2_ideaFunc 244 = .ok (.iaload, 1) := dk_46 (dk_at dksX2_ideaFunc_10 6 rfl rfl)
theorem dX2_ideaFunc_245 : decode cX2_ideaFunc 245 = .ok (.invokevirtual 60, 3) := dk_182 0 60 (dk_at dksX2_ideaFunc_10 7 rfl rfl)
theorem dX2_ideaFunc_248 : decode cX2_ideaFunc 248 = .ok (.aload 4, 2) := dk_25 4 (dk_at dksX2_ideaFunc_10 10 rfl rfl)
theorem dX2_ideaFunc_250 : decode cX2_ideaFunc 250 = .ok (.iload 5, 2) := dk_21 5 (dk_at dksX2_ideaFunc_10 12 rfl rfl)
theorem dX2_ideaFunc_252 : decode cX2_ideaFunc 252 = .ok (.invokevirtual 64, 3) := dk_182 0 64 (dk_at dksX2_ideaFunc_10 14 rfl rfl)
theorem dX2_ideaFunc_255 : decode cX2_ideaFunc 255 = .ok (.aload_n 0, 1) := dk_42 (dk_at dksX2_ideaFunc_10 17 rfl rfl)
theorem dX2_ideaFunc_256 : decode cX2_ideaFunc 256 = .ok (.iload 8, 2) := dk_21 8 (dk_at dksX2_ideaFunc_10 18 rfl rfl)
theorem dX2_ideaFunc_258 : decode cX2_ideaFunc 258 = .ok (.aload_n 1, 1) := dk_43 (dk_at dksX2_ideaFunc_10 20 rfl rfl)
theorem dX2_ideaFunc_259 : decode cX2_ideaFunc 259 = .ok (.iload 12, 2) := dk_21 12 (dk_at dksX2_ideaFunc_10 21 rfl rfl)
theorem dX2_ideaFunc_261 : decode cX2_ideaFunc 261 = .ok (.iinc 12 1, 3) := dk_132 12 1 (dk_at dksX2_ideaFunc_11 0 rfl rfl)
theorem dX2_ideaFunc_264 : decode cX2_ideaFunc 264 = .ok (.iaload, 1) := dk_46 (dk_at dksX2_ideaFunc_11 3 rfl rfl)
theorem dX2_ideaFunc_265 : decode cX2_ideaFunc 265 = .ok (.iadd, 1) := dk_96 (dk_at dksX2_ideaFunc_11 4 rfl rfl)
theorem dX2_ideaFunc_266 : decode cX2_ideaFunc 266 = .ok (.aload 4, 2) := dk_25 4 (dk_at dksX2_ideaFunc_11 5 rfl rfl)
theorem dX2_ideaFunc_268 : decode cX2_ideaFunc 268 = .ok (.iload 5, 2) := dk_21 5 (dk_at dksX2_ideaFunc_11 7 rfl rfl)
theorem dX2_ideaFunc_270 : decode cX2_ideaFunc 270 = .ok (.iconst 2, 1) := dk_5 (dk_at dksX2_ideaFunc_11 9 rfl rfl)
theorem dX2_ideaFunc_271 : decode cX2_ideaFunc 271 = .ok (.iadd, 1) := dk_96 (dk_at dksX2_ideaFunc_11 10 rfl rfl)
theorem dX2_ideaFunc_272 : decode cX2_ideaFunc 272 = .ok (.invokevirtual 64, 3) := dk_182 0 64 (dk_at dksX2_ideaFunc_11 11 rfl rfl)
theorem dX2_ideaFunc_275 : decode cX2_ideaFunc 275 = .ok (.aload_n 0, 1) := dk_42 (dk_at dksX2_ideaFunc_11 14 rfl rfl)
theorem dX2_ideaFunc_276 : decode cX2_ideaFunc 276 = .ok (.iload 7, 2) := dk_21 7 (dk_at dksX2_ideaFunc_11 15 rfl rfl)
theorem dX2_ideaFunc_278 : decode cX2_ideaFunc 278 = .ok (.aload_n 1, 1) := dk_43 (dk_at dksX2_ideaFunc_11 17 rfl rfl)
theorem dX2_ideaFunc_279 : decode cX2_ideaFunc 279 = .ok (.iload 12, 2) := dk_21 12 (dk_at dksX2_ideaFunc_11 18 rfl rfl)
theorem dX2_ideaFunc_281 : decode cX2_ideaFunc 281 = .ok (.iinc 12 1, 3) := dk_132 12 1 (dk_at dksX2_ideaFunc_11 20 rfl rfl)
theorem dX2_ideaFunc_284 : decode cX2_ideaFunc 284 = .ok (.iaload, 1) := dk_46 (dk_at dksX2_ideaFunc_11 23 rfl rfl)
theorem dX2_ideaFunc_285 : decode cX2_ideaFunc 285 = .ok (.iadd, 1) := dk_96 (dk_at dksX2_ideaFunc_12 0 rfl rfl)
theorem dX2_ideaFunc_286 : decode cX2_ideaFunc 286 = .ok (.aload 4, 2) := dk_25 4 (dk_at dksX2_ideaFunc_12 1 rfl rfl)
theorem dX2_ideaFunc_288 : decode cX2_ideaFunc 288 = .ok (.iload 5, 2) := dk_21 5 (dk_at dksX2_ideaFunc_12 3 rfl rfl)
theorem dX2_ideaFunc_290 : decode cX2_ideaFunc 290 = .ok (.iconst 4, 1) := dk_7 (dk_at dksX2_ideaFunc_12 5 rfl rfl)
theorem dX2_ideaFunc_291 : decode cX2_ideaFunc 291 = .ok (.iadd, 1) := dk_96 (dk_at dksX2_ideaFunc_12 6 rfl rfl)
theorem dX2_ideaFunc_292 : decode cX2_ideaFunc 292 = .ok (.invokevirtual 64, 3) := dk_182 0 64 (dk_at dksX2_ideaFunc_12 7 rfl rfl)
theorem dX2_ideaFunc_295 : decode cX2_ideaFunc 295 = .ok (.aload_n 0, 1) := dk_42 (dk_at dksX2_ideaFunc_12 10 rfl rfl)
theorem dX2_ideaFunc_296 : decode cX2_ideaFunc 296 = .ok (.aload_n 0, 1) := dk_42 (dk_at dksX2_ideaFunc_12 11 rfl rfl)
theorem dX2_ideaFunc_297 : decode cX2_ideaFunc 297 = .ok (.iload 9, 2) := dk_21 9 (dk_at dksX2_ideaFunc_12 12 rfl rfl)
theorem dX2_ideaFunc_299 : decode cX2_ideaFunc 299 = .ok (.aload_n 1, 1) := dk_43 (dk_at dksX2_ideaFunc_12 14 rfl rfl)
theorem dX2_ideaFunc_300 : decode cX2_ideaFunc 300 = .ok (.iload 12, 2) := dk_21 12 (dk_at dksX2_ideaFunc_12 15 rfl rfl)
theorem dX2_ideaFunc_302 : decode cX2_ideaFunc 302 = .ok (.iaload, 1) := dk_46 (dk_at dksX2_ideaFunc_12 17 rfl rfl)
theorem dX2_ideaFunc_303 : decode cX2_ideaFunc 303 = .ok (.invokevirtual 60, 3) := dk_182 0 60 (dk_at dksX2_ideaFunc_12 18 rfl rfl)
theorem dX2_ideaFunc_306 : decode cX2_ideaFunc 306 = .ok (.aload 4, 2) := dk_25 4 (dk_at dksX2_ideaFunc_12 21 rfl rfl)
theorem dX2_ideaFunc_308 : decode cX2_ideaFunc 308 = .ok (.iload 5, 2) := dk_21 5 (dk_at dksX2_ideaFunc_13 0 rfl rfl)
theorem dX2_ideaFunc_310 : decode cX2_ideaFunc 310 = .ok (.bipush 6, 2) := dk_16 6 (dk_at dksX2_ideaFunc_13 2 rfl rfl)
theorem dX2_ideaFunc_312 : decode cX2_ideaFunc 312 = .ok (.iadd, 1) := dk_96 (dk_at dksX2_ideaFunc_13 4 rfl rfl)
theorem dX2_ideaFunc_313 : decode cX2_ideaFunc 313 = .ok (.invokevirtual 64, 3) := dk_182 0 64 (dk_at dksX2_ideaFunc_13 5 rfl rfl)
theorem dX2_ideaFunc_316 : decode cX2_ideaFunc 316 = .ok (.return_, 1) := dk_177 (dk_at dksX2_ideaFunc_13 8 rfl rfl)
abbrev cX2_mul : ByteArray := prog_4_method_6_code
def yX2_mul : MethodName := ⟨RX2, "mul", "(II)I"⟩
def dkwX2_mul_2 : List UInt8 := [167, 0, 4, 3, 96, 60, 27, 18, 55, 126, 172]
abbrev dktX2_mul_2 : List UInt8 := dkwX2_mul_2 ++ []
def dkwX2_mul_1 : List UInt8 := [27, 28, 104, 62, 29, 18, 55, 126, 61, 29, 16, 16, 124, 60, 28, 27, 100, 28, 27, 162, 0, 7, 4]
abbrev dktX2_mul_1 : List UInt8 := dkwX2_mul_1 ++ dktX2_mul_2
def dkwX2_mul_0 : List UInt8 := [27, 154, 0, 11, 18, 54, 28, 100, 60, 167, 0, 44, 28, 154, 0, 11, 18, 54, 27, 100, 60, 167, 0, 32]
abbrev dktX2_mul_0 : List UInt8 := dkwX2_mul_0 ++ dktX2_mul_1
theorem dksX2_mul_0 : cX2_mul.data.toList.drop 0 = dktX2_mul_0 := by decide +kernel
theorem dksX2_mul_1 : cX2_mul.data.toList.drop 24 = dktX2_mul_1 := dk_seg dksX2_mul_0 24 rfl rfl
theorem dksX2_mul_2 : cX2_mul.data.toList.drop 47 = dktX2_mul_2 := dk_seg dksX2_mul_1 23 rfl rfl
theorem dX2_mul_0 : decode cX2_mul 0 = .ok (.iload_n 1, 1) := dk_27 (dk_at dksX2_mul_0 0 rfl rfl)
theorem dX2_mul_1 : decode cX2_mul 1 = .ok (.ifCond .ne 11, 3) := dk_154 0 11 (dk_at dksX2_mul_0 1 rfl rfl)
theorem dX2_mul_4 : decode cX2_mul 4 = .ok (.ldc 54, 2) := dk_18 54 (dk_at dksX2_mul_0 4 rfl rfl)
theorem dX2_mul_6 : decode cX2_mul 6 = .ok (.iload_n 2, 1) := dk_28 (dk_at dksX2_mul_0 6 rfl rfl)
theorem dX2_mul_7 : decode cX2_mul 7 = .ok (.isub, 1) := dk_100 (dk_at dksX2_mul_0 7 rfl rfl)
theorem dX2_mul_8 : decode cX2_mul 8 = .ok (.istore_n 1, 1) := dk_60 (dk_at dksX2_mul_0 8 rfl rfl)
theorem dX2_mul_9 : decode cX2_mul 9 = .ok (.goto 44, 3) := dk_167 0 44 (dk_at dksX2_mul_0 9 rfl rfl)
theorem dX2_mul_12 : decode cX2_mul 12 = .ok (.iload_n 2, 1) := dk_28 (dk_at dksX2_mul_0 12 rfl rfl)
theorem dX2_mul_13 : decode cX2_mul 13 = .ok (.ifCond .ne 11, 3) := dk_154 0 11 (dk_at dksX2_mul_0 13 rfl rfl)
theorem dX2_mul_16 : decode cX2_mul 16 = .ok (.ldc 54, 2) := dk_18 54 (dk_at dksX2_mul_0 16 rfl rfl)
theorem dX2_mul_18 : decode cX2_mul 18 = .ok (.iload_n 1, 1) := dk_27 (dk_at dksX2_mul_0 18 rfl rfl)
theorem dX2_mul_19 : decode cX2_mul 19 = .ok (.isub, 1) := dk_100 (dk_at dksX2_mul_0 19 rfl rfl)
theorem dX2_mul_20 : decode cX2_mul 20 = .ok (.istore_n 1, 1) := dk_60 (dk_at dksX2_mul_0 20 rfl rfl)
theorem dX2_mul_21 : decode cX2_mul 21 = .ok (.goto 32, 3) := dk_167 0 32 (dk_at dksX2_mul_0 21 rfl rfl)
theorem dX2_mul_24 : decode cX2_mul 24 = .ok (.iload_n 1, 1) := dk_27 (dk_at dksX2_mul_1 0 rfl rfl)
theorem dX2_mul_25 : decode cX2_mul 25 = .ok (.iload_n 2, 1) := dk_28 (dk_at dksX2_mul_1 1 rfl rfl)
theorem dX2_mul_26 : decode cX2_mul 26 = .ok (.imul, 1) := dk_104 (dk_at dksX2_mul_1 2 rfl rfl)
theorem dX2_mul_27 : decode cX2_mul 27 = .ok (.istore_n 3, 1) := dk_62 (dk_at dksX2_mul_1 3 rfl rfl)
theorem dX2_mul_28 : decode cX2_mul 28 = .ok (.iload_n 3, 1) := dk_29 (dk_at dksX2_mul_1 4 rfl rfl)
theorem dX2_mul_29 : decode cX2_mul 29 = .ok (.ldc 55, 2) := dk_18 55 (dk_at dksX2_mul_1 5 rfl rfl)
theorem dX2_mul_31 : decode cX2_mul 31 = .ok (.iand, 1) := dk_126 (dk_at dksX2_mul_1 7 rfl rfl)
theorem dX2_mul_32 : decode cX2_mul 32 = .ok (.istore_n 2, 1) := dk_61 (dk_at dksX2_mul_1 8 rfl rfl)
theorem dX2_mul_33 : decode cX2_mul 33 = .ok (.iload_n 3, 1) := dk_29 (dk_at dksX2_mul_1 9 rfl rfl)
theorem dX2_mul_34 : decode cX2_mul 34 = .ok (.bipush 16, 2) := dk_16 16 (dk_at dksX2_mul_1 10 rfl rfl)
theorem dX2_mul_36 : decode cX2_mul 36 = .ok (.iushr, 1) := dk_124 (dk_at dksX2_mul_1 12 rfl rfl)
theorem dX2_mul_37 : decode cX2_mul 37 = .ok (.istore_n 1, 1) := dk_60 (dk_at dksX2_mul_1 13 rfl rfl)
theorem dX2_mul_38 : decode cX2_mul 38 = .ok (.iload_n 2, 1) := dk_28 (dk_at dksX2_mul_1 14 rfl rfl)
theorem dX2_mul_39 : decode cX2_mul 39 = .ok (.iload_n 1, 1) := dk_27 (dk_at dksX2_mul_1 15 rfl rfl)
theorem dX2_mul_40 : decode cX2_mul 40 = .ok (.isub, 1) := dk_100 (dk_at dksX2_mul_1 16 rfl rfl)
theorem dX2_mul_41 : decode cX2_mul 41 = .ok (.iload_n 2, 1) := dk_28 (dk_at dksX2_mul_1 17 rfl rfl)
theorem dX2_mul_42 : decode cX2_mul 42 = .ok (.iload_n 1, 1) := dk_27 (dk_at dksX2_mul_1 18 rfl rfl)
theorem dX2_mul_43 : decode cX2_mul 43 = .ok (.if_icmp .ge 7, 3) := dk_162 0 7 (dk_at dksX2_mul_1 19 rfl rfl)
theorem dX2_mul_46 : decode cX2_mul 46 = .ok (.iconst 1, 1) := dk_4 (dk_at dksX2_mul_1 22 rfl rfl)
theorem dX2_mul_47 : decode cX2_mul 47 = .ok (.goto 4, 3) := dk_167 0 4 (dk_at dksX2_mul_2 0 rfl rfl)
theorem dX2_mul_50 : decode cX2_mul 50 = .ok (.iconst 0, 1) := dk_3 (dk_at dksX2_mul_2 3 rfl rfl)
theorem dX2_mul_51 : decode cX2_mul 51 = .ok (.iadd, 1) := dk_96 (dk_at dksX2_mul_2 4 rfl rfl)
theorem dX2_mul_52 : decode cX2_mul 52 = .ok (.istore_n 1, 1) := dk_60 (dk_at dksX2_mul_2 5 rfl rfl)
theorem dX2_mul_53 : decode cX2_mul 53 = .ok (.iload_n 1, 1) := dk_27 (dk_at dksX2_mul_2 6 rfl rfl)
theorem dX2_mul_54 : decode cX2_mul 54 = .ok (.ldc 55, 2) := dk_18 55 (dk_at dksX2_mul_2 7 rfl rfl)
theorem dX2_mul_56 : decode cX2_mul 56 = .ok (.iand, 1) := dk_126 (dk_at dksX2_mul_2 9 rfl rfl)
theorem dX2_mul_57 : decode cX2_mul 57 = .ok (.ireturn, 1) := dk_172 (dk_at dksX2_mul_2 10 rfl rfl)
abbrev cX2_wordToBytes : ByteArray := prog_4_method_5_code
def yX2_wordToBytes : MethodName := ⟨RX2, "wordToBytes", "(I[BI)V"⟩
def dkwX2_wordToBytes_0 : List UInt8 := [44, 29, 27, 16, 8, 124, 145, 84, 44, 29, 4, 96, 27, 145, 84, 177]
abbrev dktX2_wordToBytes_0 : List UInt8 := dkwX2_wordToBytes_0 ++ []
theorem dksX2_wordToBytes_0 : cX2_wordToBytes.data.toList.drop 0 = dktX2_wordToBytes_0 := by decide +kernel
theorem dX2_wordToBytes_0 : decode cX2_wordToBytes 0 = .ok (.aload_n 2, 1) := dk_44 (dk_at dksX2_wordToBytes_0 0 rfl rfl)
theorem dX2_wordToBytes_1 : decode cX2_wordToBytes 1 = .ok (.iload_n 3, 1) := dk_29 (dk_at dksX2_wordToBytes_0 1 rfl rfl)
theorem dX2_wordToBytes_2 : decode cX2_wordToBytes 2 = .ok (.iload_n 1, 1) := dk_27 (dk_at dksX2_wordToBytes_0 2 rfl rfl)
theorem dX2_wordToBytes_3 : decode cX2_wordToBytes 3 = .ok (.bipush 8, 2) := dk_16 8 (dk_at dksX2_wordToBytes_0 3 rfl rfl)
theorem dX2_wordToBytes_5 : decode cX2_wordToBytes 5 = .ok (.iushr, 1) := dk_124 (dk_at dksX2_wordToBytes_0 5 rfl rfl)
theorem dX2_wordToBytes_6 : decode cX2_wordToBytes 6 = .ok (.i2b, 1) := dk_145 (dk_at dksX2_wordToBytes_0 6 rfl rfl)
theorem dX2_wordToBytes_7 : decode cX2_wordToBytes 7 = .ok (.bastore, 1) := dk_84 (dk_at dksX2_wordToBytes_0 7 rfl rfl)
theorem dX2_wordToBytes_8 : decode cX2_wordToBytes 8 = .ok (.aload_n 2, 1) := dk_44 (dk_at dksX2_wordToBytes_0 8 rfl rfl)
theorem dX2_wordToBytes_9 : decode cX2_wordToBytes 9 = .ok (.iload_n 3, 1) := dk_29 (dk_at dksX2_wordToBytes_0 9 rfl rfl)
theorem dX2_wordToBytes_10 : decode cX2_wordToBytes 10 = .ok (.iconst 1, 1) := dk_4 (dk_at dksX2_wordToBytes_0 10 rfl rfl)
theorem dX2_wordToBytes_11 : decode cX2_wordToBytes 11 = .ok (.iadd, 1) := dk_96 (dk_at dksX2_wordToBytes_0 11 rfl rfl)
theorem dX2_wordToBytes_12 : decode cX2_wordToBytes 12 = .ok (.iload_n 1, 1) := dk_27 (dk_at dksX2_wordToBytes_0 12 rfl rfl)
theorem dX2_wordToBytes_13 : decode cX2_wordToBytes 13 = .ok (.i2b, 1) := dk_145 (dk_at dksX2_wordToBytes_0 13 rfl rfl)
theorem dX2_wordToBytes_14 : decode cX2_wordToBytes 14 = .ok (.bastore, 1) := dk_84 (dk_at dksX2_wordToBytes_0 14 rfl rfl)
theorem dX2_wordToBytes_15 : decode cX2_wordToBytes 15 = .ok (.return_, 1) := dk_177 (dk_at dksX2_wordToBytes_0 15 rfl rfl)
theorem q12 : (Jvm.Cond.initialized "IDEAEngine") ∈ lw_all := lw_g (lw_at lw_m1 2 rfl) rfl
theorem q36 : (Jvm.Cond.instantiable "IDEAEngine" (2 : Nat)) ∈ lw_all := lw_g (lw_at lw_m1 26 rfl) rfl
theorem q38 : (Jvm.Cond.instanceMethod ({ cls := "IDEAEngine", name := "<init>", desc := "()V" } : Jvm.MethodName)) ∈ lw_all := lw_g (lw_at lw_m1 28 rfl) rfl
theorem q39 : (Jvm.Cond.code ({ cls := "IDEAEngine", name := "<init>", desc := "()V" } : Jvm.MethodName) prog_4_method_1_code (1 : Nat) (Option.none : Option Jvm.ClassFile.FieldType)) ∈ lw_all := lw_g (lw_at lw_m1 29 rfl) rfl
theorem q40 : (Jvm.Cond.methodLink "IDEAEngine" (1 : Nat) ({ cls := "java/lang/Object", name := "<init>", desc := "()V" } : Jvm.MethodName)) ∈ lw_all := lw_g (lw_at lw_m1 30 rfl) rfl
theorem q43 : (Jvm.Cond.fieldLink "IDEAEngine" (7 : Nat) "IDEAEngine" "workingKey" "[I") ∈ lw_all := lw_g (lw_at lw_m1 33 rfl) rfl
theorem q44 : (Jvm.Cond.fieldLink "IDEAEngine" (23 : Nat) "IDEAEngine" "forEncryption" "Z") ∈ lw_all := lw_g (lw_at lw_m1 34 rfl) rfl
theorem q45 : (Jvm.Cond.lays "IDEAEngine" "IDEAEngine" "workingKey" "[I") ∈ lw_all := lw_g (lw_at lw_m1 35 rfl) rfl
theorem q46 : (Jvm.Cond.soleField "IDEAEngine" "workingKey") ∈ lw_all := lw_g (lw_at lw_m1 36 rfl) rfl
theorem q47 : (Jvm.Cond.lays "IDEAEngine" "IDEAEngine" "forEncryption" "Z") ∈ lw_all := lw_g (lw_at lw_m1 37 rfl) rfl
theorem q48 : (Jvm.Cond.soleField "IDEAEngine" "forEncryption") ∈ lw_all := lw_g (lw_at lw_m1 38 rfl) rfl
theorem q49 : (Jvm.Cond.superclass "IDEAEngine" "java/lang/Object") ∈ lw_all := lw_g (lw_at lw_m1 39 rfl) rfl
theorem q74 : (Jvm.Cond.castable "IDEAEngine" "BlockCipher") ∈ lw_tbl := lw_at lw_m1 64 rfl
theorem q75 : (Jvm.Cond.selects "IDEAEngine" ({ cls := "BlockCipher", name := "init", desc := "(ZLCipherParameters;)V" } : Jvm.MethodName) ({ cls := "IDEAEngine", name := "init", desc := "(ZLCipherParameters;)V" } : Jvm.MethodName)) ∈ lw_all := lw_g (lw_at lw_m1 65 rfl) rfl
theorem q76 : (Jvm.Cond.unhidden "IDEAEngine" "init" "(ZLCipherParameters;)V") ∈ lw_tbl := lw_at lw_m1 66 rfl
theorem q77 : (Jvm.Cond.instanceMethod ({ cls := "IDEAEngine", name := "init", desc := "(ZLCipherParameters;)V" } : Jvm.MethodName)) ∈ lw_all := lw_g (lw_at lw_m1 67 rfl) rfl
theorem q78 : (Jvm.Cond.publicMethod ({ cls := "IDEAEngine", name := "init", desc := "(ZLCipherParameters;)V" } : Jvm.MethodName)) ∈ lw_tbl := lw_at lw_m1 68 rfl
theorem q79 : (Jvm.Cond.code ({ cls := "IDEAEngine", name := "init", desc := "(ZLCipherParameters;)V" } : Jvm.MethodName) prog_4_method_2_code (4 : Nat) (Option.none : Option Jvm.ClassFile.FieldType)) ∈ lw_all := lw_g (lw_at lw_m1 69 rfl) rfl
theorem q80 : (Jvm.Cond.classLink "IDEAEngine" (13 : Nat) "KeyParameter") ∈ lw_all := lw_g (lw_at lw_m1 70 rfl) rfl
theorem q81 : (Jvm.Cond.methodLink "IDEAEngine" (15 : Nat) ({ cls := "KeyParameter", name := "getKey", desc := "()[B" } : Jvm.MethodName)) ∈ lw_all := lw_g (lw_at lw_m1 71 rfl) rfl
theorem q85 : (Jvm.Cond.methodLink "IDEAEngine" (19 : Nat) ({ cls := "IDEAEngine", name := "generateWorkingKey", desc := "(Z[B)[I" } : Jvm.MethodName)) ∈ lw_all := lw_g (lw_at lw_m1 75 rfl) rfl
theorem q86 : (Jvm.Cond.privateMethod ({ cls := "IDEAEngine", name := "generateWorkingKey", desc := "(Z[B)[I" } : Jvm.MethodName)) ∈ lw_tbl := lw_at lw_m1 76 rfl
theorem q87 : (Jvm.Cond.instanceMethod ({ cls := "IDEAEngine", name := "generateWorkingKey", desc := "(Z[B)[I" } : Jvm.MethodName)) ∈ lw_all := lw_g (lw_at lw_m1 77 rfl) rfl
theorem q88 : (Jvm.Cond.code ({ cls := "IDEAEngine", name := "generateWorkingKey", desc := "(Z[B)[I" } : Jvm.MethodName) prog_4_method_12_code (3 : Nat) (Option.some (Jvm.ClassFile.FieldType.array Jvm.ClassFile.FieldType.int))) ∈ lw_all := lw_g (lw_at lw_m1 78 rfl) rfl
theorem q89 : (Jvm.Cond.methodLink "IDEAEngine" (81 : Nat) ({ cls := "IDEAEngine", name := "expandKey", desc := "([B)[I" } : Jvm.MethodName)) ∈ lw_all := lw_g (lw_at lw_m1 79 rfl) rfl
theorem q90 : (Jvm.Cond.privateMethod ({ cls := "IDEAEngine", name := "expandKey", desc := "([B)[I" } : Jvm.MethodName)) ∈ lw_tbl := lw_at lw_m1 80 rfl
theorem q91 : (Jvm.Cond.instanceMethod ({ cls := "IDEAEngine", name := "expandKey", desc := "([B)[I" } : Jvm.MethodName)) ∈ lw_all := lw_g (lw_at lw_m1 81 rfl) rfl
theorem q92 : (Jvm.Cond.code ({ cls := "IDEAEngine", name := "expandKey", desc := "([B)[I" } : Jvm.MethodName) prog_4_method_8_code (4 : Nat) (Option.some (Jvm.ClassFile.FieldType.array Jvm.ClassFile.FieldType.int))) ∈ lw_all := lw_g (lw_at lw_m1 82 rfl) rfl
theorem q93 : (Jvm.Cond.methodLink "IDEAEngine" (68 : Nat) ({ cls := "java/lang/System", name := "arraycopy", desc := "(Ljava/lang/Object;ILjava/lang/Object;II)V" } : Jvm.MethodName)) ∈ lw_all := lw_g (lw_at lw_m1 83 rfl) rfl
theorem q94 : (Jvm.Cond.methodLink "IDEAEngine" (56 : Nat) ({ cls := "IDEAEngine", name := "bytesToWord", desc := "([BI)I" } : Jvm.MethodName)) ∈ lw_all := lw_g (lw_at lw_m1 84 rfl) rfl
theorem q95 : (Jvm.Cond.privateMethod ({ cls := "IDEAEngine", name := "bytesToWord", desc := "([BI)I" } : Jvm.MethodName)) ∈ lw_tbl := lw_at lw_m1 85 rfl
theorem q96 : (Jvm.Cond.instanceMethod ({ cls := "IDEAEngine", name := "bytesToWord", desc := "([BI)I" } : Jvm.MethodName)) ∈ lw_all := lw_g (lw_at lw_m1 86 rfl) rfl
theorem q97 : (Jvm.Cond.code ({ cls := "IDEAEngine", name := "bytesToWord", desc := "([BI)I" } : Jvm.MethodName) prog_4_method_4_code (3 : Nat) (Option.some Jvm.ClassFile.FieldType.int)) ∈ lw_all := lw_g (lw_at lw_m1 87 rfl) rfl
theorem q98 : (Jvm.Cond.constant "IDEAEngine" (53 : Nat) (65280 : Int32)) ∈ lw_all := lw_g (lw_at lw_m1 88 rfl) rfl
theorem q99 : (Jvm.Cond.constant "IDEAEngine" (55 : Nat) (65535 : Int32)) ∈ lw_all := lw_g (lw_at lw_m1 89 rfl) rfl
theorem q100 : (Jvm.Cond.methodLink "IDEAEngine" (85 : Nat) ({ cls := "IDEAEngine", name := "invertKey", desc := "([I)[I" } : Jvm.MethodName)) ∈ lw_all := lw_g (lw_at lw_m1 90 rfl) rfl
theorem q101 : (Jvm.Cond.privateMethod ({ cls := "IDEAEngine", name := "invertKey", desc := "([I)[I" } : Jvm.MethodName)) ∈ lw_tbl := lw_at lw_m1 91 rfl
theorem q102 : (Jvm.Cond.instanceMethod ({ cls := "IDEAEngine", name := "invertKey", desc := "([I)[I" } : Jvm.MethodName)) ∈ lw_all := lw_g (lw_at lw_m1 92 rfl) rfl
theorem q103 : (Jvm.Cond.code ({ cls := "IDEAEngine", name := "invertKey", desc := "([I)[I" } : Jvm.MethodName) prog_4_method_11_code (10 : Nat) (Option.some (Jvm.ClassFile.FieldType.array Jvm.ClassFile.FieldType.int))) ∈ lw_all := lw_g (lw_at lw_m1 93 rfl) rfl
theorem q104 : (Jvm.Cond.methodLink "IDEAEngine" (74 : Nat) ({ cls := "IDEAEngine", name := "mulInv", desc := "(I)I" } : Jvm.MethodName)) ∈ lw_all := lw_g (lw_at lw_m1 94 rfl) rfl
theorem q105 : (Jvm.Cond.privateMethod ({ cls := "IDEAEngine", name := "mulInv", desc := "(I)I" } : Jvm.MethodName)) ∈ lw_tbl := lw_at lw_m1 95 rfl
theorem q106 : (Jvm.Cond.instanceMethod ({ cls := "IDEAEngine", name := "mulInv", desc := "(I)I" } : Jvm.MethodName)) ∈ lw_all := lw_g (lw_at lw_m1 96 rfl) rfl
theorem q107 : (Jvm.Cond.code ({ cls := "IDEAEngine", name := "mulInv", desc := "(I)I" } : Jvm.MethodName) prog_4_method_9_code (6 : Nat) (Option.some Jvm.ClassFile.FieldType.int)) ∈ lw_all := lw_g (lw_at lw_m1 97 rfl) rfl
theorem q108 : (Jvm.Cond.constant "IDEAEngine" (54 : Nat) (65537 : Int32)) ∈ lw_all := lw_g (lw_at lw_m1 98 rfl) rfl
theorem q109 : (Jvm.Cond.methodLink "IDEAEngine" (78 : Nat) ({ cls := "IDEAEngine", name := "addInv", desc := "(I)I" } : Jvm.MethodName)) ∈ lw_all := lw_g (lw_at lw_m1 99 rfl) rfl
theorem q110 : (Jvm.Cond.instanceMethod ({ cls := "IDEAEngine", name := "addInv", desc := "(I)I" } : Jvm.MethodName)) ∈ lw_all := lw_g (lw_at lw_m1 100 rfl) rfl
theorem q111 : (Jvm.Cond.selects "IDEAEngine" ({ cls := "IDEAEngine", name := "addInv", desc := "(I)I" } : Jvm.MethodName) ({ cls := "IDEAEngine", name := "addInv", desc := "(I)I" } : Jvm.MethodName)) ∈ lw_all := lw_g (lw_at lw_m1 101 rfl) rfl
theorem q112 : (Jvm.Cond.code ({ cls := "IDEAEngine", name := "addInv", desc := "(I)I" } : Jvm.MethodName) prog_4_method_10_code (2 : Nat) (Option.some Jvm.ClassFile.FieldType.int)) ∈ lw_all := lw_g (lw_at lw_m1 102 rfl) rfl
theorem q113 : (Jvm.Cond.classLink "IDEAEngine" (27 : Nat) "java/lang/IllegalArgumentException") ∈ lw_all := lw_g (lw_at lw_m1 103 rfl) rfl
theorem q155 : (Jvm.Cond.stringRef "IDEAEngine" (29 : Nat) "left out") ∈ lw_tbl := lw_at lw_m1 145 rfl
theorem q156 : (Jvm.Cond.methodLink "IDEAEngine" (31 : Nat) ({ cls := "java/lang/IllegalArgumentException", name := "<init>", desc := "(Ljava/lang/String;)V" } : Jvm.MethodName)) ∈ lw_all := lw_g (lw_at lw_m1 146 rfl) rfl
theorem q186 : (Jvm.Cond.selects "IDEAEngine" ({ cls := "BlockCipher", name := "processBlock", desc := "([BI[BI)I" } : Jvm.MethodName) ({ cls := "IDEAEngine", name := "processBlock", desc := "([BI[BI)I" } : Jvm.MethodName)) ∈ lw_all := lw_g (lw_at lw_m1 176 rfl) rfl
theorem q187 : (Jvm.Cond.unhidden "IDEAEngine" "processBlock" "([BI[BI)I") ∈ lw_tbl := lw_at lw_m1 177 rfl
theorem q188 : (Jvm.Cond.instanceMethod ({ cls := "IDEAEngine", name := "processBlock", desc := "([BI[BI)I" } : Jvm.MethodName)) ∈ lw_all := lw_g (lw_at lw_m1 178 rfl) rfl
theorem q189 : (Jvm.Cond.publicMethod ({ cls := "IDEAEngine", name := "processBlock", desc := "([BI[BI)I" } : Jvm.MethodName)) ∈ lw_tbl := lw_at lw_m1 179 rfl
theorem q190 : (Jvm.Cond.code ({ cls := "IDEAEngine", name := "processBlock", desc := "([BI[BI)I" } : Jvm.MethodName) prog_4_method_3_code (5 : Nat) (Option.some Jvm.ClassFile.FieldType.int)) ∈ lw_all := lw_g (lw_at lw_m1 180 rfl) rfl
theorem q191 : (Jvm.Cond.classLink "IDEAEngine" (34 : Nat) "java/lang/IllegalStateException") ∈ lw_all := lw_g (lw_at lw_m1 181 rfl) rfl
theorem q200 : (Jvm.Cond.stringRef "IDEAEngine" (36 : Nat) "IDEA engine not initialised") ∈ lw_tbl := lw_at lw_m1 190 rfl
theorem q201 : (Jvm.Cond.methodLink "IDEAEngine" (38 : Nat) ({ cls := "java/lang/IllegalStateException", name := "<init>", desc := "(Ljava/lang/String;)V" } : Jvm.MethodName)) ∈ lw_all := lw_g (lw_at lw_m1 191 rfl) rfl
theorem q207 : (Jvm.Cond.classLink "IDEAEngine" (39 : Nat) "DataLengthException") ∈ lw_all := lw_g (lw_at lw_m1 197 rfl) rfl
theorem q217 : (Jvm.Cond.stringRef "IDEAEngine" (41 : Nat) "input buffer too short") ∈ lw_tbl := lw_at lw_m1 207 rfl
theorem q218 : (Jvm.Cond.methodLink "IDEAEngine" (43 : Nat) ({ cls := "DataLengthException", name := "<init>", desc := "(Ljava/lang/String;)V" } : Jvm.MethodName)) ∈ lw_all := lw_g (lw_at lw_m1 208 rfl) rfl
theorem q227 : (Jvm.Cond.classLink "IDEAEngine" (44 : Nat) "OutputLengthException") ∈ lw_all := lw_g (lw_at lw_m1 217 rfl) rfl
theorem q237 : (Jvm.Cond.stringRef "IDEAEngine" (46 : Nat) "output buffer too short") ∈ lw_tbl := lw_at lw_m1 227 rfl
theorem q238 : (Jvm.Cond.methodLink "IDEAEngine" (48 : Nat) ({ cls := "OutputLengthException", name := "<init>", desc := "(Ljava/lang/String;)V" } : Jvm.MethodName)) ∈ lw_all := lw_g (lw_at lw_m1 228 rfl) rfl
theorem q244 : (Jvm.Cond.methodLink "IDEAEngine" (49 : Nat) ({ cls := "IDEAEngine", name := "ideaFunc", desc := "([I[BI[BI)V" } : Jvm.MethodName)) ∈ lw_all := lw_g (lw_at lw_m1 234 rfl) rfl
theorem q245 : (Jvm.Cond.privateMethod ({ cls := "IDEAEngine", name := "ideaFunc", desc := "([I[BI[BI)V" } : Jvm.MethodName)) ∈ lw_tbl := lw_at lw_m1 235 rfl
theorem q246 : (Jvm.Cond.instanceMethod ({ cls := "IDEAEngine", name := "ideaFunc", desc := "([I[BI[BI)V" } : Jvm.MethodName)) ∈ lw_all := lw_g (lw_at lw_m1 236 rfl) rfl
theorem q247 : (Jvm.Cond.code ({ cls := "IDEAEngine", name := "ideaFunc", desc := "([I[BI[BI)V" } : Jvm.MethodName) prog_4_method_7_code (14 : Nat) (Option.none : Option Jvm.ClassFile.FieldType)) ∈ lw_all := lw_g (lw_at lw_m1 237 rfl) rfl
theorem q248 : (Jvm.Cond.methodLink "IDEAEngine" (60 : Nat) ({ cls := "IDEAEngine", name := "mul", desc := "(II)I" } : Jvm.MethodName)) ∈ lw_all := lw_g (lw_at lw_m1 238 rfl) rfl
theorem q249 : (Jvm.Cond.privateMethod ({ cls := "IDEAEngine", name := "mul", desc := "(II)I" } : Jvm.MethodName)) ∈ lw_tbl := lw_at lw_m1 239 rfl
theorem q250 : (Jvm.Cond.instanceMethod ({ cls := "IDEAEngine", name := "mul", desc := "(II)I" } : Jvm.MethodName)) ∈ lw_all := lw_g (lw_at lw_m2 0 rfl) rfl
theorem q251 : (Jvm.Cond.code ({ cls := "IDEAEngine", name := "mul", desc := "(II)I" } : Jvm.MethodName) prog_4_method_6_code (4 : Nat) (Option.some Jvm.ClassFile.FieldType.int)) ∈ lw_all := lw_g (lw_at lw_m2 1 rfl) rfl
theorem q252 : (Jvm.Cond.methodLink "IDEAEngine" (64 : Nat) ({ cls := "IDEAEngine", name := "wordToBytes", desc := "(I[BI)V" } : Jvm.MethodName)) ∈ lw_all := lw_g (lw_at lw_m2 2 rfl) rfl
theorem q253 : (Jvm.Cond.privateMethod ({ cls := "IDEAEngine", name := "wordToBytes", desc := "(I[BI)V" } : Jvm.MethodName)) ∈ lw_tbl := lw_at lw_m2 3 rfl
theorem q254 : (Jvm.Cond.instanceMethod ({ cls := "IDEAEngine", name := "wordToBytes", desc := "(I[BI)V" } : Jvm.MethodName)) ∈ lw_all := lw_g (lw_at lw_m2 4 rfl) rfl
theorem q255 : (Jvm.Cond.code ({ cls := "IDEAEngine", name := "wordToBytes", desc := "(I[BI)V" } : Jvm.MethodName) prog_4_method_5_code (4 : Nat) (Option.none : Option Jvm.ClassFile.FieldType)) ∈ lw_all := lw_g (lw_at lw_m2 5 rfl) rfl
theorem in_X2 : ∀ w ∈ wsX20, w ∈ lw_all := lw_in wsX20 [45, 47] (by decide +kernel) (by decide +kernel)
/-! KeyParameter -/
set_option maxRecDepth 100000
def RX3 : String := "KeyParameter"
def TX3 : u_T := fun k => match k with
  | _ => ("KeyParameter", "key", "[B", false)
def tyX3 : Nat → FieldType := fun k => match k with
  | _ => .array .byte
abbrev wsX30 : List Cond := u_ws RX3 TX3 1
theorem nmX3 : ∀ a, a < 1 → ∀ b, b < 1 → a ≠ b → (TX3 a).2.1 ≠ (TX3 b).2.1 := by decide +kernel
theorem tyX3_ok : ∀ k, k < 1 → parseFieldDescriptor (TX3 k).2.2.1 = some (tyX3 k) := by decide +kernel
abbrev cX3_init : ByteArray := prog_7_method_1_code
def yX3_init : MethodName := ⟨RX3, "<init>", "([B)V"⟩
def dkwX3_init_0 : List UInt8 := [42, 43, 3, 43, 190, 183, 0, 1, 177]
abbrev dktX3_init_0 : List UInt8 := dkwX3_init_0 ++ []
theorem dksX3_init_0 : cX3_init.data.toList.drop 0 = dktX3_init_0 := by decide +kernel
theorem dX3_init_0 : decode cX3_init 0 = .ok (.aload_n 0, 1) := dk_42 (dk_at dksX3_init_0 0 rfl rfl)
theorem dX3_init_1 : decode cX3_init 1 = .ok (.aload_n 1, 1) := dk_43 (dk_at dksX3_init_0 1 rfl rfl)
theorem dX3_init_2 : decode cX3_init 2 = .ok (.iconst 0, 1) := dk_3 (dk_at dksX3_init_0 2 rfl rfl)
theorem dX3_init_3 : decode cX3_init 3 = .ok (.aload_n 1, 1) := dk_43 (dk_at dksX3_init_0 3 rfl rfl)
theorem dX3_init_4 : decode cX3_init 4 = .ok (.arraylength, 1) := dk_190 (dk_at dksX3_init_0 4 rfl rfl)
theorem dX3_init_5 : decode cX3_init 5 = .ok (.invokespecial 1, 3) := dk_183 0 1 (dk_at dksX3_init_0 5 rfl rfl)
theorem dX3_init_8 : decode cX3_init 8 = .ok (.return_, 1) := dk_177 (dk_at dksX3_init_0 8 rfl rfl)
abbrev cX3_init_2 : ByteArray := prog_7_method_2_code
def yX3_init_2 : MethodName := ⟨RX3, "<init>", "([BII)V"⟩
def dkwX3_init_2_0 : List UInt8 := [42, 29, 183, 0, 7, 43, 28, 42, 180, 0, 10, 3, 29, 184, 0, 14, 177]
abbrev dktX3_init_2_0 : List UInt8 := dkwX3_init_2_0 ++ []
theorem dksX3_init_2_0 : cX3_init_2.data.toList.drop 0 = dktX3_init_2_0 := by decide +kernel
theorem dX3_init_2_0 : decode cX3_init_2 0 = .ok (.aload_n 0, 1) := dk_42 (dk_at dksX3_init_2_0 0 rfl rfl)
theorem dX3_init_2_1 : decode cX3_init_2 1 = .ok (.iload_n 3, 1) := dk_29 (dk_at dksX3_init_2_0 1 rfl rfl)
theorem dX3_init_2_2 : decode cX3_init_2 2 = .ok (.invokespecial 7, 3) := dk_183 0 7 (dk_at dksX3_init_2_0 2 rfl rfl)
theorem dX3_init_2_5 : decode cX3_init_2 5 = .ok (.aload_n 1, 1) := dk_43 (dk_at dksX3_init_2_0 5 rfl rfl)
theorem dX3_init_2_6 : decode cX3_init_2 6 = .ok (.iload_n 2, 1) := dk_28 (dk_at dksX3_init_2_0 6 rfl rfl)
theorem dX3_init_2_7 : decode cX3_init_2 7 = .ok (.aload_n 0, 1) := dk_42 (dk_at dksX3_init_2_0 7 rfl rfl)
theorem dX3_init_2_8 : decode cX3_init_2 8 = .ok (.getfield 10, 3) := dk_180 0 10 (dk_at dksX3_init_2_0 8 rfl rfl)
theorem dX3_init_2_11 : decode cX3_init_2 11 = .ok (.iconst 0, 1) := dk_3 (dk_at dksX3_init_2_0 11 rfl rfl)
theorem dX3_init_2_12 : decode cX3_init_2 12 = .ok (.iload_n 3, 1) := dk_29 (dk_at dksX3_init_2_0 12 rfl rfl)
theorem dX3_init_2_13 : decode cX3_init_2 13 = .ok (.invokestatic 14, 3) := dk_184 0 14 (dk_at dksX3_init_2_0 13 rfl rfl)
theorem dX3_init_2_16 : decode cX3_init_2 16 = .ok (.return_, 1) := dk_177 (dk_at dksX3_init_2_0 16 rfl rfl)
abbrev cX3_init_3 : ByteArray := prog_7_method_3_code
def yX3_init_3 : MethodName := ⟨RX3, "<init>", "(I)V"⟩
def dkwX3_init_3_0 : List UInt8 := [42, 183, 0, 20, 42, 27, 188, 8, 181, 0, 10, 177]
abbrev dktX3_init_3_0 : List UInt8 := dkwX3_init_3_0 ++ []
theorem dksX3_init_3_0 : cX3_init_3.data.toList.drop 0 = dktX3_init_3_0 := by decide +kernel
theorem dX3_init_3_0 : decode cX3_init_3 0 = .ok (.aload_n 0, 1) := dk_42 (dk_at dksX3_init_3_0 0 rfl rfl)
theorem dX3_init_3_1 : decode cX3_init_3 1 = .ok (.invokespecial 20, 3) := dk_183 0 20 (dk_at dksX3_init_3_0 1 rfl rfl)
theorem dX3_init_3_4 : decode cX3_init_3 4 = .ok (.aload_n 0, 1) := dk_42 (dk_at dksX3_init_3_0 4 rfl rfl)
theorem dX3_init_3_5 : decode cX3_init_3 5 = .ok (.iload_n 1, 1) := dk_27 (dk_at dksX3_init_3_0 5 rfl rfl)
theorem dX3_init_3_6 : decode cX3_init_3 6 = .ok (.newarray .byte, 2) := dk_188_8 (dk_at dksX3_init_3_0 6 rfl rfl)
theorem dX3_init_3_8 : decode cX3_init_3 8 = .ok (.putfield 10, 3) := dk_181 0 10 (dk_at dksX3_init_3_0 8 rfl rfl)
theorem dX3_init_3_11 : decode cX3_init_3 11 = .ok (.return_, 1) := dk_177 (dk_at dksX3_init_3_0 11 rfl rfl)
abbrev cX3_getKey : ByteArray := prog_7_method_4_code
def yX3_getKey : MethodName := ⟨RX3, "getKey", "()[B"⟩
theorem dX3_getKey_0 : decode cX3_getKey 0 = .ok (.aload_n 0, 1) := by decide +kernel
theorem dX3_getKey_1 : decode cX3_getKey 1 = .ok (.getfield 10, 3) := by decide +kernel
theorem dX3_getKey_4 : decode cX3_getKey 4 = .ok (.areturn, 1) := by decide +kernel
theorem q13 : (Jvm.Cond.initialized "KeyParameter") ∈ lw_all := lw_g (lw_at lw_m1 3 rfl) rfl
theorem q52 : (Jvm.Cond.instantiable "KeyParameter" (1 : Nat)) ∈ lw_all := lw_g (lw_at lw_m1 42 rfl) rfl
theorem q54 : (Jvm.Cond.instanceMethod ({ cls := "KeyParameter", name := "<init>", desc := "([B)V" } : Jvm.MethodName)) ∈ lw_all := lw_g (lw_at lw_m1 44 rfl) rfl
theorem q55 : (Jvm.Cond.code ({ cls := "KeyParameter", name := "<init>", desc := "([B)V" } : Jvm.MethodName) prog_7_method_1_code (2 : Nat) (Option.none : Option Jvm.ClassFile.FieldType)) ∈ lw_all := lw_g (lw_at lw_m1 45 rfl) rfl
theorem q56 : (Jvm.Cond.methodLink "KeyParameter" (1 : Nat) ({ cls := "KeyParameter", name := "<init>", desc := "([BII)V" } : Jvm.MethodName)) ∈ lw_all := lw_g (lw_at lw_m1 46 rfl) rfl
theorem q57 : (Jvm.Cond.instanceMethod ({ cls := "KeyParameter", name := "<init>", desc := "([BII)V" } : Jvm.MethodName)) ∈ lw_all := lw_g (lw_at lw_m1 47 rfl) rfl
theorem q58 : (Jvm.Cond.code ({ cls := "KeyParameter", name := "<init>", desc := "([BII)V" } : Jvm.MethodName) prog_7_method_2_code (4 : Nat) (Option.none : Option Jvm.ClassFile.FieldType)) ∈ lw_all := lw_g (lw_at lw_m1 48 rfl) rfl
theorem q59 : (Jvm.Cond.methodLink "KeyParameter" (7 : Nat) ({ cls := "KeyParameter", name := "<init>", desc := "(I)V" } : Jvm.MethodName)) ∈ lw_all := lw_g (lw_at lw_m1 49 rfl) rfl
theorem q60 : (Jvm.Cond.instanceMethod ({ cls := "KeyParameter", name := "<init>", desc := "(I)V" } : Jvm.MethodName)) ∈ lw_all := lw_g (lw_at lw_m1 50 rfl) rfl
theorem q61 : (Jvm.Cond.code ({ cls := "KeyParameter", name := "<init>", desc := "(I)V" } : Jvm.MethodName) prog_7_method_3_code (2 : Nat) (Option.none : Option Jvm.ClassFile.FieldType)) ∈ lw_all := lw_g (lw_at lw_m1 51 rfl) rfl
theorem q62 : (Jvm.Cond.methodLink "KeyParameter" (20 : Nat) ({ cls := "java/lang/Object", name := "<init>", desc := "()V" } : Jvm.MethodName)) ∈ lw_all := lw_g (lw_at lw_m1 52 rfl) rfl
theorem q63 : (Jvm.Cond.fieldLink "KeyParameter" (10 : Nat) "KeyParameter" "key" "[B") ∈ lw_all := lw_g (lw_at lw_m1 53 rfl) rfl
theorem q64 : (Jvm.Cond.lays "KeyParameter" "KeyParameter" "key" "[B") ∈ lw_all := lw_g (lw_at lw_m1 54 rfl) rfl
theorem q65 : (Jvm.Cond.soleField "KeyParameter" "key") ∈ lw_all := lw_g (lw_at lw_m1 55 rfl) rfl
theorem q66 : (Jvm.Cond.superclass "KeyParameter" "java/lang/Object") ∈ lw_all := lw_g (lw_at lw_m1 56 rfl) rfl
theorem q67 : (Jvm.Cond.methodLink "KeyParameter" (14 : Nat) ({ cls := "java/lang/System", name := "arraycopy", desc := "(Ljava/lang/Object;ILjava/lang/Object;II)V" } : Jvm.MethodName)) ∈ lw_all := lw_g (lw_at lw_m1 57 rfl) rfl
theorem q82 : (Jvm.Cond.instanceMethod ({ cls := "KeyParameter", name := "getKey", desc := "()[B" } : Jvm.MethodName)) ∈ lw_all := lw_g (lw_at lw_m1 72 rfl) rfl
theorem q83 : (Jvm.Cond.selects "KeyParameter" ({ cls := "KeyParameter", name := "getKey", desc := "()[B" } : Jvm.MethodName) ({ cls := "KeyParameter", name := "getKey", desc := "()[B" } : Jvm.MethodName)) ∈ lw_all := lw_g (lw_at lw_m1 73 rfl) rfl
theorem q84 : (Jvm.Cond.code ({ cls := "KeyParameter", name := "getKey", desc := "()[B" } : Jvm.MethodName) prog_7_method_4_code (1 : Nat) (Option.some (Jvm.ClassFile.FieldType.array Jvm.ClassFile.FieldType.byte))) ∈ lw_all := lw_g (lw_at lw_m1 74 rfl) rfl
theorem in_X3 : ∀ w ∈ wsX30, w ∈ lw_all := lw_in wsX30 [64] (by decide +kernel) (by decide +kernel)
theorem q72 : (Jvm.Cond.interfaceMethod "BlockCipher" "BlockCipher" "init" "(ZLCipherParameters;)V") ∈ lw_tbl := lw_at lw_m1 62 rfl
set_option maxRecDepth 100000
theorem q73 : (Jvm.Cond.declares ({ cls := "BlockCipher", name := "init", desc := "(ZLCipherParameters;)V" } : Jvm.MethodName)) ∈ lw_tbl := lw_at lw_m1 63 rfl
theorem q184 : (Jvm.Cond.interfaceMethod "BlockCipher" "BlockCipher" "processBlock" "([BI[BI)I") ∈ lw_tbl := lw_at lw_m1 174 rfl
theorem q185 : (Jvm.Cond.declares ({ cls := "BlockCipher", name := "processBlock", desc := "([BI[BI)I" } : Jvm.MethodName)) ∈ lw_tbl := lw_at lw_m1 175 rfl
theorem q14 : (Jvm.Cond.initialized "java/lang/System") ∈ lw_all := lw_g (lw_at lw_m1 4 rfl) rfl
set_option maxRecDepth 100000
theorem q68 : (Jvm.Cond.static ({ cls := "java/lang/System", name := "arraycopy", desc := "(Ljava/lang/Object;ILjava/lang/Object;II)V" } : Jvm.MethodName)) ∈ lw_all := lw_g (lw_at lw_m1 58 rfl) rfl
theorem q69 : (Jvm.Cond.native ({ cls := "java/lang/System", name := "arraycopy", desc := "(Ljava/lang/Object;ILjava/lang/Object;II)V" } : Jvm.MethodName)) ∈ lw_all := lw_g (lw_at lw_m1 59 rfl) rfl
theorem q50 : (Jvm.Cond.arrayClass Jvm.ClassFile.FieldType.byte) ∈ lw_all := lw_g (lw_at lw_m1 40 rfl) rfl
set_option maxRecDepth 100000
theorem q181 : (Jvm.Cond.arrayClass Jvm.ClassFile.FieldType.int) ∈ lw_all := lw_g (lw_at lw_m1 171 rfl) rfl
end
section
/-! IdeaDeskLaw -/
set_option maxRecDepth 100000
def RX0 : String := "IdeaDeskLaw"
abbrev cX0_with : ByteArray := method_3_code
def yX0_with : MethodName := ⟨RX0, "with", "([I)LIdeaDesk;"⟩
def dkwX0_with_3 : List UInt8 := [184, 0, 10, 182, 0, 20, 43, 176]
abbrev dktX0_with_3 : List UInt8 := dkwX0_with_3 ++ []
def dkwX0_with_2 : List UInt8 := [16, 6, 184, 0, 10, 42, 16, 7, 184, 0, 10, 182, 0, 16, 43, 42, 16, 8, 184, 0, 10, 42, 16, 9]
abbrev dktX0_with_2 : List UInt8 := dkwX0_with_2 ++ dktX0_with_3
def dkwX0_with_1 : List UInt8 := [184, 0, 10, 42, 6, 184, 0, 10, 182, 0, 16, 43, 4, 42, 7, 184, 0, 10, 42, 8, 184, 0, 10, 42]
abbrev dktX0_with_1 : List UInt8 := dkwX0_with_1 ++ dktX0_with_2
def dkwX0_with_0 : List UInt8 := [187, 0, 7, 89, 183, 0, 9, 76, 43, 3, 42, 3, 184, 0, 10, 42, 4, 184, 0, 10, 42, 5]
abbrev dktX0_with_0 : List UInt8 := dkwX0_with_0 ++ dktX0_with_1
theorem dksX0_with_0 : cX0_with.data.toList.drop 0 = dktX0_with_0 := by decide +kernel
theorem dksX0_with_1 : cX0_with.data.toList.drop 22 = dktX0_with_1 := dk_seg dksX0_with_0 22 rfl rfl
theorem dksX0_with_2 : cX0_with.data.toList.drop 46 = dktX0_with_2 := dk_seg dksX0_with_1 24 rfl rfl
theorem dksX0_with_3 : cX0_with.data.toList.drop 70 = dktX0_with_3 := dk_seg dksX0_with_2 24 rfl rfl
theorem dX0_with_0 : decode cX0_with 0 = .ok (.new 7, 3) := dk_187 0 7 (dk_at dksX0_with_0 0 rfl rfl)
theorem dX0_with_3 : decode cX0_with 3 = .ok (.dup, 1) := dk_89 (dk_at dksX0_with_0 3 rfl rfl)
theorem dX0_with_4 : decode cX0_with 4 = .ok (.invokespecial 9, 3) := dk_183 0 9 (dk_at dksX0_with_0 4 rfl rfl)
theorem dX0_with_7 : decode cX0_with 7 = .ok (.astore_n 1, 1) := dk_76 (dk_at dksX0_with_0 7 rfl rfl)
theorem dX0_with_8 : decode cX0_with 8 = .ok (.aload_n 1, 1) := dk_43 (dk_at dksX0_with_0 8 rfl rfl)
theorem dX0_with_9 : decode cX0_with 9 = .ok (.iconst 0, 1) := dk_3 (dk_at dksX0_with_0 9 rfl rfl)
theorem dX0_with_10 : decode cX0_with 10 = .ok (.aload_n 0, 1) := dk_42 (dk_at dksX0_with_0 10 rfl rfl)
theorem dX0_with_11 : decode cX0_with 11 = .ok (.iconst 0, 1) := dk_3 (dk_at dksX0_with_0 11 rfl rfl)
theorem dX0_with_12 : decode cX0_with 12 = .ok (.invokestatic 10, 3) := dk_184 0 10 (dk_at dksX0_with_0 12 rfl rfl)
theorem dX0_with_15 : decode cX0_with 15 = .ok (.aload_n 0, 1) := dk_42 (dk_at dksX0_with_0 15 rfl rfl)
theorem dX0_with_16 : decode cX0_with 16 = .ok (.iconst 1, 1) := dk_4 (dk_at dksX0_with_0 16 rfl rfl)
theorem dX0_with_17 : decode cX0_with 17 = .ok (.invokestatic 10, 3) := dk_184 0 10 (dk_at dksX0_with_0 17 rfl rfl)
theorem dX0_with_20 : decode cX0_with 20 = .ok (.aload_n 0, 1) := dk_42 (dk_at dksX0_with_0 20 rfl rfl)
theorem dX0_with_21 : decode cX0_with 21 = .ok (.iconst 2, 1) := dk_5 (dk_at dksX0_with_0 21 rfl rfl)
theorem dX0_with_22 : decode cX0_with 22 = .ok (.invokestatic 10, 3) := dk_184 0 10 (dk_at dksX0_with_1 0 rfl rfl)
theorem dX0_with_25 : decode cX0_with 25 = .ok (.aload_n 0, 1) := dk_42 (dk_at dksX0_with_1 3 rfl rfl)
theorem dX0_with_26 : decode cX0_with 26 = .ok (.iconst 3, 1) := dk_6 (dk_at dksX0_with_1 4 rfl rfl)
theorem dX0_with_27 : decode cX0_with 27 = .ok (.invokestatic 10, 3) := dk_184 0 10 (dk_at dksX0_with_1 5 rfl rfl)
theorem dX0_with_30 : decode cX0_with 30 = .ok (.invokevirtual 16, 3) := dk_182 0 16 (dk_at dksX0_with_1 8 rfl rfl)
theorem dX0_with_33 : decode cX0_with 33 = .ok (.aload_n 1, 1) := dk_43 (dk_at dksX0_with_1 11 rfl rfl)
theorem dX0_with_34 : decode cX0_with 34 = .ok (.iconst 1, 1) := dk_4 (dk_at dksX0_with_1 12 rfl rfl)
theorem dX0_with_35 : decode cX0_with 35 = .ok (.aload_n 0, 1) := dk_42 (dk_at dksX0_with_1 13 rfl rfl)
theorem dX0_with_36 : decode cX0_with 36 = .ok (.iconst 4, 1) := dk_7 (dk_at dksX0_with_1 14 rfl rfl)
theorem dX0_with_37 : decode cX0_with 37 = .ok (.invokestatic 10, 3) := dk_184 0 10 (dk_at dksX0_with_1 15 rfl rfl)
theorem dX0_with_40 : decode cX0_with 40 = .ok (.aload_n 0, 1) := dk_42 (dk_at dksX0_with_1 18 rfl rfl)
theorem dX0_with_41 : decode cX0_with 41 = .ok (.iconst 5, 1) := dk_8 (dk_at dksX0_with_1 19 rfl rfl)
theorem dX0_with_42 : decode cX0_with 42 = .ok (.invokestatic 10, 3) := dk_184 0 10 (dk_at dksX0_with_1 20 rfl rfl)
theorem dX0_with_45 : decode cX0_with 45 = .ok (.aload_n 0, 1) := dk_42 (dk_at dksX0_with_1 23 rfl rfl)
theorem dX0_with_46 : decode cX0_with 46 = .ok (.bipush 6, 2) := dk_16 6 (dk_at dksX0_with_2 0 rfl rfl)
theorem dX0_with_48 : decode cX0_with 48 = .ok (.invokestatic 10, 3) := dk_184 0 10 (dk_at dksX0_with_2 2 rfl rfl)
theorem dX0_with_51 : decode cX0_with 51 = .ok (.aload_n 0, 1) := dk_42 (dk_at dksX0_with_2 5 rfl rfl)
theorem dX0_with_52 : decode cX0_with 52 = .ok (.bipush 7, 2) := dk_16 7 (dk_at dksX0_with_2 6 rfl rfl)
theorem dX0_with_54 : decode cX0_with 54 = .ok (.invokestatic 10, 3) := dk_184 0 10 (dk_at dksX0_with_2 8 rfl rfl)
theorem dX0_with_57 : decode cX0_with 57 = .ok (.invokevirtual 16, 3) := dk_182 0 16 (dk_at dksX0_with_2 11 rfl rfl)
theorem dX0_with_60 : decode cX0_with 60 = .ok (.aload_n 1, 1) := dk_43 (dk_at dksX0_with_2 14 rfl rfl)
theorem dX0_with_61 : decode cX0_with 61 = .ok (.aload_n 0, 1) := dk_42 (dk_at dksX0_with_2 15 rfl rfl)
theorem dX0_with_62 : decode cX0_with 62 = .ok (.bipush 8, 2) := dk_16 8 (dk_at dksX0_with_2 16 rfl rfl)
theorem dX0_with_64 : decode cX0_with 64 = .ok (.invokestatic 10, 3) := dk_184 0 10 (dk_at dksX0_with_2 18 rfl rfl)
theorem dX0_with_67 : decode cX0_with 67 = .ok (.aload_n 0, 1) := dk_42 (dk_at dksX0_with_2 21 rfl rfl)
theorem dX0_with_68 : decode cX0_with 68 = .ok (.bipush 9, 2) := dk_16 9 (dk_at dksX0_with_2 22 rfl rfl)
theorem dX0_with_70 : decode cX0_with 70 = .ok (.invokestatic 10, 3) := dk_184 0 10 (dk_at dksX0_with_3 0 rfl rfl)
theorem dX0_with_73 : decode cX0_with 73 = .ok (.invokevirtual 20, 3) := dk_182 0 20 (dk_at dksX0_with_3 3 rfl rfl)
theorem dX0_with_76 : decode cX0_with 76 = .ok (.aload_n 1, 1) := dk_43 (dk_at dksX0_with_3 6 rfl rfl)
theorem dX0_with_77 : decode cX0_with 77 = .ok (.areturn, 1) := dk_176 (dk_at dksX0_with_3 7 rfl rfl)
abbrev cX0_cell : ByteArray := method_2_code
def yX0_cell : MethodName := ⟨RX0, "cell", "([II)I"⟩
def dkwX0_cell_0 : List UInt8 := [27, 42, 190, 162, 0, 9, 42, 27, 46, 167, 0, 4, 3, 172]
abbrev dktX0_cell_0 : List UInt8 := dkwX0_cell_0 ++ []
theorem dksX0_cell_0 : cX0_cell.data.toList.drop 0 = dktX0_cell_0 := by decide +kernel
theorem dX0_cell_0 : decode cX0_cell 0 = .ok (.iload_n 1, 1) := dk_27 (dk_at dksX0_cell_0 0 rfl rfl)
theorem dX0_cell_1 : decode cX0_cell 1 = .ok (.aload_n 0, 1) := dk_42 (dk_at dksX0_cell_0 1 rfl rfl)
theorem dX0_cell_2 : decode cX0_cell 2 = .ok (.arraylength, 1) := dk_190 (dk_at dksX0_cell_0 2 rfl rfl)
theorem dX0_cell_3 : decode cX0_cell 3 = .ok (.if_icmp .ge 9, 3) := dk_162 0 9 (dk_at dksX0_cell_0 3 rfl rfl)
theorem dX0_cell_6 : decode cX0_cell 6 = .ok (.aload_n 0, 1) := dk_42 (dk_at dksX0_cell_0 6 rfl rfl)
theorem dX0_cell_7 : decode cX0_cell 7 = .ok (.iload_n 1, 1) := dk_27 (dk_at dksX0_cell_0 7 rfl rfl)
theorem dX0_cell_8 : decode cX0_cell 8 = .ok (.iaload, 1) := dk_46 (dk_at dksX0_cell_0 8 rfl rfl)
theorem dX0_cell_9 : decode cX0_cell 9 = .ok (.goto 4, 3) := dk_167 0 4 (dk_at dksX0_cell_0 9 rfl rfl)
theorem dX0_cell_12 : decode cX0_cell 12 = .ok (.iconst 0, 1) := dk_3 (dk_at dksX0_cell_0 12 rfl rfl)
theorem dX0_cell_13 : decode cX0_cell 13 = .ok (.ireturn, 1) := dk_172 (dk_at dksX0_cell_0 13 rfl rfl)
abbrev cX0_same : ByteArray := method_4_code
def yX0_same : MethodName := ⟨RX0, "same", "(LIdeaDesk;[I)Z"⟩
def dkwX0_same_2 : List UInt8 := [167, 255, 213, 4, 172]
abbrev dktX0_same_2 : List UInt8 := dkwX0_same_2 ++ []
def dkwX0_same_1 : List UInt8 := [16, 24, 16, 8, 28, 7, 112, 104, 100, 124, 17, 0, 255, 126, 159, 0, 5, 3, 172, 132, 2, 1]
abbrev dktX0_same_1 : List UInt8 := dkwX0_same_1 ++ dktX0_same_2
def dkwX0_same_0 : List UInt8 := [3, 61, 28, 16, 8, 162, 0, 43, 42, 28, 182, 0, 24, 43, 16, 8, 28, 7, 108, 96, 184, 0, 10]
abbrev dktX0_same_0 : List UInt8 := dkwX0_same_0 ++ dktX0_same_1
theorem dksX0_same_0 : cX0_same.data.toList.drop 0 = dktX0_same_0 := by decide +kernel
theorem dksX0_same_1 : cX0_same.data.toList.drop 23 = dktX0_same_1 := dk_seg dksX0_same_0 23 rfl rfl
theorem dksX0_same_2 : cX0_same.data.toList.drop 45 = dktX0_same_2 := dk_seg dksX0_same_1 22 rfl rfl
theorem dX0_same_0 : decode cX0_same 0 = .ok (.iconst 0, 1) := dk_3 (dk_at dksX0_same_0 0 rfl rfl)
theorem dX0_same_1 : decode cX0_same 1 = .ok (.istore_n 2, 1) := dk_61 (dk_at dksX0_same_0 1 rfl rfl)
theorem dX0_same_2 : decode cX0_same 2 = .ok (.iload_n 2, 1) := dk_28 (dk_at dksX0_same_0 2 rfl rfl)
theorem dX0_same_3 : decode cX0_same 3 = .ok (.bipush 8, 2) := dk_16 8 (dk_at dksX0_same_0 3 rfl rfl)
theorem dX0_same_5 : decode cX0_same 5 = .ok (.if_icmp .ge 43, 3) := dk_162 0 43 (dk_at dksX0_same_0 5 rfl rfl)
theorem dX0_same_8 : decode cX0_same 8 = .ok (.aload_n 0, 1) := dk_42 (dk_at dksX0_same_0 8 rfl rfl)
theorem dX0_same_9 : decode cX0_same 9 = .ok (.iload_n 2, 1) := dk_28 (dk_at dksX0_same_0 9 rfl rfl)
theorem dX0_same_10 : decode cX0_same 10 = .ok (.invokevirtual 24, 3) := dk_182 0 24 (dk_at dksX0_same_0 10 rfl rfl)
theorem dX0_same_13 : decode cX0_same 13 = .ok (.aload_n 1, 1) := dk_43 (dk_at dksX0_same_0 13 rfl rfl)
theorem dX0_same_14 : decode cX0_same 14 = .ok (.bipush 8, 2) := dk_16 8 (dk_at dksX0_same_0 14 rfl rfl)
theorem dX0_same_16 : decode cX0_same 16 = .ok (.iload_n 2, 1) := dk_28 (dk_at dksX0_same_0 16 rfl rfl)
theorem dX0_same_17 : decode cX0_same 17 = .ok (.iconst 4, 1) := dk_7 (dk_at dksX0_same_0 17 rfl rfl)
theorem dX0_same_18 : decode cX0_same 18 = .ok (.idiv, 1) := dk_108 (dk_at dksX0_same_0 18 rfl rfl)
theorem dX0_same_19 : decode cX0_same 19 = .ok (.iadd, 1) := dk_96 (dk_at dksX0_same_0 19 rfl rfl)
theorem dX0_same_20 : decode cX0_same 20 = .ok (.invokestatic 10, 3) := dk_184 0 10 (dk_at dksX0_same_0 20 rfl rfl)
theorem dX0_same_23 : decode cX0_same 23 = .ok (.bipush 24, 2) := dk_16 24 (dk_at dksX0_same_1 0 rfl rfl)
theorem dX0_same_25 : decode cX0_same 25 = .ok (.bipush 8, 2) := dk_16 8 (dk_at dksX0_same_1 2 rfl rfl)
theorem dX0_same_27 : decode cX0_same 27 = .ok (.iload_n 2, 1) := dk_28 (dk_at dksX0_same_1 4 rfl rfl)
theorem dX0_same_28 : decode cX0_same 28 = .ok (.iconst 4, 1) := dk_7 (dk_at dksX0_same_1 5 rfl rfl)
theorem dX0_same_29 : decode cX0_same 29 = .ok (.irem, 1) := dk_112 (dk_at dksX0_same_1 6 rfl rfl)
theorem dX0_same_30 : decode cX0_same 30 = .ok (.imul, 1) := dk_104 (dk_at dksX0_same_1 7 rfl rfl)
theorem dX0_same_31 : decode cX0_same 31 = .ok (.isub, 1) := dk_100 (dk_at dksX0_same_1 8 rfl rfl)
theorem dX0_same_32 : decode cX0_same 32 = .ok (.iushr, 1) := dk_124 (dk_at dksX0_same_1 9 rfl rfl)
theorem dX0_same_33 : decode cX0_same 33 = .ok (.sipush 255, 3) := dk_17 0 255 (dk_at dksX0_same_1 10 rfl rfl)
theorem dX0_same_36 : decode cX0_same 36 = .ok (.iand, 1) := dk_126 (dk_at dksX0_same_1 13 rfl rfl)
theorem dX0_same_37 : decode cX0_same 37 = .ok (.if_icmp .eq 5, 3) := dk_159 0 5 (dk_at dksX0_same_1 14 rfl rfl)
theorem dX0_same_40 : decode cX0_same 40 = .ok (.iconst 0, 1) := dk_3 (dk_at dksX0_same_1 17 rfl rfl)
theorem dX0_same_41 : decode cX0_same 41 = .ok (.ireturn, 1) := dk_172 (dk_at dksX0_same_1 18 rfl rfl)
theorem dX0_same_42 : decode cX0_same 42 = .ok (.iinc 2 1, 3) := dk_132 2 1 (dk_at dksX0_same_1 19 rfl rfl)
theorem dX0_same_45 : decode cX0_same 45 = .ok (.goto (-43), 3) := dk_167 255 213 (dk_at dksX0_same_2 0 rfl rfl)
theorem dX0_same_48 : decode cX0_same 48 = .ok (.iconst 1, 1) := dk_4 (dk_at dksX0_same_2 3 rfl rfl)
theorem dX0_same_49 : decode cX0_same 49 = .ok (.ireturn, 1) := dk_172 (dk_at dksX0_same_2 4 rfl rfl)
abbrev cX0_known : ByteArray := method_5_code
def yX0_known : MethodName := ⟨RX0, "known", "()Z"⟩
def dkwX0_known_10 : List UInt8 := [4, 172]
abbrev dktX0_known_10 : List UInt8 := dkwX0_known_10 ++ []
def dkwX0_known_9 : List UInt8 := [162, 0, 24, 44, 21, 4, 182, 0, 24, 45, 21, 4, 46, 159, 0, 5, 3, 172, 132, 4, 1, 167, 255, 231]
abbrev dktX0_known_9 : List UInt8 := dkwX0_known_9 ++ dktX0_known_10
def dkwX0_known_8 : List UInt8 := [8, 4, 79, 89, 16, 6, 16, 55, 79, 89, 16, 7, 16, 15, 79, 78, 3, 54, 4, 21, 4, 16, 8]
abbrev dktX0_known_8 : List UInt8 := dkwX0_known_8 ++ dktX0_known_9
def dkwX0_known_7 : List UInt8 := [89, 4, 17, 0, 245, 79, 89, 5, 17, 0, 247, 79, 89, 6, 17, 0, 248, 79, 89, 7, 16, 121, 79, 89]
abbrev dktX0_known_7 : List UInt8 := dkwX0_known_7 ++ dktX0_known_8
def dkwX0_known_6 : List UInt8 := [182, 0, 16, 44, 3, 3, 182, 0, 20, 44, 3, 182, 0, 33, 16, 8, 188, 10, 89, 3, 17, 0, 177, 79]
abbrev dktX0_known_6 : List UInt8 := dkwX0_known_6 ++ dktX0_known_7
def dkwX0_known_5 : List UInt8 := [187, 0, 7, 89, 183, 0, 9, 77, 44, 3, 18, 37, 3, 3, 3, 182, 0, 16, 44, 4, 3, 3, 3, 3]
abbrev dktX0_known_5 : List UInt8 := dkwX0_known_5 ++ dktX0_known_6
def dkwX0_known_4 : List UInt8 := [16, 8, 162, 0, 22, 42, 28, 182, 0, 24, 43, 28, 46, 159, 0, 5, 3, 172, 132, 2, 1, 167, 255, 234]
abbrev dktX0_known_4 : List UInt8 := dkwX0_known_4 ++ dktX0_known_5
def dkwX0_known_3 : List UInt8 := [89, 8, 17, 0, 152, 79, 89, 16, 6, 16, 109, 79, 89, 16, 7, 17, 0, 229, 79, 76, 3, 61, 28]
abbrev dktX0_known_3 : List UInt8 := dkwX0_known_3 ++ dktX0_known_4
def dkwX0_known_2 : List UInt8 := [16, 17, 79, 89, 4, 17, 0, 251, 79, 89, 5, 17, 0, 237, 79, 89, 6, 16, 43, 79, 89, 7, 4, 79]
abbrev dktX0_known_2 : List UInt8 := dkwX0_known_2 ++ dktX0_known_3
def dkwX0_known_1 : List UInt8 := [3, 3, 3, 182, 0, 16, 42, 4, 18, 32, 182, 0, 20, 42, 3, 182, 0, 33, 16, 8, 188, 10, 89, 3]
abbrev dktX0_known_1 : List UInt8 := dkwX0_known_1 ++ dktX0_known_2
def dkwX0_known_0 : List UInt8 := [187, 0, 7, 89, 183, 0, 9, 75, 42, 3, 18, 28, 18, 29, 18, 30, 18, 31, 182, 0, 16, 42, 4, 3]
abbrev dktX0_known_0 : List UInt8 := dkwX0_known_0 ++ dktX0_known_1
theorem dksX0_known_0 : cX0_known.data.toList.drop 0 = dktX0_known_0 := by decide +kernel
theorem dksX0_known_1 : cX0_known.data.toList.drop 24 = dktX0_known_1 := dk_seg dksX0_known_0 24 rfl rfl
theorem dksX0_known_2 : cX0_known.data.toList.drop 48 = dktX0_known_2 := dk_seg dksX0_known_1 24 rfl rfl
theorem dksX0_known_3 : cX0_known.data.toList.drop 72 = dktX0_known_3 := dk_seg dksX0_known_2 24 rfl rfl
theorem dksX0_known_4 : cX0_known.data.toList.drop 95 = dktX0_known_4 := dk_seg dksX0_known_3 23 rfl rfl
theorem dksX0_known_5 : cX0_known.data.toList.drop 119 = dktX0_known_5 := dk_seg dksX0_known_4 24 rfl rfl
theorem dksX0_known_6 : cX0_known.data.toList.drop 143 = dktX0_known_6 := dk_seg dksX0_known_5 24 rfl rfl
theorem dksX0_known_7 : cX0_known.data.toList.drop 167 = dktX0_known_7 := dk_seg dksX0_known_6 24 rfl rfl
theorem dksX0_known_8 : cX0_known.data.toList.drop 191 = dktX0_known_8 := dk_seg dksX0_known_7 24 rfl rfl
theorem dksX0_known_9 : cX0_known.data.toList.drop 214 = dktX0_known_9 := dk_seg dksX0_known_8 23 rfl rfl
theorem dksX0_known_10 : cX0_known.data.toList.drop 238 = dktX0_known_10 := dk_seg dksX0_known_9 24 rfl rfl
theorem dX0_known_0 : decode cX0_known 0 = .ok (.new 7, 3) := dk_187 0 7 (dk_at dksX0_known_0 0 rfl rfl)
theorem dX0_known_3 : decode cX0_known 3 = .ok (.dup, 1) := dk_89 (dk_at dksX0_known_0 3 rfl rfl)
theorem dX0_known_4 : decode cX0_known 4 = .ok (.invokespecial 9, 3) := dk_183 0 9 (dk_at dksX0_known_0 4 rfl rfl)
theorem dX0_known_7 : decode cX0_known 7 = .ok (.astore_n 0, 1) := dk_75 (dk_at dksX0_known_0 7 rfl rfl)
theorem dX0_known_8 : decode cX0_known 8 = .ok (.aload_n 0, 1) := dk_42 (dk_at dksX0_known_0 8 rfl rfl)
theorem dX0_known_9 : decode cX0_known 9 = .ok (.iconst 0, 1) := dk_3 (dk_at dksX0_known_0 9 rfl rfl)
theorem dX0_known_10 : decode cX0_known 10 = .ok (.ldc 28, 2) := dk_18 28 (dk_at dksX0_known_0 10 rfl rfl)
theorem dX0_known_12 : decode cX0_known 12 = .ok (.ldc 29, 2) := dk_18 29 (dk_at dksX0_known_0 12 rfl rfl)
theorem dX0_known_14 : decode cX0_known 14 = .ok (.ldc 30, 2) := dk_18 30 (dk_at dksX0_known_0 14 rfl rfl)
theorem dX0_known_16 : decode cX0_known 16 = .ok (.ldc 31, 2) := dk_18 31 (dk_at dksX0_known_0 16 rfl rfl)
theorem dX0_known_18 : decode cX0_known 18 = .ok (.invokevirtual 16, 3) := dk_182 0 16 (dk_at dksX0_known_0 18 rfl rfl)
theorem dX0_known_21 : decode cX0_known 21 = .ok (.aload_n 0, 1) := dk_42 (dk_at dksX0_known_0 21 rfl rfl)
theorem dX0_known_22 : decode cX0_known 22 = .ok (.iconst 1, 1) := dk_4 (dk_at dksX0_known_0 22 rfl rfl)
theorem dX0_known_23 : decode cX0_known 23 = .ok (.iconst 0, 1) := dk_3 (dk_at dksX0_known_0 23 rfl rfl)
theorem dX0_known_24 : decode cX0_known 24 = .ok (.iconst 0, 1) := dk_3 (dk_at dksX0_known_1 0 rfl rfl)
theorem dX0_known_25 : decode cX0_known 25 = .ok (.iconst 0, 1) := dk_3 (dk_at dksX0_known_1 1 rfl rfl)
theorem dX0_known_26 : decode cX0_known 26 = .ok (.iconst 0, 1) := dk_3 (dk_at dksX0_known_1 2 rfl rfl)
theorem dX0_known_27 : decode cX0_known 27 = .ok (.invokevirtual 16, 3) := dk_182 0 16 (dk_at dksX0_known_1 3 rfl rfl)
theorem dX0_known_30 : decode cX0_known 30 = .ok (.aload_n 0, 1) := dk_42 (dk_at dksX0_known_1 6 rfl rfl)
theorem dX0_known_31 : decode cX0_known 31 = .ok (.iconst 1, 1) := dk_4 (dk_at dksX0_known_1 7 rfl rfl)
theorem dX0_known_32 : decode cX0_known 32 = .ok (.ldc 32, 2) := dk_18 32 (dk_at dksX0_known_1 8 rfl rfl)
theorem dX0_known_34 : decode cX0_known 34 = .ok (.invokevirtual 20, 3) := dk_182 0 20 (dk_at dksX0_known_1 10 rfl rfl)
theorem dX0_known_37 : decode cX0_known 37 = .ok (.aload_n 0, 1) := dk_42 (dk_at dksX0_known_1 13 rfl rfl)
theorem dX0_known_38 : decode cX0_known 38 = .ok (.iconst 0, 1) := dk_3 (dk_at dksX0_known_1 14 rfl rfl)
theorem dX0_known_39 : decode cX0_known 39 = .ok (.invokevirtual 33, 3) := dk_182 0 33 (dk_at dksX0_known_1 15 rfl rfl)
theorem dX0_known_42 : decode cX0_known 42 = .ok (.bipush 8, 2) := dk_16 8 (dk_at dksX0_known_1 18 rfl rfl)
theorem dX0_known_44 : decode cX0_known 44 = .ok (.newarray .int, 2) := dk_188_10 (dk_at dksX0_known_1 20 rfl rfl)
theorem dX0_known_46 : decode cX0_known 46 = .ok (.dup, 1) := dk_89 (dk_at dksX0_known_1 22 rfl rfl)
theorem dX0_known_47 : decode cX0_known 47 = .ok (.iconst 0, 1) := dk_3 (dk_at dksX0_known_1 23 rfl rfl)
theorem dX0_known_48 : decode cX0_known 48 = .ok (.bipush 17, 2) := dk_16 17 (dk_at dksX0_known_2 0 rfl rfl)
theorem dX0_known_50 : decode cX0_known 50 = .ok (.iastore, 1) := dk_79 (dk_at dksX0_known_2 2 rfl rfl)
theorem dX0_known_51 : decode cX0_known 51 = .ok (.dup, 1) := dk_89 (dk_at dksX0_known_2 3 rfl rfl)
theorem dX0_known_52 : decode cX0_known 52 = .ok (.iconst 1, 1) := dk_4 (dk_at dksX0_known_2 4 rfl rfl)
theorem dX0_known_53 : decode cX0_known 53 = .ok (.sipush 251, 3) := dk_17 0 251 (dk_at dksX0_known_2 5 rfl rfl)
theorem dX0_known_56 : decode cX0_known 56 = .ok (.iastore, 1) := dk_79 (dk_at dksX0_known_2 8 rfl rfl)
theorem dX0_known_57 : decode cX0_known 57 = .ok (.dup, 1) := dk_89 (dk_at dksX0_known_2 9 rfl rfl)
theorem dX0_known_58 : decode cX0_known 58 = .ok (.iconst 2, 1) := dk_5 (dk_at dksX0_known_2 10 rfl rfl)
theorem dX0_known_59 : decode cX0_known 59 = .ok (.sipush 237, 3) := dk_17 0 237 (dk_at dksX0_known_2 11 rfl rfl)
theorem dX0_known_62 : decode cX0_known 62 = .ok (.iastore, 1) := dk_79 (dk_at dksX0_known_2 14 rfl rfl)
theorem dX0_known_63 : decode cX0_known 63 = .ok (.dup, 1) := dk_89 (dk_at dksX0_known_2 15 rfl rfl)
theorem dX0_known_64 : decode cX0_known 64 = .ok (.iconst 3, 1) := dk_6 (dk_at dksX0_known_2 16 rfl rfl)
theorem dX0_known_65 : decode cX0_known 65 = .ok (.bipush 43, 2) := dk_16 43 (dk_at dksX0_known_2 17 rfl rfl)
theorem dX0_known_67 : decode cX0_known 67 = .ok (.iastore, 1) := dk_79 (dk_at dksX0_known_2 19 rfl rfl)
theorem dX0_known_68 : decode cX0_known 68 = .ok (.dup, 1) := dk_89 (dk_at dksX0_known_2 20 rfl rfl)
theorem dX0_known_69 : decode cX0_known 69 = .ok (.iconst 4, 1) := dk_7 (dk_at dksX0_known_2 21 rfl rfl)
theorem dX0_known_70 : decode cX0_known 70 = .ok (.iconst 1, 1) := dk_4 (dk_at dksX0_known_2 22 rfl rfl)
theorem dX0_known_71 : decode cX0_known 71 = .ok (.iastore, 1) := dk_79 (dk_at dksX0_known_2 23 rfl rfl)
theorem dX0_known_72 : decode cX0_known 72 = .ok (.dup, 1) := dk_89 (dk_at dksX0_known_3 0 rfl rfl)
theorem dX0_known_73 : decode cX0_known 73 = .ok (.iconst 5, 1) := dk_8 (dk_at dksX0_known_3 1 rfl rfl)
theorem dX0_known_74 : decode cX0_known 74 = .ok (.sipush 152, 3) := dk_17 0 152 (dk_at dksX0_known_3 2 rfl rfl)
theorem dX0_known_77 : decode cX0_known 77 = .ok (.iastore, 1) := dk_79 (dk_at dksX0_known_3 5 rfl rfl)
theorem dX0_known_78 : decode cX0_known 78 = .ok (.dup, 1) := dk_89 (dk_at dksX0_known_3 6 rfl rfl)
theorem dX0_known_79 : decode cX0_known 79 = .ok (.bipush 6, 2) := dk_16 6 (dk_at dksX0_known_3 7 rfl rfl)
theorem dX0_known_81 : decode cX0_known 81 = .ok (.bipush 109, 2) := dk_16 109 (dk_at dksX0_known_3 9 rfl rfl)
theorem dX0_known_83 : decode cX0_known 83 = .ok (.iastore, 1) := dk_79 (dk_at dksX0_known_3 11 rfl rfl)
theorem dX0_known_84 : decode cX0_known 84 = .ok (.dup, 1) := dk_89 (dk_at dksX0_known_3 12 rfl rfl)
theorem dX0_known_85 : decode cX0_known 85 = .ok (.bipush 7, 2) := dk_16 7 (dk_at dksX0_known_3 13 rfl rfl)
theorem dX0_known_87 : decode cX0_known 87 = .ok (.sipush 229, 3) := dk_17 0 229 (dk_at dksX0_known_3 15 rfl rfl)
theorem dX0_known_90 : decode cX0_known 90 = .ok (.iastore, 1) := dk_79 (dk_at dksX0_known_3 18 rfl rfl)
theorem dX0_known_91 : decode cX0_known 91 = .ok (.astore_n 1, 1) := dk_76 (dk_at dksX0_known_3 19 rfl rfl)
theorem dX0_known_92 : decode cX0_known 92 = .ok (.iconst 0, 1) := dk_3 (dk_at dksX0_known_3 20 rfl rfl)
theorem dX0_known_93 : decode cX0_known 93 = .ok (.istore_n 2, 1) := dk_61 (dk_at dksX0_known_3 21 rfl rfl)
theorem dX0_known_94 : decode cX0_known 94 = .ok (.iload_n 2, 1) := dk_28 (dk_at dksX0_known_3 22 rfl rfl)
theorem dX0_known_95 : decode cX0_known 95 = .ok (.bipush 8, 2) := dk_16 8 (dk_at dksX0_known_4 0 rfl rfl)
theorem dX0_known_97 : decode cX0_known 97 = .ok (.if_icmp .ge 22, 3) := dk_162 0 22 (dk_at dksX0_known_4 2 rfl rfl)
theorem dX0_known_100 : decode cX0_known 100 = .ok (.aload_n 0, 1) := dk_42 (dk_at dksX0_known_4 5 rfl rfl)
theorem dX0_known_101 : decode cX0_known 101 = .ok (.iload_n 2, 1) := dk_28 (dk_at dksX0_known_4 6 rfl rfl)
theorem dX0_known_102 : decode cX0_known 102 = .ok (.invokevirtual 24, 3) := dk_182 0 24 (dk_at dksX0_known_4 7 rfl rfl)
theorem dX0_known_105 : decode cX0_known 105 = .ok (.aload_n 1, 1) := dk_43 (dk_at dksX0_known_4 10 rfl rfl)
theorem dX0_known_106 : decode cX0_known 106 = .ok (.iload_n 2, 1) := dk_28 (dk_at dksX0_known_4 11 rfl rfl)
theorem dX0_known_107 : decode cX0_known 107 = .ok (.iaload, 1) := dk_46 (dk_at dksX0_known_4 12 rfl rfl)
theorem dX0_known_108 : decode cX0_known 108 = .ok (.if_icmp .eq 5, 3) := dk_159 0 5 (dk_at dksX0_known_4 13 rfl rfl)
theorem dX0_known_111 : decode cX0_known 111 = .ok (.iconst 0, 1) := dk_3 (dk_at dksX0_known_4 16 rfl rfl)
theorem dX0_known_112 : decode cX0_known 112 = .ok (.ireturn, 1) := dk_172 (dk_at dksX0_known_4 17 rfl rfl)
theorem dX0_known_113 : decode cX0_known 113 = .ok (.iinc 2 1, 3) := dk_132 2 1 (dk_at dksX0_known_4 18 rfl rfl)
theorem dX0_known_116 : decode cX0_known 116 = .ok (.goto (-22), 3) := dk_167 255 234 (dk_at dksX0_known_4 21 rfl rfl)
theorem dX0_known_119 : decode cX0_known 119 = .ok (.new 7, 3) := dk_187 0 7 (dk_at dksX0_known_5 0 rfl rfl)
theorem dX0_known_122 : decode cX0_known 122 = .ok (.dup, 1) := dk_89 (dk_at dksX0_known_5 3 rfl rfl)
theorem dX0_known_123 : decode cX0_known 123 = .ok (.invokespecial 9, 3) := dk_183 0 9 (dk_at dksX0_known_5 4 rfl rfl)
theorem dX0_known_126 : decode cX0_known 126 = .ok (.astore_n 2, 1) := dk_77 (dk_at dksX0_known_5 7 rfl rfl)
theorem dX0_known_127 : decode cX0_known 127 = .ok (.aload_n 2, 1) := dk_44 (dk_at dksX0_known_5 8 rfl rfl)
theorem dX0_known_128 : decode cX0_known 128 = .ok (.iconst 0, 1) := dk_3 (dk_at dksX0_known_5 9 rfl rfl)
theorem dX0_known_129 : decode cX0_known 129 = .ok (.ldc 37, 2) := dk_18 37 (dk_at dksX0_known_5 10 rfl rfl)
theorem dX0_known_131 : decode cX0_known 131 = .ok (.iconst 0, 1) := dk_3 (dk_at dksX0_known_5 12 rfl rfl)
theorem dX0_known_132 : decode cX0_known 132 = .ok (.iconst 0, 1) := dk_3 (dk_at dksX0_known_5 13 rfl rfl)
theorem dX0_known_133 : decode cX0_known 133 = .ok (.iconst 0, 1) := dk_3 (dk_at dksX0_known_5 14 rfl rfl)
theorem dX0_known_134 : decode cX0_known 134 = .ok (.invokevirtual 16, 3) := dk_182 0 16 (dk_at dksX0_known_5 15 rfl rfl)
theorem dX0_known_137 : decode cX0_known 137 = .ok (.aload_n 2, 1) := dk_44 (dk_at dksX0_known_5 18 rfl rfl)
theorem dX0_known_138 : decode cX0_known 138 = .ok (.iconst 1, 1) := dk_4 (dk_at dksX0_known_5 19 rfl rfl)
theorem dX0_known_139 : decode cX0_known 139 = .ok (.iconst 0, 1) := dk_3 (dk_at dksX0_known_5 20 rfl rfl)
theorem dX0_known_140 : decode cX0_known 140 = .ok (.iconst 0, 1) := dk_3 (dk_at dksX0_known_5 21 rfl rfl)
theorem dX0_known_141 : decode cX0_known 141 = .ok (.iconst 0, 1) := dk_3 (dk_at dksX0_known_5 22 rfl rfl)
theorem dX0_known_142 : decode cX0_known 142 = .ok (.iconst 0, 1) := dk_3 (dk_at dksX0_known_5 23 rfl rfl)
theorem dX0_known_143 : decode cX0_known 143 = .ok (.invokevirtual 16, 3) := dk_182 0 16 (dk_at dksX0_known_6 0 rfl rfl)
theorem dX0_known_146 : decode cX0_known 146 = .ok (.aload_n 2, 1) := dk_44 (dk_at dksX0_known_6 3 rfl rfl)
theorem dX0_known_147 : decode cX0_known 147 = .ok (.iconst 0, 1) := dk_3 (dk_at dksX0_known_6 4 rfl rfl)
theorem dX0_known_148 : decode cX0_known 148 = .ok (.iconst 0, 1) := dk_3 (dk_at dksX0_known_6 5 rfl rfl)
theorem dX0_known_149 : decode cX0_known 149 = .ok (.invokevirtual 20, 3) := dk_182 0 20 (dk_at dksX0_known_6 6 rfl rfl)
theorem dX0_known_152 : decode cX0_known 152 = .ok (.aload_n 2, 1) := dk_44 (dk_at dksX0_known_6 9 rfl rfl)
theorem dX0_known_153 : decode cX0_known 153 = .ok (.iconst 0, 1) := dk_3 (dk_at dksX0_known_6 10 rfl rfl)
theorem dX0_known_154 : decode cX0_known 154 = .ok (.invokevirtual 33, 3) := dk_182 0 33 (dk_at dksX0_known_6 11 rfl rfl)
theorem dX0_known_157 : decode cX0_known 157 = .ok (.bipush 8, 2) := dk_16 8 (dk_at dksX0_known_6 14 rfl rfl)
theorem dX0_known_159 : decode cX0_known 159 = .ok (.newarray .int, 2) := dk_188_10 (dk_at dksX0_known_6 16 rfl rfl)
theorem dX0_known_161 : decode cX0_known 161 = .ok (.dup, 1) := dk_89 (dk_at dksX0_known_6 18 rfl rfl)
theorem dX0_known_162 : decode cX0_known 162 = .ok (.iconst 0, 1) := dk_3 (dk_at dksX0_known_6 19 rfl rfl)
theorem dX0_known_163 : decode cX0_known 163 = .ok (.sipush 177, 3) := dk_17 0 177 (dk_at dksX0_known_6 20 rfl rfl)
theorem dX0_known_166 : decode cX0_known 166 = .ok (.iastore, 1) := dk_79 (dk_at dksX0_known_6 23 rfl rfl)
theorem dX0_known_167 : decode cX0_known 167 = .ok (.dup, 1) := dk_89 (dk_at dksX0_known_7 0 rfl rfl)
theorem dX0_known_168 : decode cX0_known 168 = .ok (.iconst 1, 1) := dk_4 (dk_at dksX0_known_7 1 rfl rfl)
theorem dX0_known_169 : decode cX0_known 169 = .ok (.sipush 245, 3) := dk_17 0 245 (dk_at dksX0_known_7 2 rfl rfl)
theorem dX0_known_172 : decode cX0_known 172 = .ok (.iastore, 1) := dk_79 (dk_at dksX0_known_7 5 rfl rfl)
theorem dX0_known_173 : decode cX0_known 173 = .ok (.dup, 1) := dk_89 (dk_at dksX0_known_7 6 rfl rfl)
theorem dX0_known_174 : decode cX0_known 174 = .ok (.iconst 2, 1) := dk_5 (dk_at dksX0_known_7 7 rfl rfl)
theorem dX0_known_175 : decode cX0_known 175 = .ok (.sipush 247, 3) := dk_17 0 247 (dk_at dksX0_known_7 8 rfl rfl)
theorem dX0_known_178 : decode cX0_known 178 = .ok (.iastore, 1) := dk_79 (dk_at dksX0_known_7 11 rfl rfl)
theorem dX0_known_179 : decode cX0_known 179 = .ok (.dup, 1) := dk_89 (dk_at dksX0_known_7 12 rfl rfl)
theorem dX0_known_180 : decode cX0_known 180 = .ok (.iconst 3, 1) := dk_6 (dk_at dksX0_known_7 13 rfl rfl)
theorem dX0_known_181 : decode cX0_known 181 = .ok (.sipush 248, 3) := dk_17 0 248 (dk_at dksX0_known_7 14 rfl rfl)
theorem dX0_known_184 : decode cX0_known 184 = .ok (.iastore, 1) := dk_79 (dk_at dksX0_known_7 17 rfl rfl)
theorem dX0_known_185 : decode cX0_known 185 = .ok (.dup, 1) := dk_89 (dk_at dksX0_known_7 18 rfl rfl)
theorem dX0_known_186 : decode cX0_known 186 = .ok (.iconst 4, 1) := dk_7 (dk_at dksX0_known_7 19 rfl rfl)
theorem dX0_known_187 : decode cX0_known 187 = .ok (.bipush 121, 2) := dk_16 121 (dk_at dksX0_known_7 20 rfl rfl)
theorem dX0_known_189 : decode cX0_known 189 = .ok (.iastore, 1) := dk_79 (dk_at dksX0_known_7 22 rfl rfl)
theorem dX0_known_190 : decode cX0_known 190 = .ok (.dup, 1) := dk_89 (dk_at dksX0_known_7 23 rfl rfl)
theorem dX0_known_191 : decode cX0_known 191 = .ok (.iconst 5, 1) := dk_8 (dk_at dksX0_known_8 0 rfl rfl)
theorem dX0_known_192 : decode cX0_known 192 = .ok (.iconst 1, 1) := dk_4 (dk_at dksX0_known_8 1 rfl rfl)
theorem dX0_known_193 : decode cX0_known 193 = .ok (.iastore, 1) := dk_79 (dk_at dksX0_known_8 2 rfl rfl)
theorem dX0_known_194 : decode cX0_known 194 = .ok (.dup, 1) := dk_89 (dk_at dksX0_known_8 3 rfl rfl)
theorem dX0_known_195 : decode cX0_known 195 = .ok (.bipush 6, 2) := dk_16 6 (dk_at dksX0_known_8 4 rfl rfl)
theorem dX0_known_197 : decode cX0_known 197 = .ok (.bipush 55, 2) := dk_16 55 (dk_at dksX0_known_8 6 rfl rfl)
theorem dX0_known_199 : decode cX0_known 199 = .ok (.iastore, 1) := dk_79 (dk_at dksX0_known_8 8 rfl rfl)
theorem dX0_known_200 : decode cX0_known 200 = .ok (.dup, 1) := dk_89 (dk_at dksX0_known_8 9 rfl rfl)
theorem dX0_known_201 : decode cX0_known 201 = .ok (.bipush 7, 2) := dk_16 7 (dk_at dksX0_known_8 10 rfl rfl)
theorem dX0_known_203 : decode cX0_known 203 = .ok (.bipush 15, 2) := dk_16 15 (dk_at dksX0_known_8 12 rfl rfl)
theorem dX0_known_205 : decode cX0_known 205 = .ok (.iastore, 1) := dk_79 (dk_at dksX0_known_8 14 rfl rfl)
theorem dX0_known_206 : decode cX0_known 206 = .ok (.astore_n 3, 1) := dk_78 (dk_at dksX0_known_8 15 rfl rfl)
theorem dX0_known_207 : decode cX0_known 207 = .ok (.iconst 0, 1) := dk_3 (dk_at dksX0_known_8 16 rfl rfl)
theorem dX0_known_208 : decode cX0_known 208 = .ok (.istore 4, 2) := dk_54 4 (dk_at dksX0_known_8 17 rfl rfl)
theorem dX0_known_210 : decode cX0_known 210 = .ok (.iload 4, 2) := dk_21 4 (dk_at dksX0_known_8 19 rfl rfl)
theorem dX0_known_212 : decode cX0_known 212 = .ok (.bipush 8, 2) := dk_16 8 (dk_at dksX0_known_8 21 rfl rfl)
theorem dX0_known_214 : decode cX0_known 214 = .ok (.if_icmp .ge 24, 3) := dk_162 0 24 (dk_at dksX0_known_9 0 rfl rfl)
theorem dX0_known_217 : decode cX0_known 217 = .ok (.aload_n 2, 1) := dk_44 (dk_at dksX0_known_9 3 rfl rfl)
theorem dX0_known_218 : decode cX0_known 218 = .ok (.iload 4, 2) := dk_21 4 (dk_at dksX0_known_9 4 rfl rfl)
theorem dX0_known_220 : decode cX0_known 220 = .ok (.invokevirtual 24, 3) := dk_182 0 24 (dk_at dksX0_known_9 6 rfl rfl)
theorem dX0_known_223 : decode cX0_known 223 = .ok (.aload_n 3, 1) := dk_45 (dk_at dksX0_known_9 9 rfl rfl)
theorem dX0_known_224 : decode cX0_known 224 = .ok (.iload 4, 2) := dk_21 4 (dk_at dksX0_known_9 10 rfl rfl)
theorem dX0_known_226 : decode cX0_known 226 = .ok (.iaload, 1) := dk_46 (dk_at dksX0_known_9 12 rfl rfl)
theorem dX0_known_227 : decode cX0_known 227 = .ok (.if_icmp .eq 5, 3) := dk_159 0 5 (dk_at dksX0_known_9 13 rfl rfl)
theorem dX0_known_230 : decode cX0_known 230 = .ok (.iconst 0, 1) := dk_3 (dk_at dksX0_known_9 16 rfl rfl)
theorem dX0_known_231 : decode cX0_known 231 = .ok (.ireturn, 1) := dk_172 (dk_at dksX0_known_9 17 rfl rfl)
theorem dX0_known_232 : decode cX0_known 232 = .ok (.iinc 4 1, 3) := dk_132 4 1 (dk_at dksX0_known_9 18 rfl rfl)
theorem dX0_known_235 : decode cX0_known 235 = .ok (.goto (-25), 3) := dk_167 255 231 (dk_at dksX0_known_9 21 rfl rfl)
theorem dX0_known_238 : decode cX0_known 238 = .ok (.iconst 1, 1) := dk_4 (dk_at dksX0_known_10 0 rfl rfl)
theorem dX0_known_239 : decode cX0_known 239 = .ok (.ireturn, 1) := dk_172 (dk_at dksX0_known_10 1 rfl rfl)
theorem q10 : (Jvm.Cond.initialized "IdeaDeskLaw") ∈ lw_all := lw_g (lw_at lw_m1 0 rfl) rfl
theorem q23 : (Jvm.Cond.methodLink "IdeaDeskLaw" (33 : Nat) ({ cls := "IdeaDesk", name := "lock", desc := "(I)V" } : Jvm.MethodName)) ∈ lw_all := lw_g (lw_at lw_m1 13 rfl) rfl
theorem q256 : (Jvm.Cond.methodLink "IdeaDeskLaw" (46 : Nat) ({ cls := "IdeaDesk", name := "open", desc := "(I)V" } : Jvm.MethodName)) ∈ lw_all := lw_g (lw_at lw_m2 6 rfl) rfl
theorem q260 : (Jvm.Cond.methodLink "IdeaDeskLaw" (49 : Nat) ({ cls := "IdeaDesk", name := "again", desc := "()V" } : Jvm.MethodName)) ∈ lw_all := lw_g (lw_at lw_m2 10 rfl) rfl
theorem q264 : (Jvm.Cond.methodLink "IdeaDeskLaw" (42 : Nat) ({ cls := "IdeaDeskLaw", name := "with", desc := "([I)LIdeaDesk;" } : Jvm.MethodName)) ∈ lw_all := lw_g (lw_at lw_m2 14 rfl) rfl
theorem q265 : (Jvm.Cond.static ({ cls := "IdeaDeskLaw", name := "with", desc := "([I)LIdeaDesk;" } : Jvm.MethodName)) ∈ lw_all := lw_g (lw_at lw_m2 15 rfl) rfl
theorem q266 : (Jvm.Cond.code ({ cls := "IdeaDeskLaw", name := "with", desc := "([I)LIdeaDesk;" } : Jvm.MethodName) method_3_code (2 : Nat) (Option.some (Jvm.ClassFile.FieldType.object "IdeaDesk"))) ∈ lw_all := lw_g (lw_at lw_m2 16 rfl) rfl
theorem q267 : (Jvm.Cond.classLink "IdeaDeskLaw" (7 : Nat) "IdeaDesk") ∈ lw_all := lw_g (lw_at lw_m2 17 rfl) rfl
theorem q268 : (Jvm.Cond.methodLink "IdeaDeskLaw" (9 : Nat) ({ cls := "IdeaDesk", name := "<init>", desc := "()V" } : Jvm.MethodName)) ∈ lw_all := lw_g (lw_at lw_m2 18 rfl) rfl
theorem q282 : (Jvm.Cond.methodLink "IdeaDeskLaw" (10 : Nat) ({ cls := "IdeaDeskLaw", name := "cell", desc := "([II)I" } : Jvm.MethodName)) ∈ lw_all := lw_g (lw_at lw_m2 32 rfl) rfl
theorem q283 : (Jvm.Cond.static ({ cls := "IdeaDeskLaw", name := "cell", desc := "([II)I" } : Jvm.MethodName)) ∈ lw_all := lw_g (lw_at lw_m2 33 rfl) rfl
theorem q284 : (Jvm.Cond.code ({ cls := "IdeaDeskLaw", name := "cell", desc := "([II)I" } : Jvm.MethodName) method_2_code (2 : Nat) (Option.some Jvm.ClassFile.FieldType.int)) ∈ lw_all := lw_g (lw_at lw_m2 34 rfl) rfl
theorem q285 : (Jvm.Cond.methodLink "IdeaDeskLaw" (16 : Nat) ({ cls := "IdeaDesk", name := "key", desc := "(IIIII)V" } : Jvm.MethodName)) ∈ lw_all := lw_g (lw_at lw_m2 35 rfl) rfl
theorem q292 : (Jvm.Cond.methodLink "IdeaDeskLaw" (20 : Nat) ({ cls := "IdeaDesk", name := "block", desc := "(II)V" } : Jvm.MethodName)) ∈ lw_all := lw_g (lw_at lw_m2 42 rfl) rfl
theorem q296 : (Jvm.Cond.methodLink "IdeaDeskLaw" (52 : Nat) ({ cls := "IdeaDeskLaw", name := "same", desc := "(LIdeaDesk;[I)Z" } : Jvm.MethodName)) ∈ lw_all := lw_g (lw_at lw_m2 46 rfl) rfl
theorem q297 : (Jvm.Cond.static ({ cls := "IdeaDeskLaw", name := "same", desc := "(LIdeaDesk;[I)Z" } : Jvm.MethodName)) ∈ lw_all := lw_g (lw_at lw_m2 47 rfl) rfl
theorem q298 : (Jvm.Cond.code ({ cls := "IdeaDeskLaw", name := "same", desc := "(LIdeaDesk;[I)Z" } : Jvm.MethodName) method_4_code (3 : Nat) (Option.some Jvm.ClassFile.FieldType.boolean)) ∈ lw_all := lw_g (lw_at lw_m2 48 rfl) rfl
theorem q299 : (Jvm.Cond.methodLink "IdeaDeskLaw" (24 : Nat) ({ cls := "IdeaDesk", name := "out", desc := "(I)I" } : Jvm.MethodName)) ∈ lw_all := lw_g (lw_at lw_m2 49 rfl) rfl
theorem q303 : (Jvm.Cond.methodLink "IdeaDeskLaw" (38 : Nat) ({ cls := "IdeaDeskLaw", name := "known", desc := "()Z" } : Jvm.MethodName)) ∈ lw_all := lw_g (lw_at lw_m2 53 rfl) rfl
theorem q304 : (Jvm.Cond.static ({ cls := "IdeaDeskLaw", name := "known", desc := "()Z" } : Jvm.MethodName)) ∈ lw_all := lw_g (lw_at lw_m2 54 rfl) rfl
theorem q305 : (Jvm.Cond.code ({ cls := "IdeaDeskLaw", name := "known", desc := "()Z" } : Jvm.MethodName) method_5_code (5 : Nat) (Option.some Jvm.ClassFile.FieldType.boolean)) ∈ lw_all := lw_g (lw_at lw_m2 55 rfl) rfl
theorem q306 : (Jvm.Cond.constant "IdeaDeskLaw" (28 : Nat) (65538 : Int32)) ∈ lw_all := lw_g (lw_at lw_m2 56 rfl) rfl
theorem q307 : (Jvm.Cond.constant "IdeaDeskLaw" (29 : Nat) (196612 : Int32)) ∈ lw_all := lw_g (lw_at lw_m2 57 rfl) rfl
theorem q308 : (Jvm.Cond.constant "IdeaDeskLaw" (30 : Nat) (327686 : Int32)) ∈ lw_all := lw_g (lw_at lw_m2 58 rfl) rfl
theorem q309 : (Jvm.Cond.constant "IdeaDeskLaw" (31 : Nat) (458760 : Int32)) ∈ lw_all := lw_g (lw_at lw_m2 59 rfl) rfl
theorem q310 : (Jvm.Cond.constant "IdeaDeskLaw" (32 : Nat) (131075 : Int32)) ∈ lw_all := lw_g (lw_at lw_m2 60 rfl) rfl
theorem q311 : (Jvm.Cond.constant "IdeaDeskLaw" (37 : Nat) (-2147483648 : Int32)) ∈ lw_all := lw_g (lw_at lw_m2 61 rfl) rfl
/-! the law's own entry -/
set_option maxRecDepth 100000
abbrev cL_law : ByteArray := code
def dkwL_law_4 : List UInt8 := [25, 7, 42, 184, 0, 52, 154, 0, 5, 3, 172, 132, 4, 1, 167, 255, 171, 4, 172]
abbrev dktL_law_4 : List UInt8 := dkwL_law_4 ++ []
def dkwL_law_3 : List UInt8 := [182, 0, 46, 25, 7, 182, 0, 49, 25, 7, 21, 5, 182, 0, 33, 25, 6, 42, 184, 0, 52, 153, 0, 12]
abbrev dktL_law_3 : List UInt8 := dkwL_law_3 ++ dktL_law_4
def dkwL_law_2 : List UInt8 := [25, 6, 21, 5, 182, 0, 33, 25, 7, 21, 5, 182, 0, 46, 25, 6, 182, 0, 49, 25, 6, 21, 5]
abbrev dktL_law_2 : List UInt8 := dkwL_law_2 ++ dktL_law_3
def dkwL_law_1 : List UInt8 := [21, 4, 29, 162, 0, 85, 44, 21, 4, 46, 54, 5, 42, 184, 0, 42, 58, 6, 42, 184, 0, 42, 58, 7]
abbrev dktL_law_1 : List UInt8 := dkwL_law_1 ++ dktL_law_2
def dkwL_law_0 : List UInt8 := [184, 0, 38, 154, 0, 5, 3, 172, 4, 188, 10, 89, 3, 3, 79, 76, 43, 77, 44, 190, 62, 3, 54, 4]
abbrev dktL_law_0 : List UInt8 := dkwL_law_0 ++ dktL_law_1
theorem dksL_law_0 : cL_law.data.toList.drop 0 = dktL_law_0 := by decide +kernel
theorem dksL_law_1 : cL_law.data.toList.drop 24 = dktL_law_1 := dk_seg dksL_law_0 24 rfl rfl
theorem dksL_law_2 : cL_law.data.toList.drop 48 = dktL_law_2 := dk_seg dksL_law_1 24 rfl rfl
theorem dksL_law_3 : cL_law.data.toList.drop 71 = dktL_law_3 := dk_seg dksL_law_2 23 rfl rfl
theorem dksL_law_4 : cL_law.data.toList.drop 95 = dktL_law_4 := dk_seg dksL_law_3 24 rfl rfl
theorem dL_law_0 : decode cL_law 0 = .ok (.invokestatic 38, 3) := dk_184 0 38 (dk_at dksL_law_0 0 rfl rfl)
theorem dL_law_3 : decode cL_law 3 = .ok (.ifCond .ne 5, 3) := dk_154 0 5 (dk_at dksL_law_0 3 rfl rfl)
theorem dL_law_6 : decode cL_law 6 = .ok (.iconst 0, 1) := dk_3 (dk_at dksL_law_0 6 rfl rfl)
theorem dL_law_7 : decode cL_law 7 = .ok (.ireturn, 1) := dk_172 (dk_at dksL_law_0 7 rfl rfl)
theorem dL_law_8 : decode cL_law 8 = .ok (.iconst 1, 1) := dk_4 (dk_at dksL_law_0 8 rfl rfl)
theorem dL_law_9 : decode cL_law 9 = .ok (.newarray .int, 2) := dk_188_10 (dk_at dksL_law_0 9 rfl rfl)
theorem dL_law_11 : decode cL_law 11 = .ok (.dup, 1) := dk_89 (dk_at dksL_law_0 11 rfl rfl)
theorem dL_law_12 : decode cL_law 12 = .ok (.iconst 0, 1) := dk_3 (dk_at dksL_law_0 12 rfl rfl)
theorem dL_law_13 : decode cL_law 13 = .ok (.iconst 0, 1) := dk_3 (dk_at dksL_law_0 13 rfl rfl)
theorem dL_law_14 : decode cL_law 14 = .ok (.iastore, 1) := dk_79 (dk_at dksL_law_0 14 rfl rfl)
theorem dL_law_15 : decode cL_law 15 = .ok (.astore_n 1, 1) := dk_76 (dk_at dksL_law_0 15 rfl rfl)
theorem dL_law_16 : decode cL_law 16 = .ok (.aload_n 1, 1) := dk_43 (dk_at dksL_law_0 16 rfl rfl)
theorem dL_law_17 : decode cL_law 17 = .ok (.astore_n 2, 1) := dk_77 (dk_at dksL_law_0 17 rfl rfl)
theorem dL_law_18 : decode cL_law 18 = .ok (.aload_n 2, 1) := dk_44 (dk_at dksL_law_0 18 rfl rfl)
theorem dL_law_19 : decode cL_law 19 = .ok (.arraylength, 1) := dk_190 (dk_at dksL_law_0 19 rfl rfl)
theorem dL_law_20 : decode cL_law 20 = .ok (.istore_n 3, 1) := dk_62 (dk_at dksL_law_0 20 rfl rfl)
theorem dL_law_21 : decode cL_law 21 = .ok (.iconst 0, 1) := dk_3 (dk_at dksL_law_0 21 rfl rfl)
theorem dL_law_22 : decode cL_law 22 = .ok (.istore 4, 2) := dk_54 4 (dk_at dksL_law_0 22 rfl rfl)
theorem dL_law_24 : decode cL_law 24 = .ok (.iload 4, 2) := dk_21 4 (dk_at dksL_law_1 0 rfl rfl)
theorem dL_law_26 : decode cL_law 26 = .ok (.iload_n 3, 1) := dk_29 (dk_at dksL_law_1 2 rfl rfl)
theorem dL_law_27 : decode cL_law 27 = .ok (.if_icmp .ge 85, 3) := dk_162 0 85 (dk_at dksL_law_1 3 rfl rfl)
theorem dL_law_30 : decode cL_law 30 = .ok (.aload_n 2, 1) := dk_44 (dk_at dksL_law_1 6 rfl rfl)
theorem dL_law_31 : decode cL_law 31 = .ok (.iload 4, 2) := dk_21 4 (dk_at dksL_law_1 7 rfl rfl)
theorem dL_law_33 : decode cL_law 33 = .ok (.iaload, 1) := dk_46 (dk_at dksL_law_1 9 rfl rfl)
theorem dL_law_34 : decode cL_law 34 = .ok (.istore 5, 2) := dk_54 5 (dk_at dksL_law_1 10 rfl rfl)
theorem dL_law_36 : decode cL_law 36 = .ok (.aload_n 0, 1) := dk_42 (dk_at dksL_law_1 12 rfl rfl)
theorem dL_law_37 : decode cL_law 37 = .ok (.invokestatic 42, 3) := dk_184 0 42 (dk_at dksL_law_1 13 rfl rfl)
theorem dL_law_40 : decode cL_law 40 = .ok (.astore 6, 2) := dk_58 6 (dk_at dksL_law_1 16 rfl rfl)
theorem dL_law_42 : decode cL_law 42 = .ok (.aload_n 0, 1) := dk_42 (dk_at dksL_law_1 18 rfl rfl)
theorem dL_law_43 : decode cL_law 43 = .ok (.invokestatic 42, 3) := dk_184 0 42 (dk_at dksL_law_1 19 rfl rfl)
theorem dL_law_46 : decode cL_law 46 = .ok (.astore 7, 2) := dk_58 7 (dk_at dksL_law_1 22 rfl rfl)
theorem dL_law_48 : decode cL_law 48 = .ok (.aload 6, 2) := dk_25 6 (dk_at dksL_law_2 0 rfl rfl)
theorem dL_law_50 : decode cL_law 50 = .ok (.iload 5, 2) := dk_21 5 (dk_at dksL_law_2 2 rfl rfl)
theorem dL_law_52 : decode cL_law 52 = .ok (.invokevirtual 33, 3) := dk_182 0 33 (dk_at dksL_law_2 4 rfl rfl)
theorem dL_law_55 : decode cL_law 55 = .ok (.aload 7, 2) := dk_25 7 (dk_at dksL_law_2 7 rfl rfl)
theorem dL_law_57 : decode cL_law 57 = .ok (.iload 5, 2) := dk_21 5 (dk_at dksL_law_2 9 rfl rfl)
theorem dL_law_59 : decode cL_law 59 = .ok (.invokevirtual 46, 3) := dk_182 0 46 (dk_at dksL_law_2 11 rfl rfl)
theorem dL_law_62 : decode cL_law 62 = .ok (.aload 6, 2) := dk_25 6 (dk_at dksL_law_2 14 rfl rfl)
theorem dL_law_64 : decode cL_law 64 = .ok (.invokevirtual 49, 3) := dk_182 0 49 (dk_at dksL_law_2 16 rfl rfl)
theorem dL_law_67 : decode cL_law 67 = .ok (.aload 6, 2) := dk_25 6 (dk_at dksL_law_2 19 rfl rfl)
theorem dL_law_69 : decode cL_law 69 = .ok (.iload 5, 2) := dk_21 5 (dk_at dksL_law_2 21 rfl rfl)
theorem dL_law_71 : decode cL_law 71 = .ok (.invokevirtual 46, 3) := dk_182 0 46 (dk_at dksL_law_3 0 rfl rfl)
theorem dL_law_74 : decode cL_law 74 = .ok (.aload 7, 2) := dk_25 7 (dk_at dksL_law_3 3 rfl rfl)
theorem dL_law_76 : decode cL_law 76 = .ok (.invokevirtual 49, 3) := dk_182 0 49 (dk_at dksL_law_3 5 rfl rfl)
theorem dL_law_79 : decode cL_law 79 = .ok (.aload 7, 2) := dk_25 7 (dk_at dksL_law_3 8 rfl rfl)
theorem dL_law_81 : decode cL_law 81 = .ok (.iload 5, 2) := dk_21 5 (dk_at dksL_law_3 10 rfl rfl)
theorem dL_law_83 : decode cL_law 83 = .ok (.invokevirtual 33, 3) := dk_182 0 33 (dk_at dksL_law_3 12 rfl rfl)
theorem dL_law_86 : decode cL_law 86 = .ok (.aload 6, 2) := dk_25 6 (dk_at dksL_law_3 15 rfl rfl)
theorem dL_law_88 : decode cL_law 88 = .ok (.aload_n 0, 1) := dk_42 (dk_at dksL_law_3 17 rfl rfl)
theorem dL_law_89 : decode cL_law 89 = .ok (.invokestatic 52, 3) := dk_184 0 52 (dk_at dksL_law_3 18 rfl rfl)
theorem dL_law_92 : decode cL_law 92 = .ok (.ifCond .eq 12, 3) := dk_153 0 12 (dk_at dksL_law_3 21 rfl rfl)
theorem dL_law_95 : decode cL_law 95 = .ok (.aload 7, 2) := dk_25 7 (dk_at dksL_law_4 0 rfl rfl)
theorem dL_law_97 : decode cL_law 97 = .ok (.aload_n 0, 1) := dk_42 (dk_at dksL_law_4 2 rfl rfl)
theorem dL_law_98 : decode cL_law 98 = .ok (.invokestatic 52, 3) := dk_184 0 52 (dk_at dksL_law_4 3 rfl rfl)
theorem dL_law_101 : decode cL_law 101 = .ok (.ifCond .ne 5, 3) := dk_154 0 5 (dk_at dksL_law_4 6 rfl rfl)
theorem dL_law_104 : decode cL_law 104 = .ok (.iconst 0, 1) := dk_3 (dk_at dksL_law_4 9 rfl rfl)
theorem dL_law_105 : decode cL_law 105 = .ok (.ireturn, 1) := dk_172 (dk_at dksL_law_4 10 rfl rfl)
theorem dL_law_106 : decode cL_law 106 = .ok (.iinc 4 1, 3) := dk_132 4 1 (dk_at dksL_law_4 11 rfl rfl)
theorem dL_law_109 : decode cL_law 109 = .ok (.goto (-85), 3) := dk_167 255 171 (dk_at dksL_law_4 14 rfl rfl)
theorem dL_law_112 : decode cL_law 112 = .ok (.iconst 1, 1) := dk_4 (dk_at dksL_law_4 17 rfl rfl)
theorem dL_law_113 : decode cL_law 113 = .ok (.ireturn, 1) := dk_172 (dk_at dksL_law_4 18 rfl rfl)
end
section
/-! ===== Int32 by its bits: bt x i ===== -/
def bt (x : Int32) (i : Nat) : Bool := x.toBitVec.getLsbD i
theorem b_ext {x y : Int32} (h : ∀ i, i < 32 → bt x i = bt y i) : x = y := Int32.toBitVec_inj.mp (BitVec.eq_of_getLsbD_eq (fun i hi => h i hi))
theorem b_or (x y : Int32) (i : Nat) : bt (x ||| y) i = (bt x i || bt y i) := by unfold bt; rw [Int32.toBitVec_or, BitVec.getLsbD_or]
theorem b_and (x y : Int32) (i : Nat) : bt (x &&& y) i = (bt x i && bt y i) := by unfold bt; rw [Int32.toBitVec_and, BitVec.getLsbD_and]
theorem b_xor (x y : Int32) (i : Nat) : bt (x ^^^ y) i = (bt x i ^^ bt y i) := by unfold bt; rw [Int32.toBitVec_xor, BitVec.getLsbD_xor]
theorem b_big {x : Int32} {i : Nat} (h : 32 ≤ i) : bt x i = false := BitVec.getLsbD_of_ge _ _ h
theorem b_255 (i : Nat) : bt 255 i = decide (i < 8) := by
  rcases Nat.lt_or_ge i 32 with h | h
  · exact (by decide +kernel : ∀ i, i < 32 → bt 255 i = decide (i < 8)) i h
  · rw [b_big h, decide_eq_false (by omega)]
theorem b_65535 (i : Nat) : bt 65535 i = decide (i < 16) := by
  rcases Nat.lt_or_ge i 32 with h | h
  · exact (by decide +kernel : ∀ i, i < 32 → bt 65535 i = decide (i < 16)) i h
  · rw [b_big h, decide_eq_false (by omega)]
theorem b_m1 : ∀ i, i < 32 → bt (-1) i = true := by decide +kernel
theorem b_0 (i : Nat) : bt 0 i = false := BitVec.getLsbD_zero
theorem s_l : ∀ n, n < 32 → ((nI n &&& 31).toBitVec.smod 32).toNat = n := by decide +kernel
theorem s_u : ∀ n, n < 32 → (((nI n).toUInt32 &&& Int32.toUInt32 31).toBitVec % 32).toNat = n := by decide +kernel
theorem b_shl (n : Nat) (hn : n < 32) (x : Int32) {i : Nat} (hi : i < 32) : bt (x <<< (nI n &&& 31)) i = (decide (n ≤ i) && bt x (i - n)) := by
  unfold bt
  rw [Int32.toBitVec_shiftLeft]
  show (x.toBitVec <<< ((nI n &&& 31).toBitVec.smod 32).toNat).getLsbD i = _
  rw [s_l n hn, BitVec.getLsbD_shiftLeft]
  rcases Nat.lt_or_ge i n with h | h
  · simp [h, Nat.not_le.mpr h]
  · simp [hi, h, Nat.not_lt.mpr h]
theorem b_ushr (n : Nat) (hn : n < 32) (x : Int32) (i : Nat) : bt ((x.toUInt32 >>> ((nI n).toUInt32 &&& Int32.toUInt32 31)).toInt32) i = bt x (n + i) := by
  show (x.toUInt32 >>> ((nI n).toUInt32 &&& Int32.toUInt32 31)).toBitVec.getLsbD i = x.toUInt32.toBitVec.getLsbD (n + i)
  rw [UInt32.toBitVec_shiftRight]
  show (x.toUInt32.toBitVec >>> (((nI n).toUInt32 &&& Int32.toUInt32 31).toBitVec % 32).toNat).getLsbD i = _
  rw [s_u n hn, BitVec.getLsbD_ushiftRight]
theorem b_sshr (n : Nat) (hn : n < 32) (x : Int32) {i : Nat} (hi : i < 32) : bt (x >>> (nI n &&& 31)) i = if n + i < 32 then bt x (n + i) else bt x 31 := by
  unfold bt
  rw [Int32.toBitVec_shiftRight]
  show (x.toBitVec.sshiftRight ((nI n &&& 31).toBitVec.smod 32).toNat).getLsbD i = _
  rw [s_l n hn, BitVec.getLsbD_sshiftRight, BitVec.msb_eq_getLsbD_last]
  simp [hi]
theorem b_shl8 (x : Int32) {i : Nat} (hi : i < 32) : bt (x <<< ((8 : Int32) &&& 31)) i = (decide (8 ≤ i) && bt x (i - 8)) := b_shl 8 (by omega) x hi
theorem b_shl16 (x : Int32) {i : Nat} (hi : i < 32) : bt (x <<< ((16 : Int32) &&& 31)) i = (decide (16 ≤ i) && bt x (i - 16)) := b_shl 16 (by omega) x hi
theorem b_shl24 (x : Int32) {i : Nat} (hi : i < 32) : bt (x <<< ((24 : Int32) &&& 31)) i = (decide (24 ≤ i) && bt x (i - 24)) := b_shl 24 (by omega) x hi
theorem b_sshr8 (x : Int32) {i : Nat} (hi : i < 32) : bt (x >>> ((8 : Int32) &&& 31)) i = if 8 + i < 32 then bt x (8 + i) else bt x 31 := b_sshr 8 (by omega) x hi
theorem bp_b (x : Int32) : x.toInt8.toInt32 &&& 255 = x &&& 255 := by
  apply Int32.toBitVec_inj.mp
  rw [Int32.toBitVec_and, Int32.toBitVec_and, Int8.toBitVec_toInt32, Int32.toBitVec_toInt8]
  apply BitVec.eq_of_getLsbD_eq
  intro i hi
  rw [BitVec.getLsbD_and, BitVec.getLsbD_and]
  have hm : ∀ i < 32, 8 ≤ i → (255 : Int32).toBitVec.getLsbD i = false := by decide
  rcases Nat.lt_or_ge i 8 with z | z
  · rw [BitVec.getLsbD_signExtend, BitVec.getLsbD_signExtend, if_pos z, if_pos hi]
    simp only [z, hi, decide_true, Bool.true_and]
  · rw [hm i hi z]; simp
end
section
/-! pure pictures of what the methods compute (ints of 32 bits), and the plain law over natural numbers -/
set_option maxRecDepth 100000
def id_b8 (x : Int32) : Int32 := x.toInt8.toInt32
def id_u (x k : Int32) : Int32 := (x.toUInt32 >>> (k.toUInt32 &&& Int32.toUInt32 31)).toInt32
def id_m (x : Int32) : Int32 := x &&& 65535
def id_wd (x y : Int32) : Int32 := ((x <<< ((8 : Int32) &&& 31)) &&& 65280) + (y &&& 255)
def id_mul (x y : Int32) : Int32 :=
  if x = 0 then id_m (65537 - y) else if y = 0 then id_m (65537 - x)
  else id_m (id_m (x * y) - id_u (x * y) 16 + (if id_u (x * y) 16 ≤ id_m (x * y) then 0 else 1))
def id_neg (x : Int32) : Int32 := id_m (0 - x)
def id_wb (g : Nat → Int32) (k : Nat) (v : Int32) : Nat → Int32 := upd (upd g k (id_b8 (id_u v 8))) (k + 1) (id_b8 v)
abbrev id_X : Type := Int32 × Int32 × Int32 × Int32
def id_in (f : Nat → Int32) : id_X := (id_wd (f 0) (f 1), id_wd (f 2) (f 3), id_wd (f 4) (f 5), id_wd (f 6) (f 7))
def id_rf (k4 k5 p q : Int32) : Int32 × Int32 := (id_mul (id_m (q + id_mul p k4)) k5, id_m (id_mul p k4 + id_mul (id_m (q + id_mul p k4)) k5))
def id_rg (k4 k5 y0 y1 y2 y3 : Int32) : id_X :=
  (y0 ^^^ (id_rf k4 k5 (y2 ^^^ y0) (y1 ^^^ y3)).1, (id_rf k4 k5 (y2 ^^^ y0) (y1 ^^^ y3)).1 ^^^ y2, (id_rf k4 k5 (y2 ^^^ y0) (y1 ^^^ y3)).2 ^^^ y1, y3 ^^^ (id_rf k4 k5 (y2 ^^^ y0) (y1 ^^^ y3)).2)
def id_rd (k0 k1 k2 k3 k4 k5 : Int32) (x : id_X) : id_X := id_rg k4 k5 (id_mul x.1 k0) (id_m (x.2.1 + k1)) (id_m (x.2.2.1 + k2)) (id_mul x.2.2.2 k3)
def id_st (w : Nat → Int32) (x : id_X) : Nat → id_X
  | 0 => x
  | r + 1 => id_rd (w (6 * r)) (w (6 * r + 1)) (w (6 * r + 2)) (w (6 * r + 3)) (w (6 * r + 4)) (w (6 * r + 5)) (id_st w x r)
def id_fin (w : Nat → Int32) (x : id_X) : id_X := (id_mul x.1 (w 48), x.2.2.1 + w 49, x.2.1 + w 50, id_mul x.2.2.2 (w 51))
def id_put (g : Nat → Int32) (y : id_X) : Nat → Int32 := id_wb (id_wb (id_wb (id_wb g 0 y.1) 2 y.2.1) 4 y.2.2.1) 6 y.2.2.2
def id_out (w f g : Nat → Int32) : Nat → Int32 := id_put g (id_fin w (id_st w (id_in f) 8))
def id_sh (a b : Int32) : Int32 := id_m (((a &&& 127) <<< ((9 : Int32) &&& 31)) ||| (b >>> ((7 : Int32) &&& 31)))
def id_ek (f : Nat → Int32) (k : Nat) : Int32 :=
  if h : k < 8 then id_wd (f (k * 2)) (f (k * 2 + 1))
  else if k % 8 < 6 then id_sh (id_ek f (k - 7)) (id_ek f (k - 6))
  else if k % 8 = 6 then id_sh (id_ek f (k - 7)) (id_ek f (k - 14))
  else id_sh (id_ek f (k - 15)) (id_ek f (k - 14))
termination_by k
decreasing_by all_goals omega
theorem id_ek_0 (f : Nat → Int32) {k : Nat} (h : k < 8) : id_ek f k = id_wd (f (k * 2)) (f (k * 2 + 1)) := by
  rw [id_ek, dif_pos h]
theorem id_ek_1 (f : Nat → Int32) {k : Nat} (h : 8 ≤ k) (h2 : k % 8 < 6) : id_ek f k = id_sh (id_ek f (k - 7)) (id_ek f (k - 6)) := by
  rw [id_ek, dif_neg (by omega), if_pos h2]
theorem id_ek_2 (f : Nat → Int32) {k : Nat} (h : 8 ≤ k) (h2 : k % 8 = 6) : id_ek f k = id_sh (id_ek f (k - 7)) (id_ek f (k - 14)) := by
  rw [id_ek, dif_neg (by omega), if_neg (by omega), if_pos h2]
theorem id_ek_3 (f : Nat → Int32) {k : Nat} (h : 8 ≤ k) (h2 : k % 8 = 7) : id_ek f k = id_sh (id_ek f (k - 15)) (id_ek f (k - 14)) := by
  rw [id_ek, dif_neg (by omega), if_neg (by omega), if_neg (by omega)]
/-! small rows on numbers -/
theorem id_inc {a b : Nat} (h : b = a + 1) : nI a + Int32.ofInt 1 = nI b := by rw [h]; exact nI_1 a
theorem id_dec {a b : Nat} (h : a = b + 1) : nI a + Int32.ofInt (-1) = nI b := by rw [h]; exact pk_m1 b
theorem id_addn {a b c : Nat} (h : c = a + b) : nI a + nI b = nI c := by rw [h]; exact nI_add a b
theorem id_muln {a b c : Nat} (h : c = a * b) : nI a * nI b = nI c := by rw [h]; exact pk_mul a b
theorem id_subn {a b c : Nat} (h : a = c + b) : nI a - nI b = nI c := by
  subst h
  rw [pk_sub (Nat.le_add_left b c), Nat.add_sub_cancel]
theorem id_tn (n : Nat) : (nI n).toBitVec.toNat = n % 4294967296 := rfl
theorem id_nI_toNat (x : Int32) : nI x.toBitVec.toNat = x := by
  apply Int32.toBitVec_inj.mp
  apply BitVec.eq_of_toNat_eq
  rw [id_tn]
  exact Nat.mod_eq_of_lt x.toBitVec.isLt
theorem id_wrap (n : Nat) : nI (n + 4294967296) = nI n := by
  apply Int32.toBitVec_inj.mp
  apply BitVec.eq_of_toNat_eq
  rw [id_tn, id_tn]
  omega
theorem id_mask {x m : Int32} (k : Nat) (hm : m.toBitVec.toNat = 2 ^ k - 1) : x &&& m = nI (x.toBitVec.toNat % 2 ^ k) := pk_and x k hm
theorem id_m_of (x : Int32) : id_m x = nI (x.toBitVec.toNat % 65536) := pk_and x 16 (by decide)
theorem id_m_N (k : Nat) : id_m (nI k) = nI (k % 65536) := by
  rw [id_m_of, id_tn]
  congr 1
  omega
theorem id_m_lt {k : Nat} (h : k < 65536) : id_m (nI k) = nI k := by rw [id_m_N, Nat.mod_eq_of_lt h]
theorem id_xorN (a b : Nat) : nI a ^^^ nI b = nI (a ^^^ b) := by
  apply Int32.toBitVec_inj.1
  show BitVec.ofNat 32 a ^^^ BitVec.ofNat 32 b = BitVec.ofNat 32 (a ^^^ b)
  apply BitVec.eq_of_getLsbD_eq
  intro i hi
  simp [hi]
theorem id_u16_N {p : Nat} (h : p < 4294967296) : id_u (nI p) 16 = nI (p / 65536) := pk_ushrN h 16 16 (by decide)
/-! products modulo 65537: 0 stands for 65536 -/
def id_V (a : Nat) : Nat := if a = 0 then 65536 else a
def id_mN (a b : Nat) : Nat := id_V a * id_V b % 65537 % 65536
theorem id_mN_lt (a b : Nat) : id_mN a b < 65536 := Nat.mod_lt _ (by decide)
theorem id_V0 : id_V 0 = 65536 := rfl
theorem id_Vp {a : Nat} (h : a ≠ 0) : id_V a = a := if_neg h
theorem id_V_in {a : Nat} (h : a < 65536) : 1 ≤ id_V a ∧ id_V a < 65537 := by
  unfold id_V
  split <;> omega
theorem id_V_mod {v : Nat} (h1 : 1 ≤ v) (h2 : v < 65537) : id_V (v % 65536) = v := by
  unfold id_V
  split <;> omega
theorem id_V_back {a : Nat} (h : a < 65536) : id_V a % 65536 = a := by
  unfold id_V
  split <;> omega
theorem id_V_inj {a b : Nat} (ha : a < 65536) (hb : b < 65536) (h : id_V a = id_V b) : a = b := by
  rw [← id_V_back ha, ← id_V_back hb, h]
theorem id_65536 {b : Nat} (h : b ≠ 0) (h2 : b < 65536) : 65536 * b % 65537 = 65537 - b := by
  have e : 65536 * b = 65537 * (b - 1) + (65537 - b) := by omega
  rw [e, Nat.mul_add_mod]
  exact Nat.mod_eq_of_lt (by omega)
theorem id_mul_N {a b : Nat} (ha : a < 65536) (hb : b < 65536) : id_mul (nI a) (nI b) = nI (id_mN a b) := by
  unfold id_mul
  by_cases h1 : a = 0
  · subst h1
    rw [if_pos nI_0, show (65537 : Int32) = nI 65537 from rfl, pk_sub (by omega), id_m_N]
    congr 1
    unfold id_mN
    rw [id_V0]
    by_cases h2 : b = 0
    · subst h2
      rfl
    · rw [id_Vp h2, id_65536 h2 hb]
  · rw [if_neg (nI_ne0 (by omega) (by omega))]
    by_cases h2 : b = 0
    · subst h2
      rw [if_pos nI_0, show (65537 : Int32) = nI 65537 from rfl, pk_sub (by omega), id_m_N]
      congr 1
      unfold id_mN
      rw [id_V0, id_Vp h1, Nat.mul_comm a 65536, id_65536 h1 ha]
    · rw [if_neg (nI_ne0 (by omega) (by omega)), pk_mul]
      unfold id_mN
      rw [id_Vp h1, id_Vp h2]
      have hab : a * b ≤ 65535 * 65535 := Nat.mul_le_mul (by omega) (by omega)
      generalize a * b = p at hab ⊢
      obtain ⟨h, l, hl, rfl⟩ : ∃ h l, l < 65536 ∧ p = 65536 * h + l := ⟨p / 65536, p % 65536, Nat.mod_lt _ (by decide), (Nat.div_add_mod p 65536).symm⟩
      have e1 : (65536 * h + l) / 65536 = h := by omega
      have e2 : (65536 * h + l) % 65536 = l := by omega
      rw [id_m_N, id_u16_N (by omega), e1, e2]
      by_cases h3 : h ≤ l
      · obtain ⟨d, rfl⟩ : ∃ d, l = h + d := ⟨l - h, by omega⟩
        have e3 : (65536 * h + (h + d)) % 65537 = d := by
          rw [show 65536 * h + (h + d) = 65537 * h + d by omega, Nat.mul_add_mod]
          exact Nat.mod_eq_of_lt (by omega)
        rw [e3, if_pos (nI_le h3 (by omega)), pk_sub h3, show (0 : Int32) = nI 0 from rfl, nI_add, id_m_N]
        congr 1
        omega
      · obtain ⟨d, rfl⟩ : ∃ d, h = l + d + 1 := ⟨h - l - 1, by omega⟩
        have e3 : (65536 * (l + d + 1) + l) % 65537 = 65536 - d := by
          rw [show 65536 * (l + d + 1) + l = 65537 * (l + d) + (65536 - d) by omega, Nat.mul_add_mod]
          exact Nat.mod_eq_of_lt (by omega)
        rw [e3, if_neg (nI_ge (by omega) (by omega)), show (1 : Int32) = nI 1 from rfl, ← id_wrap l, pk_sub (by omega), nI_add, id_m_N]
        congr 1
        omega
/-! 65537 is prime -/
theorem id_small : ∀ d, d < 257 → 2 ≤ d → 65537 % d ≠ 0 := by decide +kernel
theorem id_prime {d : Nat} (h : d ∣ 65537) : d = 1 ∨ d = 65537 := by
  obtain ⟨e, he⟩ := h
  rcases Nat.lt_or_ge d 257 with h1 | h1
  · rcases Nat.lt_or_ge d 2 with h2 | h2
    · have : d ≠ 0 := by rintro rfl; omega
      omega
    · exact absurd (by rw [he]; exact Nat.mul_mod_right d e) (id_small d h1 h2)
  · rcases Nat.lt_or_ge e 257 with h3 | h3
    · rcases Nat.lt_or_ge e 2 with h2 | h2
      · have : e = 0 ∨ e = 1 := by omega
        rcases this with rfl | rfl <;> omega
      · exact absurd (by rw [he]; exact Nat.mul_mod_left d e) (id_small e h3 h2)
    · have := Nat.mul_le_mul h1 h3
      omega
def id_inv (a c : Nat) : Prop := a < 65536 ∧ c < 65536 ∧ id_V a * id_V c % 65537 = 1
theorem id_inv_symm {a c : Nat} (h : id_inv a c) : id_inv c a := ⟨h.2.1, h.1, by rw [Nat.mul_comm]; exact h.2.2⟩
theorem id_cut {x y z : Nat} (h : y * z % 65537 = 1) (hx : x < 65537) : x * y % 65537 * z % 65537 = x := by
  rw [Nat.mod_mul_mod, Nat.mul_assoc, Nat.mul_mod, h, Nat.mul_one, Nat.mod_mod, Nat.mod_eq_of_lt hx]
theorem id_inv_uniq {a c d : Nat} (h : id_inv a c) (g : id_inv a d) : c = d := by
  apply id_V_inj h.2.1 g.2.1
  have e1 := id_cut (x := id_V c) (y := id_V a) (z := id_V d) g.2.2 (id_V_in h.2.1).2
  have e2 : id_V c * id_V a % 65537 = 1 := (id_inv_symm h).2.2
  rw [e2, Nat.one_mul, Nat.mod_eq_of_lt (id_V_in g.2.1).2] at e1
  exact e1.symm
/-! the loop of mulInv: the numbers x, y, t0, t1 at its head -/
def id_I (x a b s t : Nat) : Prop := 2 ≤ a ∧ a < 65537 ∧ 1 ≤ b ∧ b < a ∧ a * t + b * s = 65537 ∧ (∃ k : Nat, x * s = a + 65537 * k) ∧ (∃ k : Nat, x * t + b = 65537 * k)
def id_J (x a b s t : Nat) : Prop := 1 ≤ a ∧ a < b ∧ 2 ≤ b ∧ b < 65537 ∧ a * t + b * s = 65537 ∧ (∃ k : Nat, x * s = a + 65537 * k) ∧ (∃ k : Nat, x * t + b = 65537 * k)
theorem id_half {a b s t : Nat} (ha : 1 ≤ a) (hb : 2 ≤ b) (h : a * t + b * s = 65537) : s < 65536 := by
  have h1 : 2 * s ≤ b * s := Nat.mul_le_mul_right s hb
  omega
theorem id_I_bds {x a b s t : Nat} (h : id_I x a b s t) : t < 65536 ∧ (b ≠ 1 → s < 65536) := by
  obtain ⟨h1, h2, h3, h4, h5, -⟩ := h
  refine ⟨id_half h3 h1 (by rw [Nat.add_comm]; exact h5), fun hb => id_half (by omega) (by omega) h5⟩
theorem id_step1 {x a b s t : Nat} (h : id_I x a b s t) (hb : b ≠ 1) : id_J x (a % b) b (s + t * (a / b)) t := by
  obtain ⟨h1, h2, h3, h4, h5, ⟨k, h6⟩, ⟨j, h7⟩⟩ := h
  have e : b * (a / b) + a % b = a := Nat.div_add_mod a b
  have hlt : a % b < b := Nat.mod_lt _ (by omega)
  generalize a / b = q at *
  generalize a % b = r at *
  subst e
  have key : r * t + b * (s + t * q) = 65537 := by
    rw [Nat.mul_add, ← h5, Nat.add_mul]
    have : b * (t * q) = b * q * t := by rw [Nat.mul_comm t q, Nat.mul_assoc]
    omega
  refine ⟨?_, hlt, by omega, by omega, key, ⟨k + q * j, ?_⟩, ⟨j, h7⟩⟩
  · rcases Nat.eq_zero_or_pos r with h0 | h0
    · subst h0
      rw [Nat.zero_mul, Nat.zero_add] at key
      rcases id_prime (d := b) ⟨_, key.symm⟩ with g | g <;> omega
    · exact h0
  · have e2 : q * (x * t + b) = q * (65537 * j) := by rw [h7]
    rw [Nat.mul_add] at e2
    have e3 : x * (s + t * q) = x * s + q * (x * t) := by
      rw [Nat.mul_add, ← Nat.mul_assoc, Nat.mul_comm (x * t) q]
    have e4 : 65537 * (k + q * j) = 65537 * k + q * (65537 * j) := by
      rw [Nat.mul_add, ← Nat.mul_assoc 65537 q j, Nat.mul_comm 65537 q, Nat.mul_assoc]
    have e5 : b * q = q * b := Nat.mul_comm b q
    rw [e3, e4, h6]
    omega
theorem id_step2 {x a b s t : Nat} (h : id_J x a b s t) (ha : a ≠ 1) : id_I x a (b % a) s (t + s * (b / a)) := by
  obtain ⟨h1, h2, h3, h4, h5, ⟨k, h6⟩, ⟨j, h7⟩⟩ := h
  have e : a * (b / a) + b % a = b := Nat.div_add_mod b a
  have hlt : b % a < a := Nat.mod_lt _ (by omega)
  generalize b / a = q at *
  generalize b % a = r at *
  subst e
  have key : a * (t + s * q) + r * s = 65537 := by
    rw [Nat.mul_add, ← h5, Nat.add_mul]
    have : a * (s * q) = a * q * s := by rw [Nat.mul_comm s q, Nat.mul_assoc]
    omega
  refine ⟨by omega, by omega, ?_, hlt, key, ⟨k, h6⟩, ⟨j + q * k, ?_⟩⟩
  · rcases Nat.eq_zero_or_pos r with h0 | h0
    · subst h0
      rw [Nat.zero_mul, Nat.add_zero] at key
      rcases id_prime (d := a) ⟨_, key.symm⟩ with g | g <;> omega
    · exact h0
  · have e2 : q * (x * s) = q * (a + 65537 * k) := by rw [h6]
    rw [Nat.mul_add] at e2
    have e3 : x * (t + s * q) = x * t + q * (x * s) := by
      rw [Nat.mul_add, ← Nat.mul_assoc, Nat.mul_comm (x * s) q]
    have e4 : 65537 * (j + q * k) = 65537 * j + q * (65537 * k) := by
      rw [Nat.mul_add, ← Nat.mul_assoc 65537 q k, Nat.mul_comm 65537 q, Nat.mul_assoc]
    have e5 : a * q = q * a := Nat.mul_comm a q
    rw [e3, e4]
    omega
theorem id_start {x : Nat} (h : 2 ≤ x) (h2 : x < 65536) : id_I x x (65537 % x) 1 (65537 / x) := by
  have e : x * (65537 / x) + 65537 % x = 65537 := Nat.div_add_mod 65537 x
  have hlt : 65537 % x < x := Nat.mod_lt _ (by omega)
  refine ⟨h, by omega, ?_, hlt, by omega, ⟨0, by omega⟩, ⟨1, by omega⟩⟩
  rcases Nat.eq_zero_or_pos (65537 % x) with h0 | h0
  · rw [h0, Nat.add_zero] at e
    rcases id_prime (d := x) ⟨_, e.symm⟩ with g | g <;> omega
  · exact h0
theorem id_stop1 {x b s t : Nat} (hx : 2 ≤ x) (hx2 : x < 65536) (h : id_J x 1 b s t) : id_inv x s := by
  obtain ⟨h1, h2, h3, h4, h5, ⟨k, h6⟩, -⟩ := h
  have hs : s < 65536 := id_half h1 h3 h5
  have hs0 : s ≠ 0 := by
    rintro rfl
    omega
  refine ⟨hx2, hs, ?_⟩
  rw [id_Vp (by omega), id_Vp hs0, h6]
  omega
theorem id_stop2 {x a s t : Nat} (hx : 2 ≤ x) (hx2 : x < 65536) (h : id_I x a 1 s t) : id_inv x ((65537 - t) % 65536) := by
  have hb := (id_I_bds h).1
  obtain ⟨h1, h2, h3, h4, h5, -, ⟨k, h7⟩⟩ := h
  have ht0 : t ≠ 0 := by
    rintro rfl
    omega
  refine ⟨hx2, Nat.mod_lt _ (by decide), ?_⟩
  rw [id_Vp (by omega), id_V_mod (by omega) (by omega)]
  have e : x * (65537 - t) + x * t = x * 65537 := by rw [← Nat.mul_add]; congr 1; omega
  have hk : k ≤ x := by
    have : x * t ≤ x * 65536 := Nat.mul_le_mul_left x (by omega)
    omega
  obtain ⟨d, rfl⟩ : ∃ d, x = k + d := ⟨x - k, by omega⟩
  have e2 : (k + d) * (65537 - t) = 65537 * d + 1 := by
    generalize (k + d) * (65537 - t) = u at *
    generalize (k + d) * t = v at *
    omega
  rw [e2]
  omega
theorem id_ex1 : ∀ (n x a b s t : Nat), b < n → 2 ≤ x → x < 65536 → id_I x a b s t → ∃ c, id_inv x c := by
  intro n
  induction n with
  | zero => intro x a b s t h; omega
  | succ n ih =>
    intro x a b s t hn hx hx2 h
    by_cases hb : b = 1
    · subst hb
      exact ⟨_, id_stop2 hx hx2 h⟩
    · have h1 := id_step1 h hb
      by_cases ha : a % b = 1
      · rw [ha] at h1
        exact ⟨_, id_stop1 hx hx2 h1⟩
      · have h2 := id_step2 h1 ha
        have h3 : b % (a % b) < a % b := Nat.mod_lt _ (by have := h1.1; omega)
        have h4 : a % b < b := h1.2.1
        exact ih x _ _ _ _ (by omega) hx hx2 h2
theorem id_inv01 {x : Nat} (h : x < 2) : id_inv x x := by
  have : x = 0 ∨ x = 1 := by omega
  rcases this with rfl | rfl
  · exact ⟨by decide, by decide, by decide⟩
  · exact ⟨by decide, by decide, by decide⟩
theorem id_ex {x : Nat} (h : x < 65536) : ∃ c, id_inv x c := by
  rcases Nat.lt_or_ge x 2 with h1 | h1
  · exact ⟨x, id_inv01 h1⟩
  · exact id_ex1 (65537 % x + 1) x x _ _ _ (Nat.lt_succ_self _) h1 h (id_start h1 h)
noncomputable def id_mi (x : Int32) : Int32 := Classical.epsilon (fun r : Int32 => ∃ a c : Nat, id_inv a c ∧ x = nI a ∧ r = nI c)
theorem id_mi_eq {a c : Nat} (h : id_inv a c) : id_mi (nI a) = nI c := by
  obtain ⟨a', c', h', e1, e2⟩ := Classical.epsilon_spec (p := fun r : Int32 => ∃ a' c' : Nat, id_inv a' c' ∧ nI a = nI a' ∧ r = nI c') ⟨nI c, a, c, h, rfl, rfl⟩
  have e3 : a = a' := (nI_eq (by have := h.1; omega) (by have := h'.1; omega)).mp e1
  subst e3
  have e4 : c = c' := id_inv_uniq h h'
  subst e4
  exact e2
theorem id_mi01 {x : Nat} (h : x < 2) : nI x = id_mi (nI x) := (id_mi_eq (id_inv01 h)).symm
theorem id_mi1 {x b s t : Nat} (hx : 2 ≤ x) (hx2 : x < 65536) (h : id_J x 1 b s t) : nI s = id_mi (nI x) := (id_mi_eq (id_stop1 hx hx2 h)).symm
theorem id_mi2 {x a s t : Nat} (hx : 2 ≤ x) (hx2 : x < 65536) (h : id_I x a 1 s t) : (nI 1 - nI t) &&& 65535 = id_mi (nI x) := by
  rw [id_mi_eq (id_stop2 hx hx2 h)]
  have hb := (id_I_bds h).1
  rw [← id_wrap 1, pk_sub (by omega)]
  show id_m _ = _
  rw [id_m_N]
  congr 1
  omega
/-- a product undone by the inverse -/
theorem id_V_mN {a k c : Nat} (ha : a < 65536) (h : id_inv k c) : id_V (id_mN a k) = id_V a * id_V k % 65537 := by
  have e := id_cut h.2.2 (id_V_in ha).2
  refine id_V_mod ?_ (Nat.mod_lt _ (by decide))
  rcases Nat.eq_zero_or_pos (id_V a * id_V k % 65537) with h0 | h0
  · rw [h0, Nat.zero_mul, Nat.zero_mod] at e
    have := (id_V_in ha).1
    omega
  · exact h0
theorem id_mN_inv {a k c : Nat} (ha : a < 65536) (h : id_inv k c) : id_mN (id_mN a k) c = a := by
  have e := id_cut h.2.2 (id_V_in ha).2
  unfold id_mN at *
  rw [show id_V (id_V a * id_V k % 65537 % 65536) = id_V a * id_V k % 65537 from id_V_mN ha h, e]
  exact id_V_back ha
end
section
/-! IDEA over natural numbers: what one key table does, the inverted table undoes -/
set_option maxRecDepth 100000
abbrev id_Q : Type := Nat × Nat × Nat × Nat
def id_ok (x : id_Q) : Prop := x.1 < 65536 ∧ x.2.1 < 65536 ∧ x.2.2.1 < 65536 ∧ x.2.2.2 < 65536
def id_I4 (x : id_Q) : id_X := (nI x.1, nI x.2.1, nI x.2.2.1, nI x.2.2.2)
def id_nF (k4 k5 p q : Nat) : Nat × Nat := (id_mN ((q + id_mN p k4) % 65536) k5, (id_mN p k4 + id_mN ((q + id_mN p k4) % 65536) k5) % 65536)
def id_nT (k0 k1 k2 k3 : Nat) (x : id_Q) : id_Q := (id_mN x.1 k0, (x.2.1 + k1) % 65536, (x.2.2.1 + k2) % 65536, id_mN x.2.2.2 k3)
def id_nS (x : id_Q) : id_Q := (x.1, x.2.2.1, x.2.1, x.2.2.2)
def id_nX (g : Nat × Nat) (x : id_Q) : id_Q := (x.1 ^^^ g.1, x.2.1 ^^^ g.2, x.2.2.1 ^^^ g.1, x.2.2.2 ^^^ g.2)
def id_nM (k4 k5 : Nat) (x : id_Q) : id_Q := id_nX (id_nF k4 k5 (x.1 ^^^ x.2.2.1) (x.2.1 ^^^ x.2.2.2)) x
theorem id_x1 (a b v : Nat) : (a ^^^ v) ^^^ (b ^^^ v) = a ^^^ b := by
  apply Nat.eq_of_testBit_eq
  intro i
  simp only [Nat.testBit_xor]
  cases a.testBit i <;> cases b.testBit i <;> cases v.testBit i <;> rfl
theorem id_x2 (a v : Nat) : (a ^^^ v) ^^^ v = a := by
  apply Nat.eq_of_testBit_eq
  intro i
  simp only [Nat.testBit_xor]
  cases a.testBit i <;> cases v.testBit i <;> rfl
theorem id_xlt {a b : Nat} (ha : a < 65536) (hb : b < 65536) : a ^^^ b < 65536 := Nat.xor_lt_two_pow (n := 16) ha hb
theorem id_nM_inv (k4 k5 : Nat) (x : id_Q) : id_nM k4 k5 (id_nM k4 k5 x) = x := by
  obtain ⟨a, b, c, d⟩ := x
  have e : ∀ g : Nat × Nat, id_nF k4 k5 (a ^^^ c) (b ^^^ d) = g → id_nM k4 k5 (id_nX g (a, b, c, d)) = (a, b, c, d) := by
    intro g hg
    show id_nX (id_nF k4 k5 ((a ^^^ g.1) ^^^ (c ^^^ g.1)) ((b ^^^ g.2) ^^^ (d ^^^ g.2))) (a ^^^ g.1, b ^^^ g.2, c ^^^ g.1, d ^^^ g.2) = _
    rw [id_x1, id_x1, hg]
    show ((a ^^^ g.1) ^^^ g.1, (b ^^^ g.2) ^^^ g.2, (c ^^^ g.1) ^^^ g.1, (d ^^^ g.2) ^^^ g.2) = _
    simp only [id_x2]
  exact e _ rfl
theorem id_nT_inv {k0 k1 k2 k3 c0 c1 c2 c3 : Nat} (h0 : id_inv k0 c0) (h1 : (k1 + c1) % 65536 = 0) (h2 : (k2 + c2) % 65536 = 0) (h3 : id_inv k3 c3) {x : id_Q} (hx : id_ok x) : id_nT c0 c1 c2 c3 (id_nT k0 k1 k2 k3 x) = x := by
  obtain ⟨a, b, c, d⟩ := x
  obtain ⟨ha, hb, hc, hd⟩ := hx
  dsimp only at ha hb hc hd
  unfold id_nT
  dsimp only
  rw [id_mN_inv ha h0, id_mN_inv hd h3]
  have e1 : ((b + k1) % 65536 + c1) % 65536 = b := by omega
  have e2 : ((c + k2) % 65536 + c2) % 65536 = c := by omega
  rw [e1, e2]
def id_nE (K : Nat → Nat) (x : id_Q) : Nat → id_Q
  | 0 => x
  | r + 1 => id_nS (id_nM (K (6 * r + 4)) (K (6 * r + 5)) (id_nT (K (6 * r)) (K (6 * r + 1)) (K (6 * r + 2)) (K (6 * r + 3)) (id_nE K x r)))
def id_nC (K : Nat → Nat) (x : id_Q) : id_Q := id_nT (K 48) (K 49) (K 50) (K 51) (id_nS (id_nE K x 8))
theorem id_ok_T (k0 k1 k2 k3 : Nat) (x : id_Q) : id_ok (id_nT k0 k1 k2 k3 x) := ⟨id_mN_lt _ _, Nat.mod_lt _ (by decide), Nat.mod_lt _ (by decide), id_mN_lt _ _⟩
theorem id_ok_S {x : id_Q} (h : id_ok x) : id_ok (id_nS x) := ⟨h.1, h.2.2.1, h.2.1, h.2.2.2⟩
theorem id_ok_M (k4 k5 : Nat) {x : id_Q} (h : id_ok x) : id_ok (id_nM k4 k5 x) :=
  ⟨id_xlt h.1 (id_mN_lt _ _), id_xlt h.2.1 (Nat.mod_lt _ (by decide)), id_xlt h.2.2.1 (id_mN_lt _ _), id_xlt h.2.2.2 (Nat.mod_lt _ (by decide))⟩
theorem id_ok_E (K : Nat → Nat) {x : id_Q} (h : id_ok x) : ∀ r, id_ok (id_nE K x r)
  | 0 => h
  | _ + 1 => id_ok_S (id_ok_M _ _ (id_ok_T _ _ _ _ _))
theorem id_ok_C (K : Nat → Nat) (x : id_Q) : id_ok (id_nC K x) := id_ok_T _ _ _ _ _
def id_ai (a c : Nat) : Prop := (a + c) % 65536 = 0
theorem id_ai_symm {a c : Nat} (h : id_ai a c) : id_ai c a := by unfold id_ai at *; omega
def id_KI (K L : Nat → Nat) : Prop :=
  (id_inv (K 48) (L 0) ∧ id_ai (K 49) (L 1) ∧ id_ai (K 50) (L 2) ∧ id_inv (K 51) (L 3)) ∧
  (id_inv (K 0) (L 48) ∧ id_ai (K 1) (L 49) ∧ id_ai (K 2) (L 50) ∧ id_inv (K 3) (L 51)) ∧
  (∀ r t, r + t = 8 → 1 ≤ r → 1 ≤ t → id_inv (K (6 * t)) (L (6 * r)) ∧ id_ai (K (6 * t + 1)) (L (6 * r + 2)) ∧ id_ai (K (6 * t + 2)) (L (6 * r + 1)) ∧ id_inv (K (6 * t + 3)) (L (6 * r + 3))) ∧
  (∀ r t, r + t = 7 → L (6 * r + 4) = K (6 * t + 4) ∧ L (6 * r + 5) = K (6 * t + 5))
theorem id_KI_symm {K L : Nat → Nat} (h : id_KI K L) : id_KI L K := by
  obtain ⟨⟨a0, a1, a2, a3⟩, ⟨b0, b1, b2, b3⟩, hr, hm⟩ := h
  refine ⟨⟨id_inv_symm b0, id_ai_symm b1, id_ai_symm b2, id_inv_symm b3⟩, ⟨id_inv_symm a0, id_ai_symm a1, id_ai_symm a2, id_inv_symm a3⟩, fun r t h h1 h2 => ?_, fun r t h => ?_⟩
  · obtain ⟨c0, c1, c2, c3⟩ := hr t r (by omega) h2 h1
    exact ⟨id_inv_symm c0, id_ai_symm c2, id_ai_symm c1, id_inv_symm c3⟩
  · obtain ⟨c0, c1⟩ := hm t r (by omega)
    exact ⟨c0.symm, c1.symm⟩
theorem id_walk {K L : Nat → Nat} (h : id_KI K L) {x : id_Q} (hx : id_ok x) : ∀ r t, r + t = 8 → 1 ≤ t →
    id_nT (L (6 * r)) (L (6 * r + 1)) (L (6 * r + 2)) (L (6 * r + 3)) (id_nE L (id_nC K x) r) = id_nS (id_nE K x t) := by
  obtain ⟨⟨a0, a1, a2, a3⟩, -, hr, hm⟩ := h
  intro r
  induction r with
  | zero =>
    intro t ht _
    obtain rfl : t = 8 := by omega
    exact id_nT_inv a0 a1 a2 a3 (id_ok_S (id_ok_E K hx 8))
  | succ r ih =>
    intro t ht h1
    have e1 := ih (t + 1) (by omega) (by omega)
    obtain ⟨m4, m5⟩ := hm r t (by omega)
    have e2 : id_nE L (id_nC K x) (r + 1) = id_nS (id_nT (K (6 * t)) (K (6 * t + 1)) (K (6 * t + 2)) (K (6 * t + 3)) (id_nE K x t)) := by
      show id_nS (id_nM (L (6 * r + 4)) (L (6 * r + 5)) (id_nT (L (6 * r)) (L (6 * r + 1)) (L (6 * r + 2)) (L (6 * r + 3)) (id_nE L (id_nC K x) r))) = _
      rw [e1, m4, m5]
      show id_nS (id_nM (K (6 * t + 4)) (K (6 * t + 5)) (id_nM (K (6 * t + 4)) (K (6 * t + 5)) _)) = _
      rw [id_nM_inv]
    rw [e2]
    obtain ⟨c0, c1, c2, c3⟩ := hr (r + 1) t (by omega) (by omega) h1
    exact congrArg id_nS (id_nT_inv c0 c1 c2 c3 (id_ok_E K hx t))
theorem id_nC_inv {K L : Nat → Nat} (h : id_KI K L) {x : id_Q} (hx : id_ok x) : id_nC L (id_nC K x) = x := by
  have e1 := id_walk h hx 7 1 (by omega) (by omega)
  obtain ⟨-, ⟨b0, b1, b2, b3⟩, -, hm⟩ := h
  obtain ⟨m4, m5⟩ := hm 7 0 (by omega)
  have e2 : id_nE L (id_nC K x) 8 = id_nS (id_nT (K 0) (K 1) (K 2) (K 3) x) := by
    show id_nS (id_nM (L (6 * 7 + 4)) (L (6 * 7 + 5)) (id_nT (L (6 * 7)) (L (6 * 7 + 1)) (L (6 * 7 + 2)) (L (6 * 7 + 3)) (id_nE L (id_nC K x) 7))) = _
    rw [e1, m4, m5]
    show id_nS (id_nM (K (6 * 0 + 4)) (K (6 * 0 + 5)) (id_nM (K (6 * 0 + 4)) (K (6 * 0 + 5)) _)) = _
    rw [id_nM_inv]
    rfl
  show id_nT (L 48) (L 49) (L 50) (L 51) (id_nS (id_nE L (id_nC K x) 8)) = x
  rw [e2]
  exact id_nT_inv b0 b1 b2 b3 hx
/-! the ints of 32 bits follow the numbers -/
theorem id_rf_N {k4 k5 p q : Nat} (h4 : k4 < 65536) (h5 : k5 < 65536) (hp : p < 65536) : id_rf (nI k4) (nI k5) (nI p) (nI q) = (nI (id_nF k4 k5 p q).1, nI (id_nF k4 k5 p q).2) := by
  unfold id_rf id_nF
  dsimp only
  rw [id_mul_N hp h4, nI_add, id_m_N, id_mul_N (Nat.mod_lt _ (by decide)) h5, nI_add, id_m_N]
theorem id_rg_N {k4 k5 y0 y1 y2 y3 : Nat} (h4 : k4 < 65536) (h5 : k5 < 65536) (h0 : y0 < 65536) (h2 : y2 < 65536) : id_rg (nI k4) (nI k5) (nI y0) (nI y1) (nI y2) (nI y3) = id_I4 (id_nS (id_nM k4 k5 (y0, y1, y2, y3))) := by
  unfold id_rg
  rw [id_xorN, id_xorN, id_rf_N h4 h5 (id_xlt h2 h0), Nat.xor_comm y2 y0]
  unfold id_nM id_nX id_nS id_I4
  dsimp only
  generalize id_nF k4 k5 (y0 ^^^ y2) (y1 ^^^ y3) = g
  rw [id_xorN, id_xorN, id_xorN, id_xorN, Nat.xor_comm g.1 y2, Nat.xor_comm g.2 y1]
theorem id_rd_N {k0 k1 k2 k3 k4 k5 : Nat} (h0 : k0 < 65536) (h3 : k3 < 65536) (h4 : k4 < 65536) (h5 : k5 < 65536) {x : id_Q} (hx : id_ok x) : id_rd (nI k0) (nI k1) (nI k2) (nI k3) (nI k4) (nI k5) (id_I4 x) = id_I4 (id_nS (id_nM k4 k5 (id_nT k0 k1 k2 k3 x))) := by
  obtain ⟨a, b, c, d⟩ := x
  obtain ⟨ha, hb, hc, hd⟩ := hx
  unfold id_rd id_I4
  dsimp only at ha hb hc hd ⊢
  rw [id_mul_N ha h0, id_mul_N hd h3, nI_add, nI_add, id_m_N, id_m_N, id_rg_N h4 h5 (id_mN_lt _ _) (Nat.mod_lt _ (by decide))]
  rfl
def id_tab (w : Nat → Int32) (K : Nat → Nat) : Prop := ∀ k, k < 52 → K k < 65536 ∧ w k = nI (K k)
theorem id_st_N {w : Nat → Int32} {K : Nat → Nat} (h : id_tab w K) {x : id_Q} (hx : id_ok x) : ∀ r, r ≤ 8 → id_st w (id_I4 x) r = id_I4 (id_nE K x r) := by
  intro r
  induction r with
  | zero => intro _; rfl
  | succ r ih =>
    intro hr
    show id_rd (w (6 * r)) (w (6 * r + 1)) (w (6 * r + 2)) (w (6 * r + 3)) (w (6 * r + 4)) (w (6 * r + 5)) (id_st w (id_I4 x) r) = _
    rw [ih (by omega), (h (6 * r) (by omega)).2, (h (6 * r + 1) (by omega)).2, (h (6 * r + 2) (by omega)).2, (h (6 * r + 3) (by omega)).2, (h (6 * r + 4) (by omega)).2, (h (6 * r + 5) (by omega)).2]
    exact id_rd_N (h (6 * r) (by omega)).1 (h (6 * r + 3) (by omega)).1 (h (6 * r + 4) (by omega)).1 (h (6 * r + 5) (by omega)).1 (id_ok_E K hx r)
def id_m4 (y : id_X) : id_X := (id_m y.1, id_m y.2.1, id_m y.2.2.1, id_m y.2.2.2)
theorem id_fin_N {w : Nat → Int32} {K : Nat → Nat} (h : id_tab w K) {x : id_Q} (hx : id_ok x) : id_m4 (id_fin w (id_st w (id_I4 x) 8)) = id_I4 (id_nC K x) := by
  rw [id_st_N h hx 8 (Nat.le_refl 8)]
  have hy := id_ok_E K hx 8
  unfold id_nC
  generalize id_nE K x 8 = y at hy ⊢
  obtain ⟨a, b, c, d⟩ := y
  obtain ⟨ha, hb, hc, hd⟩ := hy
  unfold id_fin id_I4 id_m4 id_nT id_nS
  dsimp only at ha hb hc hd ⊢
  rw [(h 48 (by decide)).2, (h 49 (by decide)).2, (h 50 (by decide)).2, (h 51 (by decide)).2, id_mul_N ha (h 48 (by decide)).1, id_mul_N hd (h 51 (by decide)).1, nI_add, nI_add, id_m_lt (id_mN_lt a (K 48)), id_m_lt (id_mN_lt d (K 51)), id_m_N, id_m_N]
end
section
/-! bytes and words; the inverted key table; congruence rows -/
set_option maxRecDepth 100000
def id_lo (x : Int32) : Nat := x.toBitVec.toNat % 256
theorem id_lo_lt (x : Int32) : id_lo x < 256 := Nat.mod_lt _ (by decide)
theorem id_and255 (x : Int32) : x &&& 255 = nI (id_lo x) := pk_and x 8 (by decide)
theorem id_lo_eq {x y : Int32} (h : x &&& 255 = y &&& 255) : id_lo x = id_lo y := by
  rw [id_and255, id_and255] at h
  exact (nI_eq (by have := id_lo_lt x; omega) (by have := id_lo_lt y; omega)).mp h
theorem id_lo_b8 (x : Int32) : id_lo (id_b8 x) = id_lo x := id_lo_eq (bp_b x)
theorem id_b_65280 : ∀ i, i < 32 → bt 65280 i = (decide (8 ≤ i) && decide (i < 16)) := by decide +kernel
theorem id_hi8 (x : Int32) : (x <<< ((8 : Int32) &&& 31)) &&& 65280 = nI (id_lo x * 256) := by
  have e : (x <<< ((8 : Int32) &&& 31)) &&& 65280 = (x &&& 255) <<< ((8 : Int32) &&& 31) := by
    apply b_ext
    intro i hi
    rw [b_and, b_shl8 _ hi, b_shl8 _ hi, b_and, b_255, id_b_65280 i hi]
    by_cases h1 : 8 ≤ i
    · have h2 : decide (i < 16) = decide (i - 8 < 8) := decide_eq_decide.mpr (by omega)
      rw [h2]
      simp [h1]
    · simp [h1]
  rw [e, id_and255]
  exact pk_shlN _ 8 (by decide) (by have := id_lo_lt x; omega)
theorem id_wd_lo (x y : Int32) : id_wd x y = nI (id_lo x * 256 + id_lo y) := by
  unfold id_wd
  rw [id_hi8, id_and255, nI_add]
theorem id_u_nat (v : Int32) {s : Nat} (hs : s < 32) : (id_u v (nI s)).toBitVec.toNat = v.toBitVec.toNat / 2 ^ s := pk_ushr v (nI s) s (s_u s hs)
theorem id_u_lo (v : Int32) {s : Nat} (hs : s < 32) : id_lo (id_u v (nI s)) = v.toBitVec.toNat / 2 ^ s % 256 := by
  unfold id_lo
  rw [id_u_nat v hs]
theorem id_u8_lo (v : Int32) : id_lo (id_u v 8) = v.toBitVec.toNat / 256 % 256 := id_u_lo v (s := 8) (by decide)
theorem id_shr_lo (v : Int32) {s : Nat} (hs : s ≤ 24) : id_lo (v >>> (nI s &&& 31)) = v.toBitVec.toNat / 2 ^ s % 256 := by
  rw [← id_u_lo v (show s < 32 by omega)]
  apply id_lo_eq
  apply b_ext
  intro i hi
  rw [b_and, b_and, b_255]
  unfold id_u
  rw [b_sshr s (by omega) v hi, b_ushr s (by omega)]
  by_cases h : i < 8
  · rw [if_pos (by omega)]
  · simp [h]
/-- a word put as two bytes and read again -/
theorem id_wd_put (v : Int32) : id_lo (id_u v 8) * 256 + id_lo v = v.toBitVec.toNat % 65536 := by
  rw [id_u8_lo]
  unfold id_lo
  omega
/-! the table that invertKey makes -/
noncomputable def id_ikv (f : Nat → Int32) (b j : Nat) : Int32 :=
  if j = 4 ∨ j = 5 then f (6 * (7 - b) + j)
  else if j = 0 ∨ j = 3 then id_mi (f (6 * (8 - b) + j))
  else if b = 0 ∨ b = 8 then id_neg (f (6 * (8 - b) + j)) else id_neg (f (6 * (8 - b) + (3 - j)))
noncomputable def id_ik (f : Nat → Int32) (k : Nat) : Int32 := id_ikv f (k / 6) (k % 6)
theorem id_ik_at (f : Nat → Int32) (b j : Nat) (h : j < 6) : id_ik f (6 * b + j) = id_ikv f b j := by
  unfold id_ik
  rw [show (6 * b + j) / 6 = b by omega, show (6 * b + j) % 6 = j by omega]
theorem id_ik_45 (f : Nat → Int32) {b j i : Nat} (h : j = 4 ∨ j = 5) (hi : i = 6 * (7 - b) + j) : f i = id_ik f (6 * b + j) := by
  rw [id_ik_at f b j (by omega), hi]
  unfold id_ikv
  rw [if_pos h]
theorem id_ik_03 (f : Nat → Int32) {b j i : Nat} (h : j = 0 ∨ j = 3) (hi : i = 6 * (8 - b) + j) : id_mi (f i) = id_ik f (6 * b + j) := by
  rw [id_ik_at f b j (by omega), hi]
  unfold id_ikv
  rw [if_neg (by omega), if_pos h]
theorem id_ik_12 (f : Nat → Int32) {b j i : Nat} (h : j = 1 ∨ j = 2) (hb : b = 0 ∨ b = 8) (hi : i = 6 * (8 - b) + j) : id_neg (f i) = id_ik f (6 * b + j) := by
  rw [id_ik_at f b j (by omega), hi]
  unfold id_ikv
  rw [if_neg (by omega), if_neg (by omega), if_pos hb]
theorem id_ik_21 (f : Nat → Int32) {b j i : Nat} (h : j = 1 ∨ j = 2) (hb : ¬ (b = 0 ∨ b = 8)) (hi : i = 6 * (8 - b) + (3 - j)) : id_neg (f i) = id_ik f (6 * b + j) := by
  rw [id_ik_at f b j (by omega), hi]
  unfold id_ikv
  rw [if_neg (by omega), if_neg (by omega), if_neg hb]
def id_n (x : Int32) : Nat := x.toBitVec.toNat
theorem id_nI_n (x : Int32) : nI (id_n x) = x := id_nI_toNat x
theorem id_n_nI {k : Nat} (h : k < 4294967296) : id_n (nI k) = k := Nat.mod_eq_of_lt h
theorem id_n_mi {a : Nat} (h : a < 65536) : id_inv a (id_n (id_mi (nI a))) := by
  obtain ⟨c, hc⟩ := id_ex h
  rw [id_mi_eq hc, id_n_nI (by have := hc.2.1; omega)]
  exact hc
theorem id_neg_N {a : Nat} (h : a < 65536) : id_neg (nI a) = nI ((65536 - a) % 65536) := by
  unfold id_neg
  rw [show (0 : Int32) = nI 0 from rfl, ← id_wrap 0, pk_sub (by omega), id_m_N]
  congr 1
  omega
theorem id_n_neg {a : Nat} (h : a < 65536) : id_n (id_neg (nI a)) < 65536 ∧ id_ai a (id_n (id_neg (nI a))) := by
  have h2 : (65536 - a) % 65536 < 65536 := Nat.mod_lt _ (by decide)
  rw [id_neg_N h, id_n_nI (by omega)]
  refine ⟨h2, ?_⟩
  unfold id_ai
  omega
theorem id_tab_ik {f : Nat → Int32} {K : Nat → Nat} (h : id_tab f K) : ∃ L, id_tab (id_ik f) L ∧ id_KI K L := by
  have hf : ∀ i, i < 52 → f i = nI (K i) := fun i hi => (h i hi).2
  have hk : ∀ i, i < 52 → K i < 65536 := fun i hi => (h i hi).1
  have e45 : ∀ b j i, (j = 4 ∨ j = 5) → i = 6 * (7 - b) + j → i < 52 → id_n (id_ik f (6 * b + j)) = K i := fun b j i h1 h2 h3 => by
    rw [← id_ik_45 f h1 h2, hf i h3, id_n_nI (by have := hk i h3; omega)]
  have e03 : ∀ b j i, (j = 0 ∨ j = 3) → i = 6 * (8 - b) + j → i < 52 → id_inv (K i) (id_n (id_ik f (6 * b + j))) := fun b j i h1 h2 h3 => by
    rw [← id_ik_03 f h1 h2, hf i h3]
    exact id_n_mi (hk i h3)
  have e12 : ∀ b j i, (j = 1 ∨ j = 2) → (b = 0 ∨ b = 8) → i = 6 * (8 - b) + j → i < 52 → id_n (id_ik f (6 * b + j)) < 65536 ∧ id_ai (K i) (id_n (id_ik f (6 * b + j))) := fun b j i h1 hb h2 h3 => by
    rw [← id_ik_12 f h1 hb h2, hf i h3]
    exact id_n_neg (hk i h3)
  have e21 : ∀ b j i, (j = 1 ∨ j = 2) → ¬ (b = 0 ∨ b = 8) → i = 6 * (8 - b) + (3 - j) → i < 52 → id_n (id_ik f (6 * b + j)) < 65536 ∧ id_ai (K i) (id_n (id_ik f (6 * b + j))) := fun b j i h1 hb h2 h3 => by
    rw [← id_ik_21 f h1 hb h2, hf i h3]
    exact id_n_neg (hk i h3)
  refine ⟨fun k => id_n (id_ik f k), fun k hk52 => ⟨?_, (id_nI_n _).symm⟩, ?_, ?_, ?_, ?_⟩
  · obtain ⟨b, j, hj, rfl⟩ : ∃ b j, j < 6 ∧ k = 6 * b + j := ⟨k / 6, k % 6, by omega, by omega⟩
    dsimp only
    rcases (show (j = 4 ∨ j = 5) ∨ (j = 0 ∨ j = 3) ∨ (j = 1 ∨ j = 2) by omega) with h1 | h1 | h1
    · rw [e45 b j _ h1 rfl (by omega)]
      exact hk _ (by omega)
    · exact (e03 b j _ h1 rfl (by omega)).2.1
    · by_cases hb : b = 0 ∨ b = 8
      · exact (e12 b j _ h1 hb rfl (by omega)).1
      · exact (e21 b j _ h1 hb rfl (by omega)).1
  · exact ⟨e03 0 0 48 (by decide) rfl (by decide), (e12 0 1 49 (by decide) (by decide) rfl (by decide)).2, (e12 0 2 50 (by decide) (by decide) rfl (by decide)).2, e03 0 3 51 (by decide) rfl (by decide)⟩
  · exact ⟨e03 8 0 0 (by decide) rfl (by decide), (e12 8 1 1 (by decide) (by decide) rfl (by decide)).2, (e12 8 2 2 (by decide) (by decide) rfl (by decide)).2, e03 8 3 3 (by decide) rfl (by decide)⟩
  · intro r t hrt h1 h2
    exact ⟨e03 r 0 (6 * t) (by decide) (by omega) (by omega), (e21 r 2 (6 * t + 1) (by decide) (by omega) (by omega) (by omega)).2, (e21 r 1 (6 * t + 2) (by decide) (by omega) (by omega) (by omega)).2, e03 r 3 (6 * t + 3) (by decide) (by omega) (by omega)⟩
  · intro r t hrt
    exact ⟨e45 r 4 (6 * t + 4) (by decide) (by omega) (by omega), e45 r 5 (6 * t + 5) (by decide) (by omega) (by omega)⟩
/-! the expanded table holds words of 16 bits -/
theorem id_wd16 (x y : Int32) : ∃ a, a < 65536 ∧ id_wd x y = nI a := ⟨_, by have := id_lo_lt x; have := id_lo_lt y; omega, id_wd_lo x y⟩
theorem id_m16 (x : Int32) : ∃ a, a < 65536 ∧ id_m x = nI a := ⟨_, Nat.mod_lt _ (by decide), id_m_of x⟩
theorem id_ek16 (f : Nat → Int32) (k : Nat) : ∃ a, a < 65536 ∧ id_ek f k = nI a := by
  rw [id_ek]
  split
  · exact id_wd16 _ _
  · split
    · exact id_m16 _
    · split
      · exact id_m16 _
      · exact id_m16 _
theorem id_ek_tab (f : Nat → Int32) : id_tab (id_ek f) (fun k => id_n (id_ek f k)) := by
  intro k _
  obtain ⟨a, ha, e⟩ := id_ek16 f k
  dsimp only
  rw [e, id_n_nI (by omega)]
  exact ⟨ha, rfl⟩
theorem id_ek_congr {f g : Nat → Int32} (h : ∀ i, i < 16 → f i = g i) : ∀ n k, k < n → id_ek f k = id_ek g k := by
  intro n
  induction n with
  | zero => intro k hk; omega
  | succ n ih =>
    intro k hk
    rcases Nat.lt_or_ge k 8 with h1 | h1
    · rw [id_ek_0 f h1, id_ek_0 g h1, h _ (by omega), h _ (by omega)]
    · rcases (show k % 8 < 6 ∨ k % 8 = 6 ∨ k % 8 = 7 by omega) with h2 | h2 | h2
      · rw [id_ek_1 f h1 h2, id_ek_1 g h1 h2, ih (k - 7) (by omega), ih (k - 6) (by omega)]
      · rw [id_ek_2 f h1 h2, id_ek_2 g h1 h2, ih (k - 7) (by omega), ih (k - 14) (by omega)]
      · rw [id_ek_3 f h1 h2, id_ek_3 g h1 h2, ih (k - 15) (by omega), ih (k - 14) (by omega)]
theorem id_ik_congr {f g : Nat → Int32} (h : ∀ i, i < 52 → f i = g i) {k : Nat} (hk : k < 52) : id_ik f k = id_ik g k := by
  unfold id_ik
  have hb : k / 6 ≤ 8 := by omega
  have hj : k % 6 < 6 := Nat.mod_lt _ (by decide)
  have hkk : k = 6 * (k / 6) + k % 6 := by omega
  generalize k / 6 = b at *
  generalize k % 6 = j at *
  unfold id_ikv
  split
  · exact h _ (by omega)
  · split
    · rw [h _ (by omega)]
    · split
      · rw [h _ (by omega)]
      · rw [h _ (by omega)]
noncomputable def id_gk (b : Int32) (f : Nat → Int32) (k : Nat) : Int32 := if b = 0 then id_ik (id_ek f) k else id_ek f k
theorem id_gk_congr (b : Int32) {f g : Nat → Int32} (h : ∀ i, i < 16 → f i = g i) {k : Nat} (hk : k < 52) : id_gk b f k = id_gk b g k := by
  have e : ∀ k, id_ek f k = id_ek g k := fun k => id_ek_congr h (k + 1) k (Nat.lt_succ_self k)
  unfold id_gk
  split
  · exact id_ik_congr (fun i _ => e i) hk
  · exact e k
theorem id_st_congr {w v : Nat → Int32} (h : ∀ k, k < 52 → w k = v k) (x : id_X) : ∀ r, r ≤ 8 → id_st w x r = id_st v x r := by
  intro r
  induction r with
  | zero => intro _; rfl
  | succ r ih =>
    intro hr
    show id_rd (w (6 * r)) (w (6 * r + 1)) (w (6 * r + 2)) (w (6 * r + 3)) (w (6 * r + 4)) (w (6 * r + 5)) (id_st w x r) = id_rd (v (6 * r)) (v (6 * r + 1)) (v (6 * r + 2)) (v (6 * r + 3)) (v (6 * r + 4)) (v (6 * r + 5)) (id_st v x r)
    rw [ih (by omega), h _ (by omega), h _ (by omega), h _ (by omega), h _ (by omega), h _ (by omega), h _ (by omega)]
theorem id_out_congr {w v : Nat → Int32} (h : ∀ k, k < 52 → w k = v k) (f g : Nat → Int32) : id_out w f g = id_out v f g := by
  unfold id_out id_fin
  rw [id_st_congr h _ 8 (Nat.le_refl 8), h 48 (by decide), h 49 (by decide), h 50 (by decide), h 51 (by decide)]
/-! a block of 8 bytes as four numbers -/
def id_blk (f : Nat → Int32) : id_Q := (id_lo (f 0) * 256 + id_lo (f 1), id_lo (f 2) * 256 + id_lo (f 3), id_lo (f 4) * 256 + id_lo (f 5), id_lo (f 6) * 256 + id_lo (f 7))
theorem id_blk_ok (f : Nat → Int32) : id_ok (id_blk f) := by
  have h := fun i => id_lo_lt (f i)
  refine ⟨?_, ?_, ?_, ?_⟩ <;> unfold id_blk <;> dsimp only
  · have := h 0; have := h 1; omega
  · have := h 2; have := h 3; omega
  · have := h 4; have := h 5; omega
  · have := h 6; have := h 7; omega
theorem id_in_blk (f : Nat → Int32) : id_in f = id_I4 (id_blk f) := by
  unfold id_in id_I4 id_blk
  rw [id_wd_lo, id_wd_lo, id_wd_lo, id_wd_lo]
theorem id_blk_inj {f g : Nat → Int32} (h : id_blk f = id_blk g) : ∀ i, i < 8 → id_lo (f i) = id_lo (g i) := by
  unfold id_blk at h
  obtain ⟨h0, h⟩ := Prod.mk.inj h
  obtain ⟨h1, h⟩ := Prod.mk.inj h
  obtain ⟨h2, h3⟩ := Prod.mk.inj h
  have hf := fun i => id_lo_lt (f i)
  have hg := fun i => id_lo_lt (g i)
  intro i hi
  rcases (show i = 0 ∨ i = 1 ∨ i = 2 ∨ i = 3 ∨ i = 4 ∨ i = 5 ∨ i = 6 ∨ i = 7 by omega) with rfl | rfl | rfl | rfl | rfl | rfl | rfl | rfl
  · have := hf 1; have := hg 1; omega
  · have := hf 1; have := hg 1; omega
  · have := hf 3; have := hg 3; omega
  · have := hf 3; have := hg 3; omega
  · have := hf 5; have := hg 5; omega
  · have := hf 5; have := hg 5; omega
  · have := hf 7; have := hg 7; omega
  · have := hf 7; have := hg 7; omega
theorem id_put_at (g : Nat → Int32) (y : id_X) : id_put g y 0 = id_b8 (id_u y.1 8) ∧ id_put g y 1 = id_b8 y.1 ∧ id_put g y 2 = id_b8 (id_u y.2.1 8) ∧ id_put g y 3 = id_b8 y.2.1 ∧ id_put g y 4 = id_b8 (id_u y.2.2.1 8) ∧ id_put g y 5 = id_b8 y.2.2.1 ∧ id_put g y 6 = id_b8 (id_u y.2.2.2 8) ∧ id_put g y 7 = id_b8 y.2.2.2 := ⟨rfl, rfl, rfl, rfl, rfl, rfl, rfl, rfl⟩
theorem id_blk_put (g : Nat → Int32) (y : id_X) : id_I4 (id_blk (id_put g y)) = id_m4 y := by
  obtain ⟨h0, h1, h2, h3, h4, h5, h6, h7⟩ := id_put_at g y
  unfold id_blk id_I4 id_m4
  rw [h0, h1, h2, h3, h4, h5, h6, h7]
  dsimp only
  rw [id_lo_b8, id_lo_b8, id_lo_b8, id_lo_b8, id_lo_b8, id_lo_b8, id_lo_b8, id_lo_b8, id_wd_put, id_wd_put, id_wd_put, id_wd_put, ← id_m_of, ← id_m_of, ← id_m_of, ← id_m_of]
theorem id_I4_inj {x y : id_Q} (hx : id_ok x) (hy : id_ok y) (h : id_I4 x = id_I4 y) : x = y := by
  obtain ⟨a, b, c, d⟩ := x
  obtain ⟨a2, b2, c2, d2⟩ := y
  obtain ⟨h0, h1, h2, h3⟩ := hx
  obtain ⟨g0, g1, g2, g3⟩ := hy
  unfold id_I4 at h
  dsimp only at h h0 h1 h2 h3 g0 g1 g2 g3
  obtain ⟨e0, h⟩ := Prod.mk.inj h
  obtain ⟨e1, h⟩ := Prod.mk.inj h
  obtain ⟨e2, e3⟩ := Prod.mk.inj h
  rw [nI_eq (by omega) (by omega)] at e0 e1 e2 e3
  subst e0 e1 e2 e3
  rfl
/-- what comes out, as numbers -/
theorem id_out_blk {w : Nat → Int32} {K : Nat → Nat} (h : id_tab w K) (f g : Nat → Int32) : id_blk (id_out w f g) = id_nC K (id_blk f) := by
  apply id_I4_inj (id_blk_ok _) (id_ok_C K _)
  unfold id_out
  rw [id_blk_put, id_in_blk]
  exact id_fin_N h (id_blk_ok f)
theorem id_blk_congr {f g : Nat → Int32} (h : ∀ i, i < 8 → id_lo (f i) = id_lo (g i)) : id_blk f = id_blk g := by
  unfold id_blk
  rw [h 0 (by decide), h 1 (by decide), h 2 (by decide), h 3 (by decide), h 4 (by decide), h 5 (by decide), h 6 (by decide), h 7 (by decide)]
/-- THE LAW: what one way does, the other undoes (b, c: 1 locks, 0 does not), whatever lies between -/
theorem id_law (kf f f2 g g2 : Nat → Int32) {b c : Int32} (hbc : (b = 1 ∧ c = 0) ∨ (b = 0 ∧ c = 1)) (hf : ∀ i, i < 8 → f2 i = id_b8 (id_out (id_gk b kf) f g i)) : ∀ i, i < 8 → id_lo (id_out (id_gk c kf) f2 g2 i) = id_lo (f i) := by
  have hE := id_ek_tab kf
  obtain ⟨L, hL, hKI⟩ := id_tab_ik hE
  have e1 : id_gk 1 kf = id_ek kf := funext (fun k => if_neg (by decide))
  have e0 : id_gk 0 kf = id_ik (id_ek kf) := funext (fun k => if_pos rfl)
  have hf2 : id_blk f2 = id_blk (id_out (id_gk b kf) f g) := id_blk_congr (fun i hi => by rw [hf i hi, id_lo_b8])
  apply id_blk_inj
  rcases hbc with ⟨rfl, rfl⟩ | ⟨rfl, rfl⟩
  · rw [e0, id_out_blk hL, hf2, e1, id_out_blk hE, id_nC_inv hKI (id_blk_ok f)]
  · rw [e1, id_out_blk hE, hf2, e0, id_out_blk hL, id_nC_inv (id_KI_symm hKI) (id_blk_ok f)]
end
section
/-! helpers of the walks; the classes whose objects the worlds hold -/
set_option maxRecDepth 100000
abbrev vwCl : List vw_C := [(RX1, TX1, 3), (RX2, TX2, 2), (RX3, TX3, 1)]
section
variable {p : Program} {l : Launch} {e : Env} {R : Room} {s : State} {m : MethodId} {args : Array Value} {below : List Frame} {meth : Method} {c : Code} {H : Heap} {locs : List Loc} {cells slots : Nat} {Q : State → Prop} {pc : Nat} {ls : Array Slot} {rest : List Value}
theorem id_is {x y : Int32} (h : x = y) (k : W p l e R s m args below meth c H locs cells slots Q (F0 m pc ls (.int y :: rest))) : W p l e R s m args below meth c H locs cells slots Q (F0 m pc ls (.int x :: rest)) := h ▸ k
end
/-- an array that holds T from p on: one more below -/
theorem id_down {g T : Nat → Int32} {p n : Nat} {v : Int32} (h : ∀ k, p + 1 ≤ k → k < n → g k = T k) (hv : v = T p) : ∀ k, p ≤ k → k < n → upd g p v k = T k := by
  intro k h1 h2
  by_cases e : k = p
  · subst e
    rw [pk_us, hv]
  · rw [pk_un e]
    exact h k (by omega) h2
theorem id_up {g T : Nat → Int32} {p : Nat} {v : Int32} (h : ∀ k, k < p → g k = T k) (hv : v = T p) : ∀ k, k < p + 1 → upd g p v k = T k := by
  intro k h1
  by_cases e : k = p
  · subst e
    rw [pk_us, hv]
  · rw [pk_un e]
    exact h k (by omega)
theorem id_nz {b : Int32} (h : b = 0 ∨ b = 1) : narrow .boolean (.int b) = .int b := by
  rcases h with rfl | rfl <;> rfl
theorem id_fz {b : Int32} (h : b = 0 ∨ b = 1) : fits .boolean (.int b) = true := by
  rcases h with rfl | rfl <;> rfl
theorem id_andn {n : Nat} (h : n < 4294967296) {m : Int32} (k : Nat) (hm : m.toBitVec.toNat = 2 ^ k - 1) {c : Nat} (hc : c = n % 2 ^ k) : nI n &&& m = nI c := by
  rw [hc]
  exact pk_andN h k hm
end
section
/-! the engine: its leaves -/
set_option maxRecDepth 100000
set_option maxHeartbeats 4000000 in
set_option maxRecDepth 100000 in
/-- mul(x, y) -/
theorem met_mul (l : Launch) (h0 : Nat) (x y : Int32) : Met l yX2_mul (ws_ yX2_mul cX2_mul 4 (some .int)) ({ frames := 0, cells := 0, slots := 0, locals := 0 }) (va_Pc [.ref h0, .int x, .int y] (fun _ => True)) (vp_Si (fun r => r = id_mul x y)) 0 0 (fun _ => False) := by
  refine Met.ofW (cc := cX2_mul) (maxL := 4) (ret := (some .int)) (by decide) rfl ?_
  intro p e s m args below meth c s₁ B hml hv
  obtain ⟨rfl, -⟩ := hv
  have hx := B.exec
  have hb := B.bytes
  have hr := B.returns
  have hts := atoms_spec (ws := (ws_ yX2_mul cX2_mul 4 (some .int))) B.pre
  have hts : ∀ w ∈ lw_all, w.before _ s = true := fun w h => hts w (List.mem_cons_of_mem _ h)
  have hown : s.vm.findClass RX2 = some m.cls := findClass_of_methodNamed B.named
  have hlocks := B.notSynchronized
  have hl := lv_entry ([.ref h0, .int x, .int y]) (n := 4) (Nat.le_of_ble_eq_true rfl)
  rw [lg_entry_eq]
  generalize (lg_sl ([.ref h0, .int x, .int y]) ++ List.replicate (4 - (lg_sl ([.ref h0, .int x, .int y])).length) Slot.unset).toArray = ls at hl ⊢
  have hl : lv_has ls 4 [(0, .ref h0), (1, .int x), (2, .int y)] := hl
  refine lv_iload_n hx hb dX2_mul_0 rfl (lv_at hl 1 rfl) ?_
  refine lv_if_ne (tgt := 12) hx hb dX2_mul_1 (by decide) (fun c1 => ?_) (fun c1 => ?_)
  · refine lv_iload_n hx hb dX2_mul_12 rfl (lv_at hl 2 rfl) ?_
    refine lv_if_ne (tgt := 24) hx hb dX2_mul_13 (by decide) (fun c13 => ?_) (fun c13 => ?_)
    · refine lv_iload_n hx hb dX2_mul_24 rfl (lv_at hl 1 rfl) ?_
      refine lv_iload_n hx hb dX2_mul_25 rfl (lv_at hl 2 rfl) ?_
      refine lv_imul hx hb dX2_mul_26 ?_
      refine lv_istore_n (lv' := [(3, .int ((x) * (y))), (0, .ref h0), (1, .int x), (2, .int y)]) hx hb dX2_mul_27 rfl hl (by decide) rfl (fun ls hl => ?_)
      refine lv_iload_n hx hb dX2_mul_28 rfl (lv_at hl 0 rfl) ?_
      refine lv_ldc (v := 65535) hx hb hown (hts _ q99) dX2_mul_29 ?_
      refine lv_iand hx hb dX2_mul_31 ?_
      refine lv_istore_n (lv' := [(2, .int (((x) * (y)) &&& (65535))), (3, .int ((x) * (y))), (0, .ref h0), (1, .int x)]) hx hb dX2_mul_32 rfl hl (by decide) rfl (fun ls hl => ?_)
      refine lv_iload_n hx hb dX2_mul_33 rfl (lv_at hl 1 rfl) ?_
      refine lv_bipush (v := 16) hx hb dX2_mul_34 (by decide +kernel) ?_
      refine lv_iushr (v := id_u ((x) * (y)) (16)) hx hb dX2_mul_36 rfl ?_
      refine lv_istore_n (lv' := [(1, .int (id_u ((x) * (y)) (16))), (2, .int (((x) * (y)) &&& (65535))), (3, .int ((x) * (y))), (0, .ref h0)]) hx hb dX2_mul_37 rfl hl (by decide) rfl (fun ls hl => ?_)
      refine lv_iload_n hx hb dX2_mul_38 rfl (lv_at hl 1 rfl) ?_
      refine lv_iload_n hx hb dX2_mul_39 rfl (lv_at hl 0 rfl) ?_
      refine lv_isub hx hb dX2_mul_40 ?_
      refine lv_iload_n hx hb dX2_mul_41 rfl (lv_at hl 1 rfl) ?_
      refine lv_iload_n hx hb dX2_mul_42 rfl (lv_at hl 0 rfl) ?_
      refine lv_icmp_ge (tgt := 50) hx hb dX2_mul_43 (by decide) (fun c43 => ?_) (fun c43 => ?_)
      · refine lv_iconst (v := 0) hx hb dX2_mul_50 (by decide +kernel) ?_
        refine lv_iadd hx hb dX2_mul_51 ?_
        refine lv_istore_n (lv' := [(1, .int (((((x) * (y)) &&& (65535)) - (id_u ((x) * (y)) (16))) + (0))), (2, .int (((x) * (y)) &&& (65535))), (3, .int ((x) * (y))), (0, .ref h0)]) hx hb dX2_mul_52 rfl hl (by decide) rfl (fun ls hl => ?_)
        refine lv_iload_n hx hb dX2_mul_53 rfl (lv_at hl 0 rfl) ?_
        refine lv_ldc (v := 65535) hx hb hown (hts _ q99) dX2_mul_54 ?_
        refine lv_iand hx hb dX2_mul_56 ?_
        exact W.iret (v := (((((x) * (y)) &&& (65535)) - (id_u ((x) * (y)) (16))) + (0)) &&& (65535)) hx hb hr (fun t ht hW => ⟨(((((x) * (y)) &&& (65535)) - (id_u ((x) * (y)) (16))) + (0)) &&& (65535), rfl, by unfold id_mul id_m; rw [if_neg c1, if_neg c13, if_pos c43], ht⟩) (fun _ h => absurd h List.not_mem_nil) dX2_mul_57
      · refine lv_iconst (v := 1) hx hb dX2_mul_46 (by decide +kernel) ?_
        refine lv_goto (tgt := 51) hx hb dX2_mul_47 (by decide) ?_
        refine lv_iadd hx hb dX2_mul_51 ?_
        refine lv_istore_n (lv' := [(1, .int (((((x) * (y)) &&& (65535)) - (id_u ((x) * (y)) (16))) + (1))), (2, .int (((x) * (y)) &&& (65535))), (3, .int ((x) * (y))), (0, .ref h0)]) hx hb dX2_mul_52 rfl hl (by decide) rfl (fun ls hl => ?_)
        refine lv_iload_n hx hb dX2_mul_53 rfl (lv_at hl 0 rfl) ?_
        refine lv_ldc (v := 65535) hx hb hown (hts _ q99) dX2_mul_54 ?_
        refine lv_iand hx hb dX2_mul_56 ?_
        exact W.iret (v := (((((x) * (y)) &&& (65535)) - (id_u ((x) * (y)) (16))) + (1)) &&& (65535)) hx hb hr (fun t ht hW => ⟨(((((x) * (y)) &&& (65535)) - (id_u ((x) * (y)) (16))) + (1)) &&& (65535), rfl, by unfold id_mul id_m; rw [if_neg c1, if_neg c13, if_neg c43], ht⟩) (fun _ h => absurd h List.not_mem_nil) dX2_mul_57
    · refine lv_ldc (v := 65537) hx hb hown (hts _ q108) dX2_mul_16 ?_
      refine lv_iload_n hx hb dX2_mul_18 rfl (lv_at hl 1 rfl) ?_
      refine lv_isub hx hb dX2_mul_19 ?_
      refine lv_istore_n (lv' := [(1, .int ((65537) - (x))), (0, .ref h0), (2, .int y)]) hx hb dX2_mul_20 rfl hl (by decide) rfl (fun ls hl => ?_)
      refine lv_goto (tgt := 53) hx hb dX2_mul_21 (by decide) ?_
      refine lv_iload_n hx hb dX2_mul_53 rfl (lv_at hl 0 rfl) ?_
      refine lv_ldc (v := 65535) hx hb hown (hts _ q99) dX2_mul_54 ?_
      refine lv_iand hx hb dX2_mul_56 ?_
      exact W.iret (v := ((65537) - (x)) &&& (65535)) hx hb hr (fun t ht hW => ⟨((65537) - (x)) &&& (65535), rfl, by unfold id_mul id_m; rw [if_neg c1, if_pos c13], ht⟩) (fun _ h => absurd h List.not_mem_nil) dX2_mul_57
  · refine lv_ldc (v := 65537) hx hb hown (hts _ q108) dX2_mul_4 ?_
    refine lv_iload_n hx hb dX2_mul_6 rfl (lv_at hl 2 rfl) ?_
    refine lv_isub hx hb dX2_mul_7 ?_
    refine lv_istore_n (lv' := [(1, .int ((65537) - (y))), (0, .ref h0), (2, .int y)]) hx hb dX2_mul_8 rfl hl (by decide) rfl (fun ls hl => ?_)
    refine lv_goto (tgt := 53) hx hb dX2_mul_9 (by decide) ?_
    refine lv_iload_n hx hb dX2_mul_53 rfl (lv_at hl 0 rfl) ?_
    refine lv_ldc (v := 65535) hx hb hown (hts _ q99) dX2_mul_54 ?_
    refine lv_iand hx hb dX2_mul_56 ?_
    exact W.iret (v := ((65537) - (y)) &&& (65535)) hx hb hr (fun t ht hW => ⟨((65537) - (y)) &&& (65535), rfl, by unfold id_mul id_m; rw [if_pos c1], ht⟩) (fun _ h => absurd h List.not_mem_nil) dX2_mul_57
set_option maxHeartbeats 4000000 in
set_option maxRecDepth 100000 in
/-- addInv(x) -/
theorem met_addInv (l : Launch) (h0 : Nat) (x : Int32) : Met l yX2_addInv (ws_ yX2_addInv cX2_addInv 2 (some .int)) ({ frames := 0, cells := 0, slots := 0, locals := 0 }) (va_Pc [.ref h0, .int x] (fun _ => True)) (vp_Si (fun r => r = id_neg x)) 0 0 (fun _ => False) := by
  refine Met.ofW (cc := cX2_addInv) (maxL := 2) (ret := (some .int)) (by decide) rfl ?_
  intro p e s m args below meth c s₁ B hml hv
  obtain ⟨rfl, -⟩ := hv
  have hx := B.exec
  have hb := B.bytes
  have hr := B.returns
  have hts := atoms_spec (ws := (ws_ yX2_addInv cX2_addInv 2 (some .int))) B.pre
  have hts : ∀ w ∈ lw_all, w.before _ s = true := fun w h => hts w (List.mem_cons_of_mem _ h)
  have hown : s.vm.findClass RX2 = some m.cls := findClass_of_methodNamed B.named
  have hlocks := B.notSynchronized
  have hl := lv_entry ([.ref h0, .int x]) (n := 2) (Nat.le_of_ble_eq_true rfl)
  rw [lg_entry_eq]
  generalize (lg_sl ([.ref h0, .int x]) ++ List.replicate (2 - (lg_sl ([.ref h0, .int x])).length) Slot.unset).toArray = ls at hl ⊢
  have hl : lv_has ls 2 [(0, .ref h0), (1, .int x)] := hl
  refine lv_iconst (v := 0) hx hb dX2_addInv_0 (by decide +kernel) ?_
  refine lv_iload_n hx hb dX2_addInv_1 rfl (lv_at hl 1 rfl) ?_
  refine lv_isub hx hb dX2_addInv_2 ?_
  refine lv_ldc (v := 65535) hx hb hown (hts _ q99) dX2_addInv_3 ?_
  refine lv_iand hx hb dX2_addInv_5 ?_
  exact W.iret (v := ((0) - (x)) &&& (65535)) hx hb hr (fun t ht hW => ⟨((0) - (x)) &&& (65535), rfl, rfl, ht⟩) (fun _ h => absurd h List.not_mem_nil) dX2_addInv_6
set_option maxHeartbeats 4000000 in
set_option maxRecDepth 100000 in
/-- bytesToWord(in, k) -/
theorem met_b2w (l : Launch) (dC : Nat → ClassId) (dI : Nat → Nat → Nat) (h0 a : Nat) (cA : ClassId) (n k : Nat) (f : Nat → Int32) (hk : k + 1 < n) (hn : n < 2 ^ 31) : Met l yX2_bytesToWord (ws_ yX2_bytesToWord cX2_bytesToWord 3 (some .int)) ({ frames := 0, cells := 0, slots := 0, locals := 0 }) (va_Pc [.ref h0, .ref a, .int (nI k)] (fun U => va_P (dC, dI) vwCl [(a, .inl (cA, n, .inl (f)))] U.heap ∧ va_K (dC, dI) vwCl [(cA, .byte)] U)) (vp_Si (fun r => r = id_wd (f k) (f (k + 1)))) 0 0 (fun _ => False) := by
  refine Met.ofW (cc := cX2_bytesToWord) (maxL := 3) (ret := (some .int)) (by decide) rfl ?_
  intro p e s m args below meth c s₁ B hml hv
  obtain ⟨rfl, hP, hK⟩ := hv
  have hx := B.exec
  have hb := B.bytes
  have hr := B.returns
  have hts := atoms_spec (ws := (ws_ yX2_bytesToWord cX2_bytesToWord 3 (some .int))) B.pre
  have hts : ∀ w ∈ lw_all, w.before _ s = true := fun w h => hts w (List.mem_cons_of_mem _ h)
  have hown : s.vm.findClass RX2 = some m.cls := findClass_of_methodNamed B.named
  have hlocks := B.notSynchronized
  have hl := lv_entry ([.ref h0, .ref a, .int (nI k)]) (n := 3) (Nat.le_of_ble_eq_true rfl)
  rw [lg_entry_eq]
  generalize (lg_sl ([.ref h0, .ref a, .int (nI k)]) ++ List.replicate (3 - (lg_sl ([.ref h0, .ref a, .int (nI k)])).length) Slot.unset).toArray = ls at hl ⊢
  have hl : lv_has ls 3 [(0, .ref h0), (1, .ref a), (2, .int (nI k))] := hl
  refine lv_aload_n hx hb dX2_bytesToWord_0 rfl (lv_at hl 1 rfl) ?_
  refine lv_iload_n hx hb dX2_bytesToWord_1 rfl (lv_at hl 2 rfl) ?_
  refine va_bald hx hb hK hP 0 0 rfl rfl (vp_in_nI (by omega) (by omega)) dX2_bytesToWord_2 ?_
  refine id_is (y := (f) (k)) (by rw [nI_clamp (n := k) (by omega)]) ?_
  refine lv_bipush (v := 8) hx hb dX2_bytesToWord_3 (by decide +kernel) ?_
  refine lv_ishl hx hb dX2_bytesToWord_5 ?_
  refine lv_ldc (v := 65280) hx hb hown (hts _ q98) dX2_bytesToWord_6 ?_
  refine lv_iand hx hb dX2_bytesToWord_8 ?_
  refine lv_aload_n hx hb dX2_bytesToWord_9 rfl (lv_at hl 1 rfl) ?_
  refine lv_iload_n hx hb dX2_bytesToWord_10 rfl (lv_at hl 2 rfl) ?_
  refine lv_iconst (v := nI 1) hx hb dX2_bytesToWord_11 (by decide +kernel) ?_
  refine lv_iadd hx hb dX2_bytesToWord_12 ?_
  refine id_is (y := nI (k + 1)) (id_addn (by omega)) ?_
  refine va_bald hx hb hK hP 0 0 rfl rfl (vp_in_nI (by omega) (by omega)) dX2_bytesToWord_13 ?_
  refine id_is (y := (f) (k + 1)) (by rw [nI_clamp (n := k + 1) (by omega)]) ?_
  refine lv_sipush (v := 255) hx hb dX2_bytesToWord_14 (by decide +kernel) ?_
  refine lv_iand hx hb dX2_bytesToWord_17 ?_
  refine lv_iadd hx hb dX2_bytesToWord_18 ?_
  exact W.iret (v := ((((f) (k)) <<< ((8 : Int32) &&& 31)) &&& (65280)) + (((f) (k + 1)) &&& (255))) hx hb hr (fun t ht hW => ⟨((((f) (k)) <<< ((8 : Int32) &&& 31)) &&& (65280)) + (((f) (k + 1)) &&& (255)), rfl, rfl, ht⟩) (fun _ h => absurd h List.not_mem_nil) dX2_bytesToWord_19
set_option maxHeartbeats 4000000 in
set_option maxRecDepth 100000 in
/-- wordToBytes(v, out, k) -/
theorem met_w2b (l : Launch) (dC : Nat → ClassId) (dI : Nat → Nat → Nat) (h0 a : Nat) (sz : Nat) (cA : ClassId) (n k : Nat) (f : Nat → Int32) (v : Int32) (hk : k + 1 < n) (hn : n < 2 ^ 31) : Met l yX2_wordToBytes (ws_ yX2_wordToBytes cX2_wordToBytes 4 none) ({ frames := 0, cells := 0, slots := 0, locals := 0 }) (va_Pc [.ref h0, .int v, .ref a, .int (nI k)] (fun U => U.heap.size = sz ∧ va_P (dC, dI) vwCl [(a, .inl (cA, n, .inl (f)))] U.heap ∧ va_K (dC, dI) vwCl [(cA, .byte)] U ∧ va_D (fun _ => True) [(a, .inl (cA, n, .inl (f)))])) (va_Qv (fun u : Nat → Int32 => u = id_wb f k v) (fun (u : Nat → Int32) (t : State) => va_P (dC, dI) vwCl [(a, .inl (cA, n, .inl (u)))] t.heap ∧ va_K (dC, dI) vwCl [(cA, .byte)] t ∧ va_D (va_A [(a, .inl (cA, n, .inl (f)))] sz) [(a, .inl (cA, n, .inl (u)))]) (va_A [(a, .inl (cA, n, .inl (f)))] sz)) 0 0 (va_A [(a, .inl (cA, n, .inl (f)))] sz) := by
  refine Met.ofW (cc := cX2_wordToBytes) (maxL := 4) (ret := none) (by decide) rfl ?_
  intro p e s m args below meth c s₁ B hml hv
  obtain ⟨rfl, hsz, hP, hK, hD0⟩ := hv
  have hx := B.exec
  have hb := B.bytes
  have hr := B.returns
  have hts := atoms_spec (ws := (ws_ yX2_wordToBytes cX2_wordToBytes 4 none)) B.pre
  have hts : ∀ w ∈ lw_all, w.before _ s = true := fun w h => hts w (List.mem_cons_of_mem _ h)
  have hown : s.vm.findClass RX2 = some m.cls := findClass_of_methodNamed B.named
  have hlocks := B.notSynchronized
  subst hsz
  have hD := hD0.self (sz := s.heap.size)
  generalize hAe : va_A [(a, .inl (cA, n, .inl (f)))] s.heap.size = A at hD ⊢
  have hA : ∀ q : Nat, s.heap.size ≤ q → A q := fun q h => by rw [← hAe]; exact Or.inr h
  have hS : va_S A s.heap s.heap [] := va_S.rf
  have hP : va_P (dC, dI) vwCl [(a, .inl (cA, n, .inl (f)))] s.heap := hP
  have hl := lv_entry ([.ref h0, .int v, .ref a, .int (nI k)]) (n := 4) (Nat.le_of_ble_eq_true rfl)
  rw [lg_entry_eq]
  generalize (lg_sl ([.ref h0, .int v, .ref a, .int (nI k)]) ++ List.replicate (4 - (lg_sl ([.ref h0, .int v, .ref a, .int (nI k)])).length) Slot.unset).toArray = ls at hl ⊢
  have hl : lv_has ls 4 [(0, .ref h0), (1, .int v), (2, .ref a), (3, .int (nI k))] := hl
  refine lv_aload_n hx hb dX2_wordToBytes_0 rfl (lv_at hl 2 rfl) ?_
  refine lv_iload_n hx hb dX2_wordToBytes_1 rfl (lv_at hl 3 rfl) ?_
  refine lv_iload_n hx hb dX2_wordToBytes_2 rfl (lv_at hl 1 rfl) ?_
  refine lv_bipush (v := 8) hx hb dX2_wordToBytes_3 (by decide +kernel) ?_
  refine lv_iushr (v := id_u (v) (8)) hx hb dX2_wordToBytes_5 rfl ?_
  refine lv_i2b (v := (id_u (v) (8) : Int32).toInt8.toInt32) hx hb dX2_wordToBytes_6 rfl ?_
  refine va_bast hx hb hK hP hD hS 0 0 rfl rfl (vp_in_nI (by omega) (by omega)) dX2_wordToBytes_7 (fun H locs hP hD hS => ?_)
  rw [nI_clamp (n := k) (by omega)] at hP hD
  rw [pk_vb] at hP hD
  have hP : va_P (dC, dI) vwCl [(a, .inl (cA, n, .inl (upd (f) (k) ((id_u (v) (8) : Int32).toInt8.toInt32))))] H := hP
  have hD : va_D A [(a, .inl (cA, n, .inl (upd (f) (k) ((id_u (v) (8) : Int32).toInt8.toInt32))))] := hD
  refine lv_aload_n hx hb dX2_wordToBytes_8 rfl (lv_at hl 2 rfl) ?_
  refine lv_iload_n hx hb dX2_wordToBytes_9 rfl (lv_at hl 3 rfl) ?_
  refine lv_iconst (v := nI 1) hx hb dX2_wordToBytes_10 (by decide +kernel) ?_
  refine lv_iadd hx hb dX2_wordToBytes_11 ?_
  refine id_is (y := nI (k + 1)) (id_addn (by omega)) ?_
  refine lv_iload_n hx hb dX2_wordToBytes_12 rfl (lv_at hl 1 rfl) ?_
  refine lv_i2b (v := (v : Int32).toInt8.toInt32) hx hb dX2_wordToBytes_13 rfl ?_
  refine va_bast hx hb hK hP hD hS 0 0 rfl rfl (vp_in_nI (by omega) (by omega)) dX2_wordToBytes_14 (fun H locs hP hD hS => ?_)
  rw [nI_clamp (n := k + 1) (by omega)] at hP hD
  rw [pk_vb] at hP hD
  have hP : va_P (dC, dI) vwCl [(a, .inl (cA, n, .inl (upd (upd (f) (k) ((id_u (v) (8) : Int32).toInt8.toInt32)) (k + 1) ((v : Int32).toInt8.toInt32))))] H := hP
  have hD : va_D A [(a, .inl (cA, n, .inl (upd (upd (f) (k) ((id_u (v) (8) : Int32).toInt8.toInt32)) (k + 1) ((v : Int32).toInt8.toInt32))))] := hD
  have hP9 := hP.sub (ws' := [(a, .inl (cA, n, .inl (id_wb f k v)))]) [0] rfl
  have hD9 := hD.sub (ws' := [(a, .inl (cA, n, .inl (id_wb f k v)))]) [0] (by decide) rfl
  have hK9 := hK.sub (tys' := [(cA, .byte)]) [0] rfl
  exact W.vret hx hb hr (fun t ht hW => ⟨⟨(id_wb f k v), rfl, rfl, by rw [ht]; exact hP9, va_K.moved hW.alike hK9, hD9⟩, hS.F ht⟩) hS.2.2 dX2_wordToBytes_15
set_option maxHeartbeats 4000000 in
set_option maxRecDepth 100000 in
/-- mulInv(x) -/
theorem met_mulInv (l : Launch) (h0 x : Nat) (hx0 : x < 65536) : Met l yX2_mulInv (ws_ yX2_mulInv cX2_mulInv 6 (some .int)) ({ frames := 0, cells := 0, slots := 0, locals := 0 }) (va_Pc [.ref h0, .int (nI x)] (fun _ => True)) (vp_Si (fun r => r = id_mi (nI x))) 0 0 (fun _ => False) := by
  refine Met.ofW (cc := cX2_mulInv) (maxL := 6) (ret := (some .int)) (by decide) rfl ?_
  intro p e s m args below meth c s₁ B hml hv
  obtain ⟨rfl, -⟩ := hv
  have hx := B.exec
  have hb := B.bytes
  have hr := B.returns
  have hts := atoms_spec (ws := (ws_ yX2_mulInv cX2_mulInv 6 (some .int))) B.pre
  have hts : ∀ w ∈ lw_all, w.before _ s = true := fun w h => hts w (List.mem_cons_of_mem _ h)
  have hown : s.vm.findClass RX2 = some m.cls := findClass_of_methodNamed B.named
  have hlocks := B.notSynchronized
  have hl := lv_entry ([.ref h0, .int (nI x)]) (n := 6) (Nat.le_of_ble_eq_true rfl)
  rw [lg_entry_eq]
  generalize (lg_sl ([.ref h0, .int (nI x)]) ++ List.replicate (6 - (lg_sl ([.ref h0, .int (nI x)])).length) Slot.unset).toArray = ls at hl ⊢
  have hl : lv_has ls 6 [(0, .ref h0), (1, .int (nI x))] := hl
  refine lv_iload_n hx hb dX2_mulInv_0 rfl (lv_at hl 1 rfl) ?_
  refine lv_iconst (v := nI 2) hx hb dX2_mulInv_1 (by decide +kernel) ?_
  refine lv_icmp_ge (tgt := 7) hx hb dX2_mulInv_2 (by decide) (fun c2 => ?_) (fun c2 => ?_)
  · have hx2 : 2 ≤ x := (nI_leI (by omega) (by omega)).mp c2
    refine lv_iconst (v := nI 1) hx hb dX2_mulInv_7 (by decide +kernel) ?_
    refine lv_istore_n (lv' := [(2, .int (nI 1)), (0, .ref h0), (1, .int (nI x))]) hx hb dX2_mulInv_8 rfl hl (by decide) rfl (fun ls hl => ?_)
    refine lv_ldc (v := 65537) hx hb hown (hts _ q108) dX2_mulInv_9 ?_
    refine id_is (y := nI 65537) (rfl) ?_
    refine lv_iload_n hx hb dX2_mulInv_11 rfl (lv_at hl 2 rfl) ?_
    refine lv_idiv hx hb dX2_mulInv_12 (nI_ne0 (by omega) (by omega)) ?_
    refine id_is (y := nI (65537 / x)) (pk_div (by omega) (by omega) (by omega)) ?_
    refine lv_istore_n (lv' := [(3, .int (nI (65537 / x))), (2, .int (nI 1)), (0, .ref h0), (1, .int (nI x))]) hx hb dX2_mulInv_13 rfl hl (by decide) rfl (fun ls hl => ?_)
    refine lv_ldc (v := 65537) hx hb hown (hts _ q108) dX2_mulInv_14 ?_
    refine id_is (y := nI 65537) (rfl) ?_
    refine lv_iload_n hx hb dX2_mulInv_16 rfl (lv_at hl 3 rfl) ?_
    refine lv_irem hx hb dX2_mulInv_17 (nI_ne0 (by omega) (by omega)) ?_
    refine id_is (y := nI (65537 % x)) (pk_rem (by omega) (by omega) (by omega)) ?_
    refine lv_istore (lv' := [(5, .int (nI (65537 % x))), (3, .int (nI (65537 / x))), (2, .int (nI 1)), (0, .ref h0), (1, .int (nI x))]) hx hb dX2_mulInv_18 hl (by decide) rfl (fun ls hl => ?_)
    have key : ∀ (n A B S T : Nat), B < n → id_I x A B S T → ∀ ls : Array Slot, lv_has ls 6 [(5, .int (nI B)), (3, .int (nI T)), (2, .int (nI S)), (1, .int (nI A)), (0, .ref h0)] → W p l e (headSpec (ws_ yX2_mulInv cX2_mulInv 6 (some .int)) { frames := 0, cells := 0, slots := 0, locals := 0 }).room s m ([.ref h0, .int (nI x)] : List Value).toArray below meth c s.heap [] 0 0 (MQ below (vp_Si (fun r => r = id_mi (nI x))) ([.ref h0, .int (nI x)] : List Value).toArray s 0 0 (fun _ => False)) (F0 m 20 ls []) := by
      intro n
      induction n with
      | zero => intro A B S T hB; exact absurd hB (Nat.not_lt_zero _)
      | succ n ih =>
        intro A B S T hB hI ls hl
        have hI0 := id_I_bds hI
        obtain ⟨hA2, hA3, hB1, hBA, -⟩ := id hI
        refine lv_iload hx hb dX2_mulInv_20 (lv_at hl 0 rfl) ?_
        refine lv_iconst (v := nI 1) hx hb dX2_mulInv_22 (by decide +kernel) ?_
        refine lv_icmp_eq (tgt := 79) hx hb dX2_mulInv_23 (by decide) (fun c23 => ?_) (fun c23 => ?_)
        · have e1 : B = 1 := (nI_eq (by omega) (by omega)).mp c23
          subst e1
          refine lv_iconst (v := nI 1) hx hb dX2_mulInv_79 (by decide +kernel) ?_
          refine lv_iload_n hx hb dX2_mulInv_80 rfl (lv_at hl 1 rfl) ?_
          refine lv_isub hx hb dX2_mulInv_81 ?_
          refine lv_ldc (v := 65535) hx hb hown (hts _ q99) dX2_mulInv_82 ?_
          refine lv_iand hx hb dX2_mulInv_84 ?_
          exact W.iret (v := ((nI 1) - (nI T)) &&& (65535)) hx hb hr (fun t ht hW => ⟨((nI 1) - (nI T)) &&& (65535), rfl, id_mi2 hx2 hx0 hI, ht⟩) (fun _ h => absurd h List.not_mem_nil) dX2_mulInv_85
        · have hB0 : B ≠ 1 := fun q => c23 (by rw [q])
          have hJ := id_step1 hI hB0
          have hS := hI0.2 hB0
          have hT := hI0.1
          have hS2 := id_half hJ.1 hJ.2.2.1 hJ.2.2.2.2.1
          obtain ⟨hj1, hj2, -⟩ := id hJ
          refine lv_iload_n hx hb dX2_mulInv_26 rfl (lv_at hl 3 rfl) ?_
          refine lv_iload hx hb dX2_mulInv_27 (lv_at hl 0 rfl) ?_
          refine lv_idiv hx hb dX2_mulInv_29 (nI_ne0 (by omega) (by omega)) ?_
          refine id_is (y := nI (A / B)) (pk_div (by omega) (by omega) (by omega)) ?_
          refine lv_istore (lv' := [(4, .int (nI (A / B))), (5, .int (nI B)), (3, .int (nI T)), (2, .int (nI S)), (1, .int (nI A)), (0, .ref h0)]) hx hb dX2_mulInv_30 hl (by decide) rfl (fun ls hl => ?_)
          refine lv_iload_n hx hb dX2_mulInv_32 rfl (lv_at hl 4 rfl) ?_
          refine lv_iload hx hb dX2_mulInv_33 (lv_at hl 1 rfl) ?_
          refine lv_irem hx hb dX2_mulInv_35 (nI_ne0 (by omega) (by omega)) ?_
          refine id_is (y := nI (A % B)) (pk_rem (by omega) (by omega) (by omega)) ?_
          refine lv_istore_n (lv' := [(1, .int (nI (A % B))), (4, .int (nI (A / B))), (5, .int (nI B)), (3, .int (nI T)), (2, .int (nI S)), (0, .ref h0)]) hx hb dX2_mulInv_36 rfl hl (by decide) rfl (fun ls hl => ?_)
          refine lv_iload_n hx hb dX2_mulInv_37 rfl (lv_at hl 4 rfl) ?_
          refine lv_iload_n hx hb dX2_mulInv_38 rfl (lv_at hl 3 rfl) ?_
          refine lv_iload hx hb dX2_mulInv_39 (lv_at hl 1 rfl) ?_
          refine lv_imul hx hb dX2_mulInv_41 ?_
          refine id_is (y := nI (T * (A / B))) (id_muln rfl) ?_
          refine lv_iadd hx hb dX2_mulInv_42 ?_
          refine id_is (y := nI (S + T * (A / B))) (id_addn (by omega)) ?_
          refine lv_ldc (v := 65535) hx hb hown (hts _ q99) dX2_mulInv_43 ?_
          refine lv_iand hx hb dX2_mulInv_45 ?_
          refine id_is (y := nI (S + T * (A / B))) (id_m_lt (by omega)) ?_
          refine lv_istore_n (lv' := [(2, .int (nI (S + T * (A / B)))), (1, .int (nI (A % B))), (4, .int (nI (A / B))), (5, .int (nI B)), (3, .int (nI T)), (0, .ref h0)]) hx hb dX2_mulInv_46 rfl hl (by decide) rfl (fun ls hl => ?_)
          refine lv_iload_n hx hb dX2_mulInv_47 rfl (lv_at hl 1 rfl) ?_
          refine lv_iconst (v := nI 1) hx hb dX2_mulInv_48 (by decide +kernel) ?_
          refine lv_icmp_ne (tgt := 54) hx hb dX2_mulInv_49 (by decide) (fun c49 => ?_) (fun c49 => ?_)
          · have ha1 : A % B ≠ 1 := fun q => c49 (by rw [q])
            have hI2 := id_step2 hJ ha1
            have hT2 := (id_I_bds hI2).1
            have hb2 : B % (A % B) < A % B := Nat.mod_lt _ (by omega)
            refine lv_iload hx hb dX2_mulInv_54 (lv_at hl 3 rfl) ?_
            refine lv_iload_n hx hb dX2_mulInv_56 rfl (lv_at hl 1 rfl) ?_
            refine lv_idiv hx hb dX2_mulInv_57 (nI_ne0 (by omega) (by omega)) ?_
            refine id_is (y := nI (B / (A % B))) (pk_div (by omega) (by omega) (by omega)) ?_
            refine lv_istore (lv' := [(4, .int (nI (B / (A % B)))), (2, .int (nI (S + T * (A / B)))), (1, .int (nI (A % B))), (5, .int (nI B)), (3, .int (nI T)), (0, .ref h0)]) hx hb dX2_mulInv_58 hl (by decide) rfl (fun ls hl => ?_)
            refine lv_iload hx hb dX2_mulInv_60 (lv_at hl 3 rfl) ?_
            refine lv_iload_n hx hb dX2_mulInv_62 rfl (lv_at hl 2 rfl) ?_
            refine lv_irem hx hb dX2_mulInv_63 (nI_ne0 (by omega) (by omega)) ?_
            refine id_is (y := nI (B % (A % B))) (pk_rem (by omega) (by omega) (by omega)) ?_
            refine lv_istore (lv' := [(5, .int (nI (B % (A % B)))), (4, .int (nI (B / (A % B)))), (2, .int (nI (S + T * (A / B)))), (1, .int (nI (A % B))), (3, .int (nI T)), (0, .ref h0)]) hx hb dX2_mulInv_64 hl (by decide) rfl (fun ls hl => ?_)
            refine lv_iload_n hx hb dX2_mulInv_66 rfl (lv_at hl 4 rfl) ?_
            refine lv_iload_n hx hb dX2_mulInv_67 rfl (lv_at hl 2 rfl) ?_
            refine lv_iload hx hb dX2_mulInv_68 (lv_at hl 1 rfl) ?_
            refine lv_imul hx hb dX2_mulInv_70 ?_
            refine id_is (y := nI ((S + T * (A / B)) * (B / (A % B)))) (id_muln rfl) ?_
            refine lv_iadd hx hb dX2_mulInv_71 ?_
            refine id_is (y := nI (T + (S + T * (A / B)) * (B / (A % B)))) (id_addn (by omega)) ?_
            refine lv_ldc (v := 65535) hx hb hown (hts _ q99) dX2_mulInv_72 ?_
            refine lv_iand hx hb dX2_mulInv_74 ?_
            refine id_is (y := nI (T + (S + T * (A / B)) * (B / (A % B)))) (id_m_lt (by omega)) ?_
            refine lv_istore_n (lv' := [(3, .int (nI (T + (S + T * (A / B)) * (B / (A % B))))), (5, .int (nI (B % (A % B)))), (4, .int (nI (B / (A % B)))), (2, .int (nI (S + T * (A / B)))), (1, .int (nI (A % B))), (0, .ref h0)]) hx hb dX2_mulInv_75 rfl hl (by decide) rfl (fun ls hl => ?_)
            refine lv_goto (tgt := 20) hx hb dX2_mulInv_76 (by decide) ?_
            exact ih (A % B) (B % (A % B)) (S + T * (A / B)) (T + (S + T * (A / B)) * (B / (A % B))) (by omega) hI2 ls (lv_sub hl [1, 0, 3, 4, 5] rfl)
          · have e1 : A % B = 1 := (nI_eq (by omega) (by omega)).mp c49
            rw [e1] at hJ
            refine lv_iload_n hx hb dX2_mulInv_52 rfl (lv_at hl 0 rfl) ?_
            exact W.iret (v := nI (S + T * (A / B))) hx hb hr (fun t ht hW => ⟨nI (S + T * (A / B)), rfl, id_mi1 hx2 hx0 hJ, ht⟩) (fun _ h => absurd h List.not_mem_nil) dX2_mulInv_53
    exact key (65537 % x + 1) x (65537 % x) 1 (65537 / x) (Nat.lt_succ_self _) (id_start hx2 hx0) ls (lv_sub hl [0, 1, 2, 4, 3] rfl)
  · have hlt : x < 2 := by rcases Nat.lt_or_ge x 2 with q | q; exact q; exact absurd (nI_le q (by omega)) c2
    refine lv_iload_n hx hb dX2_mulInv_5 rfl (lv_at hl 1 rfl) ?_
    exact W.iret (v := nI x) hx hb hr (fun t ht hW => ⟨nI x, rfl, id_mi01 hlt, ht⟩) (fun _ h => absurd h List.not_mem_nil) dX2_mulInv_6
end
section
/-! the engine: one block -/
set_option maxRecDepth 100000
set_option maxHeartbeats 4000000 in
set_option maxRecDepth 100000 in
/-- ideaFunc: the block in comes out at ho -/
theorem met_ideaFunc (l : Launch) (dC : Nat → ClassId) (dI : Nat → Nat → Nat) (h0 qw qi qo sz : Nat) (cW cI cO : ClassId) (v0 v1 : Value) (w f g : Nat → Int32) : Met l yX2_ideaFunc (ws_ yX2_ideaFunc cX2_ideaFunc 14 none) ({ frames := 1, cells := 0, slots := 0, locals := 24 }) (va_Pc [.ref h0, .ref qw, .ref qi, .int (nI 0), .ref qo, .int (nI 0)] (fun U => U.heap.size = sz ∧ va_P (dC, dI) vwCl [(h0, .inr (1, [v0, v1])), (qw, .inl (cW, 52, .inl (w))), (qi, .inl (cI, 8, .inl (f))), (qo, .inl (cO, 8, .inl (g)))] U.heap ∧ va_K (dC, dI) vwCl [(cW, .int), (cI, .byte), (cO, .byte)] U ∧ va_D (fun _ => True) [(h0, .inr (1, [v0, v1])), (qw, .inl (cW, 52, .inl (w))), (qi, .inl (cI, 8, .inl (f))), (qo, .inl (cO, 8, .inl (g)))])) (va_Qv (fun u : Nat → Int32 => u = id_out w f g) (fun (u : Nat → Int32) (t : State) => va_P (dC, dI) vwCl [(h0, .inr (1, [v0, v1])), (qw, .inl (cW, 52, .inl (w))), (qi, .inl (cI, 8, .inl (f))), (qo, .inl (cO, 8, .inl (u)))] t.heap ∧ va_K (dC, dI) vwCl [(cW, .int), (cI, .byte), (cO, .byte)] t ∧ va_D (va_A [(h0, .inr (1, [v0, v1])), (qw, .inl (cW, 52, .inl (w))), (qi, .inl (cI, 8, .inl (f))), (qo, .inl (cO, 8, .inl (g)))] sz) [(h0, .inr (1, [v0, v1])), (qw, .inl (cW, 52, .inl (w))), (qi, .inl (cI, 8, .inl (f))), (qo, .inl (cO, 8, .inl (u)))]) (va_A [(h0, .inr (1, [v0, v1])), (qw, .inl (cW, 52, .inl (w))), (qi, .inl (cI, 8, .inl (f))), (qo, .inl (cO, 8, .inl (g)))] sz)) 0 0 (va_A [(h0, .inr (1, [v0, v1])), (qw, .inl (cW, 52, .inl (w))), (qi, .inl (cI, 8, .inl (f))), (qo, .inl (cO, 8, .inl (g)))] sz) := by
  refine Met.ofW (cc := cX2_ideaFunc) (maxL := 14) (ret := none) (by decide) rfl ?_
  intro p e s m args below meth c s₁ B hml hv
  obtain ⟨rfl, hsz, hP, hK, hD0⟩ := hv
  have hx := B.exec
  have hb := B.bytes
  have hr := B.returns
  have hts := atoms_spec (ws := (ws_ yX2_ideaFunc cX2_ideaFunc 14 none)) B.pre
  have hts : ∀ w ∈ lw_all, w.before _ s = true := fun w h => hts w (List.mem_cons_of_mem _ h)
  have hown : s.vm.findClass RX2 = some m.cls := findClass_of_methodNamed B.named
  have hlocks := B.notSynchronized
  subst hsz
  have hD := hD0.self (sz := s.heap.size)
  generalize hAe : va_A [(h0, .inr (1, [v0, v1])), (qw, .inl (cW, 52, .inl (w))), (qi, .inl (cI, 8, .inl (f))), (qo, .inl (cO, 8, .inl (g)))] s.heap.size = A at hD ⊢
  have hA : ∀ q : Nat, s.heap.size ≤ q → A q := fun q h => by rw [← hAe]; exact Or.inr h
  have hS : va_S A s.heap s.heap [] := va_S.rf
  have hP : va_P (dC, dI) vwCl [(h0, .inr (1, [v0, v1])), (qw, .inl (cW, 52, .inl (w))), (qi, .inl (cI, 8, .inl (f))), (qo, .inl (cO, 8, .inl (g)))] s.heap := hP
  have hl := lv_entry ([.ref h0, .ref qw, .ref qi, .int (nI 0), .ref qo, .int (nI 0)]) (n := 14) (Nat.le_of_ble_eq_true rfl)
  rw [lg_entry_eq]
  generalize (lg_sl ([.ref h0, .ref qw, .ref qi, .int (nI 0), .ref qo, .int (nI 0)]) ++ List.replicate (14 - (lg_sl ([.ref h0, .ref qw, .ref qi, .int (nI 0), .ref qo, .int (nI 0)])).length) Slot.unset).toArray = ls at hl ⊢
  have hl : lv_has ls 14 [(0, .ref h0), (1, .ref qw), (2, .ref qi), (3, .int (nI 0)), (4, .ref qo), (5, .int (nI 0))] := hl
  refine lv_iconst (v := nI 0) hx hb dX2_ideaFunc_0 (by decide +kernel) ?_
  refine lv_istore (lv' := [(12, .int (nI 0)), (0, .ref h0), (1, .ref qw), (2, .ref qi), (3, .int (nI 0)), (4, .ref qo), (5, .int (nI 0))]) hx hb dX2_ideaFunc_1 hl (by decide) rfl (fun ls hl => ?_)
  refine lv_aload_n hx hb dX2_ideaFunc_3 rfl (lv_at hl 1 rfl) ?_
  refine lv_aload_n hx hb dX2_ideaFunc_4 rfl (lv_at hl 3 rfl) ?_
  refine lv_iload_n hx hb dX2_ideaFunc_5 rfl (lv_at hl 4 rfl) ?_
  refine vp_callSi (W.runV (As := [.ref qi, .int (nI 0)]) (rest := []) ⟨hx, hb, hml, hown, hts⟩ (met_b2w l dC dI h0 qi cI 8 (0) (f) (by omega) (by omega)) (cwV 2 hts (lw_V q94 q96 qs3 q12 q97) rfl rfl rfl (by decide +kernel) ⟨Nat.le_of_ble_eq_true rfl, Nat.le_of_ble_eq_true rfl⟩) ⟨fun a U g mk q => by obtain ⟨q0, qP, qK⟩ := q; exact ⟨q0, qP, va_K.moved (u := U) (U := U.calling g mk a) (Vm.Alike.refl U.vm) qK⟩, va_recv hK hP (ci := 1) (q0 := 0) rfl rfl, fun U hU hW => ⟨rfl, by rw [hU]; exact hP.sub (ws' := [(qi, .inl (cI, 8, .inl (f)))]) [2] rfl, va_K.moved hW.alike (hK.sub (tys' := [(cI, .byte)]) [1] rfl)⟩⟩ rfl rfl hl.1 rfl (lv_room (Nat.le_of_ble_eq_true rfl)) dX2_ideaFunc_6 ⟨Nat.le_of_ble_eq_true rfl, Nat.le_of_ble_eq_true rfl⟩) (fun z ez => ?_)
  refine id_is (y := id_wd ((f) (0)) ((f) (1))) (ez) ?_
  refine lv_istore (lv' := [(6, .int (id_wd ((f) (0)) ((f) (1)))), (12, .int (nI 0)), (0, .ref h0), (1, .ref qw), (2, .ref qi), (3, .int (nI 0)), (4, .ref qo), (5, .int (nI 0))]) hx hb dX2_ideaFunc_9 hl (by decide) rfl (fun ls hl => ?_)
  refine lv_aload_n hx hb dX2_ideaFunc_11 rfl (lv_at hl 2 rfl) ?_
  refine lv_aload_n hx hb dX2_ideaFunc_12 rfl (lv_at hl 4 rfl) ?_
  refine lv_iload_n hx hb dX2_ideaFunc_13 rfl (lv_at hl 5 rfl) ?_
  refine lv_iconst (v := nI 2) hx hb dX2_ideaFunc_14 (by decide +kernel) ?_
  refine lv_iadd hx hb dX2_ideaFunc_15 ?_
  refine id_is (y := nI (2)) (id_addn (by omega)) ?_
  refine vp_callSi (W.runV (As := [.ref qi, .int (nI (2))]) (rest := []) ⟨hx, hb, hml, hown, hts⟩ (met_b2w l dC dI h0 qi cI 8 (2) (f) (by omega) (by omega)) (cwV 2 hts (lw_V q94 q96 qs3 q12 q97) rfl rfl rfl (by decide +kernel) ⟨Nat.le_of_ble_eq_true rfl, Nat.le_of_ble_eq_true rfl⟩) ⟨fun a U g mk q => by obtain ⟨q0, qP, qK⟩ := q; exact ⟨q0, qP, va_K.moved (u := U) (U := U.calling g mk a) (Vm.Alike.refl U.vm) qK⟩, va_recv hK hP (ci := 1) (q0 := 0) rfl rfl, fun U hU hW => ⟨rfl, by rw [hU]; exact hP.sub (ws' := [(qi, .inl (cI, 8, .inl (f)))]) [2] rfl, va_K.moved hW.alike (hK.sub (tys' := [(cI, .byte)]) [1] rfl)⟩⟩ rfl rfl hl.1 rfl (lv_room (Nat.le_of_ble_eq_true rfl)) dX2_ideaFunc_16 ⟨Nat.le_of_ble_eq_true rfl, Nat.le_of_ble_eq_true rfl⟩) (fun z ez => ?_)
  refine id_is (y := id_wd ((f) (2)) ((f) (3))) (ez) ?_
  refine lv_istore (lv' := [(7, .int (id_wd ((f) (2)) ((f) (3)))), (6, .int (id_wd ((f) (0)) ((f) (1)))), (12, .int (nI 0)), (0, .ref h0), (1, .ref qw), (2, .ref qi), (3, .int (nI 0)), (4, .ref qo), (5, .int (nI 0))]) hx hb dX2_ideaFunc_19 hl (by decide) rfl (fun ls hl => ?_)
  refine lv_aload_n hx hb dX2_ideaFunc_21 rfl (lv_at hl 3 rfl) ?_
  refine lv_aload_n hx hb dX2_ideaFunc_22 rfl (lv_at hl 5 rfl) ?_
  refine lv_iload_n hx hb dX2_ideaFunc_23 rfl (lv_at hl 6 rfl) ?_
  refine lv_iconst (v := nI 4) hx hb dX2_ideaFunc_24 (by decide +kernel) ?_
  refine lv_iadd hx hb dX2_ideaFunc_25 ?_
  refine id_is (y := nI (4)) (id_addn (by omega)) ?_
  refine vp_callSi (W.runV (As := [.ref qi, .int (nI (4))]) (rest := []) ⟨hx, hb, hml, hown, hts⟩ (met_b2w l dC dI h0 qi cI 8 (4) (f) (by omega) (by omega)) (cwV 2 hts (lw_V q94 q96 qs3 q12 q97) rfl rfl rfl (by decide +kernel) ⟨Nat.le_of_ble_eq_true rfl, Nat.le_of_ble_eq_true rfl⟩) ⟨fun a U g mk q => by obtain ⟨q0, qP, qK⟩ := q; exact ⟨q0, qP, va_K.moved (u := U) (U := U.calling g mk a) (Vm.Alike.refl U.vm) qK⟩, va_recv hK hP (ci := 1) (q0 := 0) rfl rfl, fun U hU hW => ⟨rfl, by rw [hU]; exact hP.sub (ws' := [(qi, .inl (cI, 8, .inl (f)))]) [2] rfl, va_K.moved hW.alike (hK.sub (tys' := [(cI, .byte)]) [1] rfl)⟩⟩ rfl rfl hl.1 rfl (lv_room (Nat.le_of_ble_eq_true rfl)) dX2_ideaFunc_26 ⟨Nat.le_of_ble_eq_true rfl, Nat.le_of_ble_eq_true rfl⟩) (fun z ez => ?_)
  refine id_is (y := id_wd ((f) (4)) ((f) (5))) (ez) ?_
  refine lv_istore (lv' := [(8, .int (id_wd ((f) (4)) ((f) (5)))), (7, .int (id_wd ((f) (2)) ((f) (3)))), (6, .int (id_wd ((f) (0)) ((f) (1)))), (12, .int (nI 0)), (0, .ref h0), (1, .ref qw), (2, .ref qi), (3, .int (nI 0)), (4, .ref qo), (5, .int (nI 0))]) hx hb dX2_ideaFunc_29 hl (by decide) rfl (fun ls hl => ?_)
  refine lv_aload_n hx hb dX2_ideaFunc_31 rfl (lv_at hl 4 rfl) ?_
  refine lv_aload_n hx hb dX2_ideaFunc_32 rfl (lv_at hl 6 rfl) ?_
  refine lv_iload_n hx hb dX2_ideaFunc_33 rfl (lv_at hl 7 rfl) ?_
  refine lv_bipush (v := nI 6) hx hb dX2_ideaFunc_34 (by decide +kernel) ?_
  refine lv_iadd hx hb dX2_ideaFunc_36 ?_
  refine id_is (y := nI (6)) (id_addn (by omega)) ?_
  refine vp_callSi (W.runV (As := [.ref qi, .int (nI (6))]) (rest := []) ⟨hx, hb, hml, hown, hts⟩ (met_b2w l dC dI h0 qi cI 8 (6) (f) (by omega) (by omega)) (cwV 2 hts (lw_V q94 q96 qs3 q12 q97) rfl rfl rfl (by decide +kernel) ⟨Nat.le_of_ble_eq_true rfl, Nat.le_of_ble_eq_true rfl⟩) ⟨fun a U g mk q => by obtain ⟨q0, qP, qK⟩ := q; exact ⟨q0, qP, va_K.moved (u := U) (U := U.calling g mk a) (Vm.Alike.refl U.vm) qK⟩, va_recv hK hP (ci := 1) (q0 := 0) rfl rfl, fun U hU hW => ⟨rfl, by rw [hU]; exact hP.sub (ws' := [(qi, .inl (cI, 8, .inl (f)))]) [2] rfl, va_K.moved hW.alike (hK.sub (tys' := [(cI, .byte)]) [1] rfl)⟩⟩ rfl rfl hl.1 rfl (lv_room (Nat.le_of_ble_eq_true rfl)) dX2_ideaFunc_37 ⟨Nat.le_of_ble_eq_true rfl, Nat.le_of_ble_eq_true rfl⟩) (fun z ez => ?_)
  refine id_is (y := id_wd ((f) (6)) ((f) (7))) (ez) ?_
  refine lv_istore (lv' := [(9, .int (id_wd ((f) (6)) ((f) (7)))), (8, .int (id_wd ((f) (4)) ((f) (5)))), (7, .int (id_wd ((f) (2)) ((f) (3)))), (6, .int (id_wd ((f) (0)) ((f) (1)))), (12, .int (nI 0)), (0, .ref h0), (1, .ref qw), (2, .ref qi), (3, .int (nI 0)), (4, .ref qo), (5, .int (nI 0))]) hx hb dX2_ideaFunc_40 hl (by decide) rfl (fun ls hl => ?_)
  refine lv_iconst (v := nI 0) hx hb dX2_ideaFunc_42 (by decide +kernel) ?_
  refine lv_istore (lv' := [(13, .int (nI 0)), (9, .int (id_wd ((f) (6)) ((f) (7)))), (8, .int (id_wd ((f) (4)) ((f) (5)))), (7, .int (id_wd ((f) (2)) ((f) (3)))), (6, .int (id_wd ((f) (0)) ((f) (1)))), (12, .int (nI 0)), (0, .ref h0), (1, .ref qw), (2, .ref qi), (3, .int (nI 0)), (4, .ref qo), (5, .int (nI 0))]) hx hb dX2_ideaFunc_43 hl (by decide) rfl (fun ls hl => ?_)
  have key : ∀ (n r : Nat), r ≤ 8 → 9 ≤ r + n → ∀ (x0 x1 x2 x3 : Int32), id_st w (id_in f) r = (x0, x1, x2, x3) → ∀ ls : Array Slot, lv_has ls 14 [(13, .int (nI r)), (12, .int (nI (6 * r))), (6, .int x0), (7, .int x1), (8, .int x2), (9, .int x3), (0, .ref h0), (1, .ref qw), (4, .ref qo), (5, .int (nI 0))] → W p l e (headSpec (ws_ yX2_ideaFunc cX2_ideaFunc 14 none) { frames := 1, cells := 0, slots := 0, locals := 24 }).room s m ([.ref h0, .ref qw, .ref qi, .int (nI 0), .ref qo, .int (nI 0)] : List Value).toArray below meth c s.heap [] 0 0 (MQ below (va_Qv (fun u : Nat → Int32 => u = id_out w f g) (fun (u : Nat → Int32) (t : State) => va_P (dC, dI) vwCl [(h0, .inr (1, [v0, v1])), (qw, .inl (cW, 52, .inl (w))), (qi, .inl (cI, 8, .inl (f))), (qo, .inl (cO, 8, .inl (u)))] t.heap ∧ va_K (dC, dI) vwCl [(cW, .int), (cI, .byte), (cO, .byte)] t ∧ va_D A [(h0, .inr (1, [v0, v1])), (qw, .inl (cW, 52, .inl (w))), (qi, .inl (cI, 8, .inl (f))), (qo, .inl (cO, 8, .inl (u)))]) A) ([.ref h0, .ref qw, .ref qi, .int (nI 0), .ref qo, .int (nI 0)] : List Value).toArray s 0 0 A) (F0 m 45 ls []) := by
    intro n
    induction n with
    | zero => intro r h1 h2; exact absurd h2 (by omega)
    | succ n ih =>
      intro r hr8 hrn x0 x1 x2 x3 hst ls hl
      refine lv_iload hx hb dX2_ideaFunc_45 (lv_at hl 0 rfl) ?_
      refine lv_bipush (v := nI 8) hx hb dX2_ideaFunc_47 (by decide +kernel) ?_
      refine lv_icmp_ge (tgt := 234) hx hb dX2_ideaFunc_49 (by decide) (fun c49 => ?_) (fun c49 => ?_)
      · have e8 : r = 8 := by have := (nI_leI (by decide) (by omega)).mp c49; omega
        subst e8
        have hl : lv_has ls 14 [(13, .int (nI 8)), (12, .int (nI 48)), (6, .int x0), (7, .int x1), (8, .int x2), (9, .int x3), (0, .ref h0), (1, .ref qw), (4, .ref qo), (5, .int (nI 0))] := hl
        refine lv_aload_n hx hb dX2_ideaFunc_234 rfl (lv_at hl 6 rfl) ?_
        refine lv_aload_n hx hb dX2_ideaFunc_235 rfl (lv_at hl 6 rfl) ?_
        refine lv_iload hx hb dX2_ideaFunc_236 (lv_at hl 2 rfl) ?_
        refine lv_aload_n hx hb dX2_ideaFunc_238 rfl (lv_at hl 7 rfl) ?_
        refine lv_iload hx hb dX2_ideaFunc_239 (lv_at hl 1 rfl) ?_
        refine lv_iinc (v := nI (49)) (lv' := [(12, .int (nI (49))), (13, .int (nI 8)), (6, .int x0), (7, .int x1), (8, .int x2), (9, .int x3), (0, .ref h0), (1, .ref qw), (4, .ref qo), (5, .int (nI 0))]) hx hb dX2_ideaFunc_241 hl (k := 1) rfl (id_inc (by omega)) (by decide) rfl (fun ls hl => ?_)
        refine va_iald hx hb hK hP 1 0 rfl rfl (vp_in_nI (by omega) (by omega)) dX2_ideaFunc_244 ?_
        refine id_is (y := (w) (48)) (by rw [nI_clamp (n := 48) (by omega)]) ?_
        refine vp_callSi (W.runV (As := [.int x0, .int ((w) (48))]) (rest := [.ref h0]) ⟨hx, hb, hml, hown, hts⟩ (met_mul l h0 (x0) ((w) (48))) (cwV 2 hts (lw_V q248 q250 qs8 q12 q251) rfl rfl rfl (by decide +kernel) ⟨Nat.le_of_ble_eq_true rfl, Nat.le_of_ble_eq_true rfl⟩) ⟨fun _ _ _ _ q => q, va_recv hK hP (ci := 1) (q0 := 0) rfl rfl, fun U hU hW => ⟨rfl, trivial⟩⟩ rfl rfl hl.1 rfl (lv_room (Nat.le_of_ble_eq_true rfl)) dX2_ideaFunc_245 ⟨Nat.le_of_ble_eq_true rfl, Nat.le_of_ble_eq_true rfl⟩) (fun z ez => ?_)
        refine id_is (y := id_mul (x0) ((w) (48))) (ez) ?_
        refine lv_aload hx hb dX2_ideaFunc_248 (lv_at hl 8 rfl) ?_
        refine lv_iload hx hb dX2_ideaFunc_250 (lv_at hl 9 rfl) ?_
        have hPc := hP.sub (ws' := [(qo, .inl (cO, 8, .inl (g)))]) [3] rfl
        have hDc := hD.sub (ws' := [(qo, .inl (cO, 8, .inl (g)))]) [3] (by decide) rfl
        have hKc := hK.sub (tys' := [(cO, .byte)]) [2] rfl
        have hFc := va_free (wc := [(qo, .inl (cO, 8, .inl (g)))]) hD hS hA [3] rfl
        refine va_callv (va_runV (As := [.int (id_mul (x0) ((w) (48))), .ref qo, .int (nI 0)]) (rest := []) ⟨hx, hb, hml, hown, hts⟩ (met_w2b l dC dI h0 qo s.heap.size cO 8 0 (g) (id_mul (x0) ((w) (48))) (by omega) (by omega)) (cwV 3 hts (lw_V q252 q254 qs9 q12 q255) rfl rfl rfl (by decide +kernel) ⟨Nat.le_of_ble_eq_true rfl, Nat.le_of_ble_eq_true rfl⟩) ⟨fun a U g mk q => by obtain ⟨q0, q1, qP, qK, qD⟩ := q; exact ⟨q0, q1, qP, va_K.moved (u := U) (U := U.calling g mk a) (Vm.Alike.refl U.vm) qK, qD⟩, va_recv hK hP (ci := 1) (q0 := 0) rfl rfl, fun U hU hW => ⟨rfl, by rw [hU], by rw [hU]; exact hPc, va_K.moved hW.alike hKc, hDc.weaken (fun _ _ _ _ => trivial)⟩⟩ rfl rfl hl.1 rfl (lv_room (Nat.le_of_ble_eq_true rfl)) dX2_ideaFunc_252 ⟨Nat.le_of_ble_eq_true rfl, Nat.le_of_ble_eq_true rfl⟩) hS (fun q _ h => hFc q h) hFc (fun u t H1 locs ht hvm hw hB hz1 hk1 hS => ?_)
        subst hw
        obtain ⟨hP1, hK1, hD1⟩ := hB
        rw [ht] at hP1
        obtain ⟨hP, hD⟩ := va_join (wr := [(h0, .inr (1, [v0, v1])), (qw, .inl (cW, 52, .inl (w))), (qi, .inl (cI, 8, .inl (f)))]) (w1 := [(qo, .inl (cO, 8, .inl (id_wb (g) 0 (id_mul (x0) ((w) (48))))))]) hP hD [3] [0, 1, 2] rfl rfl (by decide) (by decide) hk1 hFc hP1 hD1
        generalize H1 = H at hP hS ⊢
        have hP : va_P (dC, dI) vwCl [(h0, .inr (1, [v0, v1])), (qw, .inl (cW, 52, .inl (w))), (qi, .inl (cI, 8, .inl (f))), (qo, .inl (cO, 8, .inl (id_wb (g) 0 (id_mul (x0) ((w) (48))))))] H := hP
        have hD : va_D A [(h0, .inr (1, [v0, v1])), (qw, .inl (cW, 52, .inl (w))), (qi, .inl (cI, 8, .inl (f))), (qo, .inl (cO, 8, .inl (id_wb (g) 0 (id_mul (x0) ((w) (48))))))] := hD
        refine lv_aload_n hx hb dX2_ideaFunc_255 rfl (lv_at hl 6 rfl) ?_
        refine lv_iload hx hb dX2_ideaFunc_256 (lv_at hl 4 rfl) ?_
        refine lv_aload_n hx hb dX2_ideaFunc_258 rfl (lv_at hl 7 rfl) ?_
        refine lv_iload hx hb dX2_ideaFunc_259 (lv_at hl 0 rfl) ?_
        refine lv_iinc (v := nI (50)) (lv' := [(12, .int (nI (50))), (13, .int (nI 8)), (6, .int x0), (7, .int x1), (8, .int x2), (9, .int x3), (0, .ref h0), (1, .ref qw), (4, .ref qo), (5, .int (nI 0))]) hx hb dX2_ideaFunc_261 hl (k := 0) rfl (id_inc (by omega)) (by decide) rfl (fun ls hl => ?_)
        refine va_iald hx hb hK hP 1 0 rfl rfl (vp_in_nI (by omega) (by omega)) dX2_ideaFunc_264 ?_
        refine id_is (y := (w) (49)) (by rw [nI_clamp (n := 49) (by omega)]) ?_
        refine lv_iadd hx hb dX2_ideaFunc_265 ?_
        refine lv_aload hx hb dX2_ideaFunc_266 (lv_at hl 8 rfl) ?_
        refine lv_iload hx hb dX2_ideaFunc_268 (lv_at hl 9 rfl) ?_
        refine lv_iconst (v := nI 2) hx hb dX2_ideaFunc_270 (by decide +kernel) ?_
        refine lv_iadd hx hb dX2_ideaFunc_271 ?_
        refine id_is (y := nI (2)) (id_addn (by omega)) ?_
        have hPc := hP.sub (ws' := [(qo, .inl (cO, 8, .inl (id_wb (g) 0 (id_mul (x0) ((w) (48))))))]) [3] rfl
        have hDc := hD.sub (ws' := [(qo, .inl (cO, 8, .inl (id_wb (g) 0 (id_mul (x0) ((w) (48))))))]) [3] (by decide) rfl
        have hKc := hK.sub (tys' := [(cO, .byte)]) [2] rfl
        have hFc := va_free (wc := [(qo, .inl (cO, 8, .inl (id_wb (g) 0 (id_mul (x0) ((w) (48))))))]) hD hS hA [3] rfl
        refine va_callv (va_runV (As := [.int ((x2) + ((w) (49))), .ref qo, .int (nI (2))]) (rest := []) ⟨hx, hb, hml, hown, hts⟩ (met_w2b l dC dI h0 qo H.size cO 8 2 (id_wb (g) 0 (id_mul (x0) ((w) (48)))) ((x2) + ((w) (49))) (by omega) (by omega)) (cwV 3 hts (lw_V q252 q254 qs9 q12 q255) rfl rfl rfl (by decide +kernel) ⟨Nat.le_of_ble_eq_true rfl, Nat.le_of_ble_eq_true rfl⟩) ⟨fun a U g mk q => by obtain ⟨q0, q1, qP, qK, qD⟩ := q; exact ⟨q0, q1, qP, va_K.moved (u := U) (U := U.calling g mk a) (Vm.Alike.refl U.vm) qK, qD⟩, va_recv hK hP (ci := 1) (q0 := 0) rfl rfl, fun U hU hW => ⟨rfl, by rw [hU], by rw [hU]; exact hPc, va_K.moved hW.alike hKc, hDc.weaken (fun _ _ _ _ => trivial)⟩⟩ rfl rfl hl.1 rfl (lv_room (Nat.le_of_ble_eq_true rfl)) dX2_ideaFunc_272 ⟨Nat.le_of_ble_eq_true rfl, Nat.le_of_ble_eq_true rfl⟩) hS (fun q _ h => hFc q h) hFc (fun u t H1 locs ht hvm hw hB hz1 hk1 hS => ?_)
        subst hw
        obtain ⟨hP1, hK1, hD1⟩ := hB
        rw [ht] at hP1
        obtain ⟨hP, hD⟩ := va_join (wr := [(h0, .inr (1, [v0, v1])), (qw, .inl (cW, 52, .inl (w))), (qi, .inl (cI, 8, .inl (f)))]) (w1 := [(qo, .inl (cO, 8, .inl (id_wb (id_wb (g) 0 (id_mul (x0) ((w) (48)))) 2 ((x2) + ((w) (49))))))]) hP hD [3] [0, 1, 2] rfl rfl (by decide) (by decide) hk1 hFc hP1 hD1
        generalize H1 = H at hP hS ⊢
        have hP : va_P (dC, dI) vwCl [(h0, .inr (1, [v0, v1])), (qw, .inl (cW, 52, .inl (w))), (qi, .inl (cI, 8, .inl (f))), (qo, .inl (cO, 8, .inl (id_wb (id_wb (g) 0 (id_mul (x0) ((w) (48)))) 2 ((x2) + ((w) (49))))))] H := hP
        have hD : va_D A [(h0, .inr (1, [v0, v1])), (qw, .inl (cW, 52, .inl (w))), (qi, .inl (cI, 8, .inl (f))), (qo, .inl (cO, 8, .inl (id_wb (id_wb (g) 0 (id_mul (x0) ((w) (48)))) 2 ((x2) + ((w) (49))))))] := hD
        refine lv_aload_n hx hb dX2_ideaFunc_275 rfl (lv_at hl 6 rfl) ?_
        refine lv_iload hx hb dX2_ideaFunc_276 (lv_at hl 3 rfl) ?_
        refine lv_aload_n hx hb dX2_ideaFunc_278 rfl (lv_at hl 7 rfl) ?_
        refine lv_iload hx hb dX2_ideaFunc_279 (lv_at hl 0 rfl) ?_
        refine lv_iinc (v := nI (51)) (lv' := [(12, .int (nI (51))), (13, .int (nI 8)), (6, .int x0), (7, .int x1), (8, .int x2), (9, .int x3), (0, .ref h0), (1, .ref qw), (4, .ref qo), (5, .int (nI 0))]) hx hb dX2_ideaFunc_281 hl (k := 0) rfl (id_inc (by omega)) (by decide) rfl (fun ls hl => ?_)
        refine va_iald hx hb hK hP 1 0 rfl rfl (vp_in_nI (by omega) (by omega)) dX2_ideaFunc_284 ?_
        refine id_is (y := (w) (50)) (by rw [nI_clamp (n := 50) (by omega)]) ?_
        refine lv_iadd hx hb dX2_ideaFunc_285 ?_
        refine lv_aload hx hb dX2_ideaFunc_286 (lv_at hl 8 rfl) ?_
        refine lv_iload hx hb dX2_ideaFunc_288 (lv_at hl 9 rfl) ?_
        refine lv_iconst (v := nI 4) hx hb dX2_ideaFunc_290 (by decide +kernel) ?_
        refine lv_iadd hx hb dX2_ideaFunc_291 ?_
        refine id_is (y := nI (4)) (id_addn (by omega)) ?_
        have hPc := hP.sub (ws' := [(qo, .inl (cO, 8, .inl (id_wb (id_wb (g) 0 (id_mul (x0) ((w) (48)))) 2 ((x2) + ((w) (49))))))]) [3] rfl
        have hDc := hD.sub (ws' := [(qo, .inl (cO, 8, .inl (id_wb (id_wb (g) 0 (id_mul (x0) ((w) (48)))) 2 ((x2) + ((w) (49))))))]) [3] (by decide) rfl
        have hKc := hK.sub (tys' := [(cO, .byte)]) [2] rfl
        have hFc := va_free (wc := [(qo, .inl (cO, 8, .inl (id_wb (id_wb (g) 0 (id_mul (x0) ((w) (48)))) 2 ((x2) + ((w) (49))))))]) hD hS hA [3] rfl
        refine va_callv (va_runV (As := [.int ((x1) + ((w) (50))), .ref qo, .int (nI (4))]) (rest := []) ⟨hx, hb, hml, hown, hts⟩ (met_w2b l dC dI h0 qo H.size cO 8 4 (id_wb (id_wb (g) 0 (id_mul (x0) ((w) (48)))) 2 ((x2) + ((w) (49)))) ((x1) + ((w) (50))) (by omega) (by omega)) (cwV 3 hts (lw_V q252 q254 qs9 q12 q255) rfl rfl rfl (by decide +kernel) ⟨Nat.le_of_ble_eq_true rfl, Nat.le_of_ble_eq_true rfl⟩) ⟨fun a U g mk q => by obtain ⟨q0, q1, qP, qK, qD⟩ := q; exact ⟨q0, q1, qP, va_K.moved (u := U) (U := U.calling g mk a) (Vm.Alike.refl U.vm) qK, qD⟩, va_recv hK hP (ci := 1) (q0 := 0) rfl rfl, fun U hU hW => ⟨rfl, by rw [hU], by rw [hU]; exact hPc, va_K.moved hW.alike hKc, hDc.weaken (fun _ _ _ _ => trivial)⟩⟩ rfl rfl hl.1 rfl (lv_room (Nat.le_of_ble_eq_true rfl)) dX2_ideaFunc_292 ⟨Nat.le_of_ble_eq_true rfl, Nat.le_of_ble_eq_true rfl⟩) hS (fun q _ h => hFc q h) hFc (fun u t H1 locs ht hvm hw hB hz1 hk1 hS => ?_)
        subst hw
        obtain ⟨hP1, hK1, hD1⟩ := hB
        rw [ht] at hP1
        obtain ⟨hP, hD⟩ := va_join (wr := [(h0, .inr (1, [v0, v1])), (qw, .inl (cW, 52, .inl (w))), (qi, .inl (cI, 8, .inl (f)))]) (w1 := [(qo, .inl (cO, 8, .inl (id_wb (id_wb (id_wb (g) 0 (id_mul (x0) ((w) (48)))) 2 ((x2) + ((w) (49)))) 4 ((x1) + ((w) (50))))))]) hP hD [3] [0, 1, 2] rfl rfl (by decide) (by decide) hk1 hFc hP1 hD1
        generalize H1 = H at hP hS ⊢
        have hP : va_P (dC, dI) vwCl [(h0, .inr (1, [v0, v1])), (qw, .inl (cW, 52, .inl (w))), (qi, .inl (cI, 8, .inl (f))), (qo, .inl (cO, 8, .inl (id_wb (id_wb (id_wb (g) 0 (id_mul (x0) ((w) (48)))) 2 ((x2) + ((w) (49)))) 4 ((x1) + ((w) (50))))))] H := hP
        have hD : va_D A [(h0, .inr (1, [v0, v1])), (qw, .inl (cW, 52, .inl (w))), (qi, .inl (cI, 8, .inl (f))), (qo, .inl (cO, 8, .inl (id_wb (id_wb (id_wb (g) 0 (id_mul (x0) ((w) (48)))) 2 ((x2) + ((w) (49)))) 4 ((x1) + ((w) (50))))))] := hD
        refine lv_aload_n hx hb dX2_ideaFunc_295 rfl (lv_at hl 6 rfl) ?_
        refine lv_aload_n hx hb dX2_ideaFunc_296 rfl (lv_at hl 6 rfl) ?_
        refine lv_iload hx hb dX2_ideaFunc_297 (lv_at hl 5 rfl) ?_
        refine lv_aload_n hx hb dX2_ideaFunc_299 rfl (lv_at hl 7 rfl) ?_
        refine lv_iload hx hb dX2_ideaFunc_300 (lv_at hl 0 rfl) ?_
        refine va_iald hx hb hK hP 1 0 rfl rfl (vp_in_nI (by omega) (by omega)) dX2_ideaFunc_302 ?_
        refine id_is (y := (w) (51)) (by rw [nI_clamp (n := 51) (by omega)]) ?_
        refine vp_callSi (W.runV (As := [.int x3, .int ((w) (51))]) (rest := [.ref h0]) ⟨hx, hb, hml, hown, hts⟩ (met_mul l h0 (x3) ((w) (51))) (cwV 2 hts (lw_V q248 q250 qs8 q12 q251) rfl rfl rfl (by decide +kernel) ⟨Nat.le_of_ble_eq_true rfl, Nat.le_of_ble_eq_true rfl⟩) ⟨fun _ _ _ _ q => q, va_recv hK hP (ci := 1) (q0 := 0) rfl rfl, fun U hU hW => ⟨rfl, trivial⟩⟩ rfl rfl hl.1 rfl (lv_room (Nat.le_of_ble_eq_true rfl)) dX2_ideaFunc_303 ⟨Nat.le_of_ble_eq_true rfl, Nat.le_of_ble_eq_true rfl⟩) (fun z ez => ?_)
        refine id_is (y := id_mul (x3) ((w) (51))) (ez) ?_
        refine lv_aload hx hb dX2_ideaFunc_306 (lv_at hl 8 rfl) ?_
        refine lv_iload hx hb dX2_ideaFunc_308 (lv_at hl 9 rfl) ?_
        refine lv_bipush (v := nI 6) hx hb dX2_ideaFunc_310 (by decide +kernel) ?_
        refine lv_iadd hx hb dX2_ideaFunc_312 ?_
        refine id_is (y := nI (6)) (id_addn (by omega)) ?_
        have hPc := hP.sub (ws' := [(qo, .inl (cO, 8, .inl (id_wb (id_wb (id_wb (g) 0 (id_mul (x0) ((w) (48)))) 2 ((x2) + ((w) (49)))) 4 ((x1) + ((w) (50))))))]) [3] rfl
        have hDc := hD.sub (ws' := [(qo, .inl (cO, 8, .inl (id_wb (id_wb (id_wb (g) 0 (id_mul (x0) ((w) (48)))) 2 ((x2) + ((w) (49)))) 4 ((x1) + ((w) (50))))))]) [3] (by decide) rfl
        have hKc := hK.sub (tys' := [(cO, .byte)]) [2] rfl
        have hFc := va_free (wc := [(qo, .inl (cO, 8, .inl (id_wb (id_wb (id_wb (g) 0 (id_mul (x0) ((w) (48)))) 2 ((x2) + ((w) (49)))) 4 ((x1) + ((w) (50))))))]) hD hS hA [3] rfl
        refine va_callv (va_runV (As := [.int (id_mul (x3) ((w) (51))), .ref qo, .int (nI (6))]) (rest := []) ⟨hx, hb, hml, hown, hts⟩ (met_w2b l dC dI h0 qo H.size cO 8 6 (id_wb (id_wb (id_wb (g) 0 (id_mul (x0) ((w) (48)))) 2 ((x2) + ((w) (49)))) 4 ((x1) + ((w) (50)))) (id_mul (x3) ((w) (51))) (by omega) (by omega)) (cwV 3 hts (lw_V q252 q254 qs9 q12 q255) rfl rfl rfl (by decide +kernel) ⟨Nat.le_of_ble_eq_true rfl, Nat.le_of_ble_eq_true rfl⟩) ⟨fun a U g mk q => by obtain ⟨q0, q1, qP, qK, qD⟩ := q; exact ⟨q0, q1, qP, va_K.moved (u := U) (U := U.calling g mk a) (Vm.Alike.refl U.vm) qK, qD⟩, va_recv hK hP (ci := 1) (q0 := 0) rfl rfl, fun U hU hW => ⟨rfl, by rw [hU], by rw [hU]; exact hPc, va_K.moved hW.alike hKc, hDc.weaken (fun _ _ _ _ => trivial)⟩⟩ rfl rfl hl.1 rfl (lv_room (Nat.le_of_ble_eq_true rfl)) dX2_ideaFunc_313 ⟨Nat.le_of_ble_eq_true rfl, Nat.le_of_ble_eq_true rfl⟩) hS (fun q _ h => hFc q h) hFc (fun u t H1 locs ht hvm hw hB hz1 hk1 hS => ?_)
        subst hw
        obtain ⟨hP1, hK1, hD1⟩ := hB
        rw [ht] at hP1
        obtain ⟨hP, hD⟩ := va_join (wr := [(h0, .inr (1, [v0, v1])), (qw, .inl (cW, 52, .inl (w))), (qi, .inl (cI, 8, .inl (f)))]) (w1 := [(qo, .inl (cO, 8, .inl (id_wb (id_wb (id_wb (id_wb (g) 0 (id_mul (x0) ((w) (48)))) 2 ((x2) + ((w) (49)))) 4 ((x1) + ((w) (50)))) 6 (id_mul (x3) ((w) (51))))))]) hP hD [3] [0, 1, 2] rfl rfl (by decide) (by decide) hk1 hFc hP1 hD1
        generalize H1 = H at hP hS ⊢
        have hP : va_P (dC, dI) vwCl [(h0, .inr (1, [v0, v1])), (qw, .inl (cW, 52, .inl (w))), (qi, .inl (cI, 8, .inl (f))), (qo, .inl (cO, 8, .inl (id_wb (id_wb (id_wb (id_wb (g) 0 (id_mul (x0) ((w) (48)))) 2 ((x2) + ((w) (49)))) 4 ((x1) + ((w) (50)))) 6 (id_mul (x3) ((w) (51))))))] H := hP
        have hD : va_D A [(h0, .inr (1, [v0, v1])), (qw, .inl (cW, 52, .inl (w))), (qi, .inl (cI, 8, .inl (f))), (qo, .inl (cO, 8, .inl (id_wb (id_wb (id_wb (id_wb (g) 0 (id_mul (x0) ((w) (48)))) 2 ((x2) + ((w) (49)))) 4 ((x1) + ((w) (50)))) 6 (id_mul (x3) ((w) (51))))))] := hD
        have ho9 : id_wb (id_wb (id_wb (id_wb (g) 0 (id_mul (x0) ((w) (48)))) 2 ((x2) + ((w) (49)))) 4 ((x1) + ((w) (50)))) 6 (id_mul (x3) ((w) (51))) = id_out w f g := by unfold id_out; rw [hst]; rfl
        rw [ho9] at hP hD
        have hP9 := hP.sub (ws' := [(h0, .inr (1, [v0, v1])), (qw, .inl (cW, 52, .inl (w))), (qi, .inl (cI, 8, .inl (f))), (qo, .inl (cO, 8, .inl (id_out w f g)))]) [0, 1, 2, 3] rfl
        have hD9 := hD.sub (ws' := [(h0, .inr (1, [v0, v1])), (qw, .inl (cW, 52, .inl (w))), (qi, .inl (cI, 8, .inl (f))), (qo, .inl (cO, 8, .inl (id_out w f g)))]) [0, 1, 2, 3] (by decide) rfl
        have hK9 := hK.sub (tys' := [(cW, .int), (cI, .byte), (cO, .byte)]) [0, 1, 2] rfl
        exact W.vret hx hb hr (fun t ht hW => ⟨⟨(id_out w f g), rfl, rfl, by rw [ht]; exact hP9, va_K.moved hW.alike hK9, hD9⟩, hS.F ht⟩) hS.2.2 dX2_ideaFunc_316
      · have hlt : r + 1 ≤ 8 := by rcases Nat.lt_or_ge r 8 with q | q; exact q; exact absurd (nI_le q (by omega)) c49
        refine lv_aload_n hx hb dX2_ideaFunc_52 rfl (lv_at hl 6 rfl) ?_
        refine lv_iload hx hb dX2_ideaFunc_53 (lv_at hl 2 rfl) ?_
        refine lv_aload_n hx hb dX2_ideaFunc_55 rfl (lv_at hl 7 rfl) ?_
        refine lv_iload hx hb dX2_ideaFunc_56 (lv_at hl 1 rfl) ?_
        refine lv_iinc (v := nI (6 * r + 1)) (lv' := [(12, .int (nI (6 * r + 1))), (13, .int (nI r)), (6, .int x0), (7, .int x1), (8, .int x2), (9, .int x3), (0, .ref h0), (1, .ref qw), (4, .ref qo), (5, .int (nI 0))]) hx hb dX2_ideaFunc_58 hl (k := 1) rfl (id_inc (by omega)) (by decide) rfl (fun ls hl => ?_)
        refine va_iald hx hb hK hP 1 0 rfl rfl (vp_in_nI (by omega) (by omega)) dX2_ideaFunc_61 ?_
        refine id_is (y := (w) (6 * r)) (by rw [nI_clamp (n := 6 * r) (by omega)]) ?_
        refine vp_callSi (W.runV (As := [.int x0, .int ((w) (6 * r))]) (rest := []) ⟨hx, hb, hml, hown, hts⟩ (met_mul l h0 (x0) ((w) (6 * r))) (cwV 2 hts (lw_V q248 q250 qs8 q12 q251) rfl rfl rfl (by decide +kernel) ⟨Nat.le_of_ble_eq_true rfl, Nat.le_of_ble_eq_true rfl⟩) ⟨fun _ _ _ _ q => q, va_recv hK hP (ci := 1) (q0 := 0) rfl rfl, fun U hU hW => ⟨rfl, trivial⟩⟩ rfl rfl hl.1 rfl (lv_room (Nat.le_of_ble_eq_true rfl)) dX2_ideaFunc_62 ⟨Nat.le_of_ble_eq_true rfl, Nat.le_of_ble_eq_true rfl⟩) (fun z ez => ?_)
        refine id_is (y := id_mul (x0) ((w) (6 * r))) (ez) ?_
        refine lv_istore (lv' := [(6, .int (id_mul (x0) ((w) (6 * r)))), (12, .int (nI (6 * r + 1))), (13, .int (nI r)), (7, .int x1), (8, .int x2), (9, .int x3), (0, .ref h0), (1, .ref qw), (4, .ref qo), (5, .int (nI 0))]) hx hb dX2_ideaFunc_65 hl (by decide) rfl (fun ls hl => ?_)
        refine lv_iload hx hb dX2_ideaFunc_67 (lv_at hl 3 rfl) ?_
        refine lv_aload_n hx hb dX2_ideaFunc_69 rfl (lv_at hl 7 rfl) ?_
        refine lv_iload hx hb dX2_ideaFunc_70 (lv_at hl 1 rfl) ?_
        refine lv_iinc (v := nI (6 * r + 2)) (lv' := [(12, .int (nI (6 * r + 2))), (6, .int (id_mul (x0) ((w) (6 * r)))), (13, .int (nI r)), (7, .int x1), (8, .int x2), (9, .int x3), (0, .ref h0), (1, .ref qw), (4, .ref qo), (5, .int (nI 0))]) hx hb dX2_ideaFunc_72 hl (k := 1) rfl (id_inc (by omega)) (by decide) rfl (fun ls hl => ?_)
        refine va_iald hx hb hK hP 1 0 rfl rfl (vp_in_nI (by omega) (by omega)) dX2_ideaFunc_75 ?_
        refine id_is (y := (w) (6 * r + 1)) (by rw [nI_clamp (n := 6 * r + 1) (by omega)]) ?_
        refine lv_iadd hx hb dX2_ideaFunc_76 ?_
        refine lv_istore (lv' := [(7, .int ((x1) + ((w) (6 * r + 1)))), (12, .int (nI (6 * r + 2))), (6, .int (id_mul (x0) ((w) (6 * r)))), (13, .int (nI r)), (8, .int x2), (9, .int x3), (0, .ref h0), (1, .ref qw), (4, .ref qo), (5, .int (nI 0))]) hx hb dX2_ideaFunc_77 hl (by decide) rfl (fun ls hl => ?_)
        refine lv_iload hx hb dX2_ideaFunc_79 (lv_at hl 0 rfl) ?_
        refine lv_ldc (v := 65535) hx hb hown (hts _ q99) dX2_ideaFunc_81 ?_
        refine lv_iand hx hb dX2_ideaFunc_83 ?_
        refine id_is (y := id_m ((x1) + ((w) (6 * r + 1)))) (rfl) ?_
        refine lv_istore (lv' := [(7, .int (id_m ((x1) + ((w) (6 * r + 1))))), (12, .int (nI (6 * r + 2))), (6, .int (id_mul (x0) ((w) (6 * r)))), (13, .int (nI r)), (8, .int x2), (9, .int x3), (0, .ref h0), (1, .ref qw), (4, .ref qo), (5, .int (nI 0))]) hx hb dX2_ideaFunc_84 hl (by decide) rfl (fun ls hl => ?_)
        refine lv_iload hx hb dX2_ideaFunc_86 (lv_at hl 4 rfl) ?_
        refine lv_aload_n hx hb dX2_ideaFunc_88 rfl (lv_at hl 7 rfl) ?_
        refine lv_iload hx hb dX2_ideaFunc_89 (lv_at hl 1 rfl) ?_
        refine lv_iinc (v := nI (6 * r + 3)) (lv' := [(12, .int (nI (6 * r + 3))), (7, .int (id_m ((x1) + ((w) (6 * r + 1))))), (6, .int (id_mul (x0) ((w) (6 * r)))), (13, .int (nI r)), (8, .int x2), (9, .int x3), (0, .ref h0), (1, .ref qw), (4, .ref qo), (5, .int (nI 0))]) hx hb dX2_ideaFunc_91 hl (k := 1) rfl (id_inc (by omega)) (by decide) rfl (fun ls hl => ?_)
        refine va_iald hx hb hK hP 1 0 rfl rfl (vp_in_nI (by omega) (by omega)) dX2_ideaFunc_94 ?_
        refine id_is (y := (w) (6 * r + 2)) (by rw [nI_clamp (n := 6 * r + 2) (by omega)]) ?_
        refine lv_iadd hx hb dX2_ideaFunc_95 ?_
        refine lv_istore (lv' := [(8, .int ((x2) + ((w) (6 * r + 2)))), (12, .int (nI (6 * r + 3))), (7, .int (id_m ((x1) + ((w) (6 * r + 1))))), (6, .int (id_mul (x0) ((w) (6 * r)))), (13, .int (nI r)), (9, .int x3), (0, .ref h0), (1, .ref qw), (4, .ref qo), (5, .int (nI 0))]) hx hb dX2_ideaFunc_96 hl (by decide) rfl (fun ls hl => ?_)
        refine lv_iload hx hb dX2_ideaFunc_98 (lv_at hl 0 rfl) ?_
        refine lv_ldc (v := 65535) hx hb hown (hts _ q99) dX2_ideaFunc_100 ?_
        refine lv_iand hx hb dX2_ideaFunc_102 ?_
        refine id_is (y := id_m ((x2) + ((w) (6 * r + 2)))) (rfl) ?_
        refine lv_istore (lv' := [(8, .int (id_m ((x2) + ((w) (6 * r + 2))))), (12, .int (nI (6 * r + 3))), (7, .int (id_m ((x1) + ((w) (6 * r + 1))))), (6, .int (id_mul (x0) ((w) (6 * r)))), (13, .int (nI r)), (9, .int x3), (0, .ref h0), (1, .ref qw), (4, .ref qo), (5, .int (nI 0))]) hx hb dX2_ideaFunc_103 hl (by decide) rfl (fun ls hl => ?_)
        refine lv_aload_n hx hb dX2_ideaFunc_105 rfl (lv_at hl 6 rfl) ?_
        refine lv_iload hx hb dX2_ideaFunc_106 (lv_at hl 5 rfl) ?_
        refine lv_aload_n hx hb dX2_ideaFunc_108 rfl (lv_at hl 7 rfl) ?_
        refine lv_iload hx hb dX2_ideaFunc_109 (lv_at hl 1 rfl) ?_
        refine lv_iinc (v := nI (6 * r + 4)) (lv' := [(12, .int (nI (6 * r + 4))), (8, .int (id_m ((x2) + ((w) (6 * r + 2))))), (7, .int (id_m ((x1) + ((w) (6 * r + 1))))), (6, .int (id_mul (x0) ((w) (6 * r)))), (13, .int (nI r)), (9, .int x3), (0, .ref h0), (1, .ref qw), (4, .ref qo), (5, .int (nI 0))]) hx hb dX2_ideaFunc_111 hl (k := 1) rfl (id_inc (by omega)) (by decide) rfl (fun ls hl => ?_)
        refine va_iald hx hb hK hP 1 0 rfl rfl (vp_in_nI (by omega) (by omega)) dX2_ideaFunc_114 ?_
        refine id_is (y := (w) (6 * r + 3)) (by rw [nI_clamp (n := 6 * r + 3) (by omega)]) ?_
        refine vp_callSi (W.runV (As := [.int x3, .int ((w) (6 * r + 3))]) (rest := []) ⟨hx, hb, hml, hown, hts⟩ (met_mul l h0 (x3) ((w) (6 * r + 3))) (cwV 2 hts (lw_V q248 q250 qs8 q12 q251) rfl rfl rfl (by decide +kernel) ⟨Nat.le_of_ble_eq_true rfl, Nat.le_of_ble_eq_true rfl⟩) ⟨fun _ _ _ _ q => q, va_recv hK hP (ci := 1) (q0 := 0) rfl rfl, fun U hU hW => ⟨rfl, trivial⟩⟩ rfl rfl hl.1 rfl (lv_room (Nat.le_of_ble_eq_true rfl)) dX2_ideaFunc_115 ⟨Nat.le_of_ble_eq_true rfl, Nat.le_of_ble_eq_true rfl⟩) (fun z ez => ?_)
        refine id_is (y := id_mul (x3) ((w) (6 * r + 3))) (ez) ?_
        refine lv_istore (lv' := [(9, .int (id_mul (x3) ((w) (6 * r + 3)))), (12, .int (nI (6 * r + 4))), (8, .int (id_m ((x2) + ((w) (6 * r + 2))))), (7, .int (id_m ((x1) + ((w) (6 * r + 1))))), (6, .int (id_mul (x0) ((w) (6 * r)))), (13, .int (nI r)), (0, .ref h0), (1, .ref qw), (4, .ref qo), (5, .int (nI 0))]) hx hb dX2_ideaFunc_118 hl (by decide) rfl (fun ls hl => ?_)
        refine lv_iload hx hb dX2_ideaFunc_120 (lv_at hl 3 rfl) ?_
        refine lv_istore (lv' := [(10, .int (id_m ((x1) + ((w) (6 * r + 1))))), (9, .int (id_mul (x3) ((w) (6 * r + 3)))), (12, .int (nI (6 * r + 4))), (8, .int (id_m ((x2) + ((w) (6 * r + 2))))), (7, .int (id_m ((x1) + ((w) (6 * r + 1))))), (6, .int (id_mul (x0) ((w) (6 * r)))), (13, .int (nI r)), (0, .ref h0), (1, .ref qw), (4, .ref qo), (5, .int (nI 0))]) hx hb dX2_ideaFunc_122 hl (by decide) rfl (fun ls hl => ?_)
        refine lv_iload hx hb dX2_ideaFunc_124 (lv_at hl 3 rfl) ?_
        refine lv_istore (lv' := [(11, .int (id_m ((x2) + ((w) (6 * r + 2))))), (10, .int (id_m ((x1) + ((w) (6 * r + 1))))), (9, .int (id_mul (x3) ((w) (6 * r + 3)))), (12, .int (nI (6 * r + 4))), (8, .int (id_m ((x2) + ((w) (6 * r + 2))))), (7, .int (id_m ((x1) + ((w) (6 * r + 1))))), (6, .int (id_mul (x0) ((w) (6 * r)))), (13, .int (nI r)), (0, .ref h0), (1, .ref qw), (4, .ref qo), (5, .int (nI 0))]) hx hb dX2_ideaFunc_126 hl (by decide) rfl (fun ls hl => ?_)
        refine lv_iload hx hb dX2_ideaFunc_128 (lv_at hl 4 rfl) ?_
        refine lv_iload hx hb dX2_ideaFunc_130 (lv_at hl 6 rfl) ?_
        refine lv_ixor hx hb dX2_ideaFunc_132 ?_
        refine lv_istore (lv' := [(8, .int ((id_m ((x2) + ((w) (6 * r + 2)))) ^^^ (id_mul (x0) ((w) (6 * r))))), (11, .int (id_m ((x2) + ((w) (6 * r + 2))))), (10, .int (id_m ((x1) + ((w) (6 * r + 1))))), (9, .int (id_mul (x3) ((w) (6 * r + 3)))), (12, .int (nI (6 * r + 4))), (7, .int (id_m ((x1) + ((w) (6 * r + 1))))), (6, .int (id_mul (x0) ((w) (6 * r)))), (13, .int (nI r)), (0, .ref h0), (1, .ref qw), (4, .ref qo), (5, .int (nI 0))]) hx hb dX2_ideaFunc_133 hl (by decide) rfl (fun ls hl => ?_)
        refine lv_iload hx hb dX2_ideaFunc_135 (lv_at hl 5 rfl) ?_
        refine lv_iload hx hb dX2_ideaFunc_137 (lv_at hl 3 rfl) ?_
        refine lv_ixor hx hb dX2_ideaFunc_139 ?_
        refine lv_istore (lv' := [(7, .int ((id_m ((x1) + ((w) (6 * r + 1)))) ^^^ (id_mul (x3) ((w) (6 * r + 3))))), (8, .int ((id_m ((x2) + ((w) (6 * r + 2)))) ^^^ (id_mul (x0) ((w) (6 * r))))), (11, .int (id_m ((x2) + ((w) (6 * r + 2))))), (10, .int (id_m ((x1) + ((w) (6 * r + 1))))), (9, .int (id_mul (x3) ((w) (6 * r + 3)))), (12, .int (nI (6 * r + 4))), (6, .int (id_mul (x0) ((w) (6 * r)))), (13, .int (nI r)), (0, .ref h0), (1, .ref qw), (4, .ref qo), (5, .int (nI 0))]) hx hb dX2_ideaFunc_140 hl (by decide) rfl (fun ls hl => ?_)
        refine lv_aload_n hx hb dX2_ideaFunc_142 rfl (lv_at hl 8 rfl) ?_
        refine lv_iload hx hb dX2_ideaFunc_143 (lv_at hl 1 rfl) ?_
        refine lv_aload_n hx hb dX2_ideaFunc_145 rfl (lv_at hl 9 rfl) ?_
        refine lv_iload hx hb dX2_ideaFunc_146 (lv_at hl 5 rfl) ?_
        refine lv_iinc (v := nI (6 * r + 5)) (lv' := [(12, .int (nI (6 * r + 5))), (7, .int ((id_m ((x1) + ((w) (6 * r + 1)))) ^^^ (id_mul (x3) ((w) (6 * r + 3))))), (8, .int ((id_m ((x2) + ((w) (6 * r + 2)))) ^^^ (id_mul (x0) ((w) (6 * r))))), (11, .int (id_m ((x2) + ((w) (6 * r + 2))))), (10, .int (id_m ((x1) + ((w) (6 * r + 1))))), (9, .int (id_mul (x3) ((w) (6 * r + 3)))), (6, .int (id_mul (x0) ((w) (6 * r)))), (13, .int (nI r)), (0, .ref h0), (1, .ref qw), (4, .ref qo), (5, .int (nI 0))]) hx hb dX2_ideaFunc_148 hl (k := 5) rfl (id_inc (by omega)) (by decide) rfl (fun ls hl => ?_)
        refine va_iald hx hb hK hP 1 0 rfl rfl (vp_in_nI (by omega) (by omega)) dX2_ideaFunc_151 ?_
        refine id_is (y := (w) (6 * r + 4)) (by rw [nI_clamp (n := 6 * r + 4) (by omega)]) ?_
        refine vp_callSi (W.runV (As := [.int ((id_m ((x2) + ((w) (6 * r + 2)))) ^^^ (id_mul (x0) ((w) (6 * r)))), .int ((w) (6 * r + 4))]) (rest := []) ⟨hx, hb, hml, hown, hts⟩ (met_mul l h0 ((id_m ((x2) + ((w) (6 * r + 2)))) ^^^ (id_mul (x0) ((w) (6 * r)))) ((w) (6 * r + 4))) (cwV 2 hts (lw_V q248 q250 qs8 q12 q251) rfl rfl rfl (by decide +kernel) ⟨Nat.le_of_ble_eq_true rfl, Nat.le_of_ble_eq_true rfl⟩) ⟨fun _ _ _ _ q => q, va_recv hK hP (ci := 1) (q0 := 0) rfl rfl, fun U hU hW => ⟨rfl, trivial⟩⟩ rfl rfl hl.1 rfl (lv_room (Nat.le_of_ble_eq_true rfl)) dX2_ideaFunc_152 ⟨Nat.le_of_ble_eq_true rfl, Nat.le_of_ble_eq_true rfl⟩) (fun z ez => ?_)
        refine id_is (y := id_mul ((id_m ((x2) + ((w) (6 * r + 2)))) ^^^ (id_mul (x0) ((w) (6 * r)))) ((w) (6 * r + 4))) (ez) ?_
        refine lv_istore (lv' := [(8, .int (id_mul ((id_m ((x2) + ((w) (6 * r + 2)))) ^^^ (id_mul (x0) ((w) (6 * r)))) ((w) (6 * r + 4)))), (12, .int (nI (6 * r + 5))), (7, .int ((id_m ((x1) + ((w) (6 * r + 1)))) ^^^ (id_mul (x3) ((w) (6 * r + 3))))), (11, .int (id_m ((x2) + ((w) (6 * r + 2))))), (10, .int (id_m ((x1) + ((w) (6 * r + 1))))), (9, .int (id_mul (x3) ((w) (6 * r + 3)))), (6, .int (id_mul (x0) ((w) (6 * r)))), (13, .int (nI r)), (0, .ref h0), (1, .ref qw), (4, .ref qo), (5, .int (nI 0))]) hx hb dX2_ideaFunc_155 hl (by decide) rfl (fun ls hl => ?_)
        refine lv_iload hx hb dX2_ideaFunc_157 (lv_at hl 2 rfl) ?_
        refine lv_iload hx hb dX2_ideaFunc_159 (lv_at hl 0 rfl) ?_
        refine lv_iadd hx hb dX2_ideaFunc_161 ?_
        refine lv_istore (lv' := [(7, .int (((id_m ((x1) + ((w) (6 * r + 1)))) ^^^ (id_mul (x3) ((w) (6 * r + 3)))) + (id_mul ((id_m ((x2) + ((w) (6 * r + 2)))) ^^^ (id_mul (x0) ((w) (6 * r)))) ((w) (6 * r + 4))))), (8, .int (id_mul ((id_m ((x2) + ((w) (6 * r + 2)))) ^^^ (id_mul (x0) ((w) (6 * r)))) ((w) (6 * r + 4)))), (12, .int (nI (6 * r + 5))), (11, .int (id_m ((x2) + ((w) (6 * r + 2))))), (10, .int (id_m ((x1) + ((w) (6 * r + 1))))), (9, .int (id_mul (x3) ((w) (6 * r + 3)))), (6, .int (id_mul (x0) ((w) (6 * r)))), (13, .int (nI r)), (0, .ref h0), (1, .ref qw), (4, .ref qo), (5, .int (nI 0))]) hx hb dX2_ideaFunc_162 hl (by decide) rfl (fun ls hl => ?_)
        refine lv_iload hx hb dX2_ideaFunc_164 (lv_at hl 0 rfl) ?_
        refine lv_ldc (v := 65535) hx hb hown (hts _ q99) dX2_ideaFunc_166 ?_
        refine lv_iand hx hb dX2_ideaFunc_168 ?_
        refine id_is (y := id_m (((id_m ((x1) + ((w) (6 * r + 1)))) ^^^ (id_mul (x3) ((w) (6 * r + 3)))) + (id_mul ((id_m ((x2) + ((w) (6 * r + 2)))) ^^^ (id_mul (x0) ((w) (6 * r)))) ((w) (6 * r + 4))))) (rfl) ?_
        refine lv_istore (lv' := [(7, .int (id_m (((id_m ((x1) + ((w) (6 * r + 1)))) ^^^ (id_mul (x3) ((w) (6 * r + 3)))) + (id_mul ((id_m ((x2) + ((w) (6 * r + 2)))) ^^^ (id_mul (x0) ((w) (6 * r)))) ((w) (6 * r + 4)))))), (8, .int (id_mul ((id_m ((x2) + ((w) (6 * r + 2)))) ^^^ (id_mul (x0) ((w) (6 * r)))) ((w) (6 * r + 4)))), (12, .int (nI (6 * r + 5))), (11, .int (id_m ((x2) + ((w) (6 * r + 2))))), (10, .int (id_m ((x1) + ((w) (6 * r + 1))))), (9, .int (id_mul (x3) ((w) (6 * r + 3)))), (6, .int (id_mul (x0) ((w) (6 * r)))), (13, .int (nI r)), (0, .ref h0), (1, .ref qw), (4, .ref qo), (5, .int (nI 0))]) hx hb dX2_ideaFunc_169 hl (by decide) rfl (fun ls hl => ?_)
        refine lv_aload_n hx hb dX2_ideaFunc_171 rfl (lv_at hl 8 rfl) ?_
        refine lv_iload hx hb dX2_ideaFunc_172 (lv_at hl 0 rfl) ?_
        refine lv_aload_n hx hb dX2_ideaFunc_174 rfl (lv_at hl 9 rfl) ?_
        refine lv_iload hx hb dX2_ideaFunc_175 (lv_at hl 2 rfl) ?_
        refine lv_iinc (v := nI (6 * r + 6)) (lv' := [(12, .int (nI (6 * r + 6))), (7, .int (id_m (((id_m ((x1) + ((w) (6 * r + 1)))) ^^^ (id_mul (x3) ((w) (6 * r + 3)))) + (id_mul ((id_m ((x2) + ((w) (6 * r + 2)))) ^^^ (id_mul (x0) ((w) (6 * r)))) ((w) (6 * r + 4)))))), (8, .int (id_mul ((id_m ((x2) + ((w) (6 * r + 2)))) ^^^ (id_mul (x0) ((w) (6 * r)))) ((w) (6 * r + 4)))), (11, .int (id_m ((x2) + ((w) (6 * r + 2))))), (10, .int (id_m ((x1) + ((w) (6 * r + 1))))), (9, .int (id_mul (x3) ((w) (6 * r + 3)))), (6, .int (id_mul (x0) ((w) (6 * r)))), (13, .int (nI r)), (0, .ref h0), (1, .ref qw), (4, .ref qo), (5, .int (nI 0))]) hx hb dX2_ideaFunc_177 hl (k := 2) rfl (id_inc (by omega)) (by decide) rfl (fun ls hl => ?_)
        refine va_iald hx hb hK hP 1 0 rfl rfl (vp_in_nI (by omega) (by omega)) dX2_ideaFunc_180 ?_
        refine id_is (y := (w) (6 * r + 5)) (by rw [nI_clamp (n := 6 * r + 5) (by omega)]) ?_
        refine vp_callSi (W.runV (As := [.int (id_m (((id_m ((x1) + ((w) (6 * r + 1)))) ^^^ (id_mul (x3) ((w) (6 * r + 3)))) + (id_mul ((id_m ((x2) + ((w) (6 * r + 2)))) ^^^ (id_mul (x0) ((w) (6 * r)))) ((w) (6 * r + 4))))), .int ((w) (6 * r + 5))]) (rest := []) ⟨hx, hb, hml, hown, hts⟩ (met_mul l h0 (id_m (((id_m ((x1) + ((w) (6 * r + 1)))) ^^^ (id_mul (x3) ((w) (6 * r + 3)))) + (id_mul ((id_m ((x2) + ((w) (6 * r + 2)))) ^^^ (id_mul (x0) ((w) (6 * r)))) ((w) (6 * r + 4))))) ((w) (6 * r + 5))) (cwV 2 hts (lw_V q248 q250 qs8 q12 q251) rfl rfl rfl (by decide +kernel) ⟨Nat.le_of_ble_eq_true rfl, Nat.le_of_ble_eq_true rfl⟩) ⟨fun _ _ _ _ q => q, va_recv hK hP (ci := 1) (q0 := 0) rfl rfl, fun U hU hW => ⟨rfl, trivial⟩⟩ rfl rfl hl.1 rfl (lv_room (Nat.le_of_ble_eq_true rfl)) dX2_ideaFunc_181 ⟨Nat.le_of_ble_eq_true rfl, Nat.le_of_ble_eq_true rfl⟩) (fun z ez => ?_)
        refine id_is (y := id_mul (id_m (((id_m ((x1) + ((w) (6 * r + 1)))) ^^^ (id_mul (x3) ((w) (6 * r + 3)))) + (id_mul ((id_m ((x2) + ((w) (6 * r + 2)))) ^^^ (id_mul (x0) ((w) (6 * r)))) ((w) (6 * r + 4))))) ((w) (6 * r + 5))) (ez) ?_
        refine lv_istore (lv' := [(7, .int (id_mul (id_m (((id_m ((x1) + ((w) (6 * r + 1)))) ^^^ (id_mul (x3) ((w) (6 * r + 3)))) + (id_mul ((id_m ((x2) + ((w) (6 * r + 2)))) ^^^ (id_mul (x0) ((w) (6 * r)))) ((w) (6 * r + 4))))) ((w) (6 * r + 5)))), (12, .int (nI (6 * r + 6))), (8, .int (id_mul ((id_m ((x2) + ((w) (6 * r + 2)))) ^^^ (id_mul (x0) ((w) (6 * r)))) ((w) (6 * r + 4)))), (11, .int (id_m ((x2) + ((w) (6 * r + 2))))), (10, .int (id_m ((x1) + ((w) (6 * r + 1))))), (9, .int (id_mul (x3) ((w) (6 * r + 3)))), (6, .int (id_mul (x0) ((w) (6 * r)))), (13, .int (nI r)), (0, .ref h0), (1, .ref qw), (4, .ref qo), (5, .int (nI 0))]) hx hb dX2_ideaFunc_184 hl (by decide) rfl (fun ls hl => ?_)
        refine lv_iload hx hb dX2_ideaFunc_186 (lv_at hl 2 rfl) ?_
        refine lv_iload hx hb dX2_ideaFunc_188 (lv_at hl 0 rfl) ?_
        refine lv_iadd hx hb dX2_ideaFunc_190 ?_
        refine lv_istore (lv' := [(8, .int ((id_mul ((id_m ((x2) + ((w) (6 * r + 2)))) ^^^ (id_mul (x0) ((w) (6 * r)))) ((w) (6 * r + 4))) + (id_mul (id_m (((id_m ((x1) + ((w) (6 * r + 1)))) ^^^ (id_mul (x3) ((w) (6 * r + 3)))) + (id_mul ((id_m ((x2) + ((w) (6 * r + 2)))) ^^^ (id_mul (x0) ((w) (6 * r)))) ((w) (6 * r + 4))))) ((w) (6 * r + 5))))), (7, .int (id_mul (id_m (((id_m ((x1) + ((w) (6 * r + 1)))) ^^^ (id_mul (x3) ((w) (6 * r + 3)))) + (id_mul ((id_m ((x2) + ((w) (6 * r + 2)))) ^^^ (id_mul (x0) ((w) (6 * r)))) ((w) (6 * r + 4))))) ((w) (6 * r + 5)))), (12, .int (nI (6 * r + 6))), (11, .int (id_m ((x2) + ((w) (6 * r + 2))))), (10, .int (id_m ((x1) + ((w) (6 * r + 1))))), (9, .int (id_mul (x3) ((w) (6 * r + 3)))), (6, .int (id_mul (x0) ((w) (6 * r)))), (13, .int (nI r)), (0, .ref h0), (1, .ref qw), (4, .ref qo), (5, .int (nI 0))]) hx hb dX2_ideaFunc_191 hl (by decide) rfl (fun ls hl => ?_)
        refine lv_iload hx hb dX2_ideaFunc_193 (lv_at hl 0 rfl) ?_
        refine lv_ldc (v := 65535) hx hb hown (hts _ q99) dX2_ideaFunc_195 ?_
        refine lv_iand hx hb dX2_ideaFunc_197 ?_
        refine id_is (y := id_m ((id_mul ((id_m ((x2) + ((w) (6 * r + 2)))) ^^^ (id_mul (x0) ((w) (6 * r)))) ((w) (6 * r + 4))) + (id_mul (id_m (((id_m ((x1) + ((w) (6 * r + 1)))) ^^^ (id_mul (x3) ((w) (6 * r + 3)))) + (id_mul ((id_m ((x2) + ((w) (6 * r + 2)))) ^^^ (id_mul (x0) ((w) (6 * r)))) ((w) (6 * r + 4))))) ((w) (6 * r + 5))))) (rfl) ?_
        refine lv_istore (lv' := [(8, .int (id_m ((id_mul ((id_m ((x2) + ((w) (6 * r + 2)))) ^^^ (id_mul (x0) ((w) (6 * r)))) ((w) (6 * r + 4))) + (id_mul (id_m (((id_m ((x1) + ((w) (6 * r + 1)))) ^^^ (id_mul (x3) ((w) (6 * r + 3)))) + (id_mul ((id_m ((x2) + ((w) (6 * r + 2)))) ^^^ (id_mul (x0) ((w) (6 * r)))) ((w) (6 * r + 4))))) ((w) (6 * r + 5)))))), (7, .int (id_mul (id_m (((id_m ((x1) + ((w) (6 * r + 1)))) ^^^ (id_mul (x3) ((w) (6 * r + 3)))) + (id_mul ((id_m ((x2) + ((w) (6 * r + 2)))) ^^^ (id_mul (x0) ((w) (6 * r)))) ((w) (6 * r + 4))))) ((w) (6 * r + 5)))), (12, .int (nI (6 * r + 6))), (11, .int (id_m ((x2) + ((w) (6 * r + 2))))), (10, .int (id_m ((x1) + ((w) (6 * r + 1))))), (9, .int (id_mul (x3) ((w) (6 * r + 3)))), (6, .int (id_mul (x0) ((w) (6 * r)))), (13, .int (nI r)), (0, .ref h0), (1, .ref qw), (4, .ref qo), (5, .int (nI 0))]) hx hb dX2_ideaFunc_198 hl (by decide) rfl (fun ls hl => ?_)
        refine lv_iload hx hb dX2_ideaFunc_200 (lv_at hl 6 rfl) ?_
        refine lv_iload hx hb dX2_ideaFunc_202 (lv_at hl 1 rfl) ?_
        refine lv_ixor hx hb dX2_ideaFunc_204 ?_
        refine lv_istore (lv' := [(6, .int ((id_mul (x0) ((w) (6 * r))) ^^^ (id_mul (id_m (((id_m ((x1) + ((w) (6 * r + 1)))) ^^^ (id_mul (x3) ((w) (6 * r + 3)))) + (id_mul ((id_m ((x2) + ((w) (6 * r + 2)))) ^^^ (id_mul (x0) ((w) (6 * r)))) ((w) (6 * r + 4))))) ((w) (6 * r + 5))))), (8, .int (id_m ((id_mul ((id_m ((x2) + ((w) (6 * r + 2)))) ^^^ (id_mul (x0) ((w) (6 * r)))) ((w) (6 * r + 4))) + (id_mul (id_m (((id_m ((x1) + ((w) (6 * r + 1)))) ^^^ (id_mul (x3) ((w) (6 * r + 3)))) + (id_mul ((id_m ((x2) + ((w) (6 * r + 2)))) ^^^ (id_mul (x0) ((w) (6 * r)))) ((w) (6 * r + 4))))) ((w) (6 * r + 5)))))), (7, .int (id_mul (id_m (((id_m ((x1) + ((w) (6 * r + 1)))) ^^^ (id_mul (x3) ((w) (6 * r + 3)))) + (id_mul ((id_m ((x2) + ((w) (6 * r + 2)))) ^^^ (id_mul (x0) ((w) (6 * r)))) ((w) (6 * r + 4))))) ((w) (6 * r + 5)))), (12, .int (nI (6 * r + 6))), (11, .int (id_m ((x2) + ((w) (6 * r + 2))))), (10, .int (id_m ((x1) + ((w) (6 * r + 1))))), (9, .int (id_mul (x3) ((w) (6 * r + 3)))), (13, .int (nI r)), (0, .ref h0), (1, .ref qw), (4, .ref qo), (5, .int (nI 0))]) hx hb dX2_ideaFunc_205 hl (by decide) rfl (fun ls hl => ?_)
        refine lv_iload hx hb dX2_ideaFunc_207 (lv_at hl 6 rfl) ?_
        refine lv_iload hx hb dX2_ideaFunc_209 (lv_at hl 1 rfl) ?_
        refine lv_ixor hx hb dX2_ideaFunc_211 ?_
        refine lv_istore (lv' := [(9, .int ((id_mul (x3) ((w) (6 * r + 3))) ^^^ (id_m ((id_mul ((id_m ((x2) + ((w) (6 * r + 2)))) ^^^ (id_mul (x0) ((w) (6 * r)))) ((w) (6 * r + 4))) + (id_mul (id_m (((id_m ((x1) + ((w) (6 * r + 1)))) ^^^ (id_mul (x3) ((w) (6 * r + 3)))) + (id_mul ((id_m ((x2) + ((w) (6 * r + 2)))) ^^^ (id_mul (x0) ((w) (6 * r)))) ((w) (6 * r + 4))))) ((w) (6 * r + 5))))))), (6, .int ((id_mul (x0) ((w) (6 * r))) ^^^ (id_mul (id_m (((id_m ((x1) + ((w) (6 * r + 1)))) ^^^ (id_mul (x3) ((w) (6 * r + 3)))) + (id_mul ((id_m ((x2) + ((w) (6 * r + 2)))) ^^^ (id_mul (x0) ((w) (6 * r)))) ((w) (6 * r + 4))))) ((w) (6 * r + 5))))), (8, .int (id_m ((id_mul ((id_m ((x2) + ((w) (6 * r + 2)))) ^^^ (id_mul (x0) ((w) (6 * r)))) ((w) (6 * r + 4))) + (id_mul (id_m (((id_m ((x1) + ((w) (6 * r + 1)))) ^^^ (id_mul (x3) ((w) (6 * r + 3)))) + (id_mul ((id_m ((x2) + ((w) (6 * r + 2)))) ^^^ (id_mul (x0) ((w) (6 * r)))) ((w) (6 * r + 4))))) ((w) (6 * r + 5)))))), (7, .int (id_mul (id_m (((id_m ((x1) + ((w) (6 * r + 1)))) ^^^ (id_mul (x3) ((w) (6 * r + 3)))) + (id_mul ((id_m ((x2) + ((w) (6 * r + 2)))) ^^^ (id_mul (x0) ((w) (6 * r)))) ((w) (6 * r + 4))))) ((w) (6 * r + 5)))), (12, .int (nI (6 * r + 6))), (11, .int (id_m ((x2) + ((w) (6 * r + 2))))), (10, .int (id_m ((x1) + ((w) (6 * r + 1))))), (13, .int (nI r)), (0, .ref h0), (1, .ref qw), (4, .ref qo), (5, .int (nI 0))]) hx hb dX2_ideaFunc_212 hl (by decide) rfl (fun ls hl => ?_)
        refine lv_iload hx hb dX2_ideaFunc_214 (lv_at hl 3 rfl) ?_
        refine lv_iload hx hb dX2_ideaFunc_216 (lv_at hl 5 rfl) ?_
        refine lv_ixor hx hb dX2_ideaFunc_218 ?_
        refine lv_istore (lv' := [(7, .int ((id_mul (id_m (((id_m ((x1) + ((w) (6 * r + 1)))) ^^^ (id_mul (x3) ((w) (6 * r + 3)))) + (id_mul ((id_m ((x2) + ((w) (6 * r + 2)))) ^^^ (id_mul (x0) ((w) (6 * r)))) ((w) (6 * r + 4))))) ((w) (6 * r + 5))) ^^^ (id_m ((x2) + ((w) (6 * r + 2)))))), (9, .int ((id_mul (x3) ((w) (6 * r + 3))) ^^^ (id_m ((id_mul ((id_m ((x2) + ((w) (6 * r + 2)))) ^^^ (id_mul (x0) ((w) (6 * r)))) ((w) (6 * r + 4))) + (id_mul (id_m (((id_m ((x1) + ((w) (6 * r + 1)))) ^^^ (id_mul (x3) ((w) (6 * r + 3)))) + (id_mul ((id_m ((x2) + ((w) (6 * r + 2)))) ^^^ (id_mul (x0) ((w) (6 * r)))) ((w) (6 * r + 4))))) ((w) (6 * r + 5))))))), (6, .int ((id_mul (x0) ((w) (6 * r))) ^^^ (id_mul (id_m (((id_m ((x1) + ((w) (6 * r + 1)))) ^^^ (id_mul (x3) ((w) (6 * r + 3)))) + (id_mul ((id_m ((x2) + ((w) (6 * r + 2)))) ^^^ (id_mul (x0) ((w) (6 * r)))) ((w) (6 * r + 4))))) ((w) (6 * r + 5))))), (8, .int (id_m ((id_mul ((id_m ((x2) + ((w) (6 * r + 2)))) ^^^ (id_mul (x0) ((w) (6 * r)))) ((w) (6 * r + 4))) + (id_mul (id_m (((id_m ((x1) + ((w) (6 * r + 1)))) ^^^ (id_mul (x3) ((w) (6 * r + 3)))) + (id_mul ((id_m ((x2) + ((w) (6 * r + 2)))) ^^^ (id_mul (x0) ((w) (6 * r)))) ((w) (6 * r + 4))))) ((w) (6 * r + 5)))))), (12, .int (nI (6 * r + 6))), (11, .int (id_m ((x2) + ((w) (6 * r + 2))))), (10, .int (id_m ((x1) + ((w) (6 * r + 1))))), (13, .int (nI r)), (0, .ref h0), (1, .ref qw), (4, .ref qo), (5, .int (nI 0))]) hx hb dX2_ideaFunc_219 hl (by decide) rfl (fun ls hl => ?_)
        refine lv_iload hx hb dX2_ideaFunc_221 (lv_at hl 3 rfl) ?_
        refine lv_iload hx hb dX2_ideaFunc_223 (lv_at hl 6 rfl) ?_
        refine lv_ixor hx hb dX2_ideaFunc_225 ?_
        refine lv_istore (lv' := [(8, .int ((id_m ((id_mul ((id_m ((x2) + ((w) (6 * r + 2)))) ^^^ (id_mul (x0) ((w) (6 * r)))) ((w) (6 * r + 4))) + (id_mul (id_m (((id_m ((x1) + ((w) (6 * r + 1)))) ^^^ (id_mul (x3) ((w) (6 * r + 3)))) + (id_mul ((id_m ((x2) + ((w) (6 * r + 2)))) ^^^ (id_mul (x0) ((w) (6 * r)))) ((w) (6 * r + 4))))) ((w) (6 * r + 5))))) ^^^ (id_m ((x1) + ((w) (6 * r + 1)))))), (7, .int ((id_mul (id_m (((id_m ((x1) + ((w) (6 * r + 1)))) ^^^ (id_mul (x3) ((w) (6 * r + 3)))) + (id_mul ((id_m ((x2) + ((w) (6 * r + 2)))) ^^^ (id_mul (x0) ((w) (6 * r)))) ((w) (6 * r + 4))))) ((w) (6 * r + 5))) ^^^ (id_m ((x2) + ((w) (6 * r + 2)))))), (9, .int ((id_mul (x3) ((w) (6 * r + 3))) ^^^ (id_m ((id_mul ((id_m ((x2) + ((w) (6 * r + 2)))) ^^^ (id_mul (x0) ((w) (6 * r)))) ((w) (6 * r + 4))) + (id_mul (id_m (((id_m ((x1) + ((w) (6 * r + 1)))) ^^^ (id_mul (x3) ((w) (6 * r + 3)))) + (id_mul ((id_m ((x2) + ((w) (6 * r + 2)))) ^^^ (id_mul (x0) ((w) (6 * r)))) ((w) (6 * r + 4))))) ((w) (6 * r + 5))))))), (6, .int ((id_mul (x0) ((w) (6 * r))) ^^^ (id_mul (id_m (((id_m ((x1) + ((w) (6 * r + 1)))) ^^^ (id_mul (x3) ((w) (6 * r + 3)))) + (id_mul ((id_m ((x2) + ((w) (6 * r + 2)))) ^^^ (id_mul (x0) ((w) (6 * r)))) ((w) (6 * r + 4))))) ((w) (6 * r + 5))))), (12, .int (nI (6 * r + 6))), (11, .int (id_m ((x2) + ((w) (6 * r + 2))))), (10, .int (id_m ((x1) + ((w) (6 * r + 1))))), (13, .int (nI r)), (0, .ref h0), (1, .ref qw), (4, .ref qo), (5, .int (nI 0))]) hx hb dX2_ideaFunc_226 hl (by decide) rfl (fun ls hl => ?_)
        refine lv_iinc (v := nI (r + 1)) (lv' := [(13, .int (nI (r + 1))), (8, .int ((id_m ((id_mul ((id_m ((x2) + ((w) (6 * r + 2)))) ^^^ (id_mul (x0) ((w) (6 * r)))) ((w) (6 * r + 4))) + (id_mul (id_m (((id_m ((x1) + ((w) (6 * r + 1)))) ^^^ (id_mul (x3) ((w) (6 * r + 3)))) + (id_mul ((id_m ((x2) + ((w) (6 * r + 2)))) ^^^ (id_mul (x0) ((w) (6 * r)))) ((w) (6 * r + 4))))) ((w) (6 * r + 5))))) ^^^ (id_m ((x1) + ((w) (6 * r + 1)))))), (7, .int ((id_mul (id_m (((id_m ((x1) + ((w) (6 * r + 1)))) ^^^ (id_mul (x3) ((w) (6 * r + 3)))) + (id_mul ((id_m ((x2) + ((w) (6 * r + 2)))) ^^^ (id_mul (x0) ((w) (6 * r)))) ((w) (6 * r + 4))))) ((w) (6 * r + 5))) ^^^ (id_m ((x2) + ((w) (6 * r + 2)))))), (9, .int ((id_mul (x3) ((w) (6 * r + 3))) ^^^ (id_m ((id_mul ((id_m ((x2) + ((w) (6 * r + 2)))) ^^^ (id_mul (x0) ((w) (6 * r)))) ((w) (6 * r + 4))) + (id_mul (id_m (((id_m ((x1) + ((w) (6 * r + 1)))) ^^^ (id_mul (x3) ((w) (6 * r + 3)))) + (id_mul ((id_m ((x2) + ((w) (6 * r + 2)))) ^^^ (id_mul (x0) ((w) (6 * r)))) ((w) (6 * r + 4))))) ((w) (6 * r + 5))))))), (6, .int ((id_mul (x0) ((w) (6 * r))) ^^^ (id_mul (id_m (((id_m ((x1) + ((w) (6 * r + 1)))) ^^^ (id_mul (x3) ((w) (6 * r + 3)))) + (id_mul ((id_m ((x2) + ((w) (6 * r + 2)))) ^^^ (id_mul (x0) ((w) (6 * r)))) ((w) (6 * r + 4))))) ((w) (6 * r + 5))))), (12, .int (nI (6 * r + 6))), (11, .int (id_m ((x2) + ((w) (6 * r + 2))))), (10, .int (id_m ((x1) + ((w) (6 * r + 1))))), (0, .ref h0), (1, .ref qw), (4, .ref qo), (5, .int (nI 0))]) hx hb dX2_ideaFunc_228 hl (k := 7) rfl (id_inc (by omega)) (by decide) rfl (fun ls hl => ?_)
        refine lv_goto (tgt := 45) hx hb dX2_ideaFunc_231 (by decide) ?_
        exact ih (r + 1) hlt (by omega) ((id_mul (x0) ((w) (6 * r))) ^^^ (id_mul (id_m (((id_m ((x1) + ((w) (6 * r + 1)))) ^^^ (id_mul (x3) ((w) (6 * r + 3)))) + (id_mul ((id_m ((x2) + ((w) (6 * r + 2)))) ^^^ (id_mul (x0) ((w) (6 * r)))) ((w) (6 * r + 4))))) ((w) (6 * r + 5)))) ((id_mul (id_m (((id_m ((x1) + ((w) (6 * r + 1)))) ^^^ (id_mul (x3) ((w) (6 * r + 3)))) + (id_mul ((id_m ((x2) + ((w) (6 * r + 2)))) ^^^ (id_mul (x0) ((w) (6 * r)))) ((w) (6 * r + 4))))) ((w) (6 * r + 5))) ^^^ (id_m ((x2) + ((w) (6 * r + 2))))) ((id_m ((id_mul ((id_m ((x2) + ((w) (6 * r + 2)))) ^^^ (id_mul (x0) ((w) (6 * r)))) ((w) (6 * r + 4))) + (id_mul (id_m (((id_m ((x1) + ((w) (6 * r + 1)))) ^^^ (id_mul (x3) ((w) (6 * r + 3)))) + (id_mul ((id_m ((x2) + ((w) (6 * r + 2)))) ^^^ (id_mul (x0) ((w) (6 * r)))) ((w) (6 * r + 4))))) ((w) (6 * r + 5))))) ^^^ (id_m ((x1) + ((w) (6 * r + 1))))) ((id_mul (x3) ((w) (6 * r + 3))) ^^^ (id_m ((id_mul ((id_m ((x2) + ((w) (6 * r + 2)))) ^^^ (id_mul (x0) ((w) (6 * r)))) ((w) (6 * r + 4))) + (id_mul (id_m (((id_m ((x1) + ((w) (6 * r + 1)))) ^^^ (id_mul (x3) ((w) (6 * r + 3)))) + (id_mul ((id_m ((x2) + ((w) (6 * r + 2)))) ^^^ (id_mul (x0) ((w) (6 * r)))) ((w) (6 * r + 4))))) ((w) (6 * r + 5)))))) (by show id_rd _ _ _ _ _ _ (id_st w (id_in f) r) = _; rw [hst]; rfl) ls (lv_sub hl [0, 5, 4, 2, 1, 3, 8, 9, 10, 11] rfl)
  exact key 9 0 (by decide) (by decide) (id_wd ((f) (0)) ((f) (1))) (id_wd ((f) (2)) ((f) (3))) (id_wd ((f) (4)) ((f) (5))) (id_wd ((f) (6)) ((f) (7))) rfl ls (lv_sub hl [0, 5, 4, 3, 2, 1, 6, 7, 10, 11] rfl)
end
section
/-! the engine: the expanded table -/
set_option maxRecDepth 100000
set_option maxHeartbeats 4000000 in
set_option maxRecDepth 100000 in
/-- expandKey(uKey): a new table -/
theorem met_expandKey (l : Launch) (dC : Nat → ClassId) (dI : Nat → Nat → Nat) (h0 qu sz : Nat) (cU : ClassId) (v0 v1 : Value) (f : Nat → Int32) : Met l yX2_expandKey (ws_ yX2_expandKey cX2_expandKey 4 (some (.array .int))) ({ frames := 1, cells := 1, slots := 52, locals := 22 }) (va_Pc [.ref h0, .ref qu] (fun U => U.heap.size = sz ∧ va_P (dC, dI) vwCl [(h0, .inr (1, [v0, v1])), (qu, .inl (cU, 16, .inl (f)))] U.heap ∧ va_K (dC, dI) vwCl [(cU, .byte)] U ∧ va_D (fun _ => True) [(h0, .inr (1, [v0, v1])), (qu, .inl (cU, 16, .inl (f)))])) (va_Qr (fun u : Nat → Int32 => ∀ k, k < 52 → u k = id_ek f k) (fun (u : Nat → Int32) (ra : Nat) (t : State) => ∃ cN : ClassId, va_P (dC, dI) vwCl [(h0, .inr (1, [v0, v1])), (qu, .inl (cU, 16, .inl (f))), (ra, .inl (cN, 52, .inl (u)))] t.heap ∧ va_K (dC, dI) vwCl [(cU, .byte), (cN, .int)] t ∧ va_D (va_A [(h0, .inr (1, [v0, v1])), (qu, .inl (cU, 16, .inl (f)))] sz) [(h0, .inr (1, [v0, v1])), (qu, .inl (cU, 16, .inl (f))), (ra, .inl (cN, 52, .inl (u)))]) (va_A [(h0, .inr (1, [v0, v1])), (qu, .inl (cU, 16, .inl (f)))] sz)) 1 52 (va_A [(h0, .inr (1, [v0, v1])), (qu, .inl (cU, 16, .inl (f)))] sz) := by
  refine Met.ofW (cc := cX2_expandKey) (maxL := 4) (ret := (some (.array .int))) (by decide) rfl ?_
  intro p e s m args below meth c s₁ B hml hv
  obtain ⟨rfl, hsz, hP, hK, hD0⟩ := hv
  have hx := B.exec
  have hb := B.bytes
  have hr := B.returns
  have hts := atoms_spec (ws := (ws_ yX2_expandKey cX2_expandKey 4 (some (.array .int)))) B.pre
  have hts : ∀ w ∈ lw_all, w.before _ s = true := fun w h => hts w (List.mem_cons_of_mem _ h)
  have hown : s.vm.findClass RX2 = some m.cls := findClass_of_methodNamed B.named
  have hlocks := B.notSynchronized
  subst hsz
  have hD := hD0.self (sz := s.heap.size)
  generalize hAe : va_A [(h0, .inr (1, [v0, v1])), (qu, .inl (cU, 16, .inl (f)))] s.heap.size = A at hD ⊢
  have hA : ∀ q : Nat, s.heap.size ≤ q → A q := fun q h => by rw [← hAe]; exact Or.inr h
  have hS : va_S A s.heap s.heap [] := va_S.rf
  have hP : va_P (dC, dI) vwCl [(h0, .inr (1, [v0, v1])), (qu, .inl (cU, 16, .inl (f)))] s.heap := hP
  have hl := lv_entry ([.ref h0, .ref qu]) (n := 4) (Nat.le_of_ble_eq_true rfl)
  rw [lg_entry_eq]
  generalize (lg_sl ([.ref h0, .ref qu]) ++ List.replicate (4 - (lg_sl ([.ref h0, .ref qu])).length) Slot.unset).toArray = ls at hl ⊢
  have hl : lv_has ls 4 [(0, .ref h0), (1, .ref qu)] := hl
  refine lv_bipush (v := nI 52) hx hb dX2_expandKey_0 (by decide +kernel) ?_
  refine va_newa (atype := .int) (ty := .int) (a0 := (52, .inl (fun _ => 0))) hx hb (hts _ q181) rfl hK hP hD hS hA (fun _ => rfl) (nI_pos (by decide)) (nI_clamp (n := 52) (by decide)) (Nat.le_of_ble_eq_true rfl) (Nat.le_of_ble_eq_true rfl) (Nat.le_of_ble_eq_true rfl) dX2_expandKey_2 (fun q cN H hK hP hD hS => ?_)
  have hP : va_P (dC, dI) vwCl [(h0, .inr (1, [v0, v1])), (qu, .inl (cU, 16, .inl (f))), (q, .inl (cN, 52, .inl (fun _ => 0)))] H := hP
  have hD : va_D A [(h0, .inr (1, [v0, v1])), (qu, .inl (cU, 16, .inl (f))), (q, .inl (cN, 52, .inl (fun _ => 0)))] := hD
  have hK : va_K (dC, dI) vwCl [(cU, .byte), (cN, .int)] s := hK
  refine W.widen (k := 1) (n := 52) (Nat.le_of_ble_eq_true rfl) (Nat.le_of_ble_eq_true rfl) ?_
  refine lv_astore_n (lv' := [(2, .ref q), (0, .ref h0), (1, .ref qu)]) hx hb dX2_expandKey_4 rfl hl (by decide) rfl (fun ls hl => ?_)
  refine lv_aload_n hx hb dX2_expandKey_5 rfl (lv_at hl 2 rfl) ?_
  refine va_alen (v := nI 16) hx hb hK hP 1 0 rfl rfl rfl dX2_expandKey_6 ?_
  refine lv_bipush (v := nI 16) hx hb dX2_expandKey_7 (by decide +kernel) ?_
  refine lv_icmp_ge (tgt := 32) hx hb dX2_expandKey_9 (by decide) (fun c9 => ?_) (fun c9 => ?_)
  · have key2 : ∀ (n i : Nat), 8 ≤ i → i ≤ 52 → 53 ≤ i + n → ∀ (g : Nat → Int32) (H : Heap) (locs : List Loc), (∀ k, k < i → g k = id_ek f k) → va_P (dC, dI) vwCl [(h0, .inr (1, [v0, v1])), (qu, .inl (cU, 16, .inl (f))), (q, .inl (cN, 52, .inl (g)))] H → va_D A [(h0, .inr (1, [v0, v1])), (qu, .inl (cU, 16, .inl (f))), (q, .inl (cN, 52, .inl (g)))] → va_S A s.heap H locs → ∀ ls : Array Slot, lv_has ls 4 [(3, .int (nI i)), (2, .ref q), (1, .ref qu), (0, .ref h0)] → W p l e (headSpec (ws_ yX2_expandKey cX2_expandKey 4 (some (.array .int))) { frames := 1, cells := 1, slots := 52, locals := 22 }).room s m ([.ref h0, .ref qu] : List Value).toArray below meth c H locs 1 52 (MQ below (va_Qr (fun u : Nat → Int32 => ∀ k, k < 52 → u k = id_ek f k) (fun (u : Nat → Int32) (ra : Nat) (t : State) => ∃ cN : ClassId, va_P (dC, dI) vwCl [(h0, .inr (1, [v0, v1])), (qu, .inl (cU, 16, .inl (f))), (ra, .inl (cN, 52, .inl (u)))] t.heap ∧ va_K (dC, dI) vwCl [(cU, .byte), (cN, .int)] t ∧ va_D A [(h0, .inr (1, [v0, v1])), (qu, .inl (cU, 16, .inl (f))), (ra, .inl (cN, 52, .inl (u)))]) A) ([.ref h0, .ref qu] : List Value).toArray s 1 52 A) (F0 m 60 ls []) := by
      intro n
      induction n with
      | zero => intro i h0 h1 h2; exact absurd h2 (by omega)
      | succ n ih =>
        intro i hi8 hi hin g H locs hg hP hD hS ls hl
        refine lv_iload_n hx hb dX2_expandKey_60 rfl (lv_at hl 0 rfl) ?_
        refine lv_bipush (v := nI 52) hx hb dX2_expandKey_61 (by decide +kernel) ?_
        refine lv_icmp_ge (tgt := 180) hx hb dX2_expandKey_63 (by decide) (fun c63 => ?_) (fun c63 => ?_)
        · have e52 : i = 52 := by have := (nI_leI (by decide) (by omega)).mp c63; omega
          subst e52
          refine lv_aload_n hx hb dX2_expandKey_180 rfl (lv_at hl 1 rfl) ?_
          have hP9 := hP.sub (ws' := [(h0, .inr (1, [v0, v1])), (qu, .inl (cU, 16, .inl (f))), (q, .inl (cN, 52, .inl (g)))]) [0, 1, 2] rfl
          have hD9 := hD.sub (ws' := [(h0, .inr (1, [v0, v1])), (qu, .inl (cU, 16, .inl (f))), (q, .inl (cN, 52, .inl (g)))]) [0, 1, 2] (by decide) rfl
          have hK9 := hK.sub (tys' := [(cU, .byte), (cN, .int)]) [0, 1] rfl
          exact W.aret (v := .ref q) hx hb hr (Or.inr ⟨_, rfl⟩) (Or.inr ⟨_, rfl⟩) (fun t ht hW => ⟨⟨g, q, rfl, hg, cN, by rw [ht]; exact hP9, va_K.moved hW.alike hK9, hD9⟩, hS.F ht⟩) hS.2.2 dX2_expandKey_181
        · have hlt : i < 52 := by rcases Nat.lt_or_ge i 52 with q | q; exact q; exact absurd (nI_le q (by omega)) c63
          refine lv_iload_n hx hb dX2_expandKey_66 rfl (lv_at hl 0 rfl) ?_
          refine lv_bipush (v := 7) hx hb dX2_expandKey_67 (by decide +kernel) ?_
          refine lv_iand hx hb dX2_expandKey_69 ?_
          refine id_is (y := nI (i % 8)) (id_andn (by omega) 3 (by decide) rfl) ?_
          refine lv_bipush (v := nI 6) hx hb dX2_expandKey_70 (by decide +kernel) ?_
          refine lv_icmp_ge (tgt := 106) hx hb dX2_expandKey_72 (by decide) (fun c72 => ?_) (fun c72 => ?_)
          · have h6 : 6 ≤ i % 8 := (nI_leI (by decide) (by omega)).mp c72
            refine lv_iload_n hx hb dX2_expandKey_106 rfl (lv_at hl 0 rfl) ?_
            refine lv_bipush (v := 7) hx hb dX2_expandKey_107 (by decide +kernel) ?_
            refine lv_iand hx hb dX2_expandKey_109 ?_
            refine id_is (y := nI (i % 8)) (id_andn (by omega) 3 (by decide) rfl) ?_
            refine lv_bipush (v := nI 6) hx hb dX2_expandKey_110 (by decide +kernel) ?_
            refine lv_icmp_ne (tgt := 146) hx hb dX2_expandKey_112 (by decide) (fun c112 => ?_) (fun c112 => ?_)
            · have h7 : i % 8 = 7 := by have h8 : i % 8 ≠ 6 := fun q => c112 (by rw [q]); omega
              refine lv_aload_n hx hb dX2_expandKey_146 rfl (lv_at hl 1 rfl) ?_
              refine lv_iload_n hx hb dX2_expandKey_147 rfl (lv_at hl 0 rfl) ?_
              refine lv_aload_n hx hb dX2_expandKey_148 rfl (lv_at hl 1 rfl) ?_
              refine lv_iload_n hx hb dX2_expandKey_149 rfl (lv_at hl 0 rfl) ?_
              refine lv_bipush (v := nI 15) hx hb dX2_expandKey_150 (by decide +kernel) ?_
              refine lv_isub hx hb dX2_expandKey_152 ?_
              refine id_is (y := nI (i - 15)) (pk_sub (by omega)) ?_
              refine va_iald hx hb hK hP 2 1 rfl rfl (vp_in_nI (by omega) (by omega)) dX2_expandKey_153 ?_
              refine id_is (y := (g) (i - 15)) (by rw [nI_clamp (n := i - 15) (by omega)]) ?_
              refine id_is (y := id_ek f (i - 15)) (hg (i - 15) (by omega)) ?_
              refine lv_bipush (v := 127) hx hb dX2_expandKey_154 (by decide +kernel) ?_
              refine lv_iand hx hb dX2_expandKey_156 ?_
              refine lv_bipush (v := 9) hx hb dX2_expandKey_157 (by decide +kernel) ?_
              refine lv_ishl hx hb dX2_expandKey_159 ?_
              refine lv_aload_n hx hb dX2_expandKey_160 rfl (lv_at hl 1 rfl) ?_
              refine lv_iload_n hx hb dX2_expandKey_161 rfl (lv_at hl 0 rfl) ?_
              refine lv_bipush (v := nI 14) hx hb dX2_expandKey_162 (by decide +kernel) ?_
              refine lv_isub hx hb dX2_expandKey_164 ?_
              refine id_is (y := nI (i - 14)) (pk_sub (by omega)) ?_
              refine va_iald hx hb hK hP 2 1 rfl rfl (vp_in_nI (by omega) (by omega)) dX2_expandKey_165 ?_
              refine id_is (y := (g) (i - 14)) (by rw [nI_clamp (n := i - 14) (by omega)]) ?_
              refine id_is (y := id_ek f (i - 14)) (hg (i - 14) (by omega)) ?_
              refine lv_bipush (v := 7) hx hb dX2_expandKey_166 (by decide +kernel) ?_
              refine lv_ishr hx hb dX2_expandKey_168 ?_
              refine lv_ior hx hb dX2_expandKey_169 ?_
              refine lv_ldc (v := 65535) hx hb hown (hts _ q99) dX2_expandKey_170 ?_
              refine lv_iand hx hb dX2_expandKey_172 ?_
              refine id_is (y := id_sh (id_ek f (i - 15)) (id_ek f (i - 14))) (rfl) ?_
              refine id_is (y := id_ek f i) ((id_ek_3 f hi8 h7).symm) ?_
              refine va_iast hx hb hK hP hD hS 2 1 rfl rfl (vp_in_nI (by omega) (by omega)) dX2_expandKey_173 (fun H locs hP hD hS => ?_)
              rw [nI_clamp (n := i) (by omega)] at hP hD
              have hP : va_P (dC, dI) vwCl [(h0, .inr (1, [v0, v1])), (qu, .inl (cU, 16, .inl (f))), (q, .inl (cN, 52, .inl (upd (g) (i) (id_ek f i))))] H := hP
              have hD : va_D A [(h0, .inr (1, [v0, v1])), (qu, .inl (cU, 16, .inl (f))), (q, .inl (cN, 52, .inl (upd (g) (i) (id_ek f i))))] := hD
              refine lv_iinc (v := nI (i + 1)) (lv' := [(3, .int (nI (i + 1))), (2, .ref q), (1, .ref qu), (0, .ref h0)]) hx hb dX2_expandKey_174 hl (k := 0) rfl (id_inc (by omega)) (by decide) rfl (fun ls hl => ?_)
              refine lv_goto (tgt := 60) hx hb dX2_expandKey_177 (by decide) ?_
              exact ih (i + 1) (by omega) hlt (by omega) (upd (g) (i) (id_ek f i)) H locs (id_up hg rfl) hP hD hS ls (lv_sub hl [0, 1, 2, 3] rfl)
            · have h7 : i % 8 = 6 := (nI_eq (by omega) (by omega)).mp c112
              refine lv_aload_n hx hb dX2_expandKey_115 rfl (lv_at hl 1 rfl) ?_
              refine lv_iload_n hx hb dX2_expandKey_116 rfl (lv_at hl 0 rfl) ?_
              refine lv_aload_n hx hb dX2_expandKey_117 rfl (lv_at hl 1 rfl) ?_
              refine lv_iload_n hx hb dX2_expandKey_118 rfl (lv_at hl 0 rfl) ?_
              refine lv_bipush (v := nI 7) hx hb dX2_expandKey_119 (by decide +kernel) ?_
              refine lv_isub hx hb dX2_expandKey_121 ?_
              refine id_is (y := nI (i - 7)) (pk_sub (by omega)) ?_
              refine va_iald hx hb hK hP 2 1 rfl rfl (vp_in_nI (by omega) (by omega)) dX2_expandKey_122 ?_
              refine id_is (y := (g) (i - 7)) (by rw [nI_clamp (n := i - 7) (by omega)]) ?_
              refine id_is (y := id_ek f (i - 7)) (hg (i - 7) (by omega)) ?_
              refine lv_bipush (v := 127) hx hb dX2_expandKey_123 (by decide +kernel) ?_
              refine lv_iand hx hb dX2_expandKey_125 ?_
              refine lv_bipush (v := 9) hx hb dX2_expandKey_126 (by decide +kernel) ?_
              refine lv_ishl hx hb dX2_expandKey_128 ?_
              refine lv_aload_n hx hb dX2_expandKey_129 rfl (lv_at hl 1 rfl) ?_
              refine lv_iload_n hx hb dX2_expandKey_130 rfl (lv_at hl 0 rfl) ?_
              refine lv_bipush (v := nI 14) hx hb dX2_expandKey_131 (by decide +kernel) ?_
              refine lv_isub hx hb dX2_expandKey_133 ?_
              refine id_is (y := nI (i - 14)) (pk_sub (by omega)) ?_
              refine va_iald hx hb hK hP 2 1 rfl rfl (vp_in_nI (by omega) (by omega)) dX2_expandKey_134 ?_
              refine id_is (y := (g) (i - 14)) (by rw [nI_clamp (n := i - 14) (by omega)]) ?_
              refine id_is (y := id_ek f (i - 14)) (hg (i - 14) (by omega)) ?_
              refine lv_bipush (v := 7) hx hb dX2_expandKey_135 (by decide +kernel) ?_
              refine lv_ishr hx hb dX2_expandKey_137 ?_
              refine lv_ior hx hb dX2_expandKey_138 ?_
              refine lv_ldc (v := 65535) hx hb hown (hts _ q99) dX2_expandKey_139 ?_
              refine lv_iand hx hb dX2_expandKey_141 ?_
              refine id_is (y := id_sh (id_ek f (i - 7)) (id_ek f (i - 14))) (rfl) ?_
              refine id_is (y := id_ek f i) ((id_ek_2 f hi8 h7).symm) ?_
              refine va_iast hx hb hK hP hD hS 2 1 rfl rfl (vp_in_nI (by omega) (by omega)) dX2_expandKey_142 (fun H locs hP hD hS => ?_)
              rw [nI_clamp (n := i) (by omega)] at hP hD
              have hP : va_P (dC, dI) vwCl [(h0, .inr (1, [v0, v1])), (qu, .inl (cU, 16, .inl (f))), (q, .inl (cN, 52, .inl (upd (g) (i) (id_ek f i))))] H := hP
              have hD : va_D A [(h0, .inr (1, [v0, v1])), (qu, .inl (cU, 16, .inl (f))), (q, .inl (cN, 52, .inl (upd (g) (i) (id_ek f i))))] := hD
              refine lv_goto (tgt := 174) hx hb dX2_expandKey_143 (by decide) ?_
              refine lv_iinc (v := nI (i + 1)) (lv' := [(3, .int (nI (i + 1))), (2, .ref q), (1, .ref qu), (0, .ref h0)]) hx hb dX2_expandKey_174 hl (k := 0) rfl (id_inc (by omega)) (by decide) rfl (fun ls hl => ?_)
              refine lv_goto (tgt := 60) hx hb dX2_expandKey_177 (by decide) ?_
              exact ih (i + 1) (by omega) hlt (by omega) (upd (g) (i) (id_ek f i)) H locs (id_up hg rfl) hP hD hS ls (lv_sub hl [0, 1, 2, 3] rfl)
          · have h6 : i % 8 < 6 := by rcases Nat.lt_or_ge (i % 8) 6 with q | q; exact q; exact absurd (nI_le q (by omega)) c72
            refine lv_aload_n hx hb dX2_expandKey_75 rfl (lv_at hl 1 rfl) ?_
            refine lv_iload_n hx hb dX2_expandKey_76 rfl (lv_at hl 0 rfl) ?_
            refine lv_aload_n hx hb dX2_expandKey_77 rfl (lv_at hl 1 rfl) ?_
            refine lv_iload_n hx hb dX2_expandKey_78 rfl (lv_at hl 0 rfl) ?_
            refine lv_bipush (v := nI 7) hx hb dX2_expandKey_79 (by decide +kernel) ?_
            refine lv_isub hx hb dX2_expandKey_81 ?_
            refine id_is (y := nI (i - 7)) (pk_sub (by omega)) ?_
            refine va_iald hx hb hK hP 2 1 rfl rfl (vp_in_nI (by omega) (by omega)) dX2_expandKey_82 ?_
            refine id_is (y := (g) (i - 7)) (by rw [nI_clamp (n := i - 7) (by omega)]) ?_
            refine id_is (y := id_ek f (i - 7)) (hg (i - 7) (by omega)) ?_
            refine lv_bipush (v := 127) hx hb dX2_expandKey_83 (by decide +kernel) ?_
            refine lv_iand hx hb dX2_expandKey_85 ?_
            refine lv_bipush (v := 9) hx hb dX2_expandKey_86 (by decide +kernel) ?_
            refine lv_ishl hx hb dX2_expandKey_88 ?_
            refine lv_aload_n hx hb dX2_expandKey_89 rfl (lv_at hl 1 rfl) ?_
            refine lv_iload_n hx hb dX2_expandKey_90 rfl (lv_at hl 0 rfl) ?_
            refine lv_bipush (v := nI 6) hx hb dX2_expandKey_91 (by decide +kernel) ?_
            refine lv_isub hx hb dX2_expandKey_93 ?_
            refine id_is (y := nI (i - 6)) (pk_sub (by omega)) ?_
            refine va_iald hx hb hK hP 2 1 rfl rfl (vp_in_nI (by omega) (by omega)) dX2_expandKey_94 ?_
            refine id_is (y := (g) (i - 6)) (by rw [nI_clamp (n := i - 6) (by omega)]) ?_
            refine id_is (y := id_ek f (i - 6)) (hg (i - 6) (by omega)) ?_
            refine lv_bipush (v := 7) hx hb dX2_expandKey_95 (by decide +kernel) ?_
            refine lv_ishr hx hb dX2_expandKey_97 ?_
            refine lv_ior hx hb dX2_expandKey_98 ?_
            refine lv_ldc (v := 65535) hx hb hown (hts _ q99) dX2_expandKey_99 ?_
            refine lv_iand hx hb dX2_expandKey_101 ?_
            refine id_is (y := id_sh (id_ek f (i - 7)) (id_ek f (i - 6))) (rfl) ?_
            refine id_is (y := id_ek f i) ((id_ek_1 f hi8 h6).symm) ?_
            refine va_iast hx hb hK hP hD hS 2 1 rfl rfl (vp_in_nI (by omega) (by omega)) dX2_expandKey_102 (fun H locs hP hD hS => ?_)
            rw [nI_clamp (n := i) (by omega)] at hP hD
            have hP : va_P (dC, dI) vwCl [(h0, .inr (1, [v0, v1])), (qu, .inl (cU, 16, .inl (f))), (q, .inl (cN, 52, .inl (upd (g) (i) (id_ek f i))))] H := hP
            have hD : va_D A [(h0, .inr (1, [v0, v1])), (qu, .inl (cU, 16, .inl (f))), (q, .inl (cN, 52, .inl (upd (g) (i) (id_ek f i))))] := hD
            refine lv_goto (tgt := 174) hx hb dX2_expandKey_103 (by decide) ?_
            refine lv_iinc (v := nI (i + 1)) (lv' := [(3, .int (nI (i + 1))), (2, .ref q), (1, .ref qu), (0, .ref h0)]) hx hb dX2_expandKey_174 hl (k := 0) rfl (id_inc (by omega)) (by decide) rfl (fun ls hl => ?_)
            refine lv_goto (tgt := 60) hx hb dX2_expandKey_177 (by decide) ?_
            exact ih (i + 1) (by omega) hlt (by omega) (upd (g) (i) (id_ek f i)) H locs (id_up hg rfl) hP hD hS ls (lv_sub hl [0, 1, 2, 3] rfl)
    have key1 : ∀ (n i : Nat), i ≤ 8 → 9 ≤ i + n → ∀ (g : Nat → Int32) (H : Heap) (locs : List Loc), (∀ k, k < i → g k = id_ek f k) → va_P (dC, dI) vwCl [(h0, .inr (1, [v0, v1])), (qu, .inl (cU, 16, .inl (f))), (q, .inl (cN, 52, .inl (g)))] H → va_D A [(h0, .inr (1, [v0, v1])), (qu, .inl (cU, 16, .inl (f))), (q, .inl (cN, 52, .inl (g)))] → va_S A s.heap H locs → ∀ ls : Array Slot, lv_has ls 4 [(3, .int (nI i)), (2, .ref q), (1, .ref qu), (0, .ref h0)] → W p l e (headSpec (ws_ yX2_expandKey cX2_expandKey 4 (some (.array .int))) { frames := 1, cells := 1, slots := 52, locals := 22 }).room s m ([.ref h0, .ref qu] : List Value).toArray below meth c H locs 1 52 (MQ below (va_Qr (fun u : Nat → Int32 => ∀ k, k < 52 → u k = id_ek f k) (fun (u : Nat → Int32) (ra : Nat) (t : State) => ∃ cN : ClassId, va_P (dC, dI) vwCl [(h0, .inr (1, [v0, v1])), (qu, .inl (cU, 16, .inl (f))), (ra, .inl (cN, 52, .inl (u)))] t.heap ∧ va_K (dC, dI) vwCl [(cU, .byte), (cN, .int)] t ∧ va_D A [(h0, .inr (1, [v0, v1])), (qu, .inl (cU, 16, .inl (f))), (ra, .inl (cN, 52, .inl (u)))]) A) ([.ref h0, .ref qu] : List Value).toArray s 1 52 A) (F0 m 34 ls []) := by
      intro n
      induction n with
      | zero => intro i h1 h2; exact absurd h2 (by omega)
      | succ n ih =>
        intro i hi hin g H locs hg hP hD hS ls hl
        refine lv_iload_n hx hb dX2_expandKey_34 rfl (lv_at hl 0 rfl) ?_
        refine lv_bipush (v := nI 8) hx hb dX2_expandKey_35 (by decide +kernel) ?_
        refine lv_icmp_ge (tgt := 57) hx hb dX2_expandKey_37 (by decide) (fun c37 => ?_) (fun c37 => ?_)
        · have e8 : i = 8 := by have := (nI_leI (by decide) (by omega)).mp c37; omega
          subst e8
          refine lv_bipush (v := nI 8) hx hb dX2_expandKey_57 (by decide +kernel) ?_
          refine lv_istore_n (lv' := [(3, .int (nI 8)), (2, .ref q), (1, .ref qu), (0, .ref h0)]) hx hb dX2_expandKey_59 rfl hl (by decide) rfl (fun ls hl => ?_)
          exact key2 45 8 (by decide) (by decide) (by decide) g H locs hg hP hD hS ls (lv_sub hl [0, 1, 2, 3] rfl)
        · have hlt : i + 1 ≤ 8 := by rcases Nat.lt_or_ge i 8 with q | q; exact q; exact absurd (nI_le q (by omega)) c37
          refine lv_aload_n hx hb dX2_expandKey_40 rfl (lv_at hl 1 rfl) ?_
          refine lv_iload_n hx hb dX2_expandKey_41 rfl (lv_at hl 0 rfl) ?_
          refine lv_aload_n hx hb dX2_expandKey_42 rfl (lv_at hl 3 rfl) ?_
          refine lv_aload_n hx hb dX2_expandKey_43 rfl (lv_at hl 2 rfl) ?_
          refine lv_iload_n hx hb dX2_expandKey_44 rfl (lv_at hl 0 rfl) ?_
          refine lv_iconst (v := nI 2) hx hb dX2_expandKey_45 (by decide +kernel) ?_
          refine lv_imul hx hb dX2_expandKey_46 ?_
          refine id_is (y := nI (i * 2)) (id_muln rfl) ?_
          refine vp_callSi (W.runV (As := [.ref qu, .int (nI (i * 2))]) (rest := [.int (nI i), .ref q]) ⟨hx, hb, hml, hown, hts⟩ (met_b2w l dC dI h0 qu cU 16 (i * 2) (f) (by omega) (by omega)) (cwV 2 hts (lw_V q94 q96 qs3 q12 q97) rfl rfl rfl (by decide +kernel) ⟨Nat.le_of_ble_eq_true rfl, Nat.le_of_ble_eq_true rfl⟩) ⟨fun a U g mk q => by obtain ⟨q0, qP, qK⟩ := q; exact ⟨q0, qP, va_K.moved (u := U) (U := U.calling g mk a) (Vm.Alike.refl U.vm) qK⟩, va_recv hK hP (ci := 1) (q0 := 0) rfl rfl, fun U hU hW => ⟨rfl, by rw [hU]; exact hP.sub (ws' := [(qu, .inl (cU, 16, .inl (f)))]) [1] rfl, va_K.moved hW.alike (hK.sub (tys' := [(cU, .byte)]) [0] rfl)⟩⟩ rfl rfl hl.1 rfl (lv_room (Nat.le_of_ble_eq_true rfl)) dX2_expandKey_47 ⟨Nat.le_of_ble_eq_true rfl, Nat.le_of_ble_eq_true rfl⟩) (fun z ez => ?_)
          refine id_is (y := id_wd ((f) (i * 2)) ((f) (i * 2 + 1))) (ez) ?_
          refine va_iast hx hb hK hP hD hS 2 1 rfl rfl (vp_in_nI (by omega) (by omega)) dX2_expandKey_50 (fun H locs hP hD hS => ?_)
          rw [nI_clamp (n := i) (by omega)] at hP hD
          have hP : va_P (dC, dI) vwCl [(h0, .inr (1, [v0, v1])), (qu, .inl (cU, 16, .inl (f))), (q, .inl (cN, 52, .inl (upd (g) (i) (id_wd ((f) (i * 2)) ((f) (i * 2 + 1))))))] H := hP
          have hD : va_D A [(h0, .inr (1, [v0, v1])), (qu, .inl (cU, 16, .inl (f))), (q, .inl (cN, 52, .inl (upd (g) (i) (id_wd ((f) (i * 2)) ((f) (i * 2 + 1))))))] := hD
          refine lv_iinc (v := nI (i + 1)) (lv' := [(3, .int (nI (i + 1))), (2, .ref q), (1, .ref qu), (0, .ref h0)]) hx hb dX2_expandKey_51 hl (k := 0) rfl (id_inc (by omega)) (by decide) rfl (fun ls hl => ?_)
          refine lv_goto (tgt := 34) hx hb dX2_expandKey_54 (by decide) ?_
          exact ih (i + 1) hlt (by omega) (upd (g) (i) (id_wd ((f) (i * 2)) ((f) (i * 2 + 1)))) H locs (id_up hg (id_ek_0 f hlt).symm) hP hD hS ls (lv_sub hl [0, 1, 2, 3] rfl)
    refine lv_iconst (v := nI 0) hx hb dX2_expandKey_32 (by decide +kernel) ?_
    refine lv_istore_n (lv' := [(3, .int (nI 0)), (2, .ref q), (0, .ref h0), (1, .ref qu)]) hx hb dX2_expandKey_33 rfl hl (by decide) rfl (fun ls hl => ?_)
    exact key1 9 0 (by decide) (by decide) (fun _ => 0) H _ (fun k hk => absurd hk (Nat.not_lt_zero _)) hP hD hS ls (lv_sub hl [0, 1, 3, 2] rfl)
  · exact absurd (nI_le (Nat.le_refl 16) (by decide)) c9
end
section
/-! the engine: the inverted table -/
set_option maxRecDepth 100000
set_option maxHeartbeats 4000000 in
set_option maxRecDepth 100000 in
/-- invertKey(inKey): a new table -/
theorem met_invertKey (l : Launch) (dC : Nat → ClassId) (dI : Nat → Nat → Nat) (h0 qk sz : Nat) (cK : ClassId) (v0 v1 : Value) (f : Nat → Int32) (hf : ∀ k, k < 52 → ∃ a, a < 65536 ∧ f k = nI a) : Met l yX2_invertKey (ws_ yX2_invertKey cX2_invertKey 10 (some (.array .int))) ({ frames := 1, cells := 1, slots := 52, locals := 25 }) (va_Pc [.ref h0, .ref qk] (fun U => U.heap.size = sz ∧ va_P (dC, dI) vwCl [(h0, .inr (1, [v0, v1])), (qk, .inl (cK, 52, .inl (f)))] U.heap ∧ va_K (dC, dI) vwCl [(cK, .int)] U ∧ va_D (fun _ => True) [(h0, .inr (1, [v0, v1])), (qk, .inl (cK, 52, .inl (f)))])) (va_Qr (fun u : Nat → Int32 => ∀ k, k < 52 → u k = id_ik f k) (fun (u : Nat → Int32) (ra : Nat) (t : State) => ∃ cN : ClassId, va_P (dC, dI) vwCl [(h0, .inr (1, [v0, v1])), (qk, .inl (cK, 52, .inl (f))), (ra, .inl (cN, 52, .inl (u)))] t.heap ∧ va_K (dC, dI) vwCl [(cK, .int), (cN, .int)] t ∧ va_D (va_A [(h0, .inr (1, [v0, v1])), (qk, .inl (cK, 52, .inl (f)))] sz) [(h0, .inr (1, [v0, v1])), (qk, .inl (cK, 52, .inl (f))), (ra, .inl (cN, 52, .inl (u)))]) (va_A [(h0, .inr (1, [v0, v1])), (qk, .inl (cK, 52, .inl (f)))] sz)) 1 52 (va_A [(h0, .inr (1, [v0, v1])), (qk, .inl (cK, 52, .inl (f)))] sz) := by
  refine Met.ofW (cc := cX2_invertKey) (maxL := 10) (ret := (some (.array .int))) (by decide) rfl ?_
  intro p e s m args below meth c s₁ B hml hv
  obtain ⟨rfl, hsz, hP, hK, hD0⟩ := hv
  have hx := B.exec
  have hb := B.bytes
  have hr := B.returns
  have hts := atoms_spec (ws := (ws_ yX2_invertKey cX2_invertKey 10 (some (.array .int)))) B.pre
  have hts : ∀ w ∈ lw_all, w.before _ s = true := fun w h => hts w (List.mem_cons_of_mem _ h)
  have hown : s.vm.findClass RX2 = some m.cls := findClass_of_methodNamed B.named
  have hlocks := B.notSynchronized
  subst hsz
  have hD := hD0.self (sz := s.heap.size)
  generalize hAe : va_A [(h0, .inr (1, [v0, v1])), (qk, .inl (cK, 52, .inl (f)))] s.heap.size = A at hD ⊢
  have hA : ∀ q : Nat, s.heap.size ≤ q → A q := fun q h => by rw [← hAe]; exact Or.inr h
  have hS : va_S A s.heap s.heap [] := va_S.rf
  have hP : va_P (dC, dI) vwCl [(h0, .inr (1, [v0, v1])), (qk, .inl (cK, 52, .inl (f)))] s.heap := hP
  have hl := lv_entry ([.ref h0, .ref qk]) (n := 10) (Nat.le_of_ble_eq_true rfl)
  rw [lg_entry_eq]
  generalize (lg_sl ([.ref h0, .ref qk]) ++ List.replicate (10 - (lg_sl ([.ref h0, .ref qk])).length) Slot.unset).toArray = ls at hl ⊢
  have hl : lv_has ls 10 [(0, .ref h0), (1, .ref qk)] := hl
  refine lv_bipush (v := nI 52) hx hb dX2_invertKey_0 (by decide +kernel) ?_
  refine lv_istore (lv' := [(6, .int (nI 52)), (0, .ref h0), (1, .ref qk)]) hx hb dX2_invertKey_2 hl (by decide) rfl (fun ls hl => ?_)
  refine lv_bipush (v := nI 52) hx hb dX2_invertKey_4 (by decide +kernel) ?_
  refine va_newa (atype := .int) (ty := .int) (a0 := (52, .inl (fun _ => 0))) hx hb (hts _ q181) rfl hK hP hD hS hA (fun _ => rfl) (nI_pos (by decide)) (nI_clamp (n := 52) (by decide)) (Nat.le_of_ble_eq_true rfl) (Nat.le_of_ble_eq_true rfl) (Nat.le_of_ble_eq_true rfl) dX2_invertKey_6 (fun q cN H hK hP hD hS => ?_)
  have hP : va_P (dC, dI) vwCl [(h0, .inr (1, [v0, v1])), (qk, .inl (cK, 52, .inl (f))), (q, .inl (cN, 52, .inl (fun _ => 0)))] H := hP
  have hD : va_D A [(h0, .inr (1, [v0, v1])), (qk, .inl (cK, 52, .inl (f))), (q, .inl (cN, 52, .inl (fun _ => 0)))] := hD
  have hK : va_K (dC, dI) vwCl [(cK, .int), (cN, .int)] s := hK
  refine W.widen (k := 1) (n := 52) (Nat.le_of_ble_eq_true rfl) (Nat.le_of_ble_eq_true rfl) ?_
  refine lv_astore (lv' := [(7, .ref q), (6, .int (nI 52)), (0, .ref h0), (1, .ref qk)]) hx hb dX2_invertKey_8 hl (by decide) rfl (fun ls hl => ?_)
  have hg0 : ∀ k, 52 ≤ k → k < 52 → (fun _ => (0 : Int32)) k = id_ik f k := fun k h1 h2 => absurd h2 (by omega)
  refine lv_iconst (v := nI 0) hx hb dX2_invertKey_10 (by decide +kernel) ?_
  refine lv_istore (lv' := [(8, .int (nI 0)), (7, .ref q), (6, .int (nI 52)), (0, .ref h0), (1, .ref qk)]) hx hb dX2_invertKey_11 hl (by decide) rfl (fun ls hl => ?_)
  refine lv_aload_n hx hb dX2_invertKey_13 rfl (lv_at hl 3 rfl) ?_
  refine lv_aload_n hx hb dX2_invertKey_14 rfl (lv_at hl 4 rfl) ?_
  refine lv_iload hx hb dX2_invertKey_15 (lv_at hl 0 rfl) ?_
  refine lv_iinc (v := nI (1)) (lv' := [(8, .int (nI (1))), (7, .ref q), (6, .int (nI 52)), (0, .ref h0), (1, .ref qk)]) hx hb dX2_invertKey_17 hl (k := 0) rfl (id_inc (by omega)) (by decide) rfl (fun ls hl => ?_)
  refine va_iald hx hb hK hP 1 0 rfl rfl (vp_in_nI (by omega) (by omega)) dX2_invertKey_20 ?_
  refine id_is (y := (f) (0)) (by rw [nI_clamp (n := 0) (by omega)]) ?_
  obtain ⟨a21, ha21, ea21⟩ := hf (0) (by omega)
  refine id_is (y := nI a21) (ea21) ?_
  refine vp_callSi (W.runV (As := [.int (nI a21)]) (rest := []) ⟨hx, hb, hml, hown, hts⟩ (met_mulInv l h0 a21 ha21) (cwV 1 hts (lw_V q104 q106 qs5 q12 q107) rfl rfl rfl (by decide +kernel) ⟨Nat.le_of_ble_eq_true rfl, Nat.le_of_ble_eq_true rfl⟩) ⟨fun _ _ _ _ q => q, va_recv hK hP (ci := 1) (q0 := 0) rfl rfl, fun U hU hW => ⟨rfl, trivial⟩⟩ rfl rfl hl.1 rfl (lv_room (Nat.le_of_ble_eq_true rfl)) dX2_invertKey_21 ⟨Nat.le_of_ble_eq_true rfl, Nat.le_of_ble_eq_true rfl⟩) (fun z ez => ?_)
  refine id_is (y := id_mi (f (0))) (by rw [ez, ea21]) ?_
  refine lv_istore_n (lv' := [(2, .int (id_mi (f (0)))), (8, .int (nI (1))), (7, .ref q), (6, .int (nI 52)), (0, .ref h0), (1, .ref qk)]) hx hb dX2_invertKey_24 rfl hl (by decide) rfl (fun ls hl => ?_)
  refine lv_aload_n hx hb dX2_invertKey_25 rfl (lv_at hl 4 rfl) ?_
  refine lv_aload_n hx hb dX2_invertKey_26 rfl (lv_at hl 5 rfl) ?_
  refine lv_iload hx hb dX2_invertKey_27 (lv_at hl 1 rfl) ?_
  refine lv_iinc (v := nI (2)) (lv' := [(8, .int (nI (2))), (2, .int (id_mi (f (0)))), (7, .ref q), (6, .int (nI 52)), (0, .ref h0), (1, .ref qk)]) hx hb dX2_invertKey_29 hl (k := 1) rfl (id_inc (by omega)) (by decide) rfl (fun ls hl => ?_)
  refine va_iald hx hb hK hP 1 0 rfl rfl (vp_in_nI (by omega) (by omega)) dX2_invertKey_32 ?_
  refine id_is (y := (f) (1)) (by rw [nI_clamp (n := 1) (by omega)]) ?_
  refine vp_callSi (W.runV (As := [.int ((f) (1))]) (rest := []) ⟨hx, hb, hml, hown, hts⟩ (met_addInv l h0 ((f) (1))) (cwV 1 hts (lw_V q109 q110 q111 q12 q112) rfl rfl rfl (by decide +kernel) ⟨Nat.le_of_ble_eq_true rfl, Nat.le_of_ble_eq_true rfl⟩) ⟨fun _ _ _ _ q => q, va_recv hK hP (ci := 1) (q0 := 0) rfl rfl, fun U hU hW => ⟨rfl, trivial⟩⟩ rfl rfl hl.1 rfl (lv_room (Nat.le_of_ble_eq_true rfl)) dX2_invertKey_33 ⟨Nat.le_of_ble_eq_true rfl, Nat.le_of_ble_eq_true rfl⟩) (fun z ez => ?_)
  refine id_is (y := id_neg (f (1))) (ez) ?_
  refine lv_istore_n (lv' := [(3, .int (id_neg (f (1)))), (8, .int (nI (2))), (2, .int (id_mi (f (0)))), (7, .ref q), (6, .int (nI 52)), (0, .ref h0), (1, .ref qk)]) hx hb dX2_invertKey_36 rfl hl (by decide) rfl (fun ls hl => ?_)
  refine lv_aload_n hx hb dX2_invertKey_37 rfl (lv_at hl 5 rfl) ?_
  refine lv_aload_n hx hb dX2_invertKey_38 rfl (lv_at hl 6 rfl) ?_
  refine lv_iload hx hb dX2_invertKey_39 (lv_at hl 1 rfl) ?_
  refine lv_iinc (v := nI (3)) (lv' := [(8, .int (nI (3))), (3, .int (id_neg (f (1)))), (2, .int (id_mi (f (0)))), (7, .ref q), (6, .int (nI 52)), (0, .ref h0), (1, .ref qk)]) hx hb dX2_invertKey_41 hl (k := 1) rfl (id_inc (by omega)) (by decide) rfl (fun ls hl => ?_)
  refine va_iald hx hb hK hP 1 0 rfl rfl (vp_in_nI (by omega) (by omega)) dX2_invertKey_44 ?_
  refine id_is (y := (f) (2)) (by rw [nI_clamp (n := 2) (by omega)]) ?_
  refine vp_callSi (W.runV (As := [.int ((f) (2))]) (rest := []) ⟨hx, hb, hml, hown, hts⟩ (met_addInv l h0 ((f) (2))) (cwV 1 hts (lw_V q109 q110 q111 q12 q112) rfl rfl rfl (by decide +kernel) ⟨Nat.le_of_ble_eq_true rfl, Nat.le_of_ble_eq_true rfl⟩) ⟨fun _ _ _ _ q => q, va_recv hK hP (ci := 1) (q0 := 0) rfl rfl, fun U hU hW => ⟨rfl, trivial⟩⟩ rfl rfl hl.1 rfl (lv_room (Nat.le_of_ble_eq_true rfl)) dX2_invertKey_45 ⟨Nat.le_of_ble_eq_true rfl, Nat.le_of_ble_eq_true rfl⟩) (fun z ez => ?_)
  refine id_is (y := id_neg (f (2))) (ez) ?_
  refine lv_istore (lv' := [(4, .int (id_neg (f (2)))), (8, .int (nI (3))), (3, .int (id_neg (f (1)))), (2, .int (id_mi (f (0)))), (7, .ref q), (6, .int (nI 52)), (0, .ref h0), (1, .ref qk)]) hx hb dX2_invertKey_48 hl (by decide) rfl (fun ls hl => ?_)
  refine lv_aload_n hx hb dX2_invertKey_50 rfl (lv_at hl 6 rfl) ?_
  refine lv_aload_n hx hb dX2_invertKey_51 rfl (lv_at hl 7 rfl) ?_
  refine lv_iload hx hb dX2_invertKey_52 (lv_at hl 1 rfl) ?_
  refine lv_iinc (v := nI (4)) (lv' := [(8, .int (nI (4))), (4, .int (id_neg (f (2)))), (3, .int (id_neg (f (1)))), (2, .int (id_mi (f (0)))), (7, .ref q), (6, .int (nI 52)), (0, .ref h0), (1, .ref qk)]) hx hb dX2_invertKey_54 hl (k := 1) rfl (id_inc (by omega)) (by decide) rfl (fun ls hl => ?_)
  refine va_iald hx hb hK hP 1 0 rfl rfl (vp_in_nI (by omega) (by omega)) dX2_invertKey_57 ?_
  refine id_is (y := (f) (3)) (by rw [nI_clamp (n := 3) (by omega)]) ?_
  obtain ⟨a58, ha58, ea58⟩ := hf (3) (by omega)
  refine id_is (y := nI a58) (ea58) ?_
  refine vp_callSi (W.runV (As := [.int (nI a58)]) (rest := []) ⟨hx, hb, hml, hown, hts⟩ (met_mulInv l h0 a58 ha58) (cwV 1 hts (lw_V q104 q106 qs5 q12 q107) rfl rfl rfl (by decide +kernel) ⟨Nat.le_of_ble_eq_true rfl, Nat.le_of_ble_eq_true rfl⟩) ⟨fun _ _ _ _ q => q, va_recv hK hP (ci := 1) (q0 := 0) rfl rfl, fun U hU hW => ⟨rfl, trivial⟩⟩ rfl rfl hl.1 rfl (lv_room (Nat.le_of_ble_eq_true rfl)) dX2_invertKey_58 ⟨Nat.le_of_ble_eq_true rfl, Nat.le_of_ble_eq_true rfl⟩) (fun z ez => ?_)
  refine id_is (y := id_mi (f (3))) (by rw [ez, ea58]) ?_
  refine lv_istore (lv' := [(5, .int (id_mi (f (3)))), (8, .int (nI (4))), (4, .int (id_neg (f (2)))), (3, .int (id_neg (f (1)))), (2, .int (id_mi (f (0)))), (7, .ref q), (6, .int (nI 52)), (0, .ref h0), (1, .ref qk)]) hx hb dX2_invertKey_61 hl (by decide) rfl (fun ls hl => ?_)
  refine lv_aload hx hb dX2_invertKey_63 (lv_at hl 5 rfl) ?_
  refine lv_iinc (v := nI (51)) (lv' := [(6, .int (nI (51))), (5, .int (id_mi (f (3)))), (8, .int (nI (4))), (4, .int (id_neg (f (2)))), (3, .int (id_neg (f (1)))), (2, .int (id_mi (f (0)))), (7, .ref q), (0, .ref h0), (1, .ref qk)]) hx hb dX2_invertKey_65 hl (k := 6) rfl (id_dec (by omega)) (by decide) rfl (fun ls hl => ?_)
  refine lv_iload hx hb dX2_invertKey_68 (lv_at hl 0 rfl) ?_
  refine lv_iload hx hb dX2_invertKey_70 (lv_at hl 1 rfl) ?_
  refine va_iast hx hb hK hP hD hS 2 1 rfl rfl (vp_in_nI (by omega) (by omega)) dX2_invertKey_72 (fun H locs hP hD hS => ?_)
  rw [nI_clamp (n := 51) (by omega)] at hP hD
  have hP : va_P (dC, dI) vwCl [(h0, .inr (1, [v0, v1])), (qk, .inl (cK, 52, .inl (f))), (q, .inl (cN, 52, .inl (upd (fun _ => 0) (51) (id_mi (f (3))))))] H := hP
  have hD : va_D A [(h0, .inr (1, [v0, v1])), (qk, .inl (cK, 52, .inl (f))), (q, .inl (cN, 52, .inl (upd (fun _ => 0) (51) (id_mi (f (3))))))] := hD
  have hg72 : ∀ k, 51 ≤ k → k < 52 → (upd (fun _ => 0) (51) (id_mi (f (3)))) k = id_ik f k := id_down (p := 51) hg0 (id_ik_03 f (b := 8) (j := 3) (i := 3) (by decide) (by decide))
  generalize upd (fun _ => 0) (51) (id_mi (f (3))) = g72 at hP hD hg72
  refine lv_aload hx hb dX2_invertKey_73 (lv_at hl 6 rfl) ?_
  refine lv_iinc (v := nI (50)) (lv' := [(6, .int (nI (50))), (5, .int (id_mi (f (3)))), (8, .int (nI (4))), (4, .int (id_neg (f (2)))), (3, .int (id_neg (f (1)))), (2, .int (id_mi (f (0)))), (7, .ref q), (0, .ref h0), (1, .ref qk)]) hx hb dX2_invertKey_75 hl (k := 0) rfl (id_dec (by omega)) (by decide) rfl (fun ls hl => ?_)
  refine lv_iload hx hb dX2_invertKey_78 (lv_at hl 0 rfl) ?_
  refine lv_iload hx hb dX2_invertKey_80 (lv_at hl 3 rfl) ?_
  refine va_iast hx hb hK hP hD hS 2 1 rfl rfl (vp_in_nI (by omega) (by omega)) dX2_invertKey_82 (fun H locs hP hD hS => ?_)
  rw [nI_clamp (n := 50) (by omega)] at hP hD
  have hP : va_P (dC, dI) vwCl [(h0, .inr (1, [v0, v1])), (qk, .inl (cK, 52, .inl (f))), (q, .inl (cN, 52, .inl (upd (g72) (50) (id_neg (f (2))))))] H := hP
  have hD : va_D A [(h0, .inr (1, [v0, v1])), (qk, .inl (cK, 52, .inl (f))), (q, .inl (cN, 52, .inl (upd (g72) (50) (id_neg (f (2))))))] := hD
  have hg82 : ∀ k, 50 ≤ k → k < 52 → (upd (g72) (50) (id_neg (f (2)))) k = id_ik f k := id_down (p := 50) hg72 (id_ik_12 f (b := 8) (j := 2) (i := 2) (by decide) (by decide) (by decide))
  generalize upd (g72) (50) (id_neg (f (2))) = g82 at hP hD hg82
  refine lv_aload hx hb dX2_invertKey_83 (lv_at hl 6 rfl) ?_
  refine lv_iinc (v := nI (49)) (lv' := [(6, .int (nI (49))), (5, .int (id_mi (f (3)))), (8, .int (nI (4))), (4, .int (id_neg (f (2)))), (3, .int (id_neg (f (1)))), (2, .int (id_mi (f (0)))), (7, .ref q), (0, .ref h0), (1, .ref qk)]) hx hb dX2_invertKey_85 hl (k := 0) rfl (id_dec (by omega)) (by decide) rfl (fun ls hl => ?_)
  refine lv_iload hx hb dX2_invertKey_88 (lv_at hl 0 rfl) ?_
  refine lv_iload_n hx hb dX2_invertKey_90 rfl (lv_at hl 4 rfl) ?_
  refine va_iast hx hb hK hP hD hS 2 1 rfl rfl (vp_in_nI (by omega) (by omega)) dX2_invertKey_91 (fun H locs hP hD hS => ?_)
  rw [nI_clamp (n := 49) (by omega)] at hP hD
  have hP : va_P (dC, dI) vwCl [(h0, .inr (1, [v0, v1])), (qk, .inl (cK, 52, .inl (f))), (q, .inl (cN, 52, .inl (upd (g82) (49) (id_neg (f (1))))))] H := hP
  have hD : va_D A [(h0, .inr (1, [v0, v1])), (qk, .inl (cK, 52, .inl (f))), (q, .inl (cN, 52, .inl (upd (g82) (49) (id_neg (f (1))))))] := hD
  have hg91 : ∀ k, 49 ≤ k → k < 52 → (upd (g82) (49) (id_neg (f (1)))) k = id_ik f k := id_down (p := 49) hg82 (id_ik_12 f (b := 8) (j := 1) (i := 1) (by decide) (by decide) (by decide))
  generalize upd (g82) (49) (id_neg (f (1))) = g91 at hP hD hg91
  refine lv_aload hx hb dX2_invertKey_92 (lv_at hl 6 rfl) ?_
  refine lv_iinc (v := nI (48)) (lv' := [(6, .int (nI (48))), (5, .int (id_mi (f (3)))), (8, .int (nI (4))), (4, .int (id_neg (f (2)))), (3, .int (id_neg (f (1)))), (2, .int (id_mi (f (0)))), (7, .ref q), (0, .ref h0), (1, .ref qk)]) hx hb dX2_invertKey_94 hl (k := 0) rfl (id_dec (by omega)) (by decide) rfl (fun ls hl => ?_)
  refine lv_iload hx hb dX2_invertKey_97 (lv_at hl 0 rfl) ?_
  refine lv_iload_n hx hb dX2_invertKey_99 rfl (lv_at hl 5 rfl) ?_
  refine va_iast hx hb hK hP hD hS 2 1 rfl rfl (vp_in_nI (by omega) (by omega)) dX2_invertKey_100 (fun H locs hP hD hS => ?_)
  rw [nI_clamp (n := 48) (by omega)] at hP hD
  have hP : va_P (dC, dI) vwCl [(h0, .inr (1, [v0, v1])), (qk, .inl (cK, 52, .inl (f))), (q, .inl (cN, 52, .inl (upd (g91) (48) (id_mi (f (0))))))] H := hP
  have hD : va_D A [(h0, .inr (1, [v0, v1])), (qk, .inl (cK, 52, .inl (f))), (q, .inl (cN, 52, .inl (upd (g91) (48) (id_mi (f (0))))))] := hD
  have hg100 : ∀ k, 48 ≤ k → k < 52 → (upd (g91) (48) (id_mi (f (0)))) k = id_ik f k := id_down (p := 48) hg91 (id_ik_03 f (b := 8) (j := 0) (i := 0) (by decide) (by decide))
  generalize upd (g91) (48) (id_mi (f (0))) = g100 at hP hD hg100
  refine lv_iconst (v := nI 1) hx hb dX2_invertKey_101 (by decide +kernel) ?_
  refine lv_istore (lv' := [(9, .int (nI 1)), (6, .int (nI (48))), (5, .int (id_mi (f (3)))), (8, .int (nI (4))), (4, .int (id_neg (f (2)))), (3, .int (id_neg (f (1)))), (2, .int (id_mi (f (0)))), (7, .ref q), (0, .ref h0), (1, .ref qk)]) hx hb dX2_invertKey_102 hl (by decide) rfl (fun ls hl => ?_)
  have key : ∀ (n r b io : Nat), 1 ≤ r → r ≤ 8 → 9 ≤ r + n → r + b = 8 → io + 6 * b = 46 → ∀ (g : Nat → Int32) (H : Heap) (locs : List Loc), (∀ k, 6 * b + 6 ≤ k → k < 52 → g k = id_ik f k) → va_P (dC, dI) vwCl [(h0, .inr (1, [v0, v1])), (qk, .inl (cK, 52, .inl (f))), (q, .inl (cN, 52, .inl (g)))] H → va_D A [(h0, .inr (1, [v0, v1])), (qk, .inl (cK, 52, .inl (f))), (q, .inl (cN, 52, .inl (g)))] → va_S A s.heap H locs → ∀ ls : Array Slot, lv_has ls 10 [(9, .int (nI r)), (8, .int (nI io)), (6, .int (nI (6 * b + 6))), (7, .ref q), (1, .ref qk), (0, .ref h0)] → W p l e (headSpec (ws_ yX2_invertKey cX2_invertKey 10 (some (.array .int))) { frames := 1, cells := 1, slots := 52, locals := 25 }).room s m ([.ref h0, .ref qk] : List Value).toArray below meth c H locs 1 52 (MQ below (va_Qr (fun u : Nat → Int32 => ∀ k, k < 52 → u k = id_ik f k) (fun (u : Nat → Int32) (ra : Nat) (t : State) => ∃ cN : ClassId, va_P (dC, dI) vwCl [(h0, .inr (1, [v0, v1])), (qk, .inl (cK, 52, .inl (f))), (ra, .inl (cN, 52, .inl (u)))] t.heap ∧ va_K (dC, dI) vwCl [(cK, .int), (cN, .int)] t ∧ va_D A [(h0, .inr (1, [v0, v1])), (qk, .inl (cK, 52, .inl (f))), (ra, .inl (cN, 52, .inl (u)))]) A) ([.ref h0, .ref qk] : List Value).toArray s 1 52 A) (F0 m 104 ls []) := by
    intro n
    induction n with
    | zero => intro r b io h0 h1 h2; exact absurd h2 (by omega)
    | succ n ih =>
      intro r b io hr1 hr8 hrn hrb hio g H locs hg hP hD hS ls hl
      refine lv_iload hx hb dX2_invertKey_104 (lv_at hl 0 rfl) ?_
      refine lv_bipush (v := nI 8) hx hb dX2_invertKey_106 (by decide +kernel) ?_
      refine lv_icmp_ge (tgt := 239) hx hb dX2_invertKey_108 (by decide) (fun c108 => ?_) (fun c108 => ?_)
      · obtain rfl : r = 8 := by have := (nI_leI (by decide) (by omega)).mp c108; omega
        obtain rfl : b = 0 := by omega
        obtain rfl : io = 46 := by omega
        have hl : lv_has ls 10 [(9, .int (nI 8)), (8, .int (nI 46)), (6, .int (nI 6)), (7, .ref q), (1, .ref qk), (0, .ref h0)] := hl
        refine lv_aload_n hx hb dX2_invertKey_239 rfl (lv_at hl 4 rfl) ?_
        refine lv_iload hx hb dX2_invertKey_240 (lv_at hl 1 rfl) ?_
        refine lv_iinc (v := nI (47)) (lv' := [(8, .int (nI (47))), (9, .int (nI 8)), (6, .int (nI 6)), (7, .ref q), (1, .ref qk), (0, .ref h0)]) hx hb dX2_invertKey_242 hl (k := 1) rfl (id_inc (by omega)) (by decide) rfl (fun ls hl => ?_)
        refine va_iald hx hb hK hP 1 0 rfl rfl (vp_in_nI (by omega) (by omega)) dX2_invertKey_245 ?_
        refine id_is (y := (f) (46)) (by rw [nI_clamp (n := 46) (by omega)]) ?_
        refine lv_istore_n (lv' := [(2, .int ((f) (46))), (8, .int (nI (47))), (9, .int (nI 8)), (6, .int (nI 6)), (7, .ref q), (1, .ref qk), (0, .ref h0)]) hx hb dX2_invertKey_246 rfl hl (by decide) rfl (fun ls hl => ?_)
        refine lv_aload_n hx hb dX2_invertKey_247 rfl (lv_at hl 5 rfl) ?_
        refine lv_iload hx hb dX2_invertKey_248 (lv_at hl 1 rfl) ?_
        refine lv_iinc (v := nI (48)) (lv' := [(8, .int (nI (48))), (2, .int ((f) (46))), (9, .int (nI 8)), (6, .int (nI 6)), (7, .ref q), (1, .ref qk), (0, .ref h0)]) hx hb dX2_invertKey_250 hl (k := 1) rfl (id_inc (by omega)) (by decide) rfl (fun ls hl => ?_)
        refine va_iald hx hb hK hP 1 0 rfl rfl (vp_in_nI (by omega) (by omega)) dX2_invertKey_253 ?_
        refine id_is (y := (f) (47)) (by rw [nI_clamp (n := 47) (by omega)]) ?_
        refine lv_istore_n (lv' := [(3, .int ((f) (47))), (8, .int (nI (48))), (2, .int ((f) (46))), (9, .int (nI 8)), (6, .int (nI 6)), (7, .ref q), (1, .ref qk), (0, .ref h0)]) hx hb dX2_invertKey_254 rfl hl (by decide) rfl (fun ls hl => ?_)
        refine lv_aload hx hb dX2_invertKey_255 (lv_at hl 5 rfl) ?_
        refine lv_iinc (v := nI (5)) (lv' := [(6, .int (nI (5))), (3, .int ((f) (47))), (8, .int (nI (48))), (2, .int ((f) (46))), (9, .int (nI 8)), (7, .ref q), (1, .ref qk), (0, .ref h0)]) hx hb dX2_invertKey_257 hl (k := 4) rfl (id_dec (by omega)) (by decide) rfl (fun ls hl => ?_)
        refine lv_iload hx hb dX2_invertKey_260 (lv_at hl 0 rfl) ?_
        refine lv_iload_n hx hb dX2_invertKey_262 rfl (lv_at hl 1 rfl) ?_
        refine va_iast hx hb hK hP hD hS 2 1 rfl rfl (vp_in_nI (by omega) (by omega)) dX2_invertKey_263 (fun H locs hP hD hS => ?_)
        rw [nI_clamp (n := 5) (by omega)] at hP hD
        have hP : va_P (dC, dI) vwCl [(h0, .inr (1, [v0, v1])), (qk, .inl (cK, 52, .inl (f))), (q, .inl (cN, 52, .inl (upd (g) (5) ((f) (47)))))] H := hP
        have hD : va_D A [(h0, .inr (1, [v0, v1])), (qk, .inl (cK, 52, .inl (f))), (q, .inl (cN, 52, .inl (upd (g) (5) ((f) (47)))))] := hD
        have hg263 : ∀ k, 5 ≤ k → k < 52 → (upd (g) (5) ((f) (47))) k = id_ik f k := id_down (p := 5) hg (id_ik_45 f (b := 0) (j := 5) (i := 47) (by decide) (by decide))
        generalize upd (g) (5) ((f) (47)) = g263 at hP hD hg263
        refine lv_aload hx hb dX2_invertKey_264 (lv_at hl 5 rfl) ?_
        refine lv_iinc (v := nI (4)) (lv' := [(6, .int (nI (4))), (3, .int ((f) (47))), (8, .int (nI (48))), (2, .int ((f) (46))), (9, .int (nI 8)), (7, .ref q), (1, .ref qk), (0, .ref h0)]) hx hb dX2_invertKey_266 hl (k := 0) rfl (id_dec (by omega)) (by decide) rfl (fun ls hl => ?_)
        refine lv_iload hx hb dX2_invertKey_269 (lv_at hl 0 rfl) ?_
        refine lv_iload_n hx hb dX2_invertKey_271 rfl (lv_at hl 3 rfl) ?_
        refine va_iast hx hb hK hP hD hS 2 1 rfl rfl (vp_in_nI (by omega) (by omega)) dX2_invertKey_272 (fun H locs hP hD hS => ?_)
        rw [nI_clamp (n := 4) (by omega)] at hP hD
        have hP : va_P (dC, dI) vwCl [(h0, .inr (1, [v0, v1])), (qk, .inl (cK, 52, .inl (f))), (q, .inl (cN, 52, .inl (upd (g263) (4) ((f) (46)))))] H := hP
        have hD : va_D A [(h0, .inr (1, [v0, v1])), (qk, .inl (cK, 52, .inl (f))), (q, .inl (cN, 52, .inl (upd (g263) (4) ((f) (46)))))] := hD
        have hg272 : ∀ k, 4 ≤ k → k < 52 → (upd (g263) (4) ((f) (46))) k = id_ik f k := id_down (p := 4) hg263 (id_ik_45 f (b := 0) (j := 4) (i := 46) (by decide) (by decide))
        generalize upd (g263) (4) ((f) (46)) = g272 at hP hD hg272
        refine lv_aload_n hx hb dX2_invertKey_273 rfl (lv_at hl 7 rfl) ?_
        refine lv_aload_n hx hb dX2_invertKey_274 rfl (lv_at hl 6 rfl) ?_
        refine lv_iload hx hb dX2_invertKey_275 (lv_at hl 2 rfl) ?_
        refine lv_iinc (v := nI (49)) (lv' := [(8, .int (nI (49))), (6, .int (nI (4))), (3, .int ((f) (47))), (2, .int ((f) (46))), (9, .int (nI 8)), (7, .ref q), (1, .ref qk), (0, .ref h0)]) hx hb dX2_invertKey_277 hl (k := 2) rfl (id_inc (by omega)) (by decide) rfl (fun ls hl => ?_)
        refine va_iald hx hb hK hP 1 0 rfl rfl (vp_in_nI (by omega) (by omega)) dX2_invertKey_280 ?_
        refine id_is (y := (f) (48)) (by rw [nI_clamp (n := 48) (by omega)]) ?_
        obtain ⟨a281, ha281, ea281⟩ := hf (48) (by omega)
        refine id_is (y := nI a281) (ea281) ?_
        refine vp_callSi (W.runV (As := [.int (nI a281)]) (rest := []) ⟨hx, hb, hml, hown, hts⟩ (met_mulInv l h0 a281 ha281) (cwV 1 hts (lw_V q104 q106 qs5 q12 q107) rfl rfl rfl (by decide +kernel) ⟨Nat.le_of_ble_eq_true rfl, Nat.le_of_ble_eq_true rfl⟩) ⟨fun _ _ _ _ q => q, va_recv hK hP (ci := 1) (q0 := 0) rfl rfl, fun U hU hW => ⟨rfl, trivial⟩⟩ rfl rfl hl.1 rfl (lv_room (Nat.le_of_ble_eq_true rfl)) dX2_invertKey_281 ⟨Nat.le_of_ble_eq_true rfl, Nat.le_of_ble_eq_true rfl⟩) (fun z ez => ?_)
        refine id_is (y := id_mi (f (48))) (by rw [ez, ea281]) ?_
        refine lv_istore_n (lv' := [(2, .int (id_mi (f (48)))), (8, .int (nI (49))), (6, .int (nI (4))), (3, .int ((f) (47))), (9, .int (nI 8)), (7, .ref q), (1, .ref qk), (0, .ref h0)]) hx hb dX2_invertKey_284 rfl hl (by decide) rfl (fun ls hl => ?_)
        refine lv_aload_n hx hb dX2_invertKey_285 rfl (lv_at hl 7 rfl) ?_
        refine lv_aload_n hx hb dX2_invertKey_286 rfl (lv_at hl 6 rfl) ?_
        refine lv_iload hx hb dX2_invertKey_287 (lv_at hl 1 rfl) ?_
        refine lv_iinc (v := nI (50)) (lv' := [(8, .int (nI (50))), (2, .int (id_mi (f (48)))), (6, .int (nI (4))), (3, .int ((f) (47))), (9, .int (nI 8)), (7, .ref q), (1, .ref qk), (0, .ref h0)]) hx hb dX2_invertKey_289 hl (k := 1) rfl (id_inc (by omega)) (by decide) rfl (fun ls hl => ?_)
        refine va_iald hx hb hK hP 1 0 rfl rfl (vp_in_nI (by omega) (by omega)) dX2_invertKey_292 ?_
        refine id_is (y := (f) (49)) (by rw [nI_clamp (n := 49) (by omega)]) ?_
        refine vp_callSi (W.runV (As := [.int ((f) (49))]) (rest := []) ⟨hx, hb, hml, hown, hts⟩ (met_addInv l h0 ((f) (49))) (cwV 1 hts (lw_V q109 q110 q111 q12 q112) rfl rfl rfl (by decide +kernel) ⟨Nat.le_of_ble_eq_true rfl, Nat.le_of_ble_eq_true rfl⟩) ⟨fun _ _ _ _ q => q, va_recv hK hP (ci := 1) (q0 := 0) rfl rfl, fun U hU hW => ⟨rfl, trivial⟩⟩ rfl rfl hl.1 rfl (lv_room (Nat.le_of_ble_eq_true rfl)) dX2_invertKey_293 ⟨Nat.le_of_ble_eq_true rfl, Nat.le_of_ble_eq_true rfl⟩) (fun z ez => ?_)
        refine id_is (y := id_neg (f (49))) (ez) ?_
        refine lv_istore_n (lv' := [(3, .int (id_neg (f (49)))), (8, .int (nI (50))), (2, .int (id_mi (f (48)))), (6, .int (nI (4))), (9, .int (nI 8)), (7, .ref q), (1, .ref qk), (0, .ref h0)]) hx hb dX2_invertKey_296 rfl hl (by decide) rfl (fun ls hl => ?_)
        refine lv_aload_n hx hb dX2_invertKey_297 rfl (lv_at hl 7 rfl) ?_
        refine lv_aload_n hx hb dX2_invertKey_298 rfl (lv_at hl 6 rfl) ?_
        refine lv_iload hx hb dX2_invertKey_299 (lv_at hl 1 rfl) ?_
        refine lv_iinc (v := nI (51)) (lv' := [(8, .int (nI (51))), (3, .int (id_neg (f (49)))), (2, .int (id_mi (f (48)))), (6, .int (nI (4))), (9, .int (nI 8)), (7, .ref q), (1, .ref qk), (0, .ref h0)]) hx hb dX2_invertKey_301 hl (k := 1) rfl (id_inc (by omega)) (by decide) rfl (fun ls hl => ?_)
        refine va_iald hx hb hK hP 1 0 rfl rfl (vp_in_nI (by omega) (by omega)) dX2_invertKey_304 ?_
        refine id_is (y := (f) (50)) (by rw [nI_clamp (n := 50) (by omega)]) ?_
        refine vp_callSi (W.runV (As := [.int ((f) (50))]) (rest := []) ⟨hx, hb, hml, hown, hts⟩ (met_addInv l h0 ((f) (50))) (cwV 1 hts (lw_V q109 q110 q111 q12 q112) rfl rfl rfl (by decide +kernel) ⟨Nat.le_of_ble_eq_true rfl, Nat.le_of_ble_eq_true rfl⟩) ⟨fun _ _ _ _ q => q, va_recv hK hP (ci := 1) (q0 := 0) rfl rfl, fun U hU hW => ⟨rfl, trivial⟩⟩ rfl rfl hl.1 rfl (lv_room (Nat.le_of_ble_eq_true rfl)) dX2_invertKey_305 ⟨Nat.le_of_ble_eq_true rfl, Nat.le_of_ble_eq_true rfl⟩) (fun z ez => ?_)
        refine id_is (y := id_neg (f (50))) (ez) ?_
        refine lv_istore (lv' := [(4, .int (id_neg (f (50)))), (8, .int (nI (51))), (3, .int (id_neg (f (49)))), (2, .int (id_mi (f (48)))), (6, .int (nI (4))), (9, .int (nI 8)), (7, .ref q), (1, .ref qk), (0, .ref h0)]) hx hb dX2_invertKey_308 hl (by decide) rfl (fun ls hl => ?_)
        refine lv_aload_n hx hb dX2_invertKey_310 rfl (lv_at hl 8 rfl) ?_
        refine lv_aload_n hx hb dX2_invertKey_311 rfl (lv_at hl 7 rfl) ?_
        refine lv_iload hx hb dX2_invertKey_312 (lv_at hl 1 rfl) ?_
        refine va_iald hx hb hK hP 1 0 rfl rfl (vp_in_nI (by omega) (by omega)) dX2_invertKey_314 ?_
        refine id_is (y := (f) (51)) (by rw [nI_clamp (n := 51) (by omega)]) ?_
        obtain ⟨a315, ha315, ea315⟩ := hf (51) (by omega)
        refine id_is (y := nI a315) (ea315) ?_
        refine vp_callSi (W.runV (As := [.int (nI a315)]) (rest := []) ⟨hx, hb, hml, hown, hts⟩ (met_mulInv l h0 a315 ha315) (cwV 1 hts (lw_V q104 q106 qs5 q12 q107) rfl rfl rfl (by decide +kernel) ⟨Nat.le_of_ble_eq_true rfl, Nat.le_of_ble_eq_true rfl⟩) ⟨fun _ _ _ _ q => q, va_recv hK hP (ci := 1) (q0 := 0) rfl rfl, fun U hU hW => ⟨rfl, trivial⟩⟩ rfl rfl hl.1 rfl (lv_room (Nat.le_of_ble_eq_true rfl)) dX2_invertKey_315 ⟨Nat.le_of_ble_eq_true rfl, Nat.le_of_ble_eq_true rfl⟩) (fun z ez => ?_)
        refine id_is (y := id_mi (f (51))) (by rw [ez, ea315]) ?_
        refine lv_istore (lv' := [(5, .int (id_mi (f (51)))), (4, .int (id_neg (f (50)))), (8, .int (nI (51))), (3, .int (id_neg (f (49)))), (2, .int (id_mi (f (48)))), (6, .int (nI (4))), (9, .int (nI 8)), (7, .ref q), (1, .ref qk), (0, .ref h0)]) hx hb dX2_invertKey_318 hl (by decide) rfl (fun ls hl => ?_)
        refine lv_aload hx hb dX2_invertKey_320 (lv_at hl 7 rfl) ?_
        refine lv_iinc (v := nI (3)) (lv' := [(6, .int (nI (3))), (5, .int (id_mi (f (51)))), (4, .int (id_neg (f (50)))), (8, .int (nI (51))), (3, .int (id_neg (f (49)))), (2, .int (id_mi (f (48)))), (9, .int (nI 8)), (7, .ref q), (1, .ref qk), (0, .ref h0)]) hx hb dX2_invertKey_322 hl (k := 5) rfl (id_dec (by omega)) (by decide) rfl (fun ls hl => ?_)
        refine lv_iload hx hb dX2_invertKey_325 (lv_at hl 0 rfl) ?_
        refine lv_iload hx hb dX2_invertKey_327 (lv_at hl 1 rfl) ?_
        refine va_iast hx hb hK hP hD hS 2 1 rfl rfl (vp_in_nI (by omega) (by omega)) dX2_invertKey_329 (fun H locs hP hD hS => ?_)
        rw [nI_clamp (n := 3) (by omega)] at hP hD
        have hP : va_P (dC, dI) vwCl [(h0, .inr (1, [v0, v1])), (qk, .inl (cK, 52, .inl (f))), (q, .inl (cN, 52, .inl (upd (g272) (3) (id_mi (f (51))))))] H := hP
        have hD : va_D A [(h0, .inr (1, [v0, v1])), (qk, .inl (cK, 52, .inl (f))), (q, .inl (cN, 52, .inl (upd (g272) (3) (id_mi (f (51))))))] := hD
        have hg329 : ∀ k, 3 ≤ k → k < 52 → (upd (g272) (3) (id_mi (f (51)))) k = id_ik f k := id_down (p := 3) hg272 (id_ik_03 f (b := 0) (j := 3) (i := 51) (by decide) (by decide))
        generalize upd (g272) (3) (id_mi (f (51))) = g329 at hP hD hg329
        refine lv_aload hx hb dX2_invertKey_330 (lv_at hl 7 rfl) ?_
        refine lv_iinc (v := nI (2)) (lv' := [(6, .int (nI (2))), (5, .int (id_mi (f (51)))), (4, .int (id_neg (f (50)))), (8, .int (nI (51))), (3, .int (id_neg (f (49)))), (2, .int (id_mi (f (48)))), (9, .int (nI 8)), (7, .ref q), (1, .ref qk), (0, .ref h0)]) hx hb dX2_invertKey_332 hl (k := 0) rfl (id_dec (by omega)) (by decide) rfl (fun ls hl => ?_)
        refine lv_iload hx hb dX2_invertKey_335 (lv_at hl 0 rfl) ?_
        refine lv_iload hx hb dX2_invertKey_337 (lv_at hl 2 rfl) ?_
        refine va_iast hx hb hK hP hD hS 2 1 rfl rfl (vp_in_nI (by omega) (by omega)) dX2_invertKey_339 (fun H locs hP hD hS => ?_)
        rw [nI_clamp (n := 2) (by omega)] at hP hD
        have hP : va_P (dC, dI) vwCl [(h0, .inr (1, [v0, v1])), (qk, .inl (cK, 52, .inl (f))), (q, .inl (cN, 52, .inl (upd (g329) (2) (id_neg (f (50))))))] H := hP
        have hD : va_D A [(h0, .inr (1, [v0, v1])), (qk, .inl (cK, 52, .inl (f))), (q, .inl (cN, 52, .inl (upd (g329) (2) (id_neg (f (50))))))] := hD
        have hg339 : ∀ k, 2 ≤ k → k < 52 → (upd (g329) (2) (id_neg (f (50)))) k = id_ik f k := id_down (p := 2) hg329 (id_ik_12 f (b := 0) (j := 2) (i := 50) (by decide) (by decide) (by decide))
        generalize upd (g329) (2) (id_neg (f (50))) = g339 at hP hD hg339
        refine lv_aload hx hb dX2_invertKey_340 (lv_at hl 7 rfl) ?_
        refine lv_iinc (v := nI (1)) (lv' := [(6, .int (nI (1))), (5, .int (id_mi (f (51)))), (4, .int (id_neg (f (50)))), (8, .int (nI (51))), (3, .int (id_neg (f (49)))), (2, .int (id_mi (f (48)))), (9, .int (nI 8)), (7, .ref q), (1, .ref qk), (0, .ref h0)]) hx hb dX2_invertKey_342 hl (k := 0) rfl (id_dec (by omega)) (by decide) rfl (fun ls hl => ?_)
        refine lv_iload hx hb dX2_invertKey_345 (lv_at hl 0 rfl) ?_
        refine lv_iload_n hx hb dX2_invertKey_347 rfl (lv_at hl 4 rfl) ?_
        refine va_iast hx hb hK hP hD hS 2 1 rfl rfl (vp_in_nI (by omega) (by omega)) dX2_invertKey_348 (fun H locs hP hD hS => ?_)
        rw [nI_clamp (n := 1) (by omega)] at hP hD
        have hP : va_P (dC, dI) vwCl [(h0, .inr (1, [v0, v1])), (qk, .inl (cK, 52, .inl (f))), (q, .inl (cN, 52, .inl (upd (g339) (1) (id_neg (f (49))))))] H := hP
        have hD : va_D A [(h0, .inr (1, [v0, v1])), (qk, .inl (cK, 52, .inl (f))), (q, .inl (cN, 52, .inl (upd (g339) (1) (id_neg (f (49))))))] := hD
        have hg348 : ∀ k, 1 ≤ k → k < 52 → (upd (g339) (1) (id_neg (f (49)))) k = id_ik f k := id_down (p := 1) hg339 (id_ik_12 f (b := 0) (j := 1) (i := 49) (by decide) (by decide) (by decide))
        generalize upd (g339) (1) (id_neg (f (49))) = g348 at hP hD hg348
        refine lv_aload hx hb dX2_invertKey_349 (lv_at hl 7 rfl) ?_
        refine lv_iinc (v := nI (0)) (lv' := [(6, .int (nI (0))), (5, .int (id_mi (f (51)))), (4, .int (id_neg (f (50)))), (8, .int (nI (51))), (3, .int (id_neg (f (49)))), (2, .int (id_mi (f (48)))), (9, .int (nI 8)), (7, .ref q), (1, .ref qk), (0, .ref h0)]) hx hb dX2_invertKey_351 hl (k := 0) rfl (id_dec (by omega)) (by decide) rfl (fun ls hl => ?_)
        refine lv_iload hx hb dX2_invertKey_354 (lv_at hl 0 rfl) ?_
        refine lv_iload_n hx hb dX2_invertKey_356 rfl (lv_at hl 5 rfl) ?_
        refine va_iast hx hb hK hP hD hS 2 1 rfl rfl (vp_in_nI (by omega) (by omega)) dX2_invertKey_357 (fun H locs hP hD hS => ?_)
        rw [nI_clamp (n := 0) (by omega)] at hP hD
        have hP : va_P (dC, dI) vwCl [(h0, .inr (1, [v0, v1])), (qk, .inl (cK, 52, .inl (f))), (q, .inl (cN, 52, .inl (upd (g348) (0) (id_mi (f (48))))))] H := hP
        have hD : va_D A [(h0, .inr (1, [v0, v1])), (qk, .inl (cK, 52, .inl (f))), (q, .inl (cN, 52, .inl (upd (g348) (0) (id_mi (f (48))))))] := hD
        have hg357 : ∀ k, 0 ≤ k → k < 52 → (upd (g348) (0) (id_mi (f (48)))) k = id_ik f k := id_down (p := 0) hg348 (id_ik_03 f (b := 0) (j := 0) (i := 48) (by decide) (by decide))
        generalize upd (g348) (0) (id_mi (f (48))) = g357 at hP hD hg357
        refine lv_aload hx hb dX2_invertKey_358 (lv_at hl 7 rfl) ?_
        have hfin : ∀ k, k < 52 → g357 k = id_ik f k := fun k hk => hg357 k (Nat.zero_le _) hk
        have hP9 := hP.sub (ws' := [(h0, .inr (1, [v0, v1])), (qk, .inl (cK, 52, .inl (f))), (q, .inl (cN, 52, .inl (g357)))]) [0, 1, 2] rfl
        have hD9 := hD.sub (ws' := [(h0, .inr (1, [v0, v1])), (qk, .inl (cK, 52, .inl (f))), (q, .inl (cN, 52, .inl (g357)))]) [0, 1, 2] (by decide) rfl
        have hK9 := hK.sub (tys' := [(cK, .int), (cN, .int)]) [0, 1] rfl
        exact W.aret (v := .ref q) hx hb hr (Or.inr ⟨_, rfl⟩) (Or.inr ⟨_, rfl⟩) (fun t ht hW => ⟨⟨g357, q, rfl, hfin, cN, by rw [ht]; exact hP9, va_K.moved hW.alike hK9, hD9⟩, hS.F ht⟩) hS.2.2 dX2_invertKey_360
      · have hlt : r + 1 ≤ 8 := by rcases Nat.lt_or_ge r 8 with q | q; exact q; exact absurd (nI_le q (by omega)) c108
        obtain ⟨bb, rfl⟩ : ∃ bb, b = bb + 1 := ⟨b - 1, by omega⟩
        rw [show 6 * (bb + 1) + 6 = 6 * bb + 12 by omega] at hl hg
        refine lv_aload_n hx hb dX2_invertKey_111 rfl (lv_at hl 4 rfl) ?_
        refine lv_iload hx hb dX2_invertKey_112 (lv_at hl 1 rfl) ?_
        refine lv_iinc (v := nI (io + 1)) (lv' := [(8, .int (nI (io + 1))), (9, .int (nI r)), (6, .int (nI (6 * bb + 12))), (7, .ref q), (1, .ref qk), (0, .ref h0)]) hx hb dX2_invertKey_114 hl (k := 1) rfl (id_inc (by omega)) (by decide) rfl (fun ls hl => ?_)
        refine va_iald hx hb hK hP 1 0 rfl rfl (vp_in_nI (by omega) (by omega)) dX2_invertKey_117 ?_
        refine id_is (y := (f) (io)) (by rw [nI_clamp (n := io) (by omega)]) ?_
        refine lv_istore_n (lv' := [(2, .int ((f) (io))), (8, .int (nI (io + 1))), (9, .int (nI r)), (6, .int (nI (6 * bb + 12))), (7, .ref q), (1, .ref qk), (0, .ref h0)]) hx hb dX2_invertKey_118 rfl hl (by decide) rfl (fun ls hl => ?_)
        refine lv_aload_n hx hb dX2_invertKey_119 rfl (lv_at hl 5 rfl) ?_
        refine lv_iload hx hb dX2_invertKey_120 (lv_at hl 1 rfl) ?_
        refine lv_iinc (v := nI (io + 2)) (lv' := [(8, .int (nI (io + 2))), (2, .int ((f) (io))), (9, .int (nI r)), (6, .int (nI (6 * bb + 12))), (7, .ref q), (1, .ref qk), (0, .ref h0)]) hx hb dX2_invertKey_122 hl (k := 1) rfl (id_inc (by omega)) (by decide) rfl (fun ls hl => ?_)
        refine va_iald hx hb hK hP 1 0 rfl rfl (vp_in_nI (by omega) (by omega)) dX2_invertKey_125 ?_
        refine id_is (y := (f) (io + 1)) (by rw [nI_clamp (n := io + 1) (by omega)]) ?_
        refine lv_istore_n (lv' := [(3, .int ((f) (io + 1))), (8, .int (nI (io + 2))), (2, .int ((f) (io))), (9, .int (nI r)), (6, .int (nI (6 * bb + 12))), (7, .ref q), (1, .ref qk), (0, .ref h0)]) hx hb dX2_invertKey_126 rfl hl (by decide) rfl (fun ls hl => ?_)
        refine lv_aload hx hb dX2_invertKey_127 (lv_at hl 5 rfl) ?_
        refine lv_iinc (v := nI (6 * bb + 11)) (lv' := [(6, .int (nI (6 * bb + 11))), (3, .int ((f) (io + 1))), (8, .int (nI (io + 2))), (2, .int ((f) (io))), (9, .int (nI r)), (7, .ref q), (1, .ref qk), (0, .ref h0)]) hx hb dX2_invertKey_129 hl (k := 4) rfl (id_dec (by omega)) (by decide) rfl (fun ls hl => ?_)
        refine lv_iload hx hb dX2_invertKey_132 (lv_at hl 0 rfl) ?_
        refine lv_iload_n hx hb dX2_invertKey_134 rfl (lv_at hl 1 rfl) ?_
        refine va_iast hx hb hK hP hD hS 2 1 rfl rfl (vp_in_nI (by omega) (by omega)) dX2_invertKey_135 (fun H locs hP hD hS => ?_)
        rw [nI_clamp (n := 6 * bb + 11) (by omega)] at hP hD
        have hP : va_P (dC, dI) vwCl [(h0, .inr (1, [v0, v1])), (qk, .inl (cK, 52, .inl (f))), (q, .inl (cN, 52, .inl (upd (g) (6 * bb + 11) ((f) (io + 1)))))] H := hP
        have hD : va_D A [(h0, .inr (1, [v0, v1])), (qk, .inl (cK, 52, .inl (f))), (q, .inl (cN, 52, .inl (upd (g) (6 * bb + 11) ((f) (io + 1)))))] := hD
        have hg135 : ∀ k, 6 * bb + 11 ≤ k → k < 52 → (upd (g) (6 * bb + 11) ((f) (io + 1))) k = id_ik f k := id_down (p := 6 * bb + 11) hg (by rw [show 6 * bb + 11 = 6 * (bb + 1) + 5 by omega]; exact id_ik_45 f (b := bb + 1) (j := 5) (i := io + 1) (by decide) (by omega))
        generalize upd (g) (6 * bb + 11) ((f) (io + 1)) = g135 at hP hD hg135
        refine lv_aload hx hb dX2_invertKey_136 (lv_at hl 5 rfl) ?_
        refine lv_iinc (v := nI (6 * bb + 10)) (lv' := [(6, .int (nI (6 * bb + 10))), (3, .int ((f) (io + 1))), (8, .int (nI (io + 2))), (2, .int ((f) (io))), (9, .int (nI r)), (7, .ref q), (1, .ref qk), (0, .ref h0)]) hx hb dX2_invertKey_138 hl (k := 0) rfl (id_dec (by omega)) (by decide) rfl (fun ls hl => ?_)
        refine lv_iload hx hb dX2_invertKey_141 (lv_at hl 0 rfl) ?_
        refine lv_iload_n hx hb dX2_invertKey_143 rfl (lv_at hl 3 rfl) ?_
        refine va_iast hx hb hK hP hD hS 2 1 rfl rfl (vp_in_nI (by omega) (by omega)) dX2_invertKey_144 (fun H locs hP hD hS => ?_)
        rw [nI_clamp (n := 6 * bb + 10) (by omega)] at hP hD
        have hP : va_P (dC, dI) vwCl [(h0, .inr (1, [v0, v1])), (qk, .inl (cK, 52, .inl (f))), (q, .inl (cN, 52, .inl (upd (g135) (6 * bb + 10) ((f) (io)))))] H := hP
        have hD : va_D A [(h0, .inr (1, [v0, v1])), (qk, .inl (cK, 52, .inl (f))), (q, .inl (cN, 52, .inl (upd (g135) (6 * bb + 10) ((f) (io)))))] := hD
        have hg144 : ∀ k, 6 * bb + 10 ≤ k → k < 52 → (upd (g135) (6 * bb + 10) ((f) (io))) k = id_ik f k := id_down (p := 6 * bb + 10) hg135 (by rw [show 6 * bb + 10 = 6 * (bb + 1) + 4 by omega]; exact id_ik_45 f (b := bb + 1) (j := 4) (i := io) (by decide) (by omega))
        generalize upd (g135) (6 * bb + 10) ((f) (io)) = g144 at hP hD hg144
        refine lv_aload_n hx hb dX2_invertKey_145 rfl (lv_at hl 7 rfl) ?_
        refine lv_aload_n hx hb dX2_invertKey_146 rfl (lv_at hl 6 rfl) ?_
        refine lv_iload hx hb dX2_invertKey_147 (lv_at hl 2 rfl) ?_
        refine lv_iinc (v := nI (io + 3)) (lv' := [(8, .int (nI (io + 3))), (6, .int (nI (6 * bb + 10))), (3, .int ((f) (io + 1))), (2, .int ((f) (io))), (9, .int (nI r)), (7, .ref q), (1, .ref qk), (0, .ref h0)]) hx hb dX2_invertKey_149 hl (k := 2) rfl (id_inc (by omega)) (by decide) rfl (fun ls hl => ?_)
        refine va_iald hx hb hK hP 1 0 rfl rfl (vp_in_nI (by omega) (by omega)) dX2_invertKey_152 ?_
        refine id_is (y := (f) (io + 2)) (by rw [nI_clamp (n := io + 2) (by omega)]) ?_
        obtain ⟨a153, ha153, ea153⟩ := hf (io + 2) (by omega)
        refine id_is (y := nI a153) (ea153) ?_
        refine vp_callSi (W.runV (As := [.int (nI a153)]) (rest := []) ⟨hx, hb, hml, hown, hts⟩ (met_mulInv l h0 a153 ha153) (cwV 1 hts (lw_V q104 q106 qs5 q12 q107) rfl rfl rfl (by decide +kernel) ⟨Nat.le_of_ble_eq_true rfl, Nat.le_of_ble_eq_true rfl⟩) ⟨fun _ _ _ _ q => q, va_recv hK hP (ci := 1) (q0 := 0) rfl rfl, fun U hU hW => ⟨rfl, trivial⟩⟩ rfl rfl hl.1 rfl (lv_room (Nat.le_of_ble_eq_true rfl)) dX2_invertKey_153 ⟨Nat.le_of_ble_eq_true rfl, Nat.le_of_ble_eq_true rfl⟩) (fun z ez => ?_)
        refine id_is (y := id_mi (f (io + 2))) (by rw [ez, ea153]) ?_
        refine lv_istore_n (lv' := [(2, .int (id_mi (f (io + 2)))), (8, .int (nI (io + 3))), (6, .int (nI (6 * bb + 10))), (3, .int ((f) (io + 1))), (9, .int (nI r)), (7, .ref q), (1, .ref qk), (0, .ref h0)]) hx hb dX2_invertKey_156 rfl hl (by decide) rfl (fun ls hl => ?_)
        refine lv_aload_n hx hb dX2_invertKey_157 rfl (lv_at hl 7 rfl) ?_
        refine lv_aload_n hx hb dX2_invertKey_158 rfl (lv_at hl 6 rfl) ?_
        refine lv_iload hx hb dX2_invertKey_159 (lv_at hl 1 rfl) ?_
        refine lv_iinc (v := nI (io + 4)) (lv' := [(8, .int (nI (io + 4))), (2, .int (id_mi (f (io + 2)))), (6, .int (nI (6 * bb + 10))), (3, .int ((f) (io + 1))), (9, .int (nI r)), (7, .ref q), (1, .ref qk), (0, .ref h0)]) hx hb dX2_invertKey_161 hl (k := 1) rfl (id_inc (by omega)) (by decide) rfl (fun ls hl => ?_)
        refine va_iald hx hb hK hP 1 0 rfl rfl (vp_in_nI (by omega) (by omega)) dX2_invertKey_164 ?_
        refine id_is (y := (f) (io + 3)) (by rw [nI_clamp (n := io + 3) (by omega)]) ?_
        refine vp_callSi (W.runV (As := [.int ((f) (io + 3))]) (rest := []) ⟨hx, hb, hml, hown, hts⟩ (met_addInv l h0 ((f) (io + 3))) (cwV 1 hts (lw_V q109 q110 q111 q12 q112) rfl rfl rfl (by decide +kernel) ⟨Nat.le_of_ble_eq_true rfl, Nat.le_of_ble_eq_true rfl⟩) ⟨fun _ _ _ _ q => q, va_recv hK hP (ci := 1) (q0 := 0) rfl rfl, fun U hU hW => ⟨rfl, trivial⟩⟩ rfl rfl hl.1 rfl (lv_room (Nat.le_of_ble_eq_true rfl)) dX2_invertKey_165 ⟨Nat.le_of_ble_eq_true rfl, Nat.le_of_ble_eq_true rfl⟩) (fun z ez => ?_)
        refine id_is (y := id_neg (f (io + 3))) (ez) ?_
        refine lv_istore_n (lv' := [(3, .int (id_neg (f (io + 3)))), (8, .int (nI (io + 4))), (2, .int (id_mi (f (io + 2)))), (6, .int (nI (6 * bb + 10))), (9, .int (nI r)), (7, .ref q), (1, .ref qk), (0, .ref h0)]) hx hb dX2_invertKey_168 rfl hl (by decide) rfl (fun ls hl => ?_)
        refine lv_aload_n hx hb dX2_invertKey_169 rfl (lv_at hl 7 rfl) ?_
        refine lv_aload_n hx hb dX2_invertKey_170 rfl (lv_at hl 6 rfl) ?_
        refine lv_iload hx hb dX2_invertKey_171 (lv_at hl 1 rfl) ?_
        refine lv_iinc (v := nI (io + 5)) (lv' := [(8, .int (nI (io + 5))), (3, .int (id_neg (f (io + 3)))), (2, .int (id_mi (f (io + 2)))), (6, .int (nI (6 * bb + 10))), (9, .int (nI r)), (7, .ref q), (1, .ref qk), (0, .ref h0)]) hx hb dX2_invertKey_173 hl (k := 1) rfl (id_inc (by omega)) (by decide) rfl (fun ls hl => ?_)
        refine va_iald hx hb hK hP 1 0 rfl rfl (vp_in_nI (by omega) (by omega)) dX2_invertKey_176 ?_
        refine id_is (y := (f) (io + 4)) (by rw [nI_clamp (n := io + 4) (by omega)]) ?_
        refine vp_callSi (W.runV (As := [.int ((f) (io + 4))]) (rest := []) ⟨hx, hb, hml, hown, hts⟩ (met_addInv l h0 ((f) (io + 4))) (cwV 1 hts (lw_V q109 q110 q111 q12 q112) rfl rfl rfl (by decide +kernel) ⟨Nat.le_of_ble_eq_true rfl, Nat.le_of_ble_eq_true rfl⟩) ⟨fun _ _ _ _ q => q, va_recv hK hP (ci := 1) (q0 := 0) rfl rfl, fun U hU hW => ⟨rfl, trivial⟩⟩ rfl rfl hl.1 rfl (lv_room (Nat.le_of_ble_eq_true rfl)) dX2_invertKey_177 ⟨Nat.le_of_ble_eq_true rfl, Nat.le_of_ble_eq_true rfl⟩) (fun z ez => ?_)
        refine id_is (y := id_neg (f (io + 4))) (ez) ?_
        refine lv_istore (lv' := [(4, .int (id_neg (f (io + 4)))), (8, .int (nI (io + 5))), (3, .int (id_neg (f (io + 3)))), (2, .int (id_mi (f (io + 2)))), (6, .int (nI (6 * bb + 10))), (9, .int (nI r)), (7, .ref q), (1, .ref qk), (0, .ref h0)]) hx hb dX2_invertKey_180 hl (by decide) rfl (fun ls hl => ?_)
        refine lv_aload_n hx hb dX2_invertKey_182 rfl (lv_at hl 8 rfl) ?_
        refine lv_aload_n hx hb dX2_invertKey_183 rfl (lv_at hl 7 rfl) ?_
        refine lv_iload hx hb dX2_invertKey_184 (lv_at hl 1 rfl) ?_
        refine lv_iinc (v := nI (io + 6)) (lv' := [(8, .int (nI (io + 6))), (4, .int (id_neg (f (io + 4)))), (3, .int (id_neg (f (io + 3)))), (2, .int (id_mi (f (io + 2)))), (6, .int (nI (6 * bb + 10))), (9, .int (nI r)), (7, .ref q), (1, .ref qk), (0, .ref h0)]) hx hb dX2_invertKey_186 hl (k := 1) rfl (id_inc (by omega)) (by decide) rfl (fun ls hl => ?_)
        refine va_iald hx hb hK hP 1 0 rfl rfl (vp_in_nI (by omega) (by omega)) dX2_invertKey_189 ?_
        refine id_is (y := (f) (io + 5)) (by rw [nI_clamp (n := io + 5) (by omega)]) ?_
        obtain ⟨a190, ha190, ea190⟩ := hf (io + 5) (by omega)
        refine id_is (y := nI a190) (ea190) ?_
        refine vp_callSi (W.runV (As := [.int (nI a190)]) (rest := []) ⟨hx, hb, hml, hown, hts⟩ (met_mulInv l h0 a190 ha190) (cwV 1 hts (lw_V q104 q106 qs5 q12 q107) rfl rfl rfl (by decide +kernel) ⟨Nat.le_of_ble_eq_true rfl, Nat.le_of_ble_eq_true rfl⟩) ⟨fun _ _ _ _ q => q, va_recv hK hP (ci := 1) (q0 := 0) rfl rfl, fun U hU hW => ⟨rfl, trivial⟩⟩ rfl rfl hl.1 rfl (lv_room (Nat.le_of_ble_eq_true rfl)) dX2_invertKey_190 ⟨Nat.le_of_ble_eq_true rfl, Nat.le_of_ble_eq_true rfl⟩) (fun z ez => ?_)
        refine id_is (y := id_mi (f (io + 5))) (by rw [ez, ea190]) ?_
        refine lv_istore (lv' := [(5, .int (id_mi (f (io + 5)))), (8, .int (nI (io + 6))), (4, .int (id_neg (f (io + 4)))), (3, .int (id_neg (f (io + 3)))), (2, .int (id_mi (f (io + 2)))), (6, .int (nI (6 * bb + 10))), (9, .int (nI r)), (7, .ref q), (1, .ref qk), (0, .ref h0)]) hx hb dX2_invertKey_193 hl (by decide) rfl (fun ls hl => ?_)
        refine lv_aload hx hb dX2_invertKey_195 (lv_at hl 7 rfl) ?_
        refine lv_iinc (v := nI (6 * bb + 9)) (lv' := [(6, .int (nI (6 * bb + 9))), (5, .int (id_mi (f (io + 5)))), (8, .int (nI (io + 6))), (4, .int (id_neg (f (io + 4)))), (3, .int (id_neg (f (io + 3)))), (2, .int (id_mi (f (io + 2)))), (9, .int (nI r)), (7, .ref q), (1, .ref qk), (0, .ref h0)]) hx hb dX2_invertKey_197 hl (k := 5) rfl (id_dec (by omega)) (by decide) rfl (fun ls hl => ?_)
        refine lv_iload hx hb dX2_invertKey_200 (lv_at hl 0 rfl) ?_
        refine lv_iload hx hb dX2_invertKey_202 (lv_at hl 1 rfl) ?_
        refine va_iast hx hb hK hP hD hS 2 1 rfl rfl (vp_in_nI (by omega) (by omega)) dX2_invertKey_204 (fun H locs hP hD hS => ?_)
        rw [nI_clamp (n := 6 * bb + 9) (by omega)] at hP hD
        have hP : va_P (dC, dI) vwCl [(h0, .inr (1, [v0, v1])), (qk, .inl (cK, 52, .inl (f))), (q, .inl (cN, 52, .inl (upd (g144) (6 * bb + 9) (id_mi (f (io + 5))))))] H := hP
        have hD : va_D A [(h0, .inr (1, [v0, v1])), (qk, .inl (cK, 52, .inl (f))), (q, .inl (cN, 52, .inl (upd (g144) (6 * bb + 9) (id_mi (f (io + 5))))))] := hD
        have hg204 : ∀ k, 6 * bb + 9 ≤ k → k < 52 → (upd (g144) (6 * bb + 9) (id_mi (f (io + 5)))) k = id_ik f k := id_down (p := 6 * bb + 9) hg144 (by rw [show 6 * bb + 9 = 6 * (bb + 1) + 3 by omega]; exact id_ik_03 f (b := bb + 1) (j := 3) (i := io + 5) (by decide) (by omega))
        generalize upd (g144) (6 * bb + 9) (id_mi (f (io + 5))) = g204 at hP hD hg204
        refine lv_aload hx hb dX2_invertKey_205 (lv_at hl 7 rfl) ?_
        refine lv_iinc (v := nI (6 * bb + 8)) (lv' := [(6, .int (nI (6 * bb + 8))), (5, .int (id_mi (f (io + 5)))), (8, .int (nI (io + 6))), (4, .int (id_neg (f (io + 4)))), (3, .int (id_neg (f (io + 3)))), (2, .int (id_mi (f (io + 2)))), (9, .int (nI r)), (7, .ref q), (1, .ref qk), (0, .ref h0)]) hx hb dX2_invertKey_207 hl (k := 0) rfl (id_dec (by omega)) (by decide) rfl (fun ls hl => ?_)
        refine lv_iload hx hb dX2_invertKey_210 (lv_at hl 0 rfl) ?_
        refine lv_iload_n hx hb dX2_invertKey_212 rfl (lv_at hl 4 rfl) ?_
        refine va_iast hx hb hK hP hD hS 2 1 rfl rfl (vp_in_nI (by omega) (by omega)) dX2_invertKey_213 (fun H locs hP hD hS => ?_)
        rw [nI_clamp (n := 6 * bb + 8) (by omega)] at hP hD
        have hP : va_P (dC, dI) vwCl [(h0, .inr (1, [v0, v1])), (qk, .inl (cK, 52, .inl (f))), (q, .inl (cN, 52, .inl (upd (g204) (6 * bb + 8) (id_neg (f (io + 3))))))] H := hP
        have hD : va_D A [(h0, .inr (1, [v0, v1])), (qk, .inl (cK, 52, .inl (f))), (q, .inl (cN, 52, .inl (upd (g204) (6 * bb + 8) (id_neg (f (io + 3))))))] := hD
        have hg213 : ∀ k, 6 * bb + 8 ≤ k → k < 52 → (upd (g204) (6 * bb + 8) (id_neg (f (io + 3)))) k = id_ik f k := id_down (p := 6 * bb + 8) hg204 (by rw [show 6 * bb + 8 = 6 * (bb + 1) + 2 by omega]; exact id_ik_21 f (b := bb + 1) (j := 2) (i := io + 3) (by decide) (by omega) (by omega))
        generalize upd (g204) (6 * bb + 8) (id_neg (f (io + 3))) = g213 at hP hD hg213
        refine lv_aload hx hb dX2_invertKey_214 (lv_at hl 7 rfl) ?_
        refine lv_iinc (v := nI (6 * bb + 7)) (lv' := [(6, .int (nI (6 * bb + 7))), (5, .int (id_mi (f (io + 5)))), (8, .int (nI (io + 6))), (4, .int (id_neg (f (io + 4)))), (3, .int (id_neg (f (io + 3)))), (2, .int (id_mi (f (io + 2)))), (9, .int (nI r)), (7, .ref q), (1, .ref qk), (0, .ref h0)]) hx hb dX2_invertKey_216 hl (k := 0) rfl (id_dec (by omega)) (by decide) rfl (fun ls hl => ?_)
        refine lv_iload hx hb dX2_invertKey_219 (lv_at hl 0 rfl) ?_
        refine lv_iload hx hb dX2_invertKey_221 (lv_at hl 3 rfl) ?_
        refine va_iast hx hb hK hP hD hS 2 1 rfl rfl (vp_in_nI (by omega) (by omega)) dX2_invertKey_223 (fun H locs hP hD hS => ?_)
        rw [nI_clamp (n := 6 * bb + 7) (by omega)] at hP hD
        have hP : va_P (dC, dI) vwCl [(h0, .inr (1, [v0, v1])), (qk, .inl (cK, 52, .inl (f))), (q, .inl (cN, 52, .inl (upd (g213) (6 * bb + 7) (id_neg (f (io + 4))))))] H := hP
        have hD : va_D A [(h0, .inr (1, [v0, v1])), (qk, .inl (cK, 52, .inl (f))), (q, .inl (cN, 52, .inl (upd (g213) (6 * bb + 7) (id_neg (f (io + 4))))))] := hD
        have hg223 : ∀ k, 6 * bb + 7 ≤ k → k < 52 → (upd (g213) (6 * bb + 7) (id_neg (f (io + 4)))) k = id_ik f k := id_down (p := 6 * bb + 7) hg213 (by rw [show 6 * bb + 7 = 6 * (bb + 1) + 1 by omega]; exact id_ik_21 f (b := bb + 1) (j := 1) (i := io + 4) (by decide) (by omega) (by omega))
        generalize upd (g213) (6 * bb + 7) (id_neg (f (io + 4))) = g223 at hP hD hg223
        refine lv_aload hx hb dX2_invertKey_224 (lv_at hl 7 rfl) ?_
        refine lv_iinc (v := nI (6 * bb + 6)) (lv' := [(6, .int (nI (6 * bb + 6))), (5, .int (id_mi (f (io + 5)))), (8, .int (nI (io + 6))), (4, .int (id_neg (f (io + 4)))), (3, .int (id_neg (f (io + 3)))), (2, .int (id_mi (f (io + 2)))), (9, .int (nI r)), (7, .ref q), (1, .ref qk), (0, .ref h0)]) hx hb dX2_invertKey_226 hl (k := 0) rfl (id_dec (by omega)) (by decide) rfl (fun ls hl => ?_)
        refine lv_iload hx hb dX2_invertKey_229 (lv_at hl 0 rfl) ?_
        refine lv_iload_n hx hb dX2_invertKey_231 rfl (lv_at hl 5 rfl) ?_
        refine va_iast hx hb hK hP hD hS 2 1 rfl rfl (vp_in_nI (by omega) (by omega)) dX2_invertKey_232 (fun H locs hP hD hS => ?_)
        rw [nI_clamp (n := 6 * bb + 6) (by omega)] at hP hD
        have hP : va_P (dC, dI) vwCl [(h0, .inr (1, [v0, v1])), (qk, .inl (cK, 52, .inl (f))), (q, .inl (cN, 52, .inl (upd (g223) (6 * bb + 6) (id_mi (f (io + 2))))))] H := hP
        have hD : va_D A [(h0, .inr (1, [v0, v1])), (qk, .inl (cK, 52, .inl (f))), (q, .inl (cN, 52, .inl (upd (g223) (6 * bb + 6) (id_mi (f (io + 2))))))] := hD
        have hg232 : ∀ k, 6 * bb + 6 ≤ k → k < 52 → (upd (g223) (6 * bb + 6) (id_mi (f (io + 2)))) k = id_ik f k := id_down (p := 6 * bb + 6) hg223 (by rw [show 6 * bb + 6 = 6 * (bb + 1) + 0 by omega]; exact id_ik_03 f (b := bb + 1) (j := 0) (i := io + 2) (by decide) (by omega))
        generalize upd (g223) (6 * bb + 6) (id_mi (f (io + 2))) = g232 at hP hD hg232
        refine lv_iinc (v := nI (r + 1)) (lv' := [(9, .int (nI (r + 1))), (6, .int (nI (6 * bb + 6))), (5, .int (id_mi (f (io + 5)))), (8, .int (nI (io + 6))), (4, .int (id_neg (f (io + 4)))), (3, .int (id_neg (f (io + 3)))), (2, .int (id_mi (f (io + 2)))), (7, .ref q), (1, .ref qk), (0, .ref h0)]) hx hb dX2_invertKey_233 hl (k := 6) rfl (id_inc (by omega)) (by decide) rfl (fun ls hl => ?_)
        refine lv_goto (tgt := 104) hx hb dX2_invertKey_236 (by decide) ?_
        exact ih (r + 1) bb (io + 6) (by omega) hlt (by omega) (by omega) (by omega) g232 H locs hg232 hP hD hS ls (lv_sub hl [0, 3, 1, 7, 8, 9] rfl)
  exact key 8 1 7 4 (by decide) (by decide) (by decide) (by decide) (by decide) g100 H locs hg100 hP hD hS ls (lv_sub hl [0, 3, 1, 7, 9, 8] rfl)
end
section
/-! the engine: its face; KeyParameter -/
set_option maxRecDepth 100000
set_option maxHeartbeats 4000000 in
set_option maxRecDepth 100000 in
/-- generateWorkingKey(b, key): a new table -/
theorem met_gwk (l : Launch) (dC : Nat → ClassId) (dI : Nat → Nat → Nat) (h0 qu sz : Nat) (cU : ClassId) (v0 v1 : Value) (b : Int32) (f : Nat → Int32) : Met l yX2_generateWorkingKey (ws_ yX2_generateWorkingKey cX2_generateWorkingKey 3 (some (.array .int))) ({ frames := 2, cells := 2, slots := 104, locals := 54 }) (va_Pc [.ref h0, .int b, .ref qu] (fun U => U.heap.size = sz ∧ va_P (dC, dI) vwCl [(h0, .inr (1, [v0, v1])), (qu, .inl (cU, 16, .inl (f)))] U.heap ∧ va_K (dC, dI) vwCl [(cU, .byte)] U ∧ va_D (fun _ => True) [(h0, .inr (1, [v0, v1])), (qu, .inl (cU, 16, .inl (f)))])) (va_Qr (fun u : Nat → Int32 => ∀ k, k < 52 → u k = id_gk b f k) (fun (u : Nat → Int32) (ra : Nat) (t : State) => ∃ cN : ClassId, va_P (dC, dI) vwCl [(h0, .inr (1, [v0, v1])), (qu, .inl (cU, 16, .inl (f))), (ra, .inl (cN, 52, .inl (u)))] t.heap ∧ va_K (dC, dI) vwCl [(cU, .byte), (cN, .int)] t ∧ va_D (va_A [(h0, .inr (1, [v0, v1])), (qu, .inl (cU, 16, .inl (f)))] sz) [(h0, .inr (1, [v0, v1])), (qu, .inl (cU, 16, .inl (f))), (ra, .inl (cN, 52, .inl (u)))]) (va_A [(h0, .inr (1, [v0, v1])), (qu, .inl (cU, 16, .inl (f)))] sz)) 2 104 (va_A [(h0, .inr (1, [v0, v1])), (qu, .inl (cU, 16, .inl (f)))] sz) := by
  refine Met.ofW (cc := cX2_generateWorkingKey) (maxL := 3) (ret := (some (.array .int))) (by decide) rfl ?_
  intro p e s m args below meth c s₁ B hml hv
  obtain ⟨rfl, hsz, hP, hK, hD0⟩ := hv
  have hx := B.exec
  have hb := B.bytes
  have hr := B.returns
  have hts := atoms_spec (ws := (ws_ yX2_generateWorkingKey cX2_generateWorkingKey 3 (some (.array .int)))) B.pre
  have hts : ∀ w ∈ lw_all, w.before _ s = true := fun w h => hts w (List.mem_cons_of_mem _ h)
  have hown : s.vm.findClass RX2 = some m.cls := findClass_of_methodNamed B.named
  have hlocks := B.notSynchronized
  subst hsz
  have hD := hD0.self (sz := s.heap.size)
  generalize hAe : va_A [(h0, .inr (1, [v0, v1])), (qu, .inl (cU, 16, .inl (f)))] s.heap.size = A at hD ⊢
  have hA : ∀ q : Nat, s.heap.size ≤ q → A q := fun q h => by rw [← hAe]; exact Or.inr h
  have hS : va_S A s.heap s.heap [] := va_S.rf
  have hP : va_P (dC, dI) vwCl [(h0, .inr (1, [v0, v1])), (qu, .inl (cU, 16, .inl (f)))] s.heap := hP
  have hl := lv_entry ([.ref h0, .int b, .ref qu]) (n := 3) (Nat.le_of_ble_eq_true rfl)
  rw [lg_entry_eq]
  generalize (lg_sl ([.ref h0, .int b, .ref qu]) ++ List.replicate (3 - (lg_sl ([.ref h0, .int b, .ref qu])).length) Slot.unset).toArray = ls at hl ⊢
  have hl : lv_has ls 3 [(0, .ref h0), (1, .int b), (2, .ref qu)] := hl
  refine lv_iload_n hx hb dX2_generateWorkingKey_0 rfl (lv_at hl 1 rfl) ?_
  refine lv_if_eq (tgt := 10) hx hb dX2_generateWorkingKey_1 (by decide) (fun c1 => ?_) (fun c1 => ?_)
  · refine lv_aload_n hx hb dX2_generateWorkingKey_10 rfl (lv_at hl 0 rfl) ?_
    refine lv_aload_n hx hb dX2_generateWorkingKey_11 rfl (lv_at hl 0 rfl) ?_
    refine lv_aload_n hx hb dX2_generateWorkingKey_12 rfl (lv_at hl 2 rfl) ?_
    have hPc := hP.sub (ws' := [(h0, .inr (1, [v0, v1])), (qu, .inl (cU, 16, .inl (f)))]) [0, 1] rfl
    have hDc := hD.sub (ws' := [(h0, .inr (1, [v0, v1])), (qu, .inl (cU, 16, .inl (f)))]) [0, 1] (by decide) rfl
    have hKc := hK.sub (tys' := [(cU, .byte)]) [0] rfl
    have hFc := va_free (wc := [(h0, .inr (1, [v0, v1])), (qu, .inl (cU, 16, .inl (f)))]) hD hS hA [0, 1] rfl
    refine va_callr (va_runV (As := [.ref qu]) (rest := [.ref h0]) ⟨hx, hb, hml, hown, hts⟩ (met_expandKey l dC dI h0 qu s.heap.size cU v0 v1 f) (cwV 1 hts (lw_V q89 q91 qs2 q12 q92) rfl rfl rfl (by decide +kernel) ⟨Nat.le_of_ble_eq_true rfl, Nat.le_of_ble_eq_true rfl⟩) ⟨fun a U g mk q => by obtain ⟨q0, q1, qP, qK, qD⟩ := q; exact ⟨q0, q1, qP, va_K.moved (u := U) (U := U.calling g mk a) (Vm.Alike.refl U.vm) qK, qD⟩, va_recv hKc hPc (ci := 1) (q0 := 0) rfl rfl, fun U hU hW => ⟨rfl, by rw [hU], by rw [hU]; exact hPc, va_K.moved hW.alike hKc, hDc.weaken (fun _ _ _ _ => trivial)⟩⟩ rfl rfl hl.1 rfl (lv_room (Nat.le_of_ble_eq_true rfl)) dX2_generateWorkingKey_13 ⟨Nat.le_of_ble_eq_true rfl, Nat.le_of_ble_eq_true rfl⟩) hS (fun q _ h => hFc q h) hFc (fun u q1 t H1 locs ht hvm hw hB hz1 hk1 hS => ?_)
    obtain ⟨u1, rfl⟩ : ∃ z, z = u := ⟨_, rfl⟩
    have hw_u1 := hw
    obtain ⟨cN, hP1, hK1, hD1⟩ := hB
    rw [ht] at hP1
    have hK1 := va_K.moved hvm.symm hK1
    obtain ⟨hP, hD⟩ := va_join (wr := []) (w1 := [(h0, .inr (1, [v0, v1])), (qu, .inl (cU, 16, .inl (f))), (q1, .inl (cN, 52, .inl (u1)))]) hP hD [0, 1] [] rfl rfl (by decide) (by decide) hk1 hFc hP1 hD1
    have hK := (hK.sub (tys' := []) [] rfl).app hK1
    generalize H1 = H at hP hS ⊢
    have hP : va_P (dC, dI) vwCl [(h0, .inr (1, [v0, v1])), (qu, .inl (cU, 16, .inl (f))), (q1, .inl (cN, 52, .inl (u1)))] H := hP
    have hD : va_D A [(h0, .inr (1, [v0, v1])), (qu, .inl (cU, 16, .inl (f))), (q1, .inl (cN, 52, .inl (u1)))] := hD
    have hK : va_K (dC, dI) vwCl [(cU, .byte), (cN, .int)] s := hK
    refine W.widen (k := 1) (n := 52) (Nat.le_of_ble_eq_true rfl) (Nat.le_of_ble_eq_true rfl) ?_
    have hPc := hP.sub (ws' := [(h0, .inr (1, [v0, v1])), (q1, .inl (cN, 52, .inl (u1)))]) [0, 2] rfl
    have hDc := hD.sub (ws' := [(h0, .inr (1, [v0, v1])), (q1, .inl (cN, 52, .inl (u1)))]) [0, 2] (by decide) rfl
    have hKc := hK.sub (tys' := [(cN, .int)]) [1] rfl
    have hFc := va_free (wc := [(h0, .inr (1, [v0, v1])), (q1, .inl (cN, 52, .inl (u1)))]) hD hS hA [0, 2] rfl
    refine va_callr (va_runV (As := [.ref q1]) (rest := []) ⟨hx, hb, hml, hown, hts⟩ (met_invertKey l dC dI h0 q1 H.size cN v0 v1 u1 (fun k hk => by rw [hw_u1 k hk]; exact id_ek16 f k)) (cwV 1 hts (lw_V q100 q102 qs4 q12 q103) rfl rfl rfl (by decide +kernel) ⟨Nat.le_of_ble_eq_true rfl, Nat.le_of_ble_eq_true rfl⟩) ⟨fun a U g mk q => by obtain ⟨q0, q1, qP, qK, qD⟩ := q; exact ⟨q0, q1, qP, va_K.moved (u := U) (U := U.calling g mk a) (Vm.Alike.refl U.vm) qK, qD⟩, va_recv hKc hPc (ci := 1) (q0 := 0) rfl rfl, fun U hU hW => ⟨rfl, by rw [hU], by rw [hU]; exact hPc, va_K.moved hW.alike hKc, hDc.weaken (fun _ _ _ _ => trivial)⟩⟩ rfl rfl hl.1 rfl (lv_room (Nat.le_of_ble_eq_true rfl)) dX2_generateWorkingKey_16 ⟨Nat.le_of_ble_eq_true rfl, Nat.le_of_ble_eq_true rfl⟩) hS (fun q _ h => hFc q h) hFc (fun u q2 t H1 locs ht hvm hw hB hz1 hk1 hS => ?_)
    obtain ⟨u2, rfl⟩ : ∃ z, z = u := ⟨_, rfl⟩
    have hw_u2 := hw
    obtain ⟨cN2, hP1, hK1, hD1⟩ := hB
    rw [ht] at hP1
    have hK1 := va_K.moved hvm.symm hK1
    obtain ⟨hP, hD⟩ := va_join (wr := [(qu, .inl (cU, 16, .inl (f)))]) (w1 := [(h0, .inr (1, [v0, v1])), (q1, .inl (cN, 52, .inl (u1))), (q2, .inl (cN2, 52, .inl (u2)))]) hP hD [0, 2] [1] rfl rfl (by decide) (by decide) hk1 hFc hP1 hD1
    have hK := (hK.sub (tys' := [(cU, .byte)]) [0] rfl).app hK1
    generalize H1 = H at hP hS ⊢
    have hP : va_P (dC, dI) vwCl [(qu, .inl (cU, 16, .inl (f))), (h0, .inr (1, [v0, v1])), (q1, .inl (cN, 52, .inl (u1))), (q2, .inl (cN2, 52, .inl (u2)))] H := hP
    have hD : va_D A [(qu, .inl (cU, 16, .inl (f))), (h0, .inr (1, [v0, v1])), (q1, .inl (cN, 52, .inl (u1))), (q2, .inl (cN2, 52, .inl (u2)))] := hD
    have hK : va_K (dC, dI) vwCl [(cU, .byte), (cN, .int), (cN2, .int)] s := hK
    refine W.widen (k := 2) (n := 104) (Nat.le_of_ble_eq_true rfl) (Nat.le_of_ble_eq_true rfl) ?_
    have hP9 := hP.sub (ws' := [(h0, .inr (1, [v0, v1])), (qu, .inl (cU, 16, .inl (f))), (q2, .inl (cN2, 52, .inl (u2)))]) [1, 0, 3] rfl
    have hD9 := hD.sub (ws' := [(h0, .inr (1, [v0, v1])), (qu, .inl (cU, 16, .inl (f))), (q2, .inl (cN2, 52, .inl (u2)))]) [1, 0, 3] (by decide) rfl
    have hK9 := hK.sub (tys' := [(cU, .byte), (cN2, .int)]) [0, 2] rfl
    exact W.aret (v := .ref q2) hx hb hr (Or.inr ⟨_, rfl⟩) (Or.inr ⟨_, rfl⟩) (fun t ht hW => ⟨⟨u2, q2, rfl, (fun k hk => by rw [hw_u2 k hk, id_ik_congr hw_u1 hk]; unfold id_gk; rw [if_pos c1]), cN2, by rw [ht]; exact hP9, va_K.moved hW.alike hK9, hD9⟩, hS.F ht⟩) hS.2.2 dX2_generateWorkingKey_19
  · refine lv_aload_n hx hb dX2_generateWorkingKey_4 rfl (lv_at hl 0 rfl) ?_
    refine lv_aload_n hx hb dX2_generateWorkingKey_5 rfl (lv_at hl 2 rfl) ?_
    have hPc := hP.sub (ws' := [(h0, .inr (1, [v0, v1])), (qu, .inl (cU, 16, .inl (f)))]) [0, 1] rfl
    have hDc := hD.sub (ws' := [(h0, .inr (1, [v0, v1])), (qu, .inl (cU, 16, .inl (f)))]) [0, 1] (by decide) rfl
    have hKc := hK.sub (tys' := [(cU, .byte)]) [0] rfl
    have hFc := va_free (wc := [(h0, .inr (1, [v0, v1])), (qu, .inl (cU, 16, .inl (f)))]) hD hS hA [0, 1] rfl
    refine va_callr (va_runV (As := [.ref qu]) (rest := []) ⟨hx, hb, hml, hown, hts⟩ (met_expandKey l dC dI h0 qu s.heap.size cU v0 v1 f) (cwV 1 hts (lw_V q89 q91 qs2 q12 q92) rfl rfl rfl (by decide +kernel) ⟨Nat.le_of_ble_eq_true rfl, Nat.le_of_ble_eq_true rfl⟩) ⟨fun a U g mk q => by obtain ⟨q0, q1, qP, qK, qD⟩ := q; exact ⟨q0, q1, qP, va_K.moved (u := U) (U := U.calling g mk a) (Vm.Alike.refl U.vm) qK, qD⟩, va_recv hKc hPc (ci := 1) (q0 := 0) rfl rfl, fun U hU hW => ⟨rfl, by rw [hU], by rw [hU]; exact hPc, va_K.moved hW.alike hKc, hDc.weaken (fun _ _ _ _ => trivial)⟩⟩ rfl rfl hl.1 rfl (lv_room (Nat.le_of_ble_eq_true rfl)) dX2_generateWorkingKey_6 ⟨Nat.le_of_ble_eq_true rfl, Nat.le_of_ble_eq_true rfl⟩) hS (fun q _ h => hFc q h) hFc (fun u q1 t H1 locs ht hvm hw hB hz1 hk1 hS => ?_)
    obtain ⟨u1, rfl⟩ : ∃ z, z = u := ⟨_, rfl⟩
    have hw_u1 := hw
    obtain ⟨cN, hP1, hK1, hD1⟩ := hB
    rw [ht] at hP1
    have hK1 := va_K.moved hvm.symm hK1
    obtain ⟨hP, hD⟩ := va_join (wr := []) (w1 := [(h0, .inr (1, [v0, v1])), (qu, .inl (cU, 16, .inl (f))), (q1, .inl (cN, 52, .inl (u1)))]) hP hD [0, 1] [] rfl rfl (by decide) (by decide) hk1 hFc hP1 hD1
    have hK := (hK.sub (tys' := []) [] rfl).app hK1
    generalize H1 = H at hP hS ⊢
    have hP : va_P (dC, dI) vwCl [(h0, .inr (1, [v0, v1])), (qu, .inl (cU, 16, .inl (f))), (q1, .inl (cN, 52, .inl (u1)))] H := hP
    have hD : va_D A [(h0, .inr (1, [v0, v1])), (qu, .inl (cU, 16, .inl (f))), (q1, .inl (cN, 52, .inl (u1)))] := hD
    have hK : va_K (dC, dI) vwCl [(cU, .byte), (cN, .int)] s := hK
    refine W.widen (k := 1) (n := 52) (Nat.le_of_ble_eq_true rfl) (Nat.le_of_ble_eq_true rfl) ?_
    have hP9 := hP.sub (ws' := [(h0, .inr (1, [v0, v1])), (qu, .inl (cU, 16, .inl (f))), (q1, .inl (cN, 52, .inl (u1)))]) [0, 1, 2] rfl
    have hD9 := hD.sub (ws' := [(h0, .inr (1, [v0, v1])), (qu, .inl (cU, 16, .inl (f))), (q1, .inl (cN, 52, .inl (u1)))]) [0, 1, 2] (by decide) rfl
    have hK9 := hK.sub (tys' := [(cU, .byte), (cN, .int)]) [0, 1] rfl
    refine W.widen (k := 2) (n := 104) (Nat.le_of_ble_eq_true rfl) (Nat.le_of_ble_eq_true rfl) ?_
    exact W.aret (v := .ref q1) hx hb hr (Or.inr ⟨_, rfl⟩) (Or.inr ⟨_, rfl⟩) (fun t ht hW => ⟨⟨u1, q1, rfl, (fun k hk => by rw [hw_u1 k hk]; unfold id_gk; rw [if_neg c1]), cN, by rw [ht]; exact hP9, va_K.moved hW.alike hK9, hD9⟩, hS.F ht⟩) hS.2.2 dX2_generateWorkingKey_9
set_option maxHeartbeats 4000000 in
set_option maxRecDepth 100000 in
/-- the engine made -/
theorem met_engine (l : Launch) (dC : Nat → ClassId) (dI : Nat → Nat → Nat) (h0 sz : Nat) : Met l yX2_init (ws_ yX2_init cX2_init 1 none) ({ frames := 1, cells := 0, slots := 0, locals := 12 }) (va_Pc [.ref h0] (fun U => U.heap.size = sz ∧ va_P (dC, dI) vwCl [(h0, .inr (1, [.null, .int 0]))] U.heap ∧ va_K (dC, dI) vwCl [] U ∧ va_D (fun _ => True) [(h0, .inr (1, [.null, .int 0]))])) (va_Qv (fun _ : Unit => True) (fun (_ : Unit) (t : State) => va_P (dC, dI) vwCl [(h0, .inr (1, [.null, .int 0]))] t.heap ∧ va_K (dC, dI) vwCl [] t ∧ va_D (va_A [(h0, .inr (1, [.null, .int 0]))] sz) [(h0, .inr (1, [.null, .int 0]))]) (va_A [(h0, .inr (1, [.null, .int 0]))] sz)) 0 0 (va_A [(h0, .inr (1, [.null, .int 0]))] sz) := by
  refine Met.ofW (cc := cX2_init) (maxL := 1) (ret := none) (by decide) rfl ?_
  intro p e s m args below meth c s₁ B hml hv
  obtain ⟨rfl, hsz, hP, hK, hD0⟩ := hv
  have hx := B.exec
  have hb := B.bytes
  have hr := B.returns
  have hts := atoms_spec (ws := (ws_ yX2_init cX2_init 1 none)) B.pre
  have hts : ∀ w ∈ lw_all, w.before _ s = true := fun w h => hts w (List.mem_cons_of_mem _ h)
  have hown : s.vm.findClass RX2 = some m.cls := findClass_of_methodNamed B.named
  have hlocks := B.notSynchronized
  have hin : meth.name = "<init>" := (name_of_methodNamed B.named B.method).1
  subst hsz
  have hD := hD0.self (sz := s.heap.size)
  generalize hAe : va_A [(h0, .inr (1, [.null, .int 0]))] s.heap.size = A at hD ⊢
  have hA : ∀ q : Nat, s.heap.size ≤ q → A q := fun q h => by rw [← hAe]; exact Or.inr h
  have hS : va_S A s.heap s.heap [] := va_S.rf
  have hP : va_P (dC, dI) vwCl [(h0, .inr (1, [.null, .int 0]))] s.heap := hP
  have hl := lv_entry ([.ref h0]) (n := 1) (Nat.le_of_ble_eq_true rfl)
  rw [lg_entry_eq]
  generalize (lg_sl ([.ref h0]) ++ List.replicate (1 - (lg_sl ([.ref h0])).length) Slot.unset).toArray = ls at hl ⊢
  have hl : lv_has ls 1 [(0, .ref h0)] := hl
  refine lv_aload_n hx hb dX2_init_0 rfl (lv_at hl 0 rfl) ?_
  refine W.objInit hx hb hown (hts _ q40) (hts _ q41) (hts _ q42) rfl (by rw [hml]; exact hl.1) rfl dX2_init_1 (Nat.le_of_ble_eq_true rfl) (Nat.le_of_ble_eq_true rfl) ?_
  refine W.eq (g2 := F0 m 4 ls []) rfl ?_
  refine lv_aload_n hx hb dX2_init_4 rfl (lv_at hl 0 rfl) ?_
  refine lv_null hx hb dX2_init_5 ?_
  refine va_put (D := (dC, dI)) (ci := 1) (v := .null) (ty := .array .int) (C := RX2) (T := TX2) (N := 2) hx hb hts in_X2 tyX2 tyX2_ok nmX2 hown hK hP hD hS 0 rfl rfl 0 (by decide) (hts _ q43) (fun _ h9 => h9) rfl (by decide +kernel) rfl rfl (Nat.le_of_ble_eq_true rfl) dX2_init_6 (fun H locs hP hD hS => ?_)
  have hP : va_P (dC, dI) vwCl [(h0, .inr (1, [.null, .int 0]))] H := hP
  have hD : va_D A [(h0, .inr (1, [.null, .int 0]))] := hD
  have hP9 := hP.sub (ws' := [(h0, .inr (1, [.null, .int 0]))]) [0] rfl
  have hD9 := hD.sub (ws' := [(h0, .inr (1, [.null, .int 0]))]) [0] (by decide) rfl
  have hK9 := hK.sub (tys' := []) [] rfl
  exact W.vret hx hb hr (fun t ht hW => ⟨⟨(), rfl, trivial, by rw [ht]; exact hP9, va_K.moved hW.alike hK9, hD9⟩, hS.F ht⟩) hS.2.2 dX2_init_9
set_option maxHeartbeats 4000000 in
set_option maxRecDepth 100000 in
/-- getKey() -/
theorem met_getKey (l : Launch) (dC : Nat → ClassId) (dI : Nat → Nat → Nat) (h0 qk : Nat) : Met l yX3_getKey (ws_ yX3_getKey cX3_getKey 1 (some (.array .byte))) ({ frames := 0, cells := 0, slots := 0, locals := 0 }) (va_Pc [.ref h0] (fun U => va_P (dC, dI) vwCl [(h0, .inr (2, [.ref qk]))] U.heap ∧ va_K (dC, dI) vwCl [] U)) (va_Sr (fun k => k = qk) (fun k => .ref k)) 0 0 (fun _ => False) := by
  refine Met.ofW (cc := cX3_getKey) (maxL := 1) (ret := (some (.array .byte))) (by decide) rfl ?_
  intro p e s m args below meth c s₁ B hml hv
  obtain ⟨rfl, hP, hK⟩ := hv
  have hx := B.exec
  have hb := B.bytes
  have hr := B.returns
  have hts := atoms_spec (ws := (ws_ yX3_getKey cX3_getKey 1 (some (.array .byte)))) B.pre
  have hts : ∀ w ∈ lw_all, w.before _ s = true := fun w h => hts w (List.mem_cons_of_mem _ h)
  have hown : s.vm.findClass RX3 = some m.cls := findClass_of_methodNamed B.named
  have hlocks := B.notSynchronized
  have hl := lv_entry ([.ref h0]) (n := 1) (Nat.le_of_ble_eq_true rfl)
  rw [lg_entry_eq]
  generalize (lg_sl ([.ref h0]) ++ List.replicate (1 - (lg_sl ([.ref h0])).length) Slot.unset).toArray = ls at hl ⊢
  have hl : lv_has ls 1 [(0, .ref h0)] := hl
  refine lv_aload_n hx hb dX3_getKey_0 rfl (lv_at hl 0 rfl) ?_
  refine va_get (D := (dC, dI)) (ci := 2) (v := .ref qk) (C := RX3) (T := TX3) (N := 1) hx hb hts in_X3 hown hK hP 0 rfl rfl 0 (by decide) (hts _ q63) (fun _ h9 => h9) rfl dX3_getKey_1 ?_
  exact W.aret (v := .ref qk) hx hb hr (Or.inr ⟨_, rfl⟩) (Or.inr ⟨_, rfl⟩) (fun t ht hW => ⟨qk, rfl, rfl, ht⟩) (fun _ h => absurd h List.not_mem_nil) dX3_getKey_4
set_option maxHeartbeats 4000000 in
set_option maxRecDepth 100000 in
/-- KeyParameter(16) -/
theorem met_kp3 (l : Launch) (dC : Nat → ClassId) (dI : Nat → Nat → Nat) (h0 sz : Nat) : Met l yX3_init_3 (ws_ yX3_init_3 cX3_init_3 2 none) ({ frames := 1, cells := 1, slots := 16, locals := 12 }) (va_Pc [.ref h0, .int (nI 16)] (fun U => U.heap.size = sz ∧ va_P (dC, dI) vwCl [(h0, .inr (2, [.null]))] U.heap ∧ va_K (dC, dI) vwCl [] U ∧ va_D (fun _ => True) [(h0, .inr (2, [.null]))])) (va_Qv (fun _ : Unit => True) (fun (_ : Unit) (t : State) => ∃ (q : Nat) (cN : ClassId), va_P (dC, dI) vwCl [(h0, .inr (2, [.ref q])), (q, .inl (cN, 16, .inl (fun _ => 0)))] t.heap ∧ va_K (dC, dI) vwCl [(cN, .byte)] t ∧ va_D (va_A [(h0, .inr (2, [.null]))] sz) [(h0, .inr (2, [.ref q])), (q, .inl (cN, 16, .inl (fun _ => 0)))]) (va_A [(h0, .inr (2, [.null]))] sz)) 1 16 (va_A [(h0, .inr (2, [.null]))] sz) := by
  refine Met.ofW (cc := cX3_init_3) (maxL := 2) (ret := none) (by decide) rfl ?_
  intro p e s m args below meth c s₁ B hml hv
  obtain ⟨rfl, hsz, hP, hK, hD0⟩ := hv
  have hx := B.exec
  have hb := B.bytes
  have hr := B.returns
  have hts := atoms_spec (ws := (ws_ yX3_init_3 cX3_init_3 2 none)) B.pre
  have hts : ∀ w ∈ lw_all, w.before _ s = true := fun w h => hts w (List.mem_cons_of_mem _ h)
  have hown : s.vm.findClass RX3 = some m.cls := findClass_of_methodNamed B.named
  have hlocks := B.notSynchronized
  have hin : meth.name = "<init>" := (name_of_methodNamed B.named B.method).1
  subst hsz
  have hD := hD0.self (sz := s.heap.size)
  generalize hAe : va_A [(h0, .inr (2, [.null]))] s.heap.size = A at hD ⊢
  have hA : ∀ q : Nat, s.heap.size ≤ q → A q := fun q h => by rw [← hAe]; exact Or.inr h
  have hS : va_S A s.heap s.heap [] := va_S.rf
  have hP : va_P (dC, dI) vwCl [(h0, .inr (2, [.null]))] s.heap := hP
  have hl := lv_entry ([.ref h0, .int (nI 16)]) (n := 2) (Nat.le_of_ble_eq_true rfl)
  rw [lg_entry_eq]
  generalize (lg_sl ([.ref h0, .int (nI 16)]) ++ List.replicate (2 - (lg_sl ([.ref h0, .int (nI 16)])).length) Slot.unset).toArray = ls at hl ⊢
  have hl : lv_has ls 2 [(0, .ref h0), (1, .int (nI 16))] := hl
  refine lv_aload_n hx hb dX3_init_3_0 rfl (lv_at hl 0 rfl) ?_
  refine W.objInit hx hb hown (hts _ q62) (hts _ q41) (hts _ q42) rfl (by rw [hml]; exact hl.1) rfl dX3_init_3_1 (Nat.le_of_ble_eq_true rfl) (Nat.le_of_ble_eq_true rfl) ?_
  refine W.eq (g2 := F0 m 4 ls []) rfl ?_
  refine lv_aload_n hx hb dX3_init_3_4 rfl (lv_at hl 0 rfl) ?_
  refine lv_iload_n hx hb dX3_init_3_5 rfl (lv_at hl 1 rfl) ?_
  refine va_newa (atype := .byte) (ty := .byte) (a0 := (16, .inl (fun _ => 0))) hx hb (hts _ q50) rfl hK hP hD hS hA (fun _ => rfl) (nI_pos (by decide)) (nI_clamp (n := 16) (by decide)) (Nat.le_of_ble_eq_true rfl) (Nat.le_of_ble_eq_true rfl) (Nat.le_of_ble_eq_true rfl) dX3_init_3_6 (fun q cN H hK hP hD hS => ?_)
  have hP : va_P (dC, dI) vwCl [(h0, .inr (2, [.null])), (q, .inl (cN, 16, .inl (fun _ => 0)))] H := hP
  have hD : va_D A [(h0, .inr (2, [.null])), (q, .inl (cN, 16, .inl (fun _ => 0)))] := hD
  have hK : va_K (dC, dI) vwCl [(cN, .byte)] s := hK
  refine W.widen (k := 1) (n := 16) (Nat.le_of_ble_eq_true rfl) (Nat.le_of_ble_eq_true rfl) ?_
  refine va_put (D := (dC, dI)) (ci := 2) (v := .ref q) (ty := .array .byte) (C := RX3) (T := TX3) (N := 1) hx hb hts in_X3 tyX3 tyX3_ok nmX3 hown hK hP hD hS 0 rfl rfl 0 (by decide) (hts _ q63) (fun _ h9 => h9) rfl (by decide +kernel) rfl rfl (Nat.le_of_ble_eq_true rfl) dX3_init_3_8 (fun H locs hP hD hS => ?_)
  have hP : va_P (dC, dI) vwCl [(h0, .inr (2, [.ref q])), (q, .inl (cN, 16, .inl (fun _ => 0)))] H := hP
  have hD : va_D A [(h0, .inr (2, [.ref q])), (q, .inl (cN, 16, .inl (fun _ => 0)))] := hD
  have hP9 := hP.sub (ws' := [(h0, .inr (2, [.ref q])), (q, .inl (cN, 16, .inl (fun _ => 0)))]) [0, 1] rfl
  have hD9 := hD.sub (ws' := [(h0, .inr (2, [.ref q])), (q, .inl (cN, 16, .inl (fun _ => 0)))]) [0, 1] (by decide) rfl
  have hK9 := hK.sub (tys' := [(cN, .byte)]) [0] rfl
  exact W.vret hx hb hr (fun t ht hW => ⟨⟨(), rfl, trivial, q, cN, by rw [ht]; exact hP9, va_K.moved hW.alike hK9, hD9⟩, hS.F ht⟩) hS.2.2 dX3_init_3_11
set_option maxHeartbeats 4000000 in
set_option maxRecDepth 100000 in
/-- KeyParameter(key, 0, 16) -/
theorem met_kp2 (l : Launch) (dC : Nat → ClassId) (dI : Nat → Nat → Nat) (h0 qa sz : Nat) (cA : ClassId) (f : Nat → Int32) (hf : ∀ i, i < 16 → fits .byte (.int (f i)) = true) : Met l yX3_init_2 (ws_ yX3_init_2 cX3_init_2 4 none) ({ frames := 2, cells := 1, slots := 16, locals := 33 }) (va_Pc [.ref h0, .ref qa, .int (nI 0), .int (nI 16)] (fun U => U.heap.size = sz ∧ va_P (dC, dI) vwCl [(h0, .inr (2, [.null])), (qa, .inl (cA, 16, .inl (f)))] U.heap ∧ va_K (dC, dI) vwCl [(cA, .byte)] U ∧ va_D (fun _ => True) [(h0, .inr (2, [.null])), (qa, .inl (cA, 16, .inl (f)))])) (va_Qv (fun u : Nat → Int32 => ∀ i, i < 16 → u i = f i) (fun (u : Nat → Int32) (t : State) => ∃ (q : Nat) (cN : ClassId), va_P (dC, dI) vwCl [(h0, .inr (2, [.ref q])), (qa, .inl (cA, 16, .inl (f))), (q, .inl (cN, 16, .inl (u)))] t.heap ∧ va_K (dC, dI) vwCl [(cA, .byte), (cN, .byte)] t ∧ va_D (va_A [(h0, .inr (2, [.null])), (qa, .inl (cA, 16, .inl (f)))] sz) [(h0, .inr (2, [.ref q])), (qa, .inl (cA, 16, .inl (f))), (q, .inl (cN, 16, .inl (u)))]) (va_A [(h0, .inr (2, [.null])), (qa, .inl (cA, 16, .inl (f)))] sz)) 1 16 (va_A [(h0, .inr (2, [.null])), (qa, .inl (cA, 16, .inl (f)))] sz) := by
  refine Met.ofW (cc := cX3_init_2) (maxL := 4) (ret := none) (by decide) rfl ?_
  intro p e s m args below meth c s₁ B hml hv
  obtain ⟨rfl, hsz, hP, hK, hD0⟩ := hv
  have hx := B.exec
  have hb := B.bytes
  have hr := B.returns
  have hts := atoms_spec (ws := (ws_ yX3_init_2 cX3_init_2 4 none)) B.pre
  have hts : ∀ w ∈ lw_all, w.before _ s = true := fun w h => hts w (List.mem_cons_of_mem _ h)
  have hown : s.vm.findClass RX3 = some m.cls := findClass_of_methodNamed B.named
  have hlocks := B.notSynchronized
  have hin : meth.name = "<init>" := (name_of_methodNamed B.named B.method).1
  subst hsz
  have hD := hD0.self (sz := s.heap.size)
  generalize hAe : va_A [(h0, .inr (2, [.null])), (qa, .inl (cA, 16, .inl (f)))] s.heap.size = A at hD ⊢
  have hA : ∀ q : Nat, s.heap.size ≤ q → A q := fun q h => by rw [← hAe]; exact Or.inr h
  have hS : va_S A s.heap s.heap [] := va_S.rf
  have hP : va_P (dC, dI) vwCl [(h0, .inr (2, [.null])), (qa, .inl (cA, 16, .inl (f)))] s.heap := hP
  have hl := lv_entry ([.ref h0, .ref qa, .int (nI 0), .int (nI 16)]) (n := 4) (Nat.le_of_ble_eq_true rfl)
  rw [lg_entry_eq]
  generalize (lg_sl ([.ref h0, .ref qa, .int (nI 0), .int (nI 16)]) ++ List.replicate (4 - (lg_sl ([.ref h0, .ref qa, .int (nI 0), .int (nI 16)])).length) Slot.unset).toArray = ls at hl ⊢
  have hl : lv_has ls 4 [(0, .ref h0), (1, .ref qa), (2, .int (nI 0)), (3, .int (nI 16))] := hl
  refine lv_aload_n hx hb dX3_init_2_0 rfl (lv_at hl 0 rfl) ?_
  refine lv_iload_n hx hb dX3_init_2_1 rfl (lv_at hl 3 rfl) ?_
  have hPc := hP.sub (ws' := [(h0, .inr (2, [.null]))]) [0] rfl
  have hDc := hD.sub (ws' := [(h0, .inr (2, [.null]))]) [0] (by decide) rfl
  have hKc := hK.sub (tys' := []) [] rfl
  have hFc := va_free (wc := [(h0, .inr (2, [.null]))]) hD hS hA [0] rfl
  refine va_callv (va_runI (As := [.int (nI 16)]) (rest := []) ⟨hx, hb, hml, hown, hts⟩ (met_kp3 l dC dI h0 s.heap.size) (cwI 1 hts (lw_meth q61) rfl rfl rfl (hts _ q13) (hts _ q59) (hts _ q60) rfl (by decide +kernel) ⟨Nat.le_of_ble_eq_true rfl, Nat.le_of_ble_eq_true rfl⟩) ⟨fun a U g mk q => by obtain ⟨q0, q1, qP, qK, qD⟩ := q; exact ⟨q0, q1, qP, va_K.moved (u := U) (U := U.calling g mk a) (Vm.Alike.refl U.vm) qK, qD⟩, fun U hU hW => ⟨rfl, by rw [hU], by rw [hU]; exact hPc, va_K.moved hW.alike hKc, hDc.weaken (fun _ _ _ _ => trivial)⟩⟩ rfl rfl hl.1 rfl (lv_room (Nat.le_of_ble_eq_true rfl)) dX3_init_2_2 ⟨Nat.le_of_ble_eq_true rfl, Nat.le_of_ble_eq_true rfl⟩) hS (fun q _ h => hFc q h) hFc (fun u t H1 locs ht hvm hw hB hz1 hk1 hS => ?_)
  obtain ⟨q, cN, hP1, hK1, hD1⟩ := hB
  rw [ht] at hP1
  have hK1 := va_K.moved hvm.symm hK1
  obtain ⟨hP, hD⟩ := va_join (wr := [(qa, .inl (cA, 16, .inl (f)))]) (w1 := [(h0, .inr (2, [.ref q])), (q, .inl (cN, 16, .inl (fun _ => 0)))]) hP hD [0] [1] rfl rfl (by decide) (by decide) hk1 hFc hP1 hD1
  have hK := (hK.sub (tys' := [(cA, .byte)]) [0] rfl).app hK1
  generalize H1 = H at hP hS ⊢
  have hP : va_P (dC, dI) vwCl [(qa, .inl (cA, 16, .inl (f))), (h0, .inr (2, [.ref q])), (q, .inl (cN, 16, .inl (fun _ => 0)))] H := hP
  have hD : va_D A [(qa, .inl (cA, 16, .inl (f))), (h0, .inr (2, [.ref q])), (q, .inl (cN, 16, .inl (fun _ => 0)))] := hD
  have hK : va_K (dC, dI) vwCl [(cA, .byte), (cN, .byte)] s := hK
  refine W.widen (k := 1) (n := 16) (Nat.le_of_ble_eq_true rfl) (Nat.le_of_ble_eq_true rfl) ?_
  refine lv_aload_n hx hb dX3_init_2_5 rfl (lv_at hl 1 rfl) ?_
  refine lv_iload_n hx hb dX3_init_2_6 rfl (lv_at hl 2 rfl) ?_
  refine lv_aload_n hx hb dX3_init_2_7 rfl (lv_at hl 0 rfl) ?_
  refine va_get (D := (dC, dI)) (ci := 2) (v := .ref q) (C := RX3) (T := TX3) (N := 1) hx hb hts in_X3 hown hK hP 1 rfl rfl 0 (by decide) (hts _ q63) (fun _ h9 => h9) rfl dX3_init_2_8 ?_
  refine lv_iconst (v := nI 0) hx hb dX3_init_2_11 (by decide +kernel) ?_
  refine lv_iload_n hx hb dX3_init_2_12 rfl (lv_at hl 3 rfl) ?_
  refine va_copyi (ty := .byte) (sp := nI 0) (dp := nI 0) (n := nI 16) hx hb (by rw [hml]; exact hl.1.symm) hown (hts _ q67) (hts _ q69) (hts _ q68) (hts _ q14) hK hP hD hS 0 2 0 1 rfl rfl rfl rfl rfl (nI_pos (by decide)) (nI_pos (by decide)) (nI_pos (by decide)) (show (nI 0).toNatClampNeg + (nI 16).toNatClampNeg ≤ 16 from by decide +kernel) (show (nI 0).toNatClampNeg + (nI 16).toNatClampNeg ≤ 16 from by decide +kernel) (fun i hi => by rw [nI_clamp (n := 16) (by decide)] at hi; rw [nI_clamp (n := 0) (by decide), Nat.zero_add]; exact hf i hi) (Nat.le_of_ble_eq_true rfl) (by decide +kernel) dX3_init_2_13 (fun H locs hP hD hS => ?_)
  rw [nI_clamp (n := 0) (by decide), nI_clamp (n := 16) (by decide)] at hP hD
  have hP : va_P (dC, dI) vwCl [(qa, .inl (cA, 16, .inl (f))), (h0, .inr (2, [.ref q])), (q, .inl (cN, 16, .inl (va_cpy f (fun _ => (0 : Int32)) 0 0 16)))] H := hP
  have hD : va_D A [(qa, .inl (cA, 16, .inl (f))), (h0, .inr (2, [.ref q])), (q, .inl (cN, 16, .inl (va_cpy f (fun _ => (0 : Int32)) 0 0 16)))] := hD
  have hP9 := hP.sub (ws' := [(h0, .inr (2, [.ref q])), (qa, .inl (cA, 16, .inl (f))), (q, .inl (cN, 16, .inl (va_cpy f (fun _ => (0 : Int32)) 0 0 16)))]) [1, 0, 2] rfl
  have hD9 := hD.sub (ws' := [(h0, .inr (2, [.ref q])), (qa, .inl (cA, 16, .inl (f))), (q, .inl (cN, 16, .inl (va_cpy f (fun _ => (0 : Int32)) 0 0 16)))]) [1, 0, 2] (by decide) rfl
  have hK9 := hK.sub (tys' := [(cA, .byte), (cN, .byte)]) [0, 1] rfl
  exact W.vret hx hb hr (fun t ht hW => ⟨⟨(va_cpy f (fun _ => (0 : Int32)) 0 0 16), rfl, (fun i hi => sb_cpy0 hi), q, cN, by rw [ht]; exact hP9, va_K.moved hW.alike hK9, hD9⟩, hS.F ht⟩) hS.2.2 dX3_init_2_16
set_option maxHeartbeats 4000000 in
set_option maxRecDepth 100000 in
/-- KeyParameter(key): a copy of 16 bytes -/
theorem met_kp (l : Launch) (dC : Nat → ClassId) (dI : Nat → Nat → Nat) (h0 qa sz : Nat) (cA : ClassId) (f : Nat → Int32) (hf : ∀ i, i < 16 → fits .byte (.int (f i)) = true) : Met l yX3_init (ws_ yX3_init cX3_init 2 none) ({ frames := 3, cells := 1, slots := 16, locals := 56 }) (va_Pc [.ref h0, .ref qa] (fun U => U.heap.size = sz ∧ va_P (dC, dI) vwCl [(h0, .inr (2, [.null])), (qa, .inl (cA, 16, .inl (f)))] U.heap ∧ va_K (dC, dI) vwCl [(cA, .byte)] U ∧ va_D (fun _ => True) [(h0, .inr (2, [.null])), (qa, .inl (cA, 16, .inl (f)))])) (va_Qv (fun u : Nat → Int32 => ∀ i, i < 16 → u i = f i) (fun (u : Nat → Int32) (t : State) => ∃ (q : Nat) (cN : ClassId), va_P (dC, dI) vwCl [(h0, .inr (2, [.ref q])), (qa, .inl (cA, 16, .inl (f))), (q, .inl (cN, 16, .inl (u)))] t.heap ∧ va_K (dC, dI) vwCl [(cA, .byte), (cN, .byte)] t ∧ va_D (va_A [(h0, .inr (2, [.null])), (qa, .inl (cA, 16, .inl (f)))] sz) [(h0, .inr (2, [.ref q])), (qa, .inl (cA, 16, .inl (f))), (q, .inl (cN, 16, .inl (u)))]) (va_A [(h0, .inr (2, [.null])), (qa, .inl (cA, 16, .inl (f)))] sz)) 1 16 (va_A [(h0, .inr (2, [.null])), (qa, .inl (cA, 16, .inl (f)))] sz) := by
  refine Met.ofW (cc := cX3_init) (maxL := 2) (ret := none) (by decide) rfl ?_
  intro p e s m args below meth c s₁ B hml hv
  obtain ⟨rfl, hsz, hP, hK, hD0⟩ := hv
  have hx := B.exec
  have hb := B.bytes
  have hr := B.returns
  have hts := atoms_spec (ws := (ws_ yX3_init cX3_init 2 none)) B.pre
  have hts : ∀ w ∈ lw_all, w.before _ s = true := fun w h => hts w (List.mem_cons_of_mem _ h)
  have hown : s.vm.findClass RX3 = some m.cls := findClass_of_methodNamed B.named
  have hlocks := B.notSynchronized
  have hin : meth.name = "<init>" := (name_of_methodNamed B.named B.method).1
  subst hsz
  have hD := hD0.self (sz := s.heap.size)
  generalize hAe : va_A [(h0, .inr (2, [.null])), (qa, .inl (cA, 16, .inl (f)))] s.heap.size = A at hD ⊢
  have hA : ∀ q : Nat, s.heap.size ≤ q → A q := fun q h => by rw [← hAe]; exact Or.inr h
  have hS : va_S A s.heap s.heap [] := va_S.rf
  have hP : va_P (dC, dI) vwCl [(h0, .inr (2, [.null])), (qa, .inl (cA, 16, .inl (f)))] s.heap := hP
  have hl := lv_entry ([.ref h0, .ref qa]) (n := 2) (Nat.le_of_ble_eq_true rfl)
  rw [lg_entry_eq]
  generalize (lg_sl ([.ref h0, .ref qa]) ++ List.replicate (2 - (lg_sl ([.ref h0, .ref qa])).length) Slot.unset).toArray = ls at hl ⊢
  have hl : lv_has ls 2 [(0, .ref h0), (1, .ref qa)] := hl
  refine lv_aload_n hx hb dX3_init_0 rfl (lv_at hl 0 rfl) ?_
  refine lv_aload_n hx hb dX3_init_1 rfl (lv_at hl 1 rfl) ?_
  refine lv_iconst (v := nI 0) hx hb dX3_init_2 (by decide +kernel) ?_
  refine lv_aload_n hx hb dX3_init_3 rfl (lv_at hl 1 rfl) ?_
  refine va_alen (v := nI 16) hx hb hK hP 1 0 rfl rfl rfl dX3_init_4 ?_
  have hPc := hP.sub (ws' := [(h0, .inr (2, [.null])), (qa, .inl (cA, 16, .inl (f)))]) [0, 1] rfl
  have hDc := hD.sub (ws' := [(h0, .inr (2, [.null])), (qa, .inl (cA, 16, .inl (f)))]) [0, 1] (by decide) rfl
  have hKc := hK.sub (tys' := [(cA, .byte)]) [0] rfl
  have hFc := va_free (wc := [(h0, .inr (2, [.null])), (qa, .inl (cA, 16, .inl (f)))]) hD hS hA [0, 1] rfl
  refine va_callv (va_runI (As := [.ref qa, .int (nI 0), .int (nI 16)]) (rest := []) ⟨hx, hb, hml, hown, hts⟩ (met_kp2 l dC dI h0 qa s.heap.size cA f hf) (cwI 3 hts (lw_meth q58) rfl rfl rfl (hts _ q13) (hts _ q56) (hts _ q57) rfl (by decide +kernel) ⟨Nat.le_of_ble_eq_true rfl, Nat.le_of_ble_eq_true rfl⟩) ⟨fun a U g mk q => by obtain ⟨q0, q1, qP, qK, qD⟩ := q; exact ⟨q0, q1, qP, va_K.moved (u := U) (U := U.calling g mk a) (Vm.Alike.refl U.vm) qK, qD⟩, fun U hU hW => ⟨rfl, by rw [hU], by rw [hU]; exact hPc, va_K.moved hW.alike hKc, hDc.weaken (fun _ _ _ _ => trivial)⟩⟩ rfl rfl hl.1 rfl (lv_room (Nat.le_of_ble_eq_true rfl)) dX3_init_5 ⟨Nat.le_of_ble_eq_true rfl, Nat.le_of_ble_eq_true rfl⟩) hS (fun q _ h => hFc q h) hFc (fun u t H1 locs ht hvm hw hB hz1 hk1 hS => ?_)
  obtain ⟨u1, rfl⟩ : ∃ z, z = u := ⟨_, rfl⟩
  have hw_u1 := hw
  obtain ⟨q, cN, hP1, hK1, hD1⟩ := hB
  rw [ht] at hP1
  have hK1 := va_K.moved hvm.symm hK1
  obtain ⟨hP, hD⟩ := va_join (wr := []) (w1 := [(h0, .inr (2, [.ref q])), (qa, .inl (cA, 16, .inl (f))), (q, .inl (cN, 16, .inl (u1)))]) hP hD [0, 1] [] rfl rfl (by decide) (by decide) hk1 hFc hP1 hD1
  have hK := (hK.sub (tys' := []) [] rfl).app hK1
  generalize H1 = H at hP hS ⊢
  have hP : va_P (dC, dI) vwCl [(h0, .inr (2, [.ref q])), (qa, .inl (cA, 16, .inl (f))), (q, .inl (cN, 16, .inl (u1)))] H := hP
  have hD : va_D A [(h0, .inr (2, [.ref q])), (qa, .inl (cA, 16, .inl (f))), (q, .inl (cN, 16, .inl (u1)))] := hD
  have hK : va_K (dC, dI) vwCl [(cA, .byte), (cN, .byte)] s := hK
  refine W.widen (k := 1) (n := 16) (Nat.le_of_ble_eq_true rfl) (Nat.le_of_ble_eq_true rfl) ?_
  have hP9 := hP.sub (ws' := [(h0, .inr (2, [.ref q])), (qa, .inl (cA, 16, .inl (f))), (q, .inl (cN, 16, .inl (u1)))]) [0, 1, 2] rfl
  have hD9 := hD.sub (ws' := [(h0, .inr (2, [.ref q])), (qa, .inl (cA, 16, .inl (f))), (q, .inl (cN, 16, .inl (u1)))]) [0, 1, 2] (by decide) rfl
  have hK9 := hK.sub (tys' := [(cA, .byte), (cN, .byte)]) [0, 1] rfl
  exact W.vret hx hb hr (fun t ht hW => ⟨⟨u1, rfl, hw_u1, q, cN, by rw [ht]; exact hP9, va_K.moved hW.alike hK9, hD9⟩, hS.F ht⟩) hS.2.2 dX3_init_8
set_option maxHeartbeats 4000000 in
set_option maxRecDepth 100000 in
/-- init(b, key) -/
theorem met_init (l : Launch) (dC : Nat → ClassId) (dI : Nat → Nat → Nat) (h0 qp qk sz : Nat) (cK : ClassId) (v0 v1 : Value) (b : Int32) (hbb : b = 0 ∨ b = 1) (f : Nat → Int32) : Met l yX2_init_2 (ws_ yX2_init_2 cX2_init_2 4 none) ({ frames := 3, cells := 2, slots := 104, locals := 76 }) (va_Pc [.ref h0, .int b, .ref qp] (fun U => U.heap.size = sz ∧ va_P (dC, dI) vwCl [(h0, .inr (1, [v0, v1])), (qp, .inr (2, [.ref qk])), (qk, .inl (cK, 16, .inl (f)))] U.heap ∧ va_K (dC, dI) vwCl [(cK, .byte)] U ∧ va_D (fun _ => True) [(h0, .inr (1, [v0, v1])), (qp, .inr (2, [.ref qk])), (qk, .inl (cK, 16, .inl (f)))])) (va_Qv (fun u : Nat → Int32 => ∀ k, k < 52 → u k = id_gk b f k) (fun (u : Nat → Int32) (t : State) => ∃ (qw : Nat) (cW : ClassId), va_P (dC, dI) vwCl [(h0, .inr (1, [.ref qw, .int b])), (qp, .inr (2, [.ref qk])), (qk, .inl (cK, 16, .inl (f))), (qw, .inl (cW, 52, .inl (u)))] t.heap ∧ va_K (dC, dI) vwCl [(cK, .byte), (cW, .int)] t ∧ va_D (va_A [(h0, .inr (1, [v0, v1])), (qp, .inr (2, [.ref qk])), (qk, .inl (cK, 16, .inl (f)))] sz) [(h0, .inr (1, [.ref qw, .int b])), (qp, .inr (2, [.ref qk])), (qk, .inl (cK, 16, .inl (f))), (qw, .inl (cW, 52, .inl (u)))]) (va_A [(h0, .inr (1, [v0, v1])), (qp, .inr (2, [.ref qk])), (qk, .inl (cK, 16, .inl (f)))] sz)) 2 104 (va_A [(h0, .inr (1, [v0, v1])), (qp, .inr (2, [.ref qk])), (qk, .inl (cK, 16, .inl (f)))] sz) := by
  refine Met.ofW (cc := cX2_init_2) (maxL := 4) (ret := none) (by decide) rfl ?_
  intro p e s m args below meth c s₁ B hml hv
  obtain ⟨rfl, hsz, hP, hK, hD0⟩ := hv
  have hx := B.exec
  have hb := B.bytes
  have hr := B.returns
  have hts := atoms_spec (ws := (ws_ yX2_init_2 cX2_init_2 4 none)) B.pre
  have hts : ∀ w ∈ lw_all, w.before _ s = true := fun w h => hts w (List.mem_cons_of_mem _ h)
  have hown : s.vm.findClass RX2 = some m.cls := findClass_of_methodNamed B.named
  have hlocks := B.notSynchronized
  subst hsz
  have hD := hD0.self (sz := s.heap.size)
  generalize hAe : va_A [(h0, .inr (1, [v0, v1])), (qp, .inr (2, [.ref qk])), (qk, .inl (cK, 16, .inl (f)))] s.heap.size = A at hD ⊢
  have hA : ∀ q : Nat, s.heap.size ≤ q → A q := fun q h => by rw [← hAe]; exact Or.inr h
  have hS : va_S A s.heap s.heap [] := va_S.rf
  have hP : va_P (dC, dI) vwCl [(h0, .inr (1, [v0, v1])), (qp, .inr (2, [.ref qk])), (qk, .inl (cK, 16, .inl (f)))] s.heap := hP
  have hl := lv_entry ([.ref h0, .int b, .ref qp]) (n := 4) (Nat.le_of_ble_eq_true rfl)
  rw [lg_entry_eq]
  generalize (lg_sl ([.ref h0, .int b, .ref qp]) ++ List.replicate (4 - (lg_sl ([.ref h0, .int b, .ref qp])).length) Slot.unset).toArray = ls at hl ⊢
  have hl : lv_has ls 4 [(0, .ref h0), (1, .int b), (2, .ref qp)] := hl
  refine lv_aload_n hx hb dX2_init_2_0 rfl (lv_at hl 2 rfl) ?_
  refine va_instS hx hb hown (hts _ q80) ((hK.1 2 _ rfl).2) (va_recv hK hP (ci := 2) (q0 := 1) rfl rfl) dX2_init_2_1 ?_
  refine lv_if_eq (tgt := 31) hx hb dX2_init_2_4 (by decide) (fun c4 => ?_) (fun c4 => ?_)
  · exact absurd c4 (by decide)
  · refine lv_aload_n hx hb dX2_init_2_7 rfl (lv_at hl 2 rfl) ?_
    refine va_castS hx hb hown (hts _ q80) ((hK.1 2 _ rfl).2) (va_recv hK hP (ci := 2) (q0 := 1) rfl rfl) dX2_init_2_8 ?_
    refine va_csr (W.runV (As := []) (rest := []) ⟨hx, hb, hml, hown, hts⟩ (met_getKey l dC dI qp qk) (cwV 0 hts (lw_V q81 q82 q83 q13 q84) rfl rfl rfl (by decide +kernel) ⟨Nat.le_of_ble_eq_true rfl, Nat.le_of_ble_eq_true rfl⟩) ⟨fun a U g mk q => by obtain ⟨q0, qP, qK⟩ := q; exact ⟨q0, qP, va_K.moved (u := U) (U := U.calling g mk a) (Vm.Alike.refl U.vm) qK⟩, va_recv hK hP (ci := 2) (q0 := 1) rfl rfl, fun U hU hW => ⟨rfl, by rw [hU]; exact hP.sub (ws' := [(qp, .inr (2, [.ref qk]))]) [1] rfl, va_K.moved hW.alike (hK.sub (tys' := []) [] rfl)⟩⟩ rfl rfl hl.1 rfl (lv_room (Nat.le_of_ble_eq_true rfl)) dX2_init_2_11 ⟨Nat.le_of_ble_eq_true rfl, Nat.le_of_ble_eq_true rfl⟩) (fun z ez => ?_)
    have ez : z = qk := ez
    refine W.eq (g2 := F0 m 14 ls [.ref qk]) (by subst ez; rfl) ?_
    refine lv_astore_n (lv' := [(3, .ref qk), (0, .ref h0), (1, .int b), (2, .ref qp)]) hx hb dX2_init_2_14 rfl hl (by decide) rfl (fun ls hl => ?_)
    refine lv_aload_n hx hb dX2_init_2_15 rfl (lv_at hl 1 rfl) ?_
    refine lv_aload_n hx hb dX2_init_2_16 rfl (lv_at hl 1 rfl) ?_
    refine lv_iload_n hx hb dX2_init_2_17 rfl (lv_at hl 2 rfl) ?_
    refine lv_aload_n hx hb dX2_init_2_18 rfl (lv_at hl 0 rfl) ?_
    have hPc := hP.sub (ws' := [(h0, .inr (1, [v0, v1])), (qk, .inl (cK, 16, .inl (f)))]) [0, 2] rfl
    have hDc := hD.sub (ws' := [(h0, .inr (1, [v0, v1])), (qk, .inl (cK, 16, .inl (f)))]) [0, 2] (by decide) rfl
    have hKc := hK.sub (tys' := [(cK, .byte)]) [0] rfl
    have hFc := va_free (wc := [(h0, .inr (1, [v0, v1])), (qk, .inl (cK, 16, .inl (f)))]) hD hS hA [0, 2] rfl
    refine va_callr (va_runV (As := [.int b, .ref qk]) (rest := [.ref h0]) ⟨hx, hb, hml, hown, hts⟩ (met_gwk l dC dI h0 qk s.heap.size cK v0 v1 b f) (cwV 2 hts (lw_V q85 q87 qs1 q12 q88) rfl rfl rfl (by decide +kernel) ⟨Nat.le_of_ble_eq_true rfl, Nat.le_of_ble_eq_true rfl⟩) ⟨fun a U g mk q => by obtain ⟨q0, q1, qP, qK, qD⟩ := q; exact ⟨q0, q1, qP, va_K.moved (u := U) (U := U.calling g mk a) (Vm.Alike.refl U.vm) qK, qD⟩, va_recv hKc hPc (ci := 1) (q0 := 0) rfl rfl, fun U hU hW => ⟨rfl, by rw [hU], by rw [hU]; exact hPc, va_K.moved hW.alike hKc, hDc.weaken (fun _ _ _ _ => trivial)⟩⟩ rfl rfl hl.1 rfl (lv_room (Nat.le_of_ble_eq_true rfl)) dX2_init_2_19 ⟨Nat.le_of_ble_eq_true rfl, Nat.le_of_ble_eq_true rfl⟩) hS (fun q _ h => hFc q h) hFc (fun u qw t H1 locs ht hvm hw hB hz1 hk1 hS => ?_)
    obtain ⟨u1, rfl⟩ : ∃ z, z = u := ⟨_, rfl⟩
    have hw_u1 := hw
    obtain ⟨cW, hP1, hK1, hD1⟩ := hB
    rw [ht] at hP1
    have hK1 := va_K.moved hvm.symm hK1
    obtain ⟨hP, hD⟩ := va_join (wr := [(qp, .inr (2, [.ref qk]))]) (w1 := [(h0, .inr (1, [v0, v1])), (qk, .inl (cK, 16, .inl (f))), (qw, .inl (cW, 52, .inl (u1)))]) hP hD [0, 2] [1] rfl rfl (by decide) (by decide) hk1 hFc hP1 hD1
    have hK := (hK.sub (tys' := []) [] rfl).app hK1
    generalize H1 = H at hP hS ⊢
    have hP : va_P (dC, dI) vwCl [(qp, .inr (2, [.ref qk])), (h0, .inr (1, [v0, v1])), (qk, .inl (cK, 16, .inl (f))), (qw, .inl (cW, 52, .inl (u1)))] H := hP
    have hD : va_D A [(qp, .inr (2, [.ref qk])), (h0, .inr (1, [v0, v1])), (qk, .inl (cK, 16, .inl (f))), (qw, .inl (cW, 52, .inl (u1)))] := hD
    have hK : va_K (dC, dI) vwCl [(cK, .byte), (cW, .int)] s := hK
    refine W.widen (k := 2) (n := 104) (Nat.le_of_ble_eq_true rfl) (Nat.le_of_ble_eq_true rfl) ?_
    refine va_put (D := (dC, dI)) (ci := 1) (v := .ref qw) (ty := .array .int) (C := RX2) (T := TX2) (N := 2) hx hb hts in_X2 tyX2 tyX2_ok nmX2 hown hK hP hD hS 1 rfl rfl 0 (by decide) (hts _ q43) (fun _ h9 => h9) rfl (by decide +kernel) rfl rfl (Nat.le_of_ble_eq_true rfl) dX2_init_2_22 (fun H locs hP hD hS => ?_)
    have hP : va_P (dC, dI) vwCl [(qp, .inr (2, [.ref qk])), (h0, .inr (1, [.ref qw, v1])), (qk, .inl (cK, 16, .inl (f))), (qw, .inl (cW, 52, .inl (u1)))] H := hP
    have hD : va_D A [(qp, .inr (2, [.ref qk])), (h0, .inr (1, [.ref qw, v1])), (qk, .inl (cK, 16, .inl (f))), (qw, .inl (cW, 52, .inl (u1)))] := hD
    refine lv_aload_n hx hb dX2_init_2_25 rfl (lv_at hl 1 rfl) ?_
    refine lv_iload_n hx hb dX2_init_2_26 rfl (lv_at hl 2 rfl) ?_
    refine va_put (D := (dC, dI)) (ci := 1) (v := .int b) (ty := .boolean) (C := RX2) (T := TX2) (N := 2) hx hb hts in_X2 tyX2 tyX2_ok nmX2 hown hK hP hD hS 1 rfl rfl 1 (by decide) (hts _ q44) (fun _ h9 => h9) rfl (by decide +kernel) (id_nz hbb) (id_fz hbb) (Nat.le_of_ble_eq_true rfl) dX2_init_2_27 (fun H locs hP hD hS => ?_)
    have hP : va_P (dC, dI) vwCl [(qp, .inr (2, [.ref qk])), (h0, .inr (1, [.ref qw, .int b])), (qk, .inl (cK, 16, .inl (f))), (qw, .inl (cW, 52, .inl (u1)))] H := hP
    have hD : va_D A [(qp, .inr (2, [.ref qk])), (h0, .inr (1, [.ref qw, .int b])), (qk, .inl (cK, 16, .inl (f))), (qw, .inl (cW, 52, .inl (u1)))] := hD
    have hP9 := hP.sub (ws' := [(h0, .inr (1, [.ref qw, .int b])), (qp, .inr (2, [.ref qk])), (qk, .inl (cK, 16, .inl (f))), (qw, .inl (cW, 52, .inl (u1)))]) [1, 0, 2, 3] rfl
    have hD9 := hD.sub (ws' := [(h0, .inr (1, [.ref qw, .int b])), (qp, .inr (2, [.ref qk])), (qk, .inl (cK, 16, .inl (f))), (qw, .inl (cW, 52, .inl (u1)))]) [1, 0, 2, 3] (by decide) rfl
    have hK9 := hK.sub (tys' := [(cK, .byte), (cW, .int)]) [0, 1] rfl
    exact W.vret hx hb hr (fun t ht hW => ⟨⟨u1, rfl, hw_u1, qw, cW, by rw [ht]; exact hP9, va_K.moved hW.alike hK9, hD9⟩, hS.F ht⟩) hS.2.2 dX2_init_2_30
set_option maxHeartbeats 4000000 in
set_option maxRecDepth 100000 in
/-- processBlock(in, 0, out, 0) -/
theorem met_pb (l : Launch) (dC : Nat → ClassId) (dI : Nat → Nat → Nat) (h0 qw qi qo sz : Nat) (cW cI cO : ClassId) (v1 : Value) (w f g : Nat → Int32) : Met l yX2_processBlock (ws_ yX2_processBlock cX2_processBlock 5 (some .int)) ({ frames := 2, cells := 0, slots := 0, locals := 57 }) (va_Pc [.ref h0, .ref qi, .int (nI 0), .ref qo, .int (nI 0)] (fun U => U.heap.size = sz ∧ va_P (dC, dI) vwCl [(h0, .inr (1, [.ref qw, v1])), (qw, .inl (cW, 52, .inl (w))), (qi, .inl (cI, 8, .inl (f))), (qo, .inl (cO, 8, .inl (g)))] U.heap ∧ va_K (dC, dI) vwCl [(cW, .int), (cI, .byte), (cO, .byte)] U ∧ va_D (fun _ => True) [(h0, .inr (1, [.ref qw, v1])), (qw, .inl (cW, 52, .inl (w))), (qi, .inl (cI, 8, .inl (f))), (qo, .inl (cO, 8, .inl (g)))])) (va_Qi (fun (_ : Int32) (u : Nat → Int32) => u = id_out w f g) (fun (u : Nat → Int32) (t : State) => va_P (dC, dI) vwCl [(h0, .inr (1, [.ref qw, v1])), (qw, .inl (cW, 52, .inl (w))), (qi, .inl (cI, 8, .inl (f))), (qo, .inl (cO, 8, .inl (u)))] t.heap ∧ va_K (dC, dI) vwCl [(cW, .int), (cI, .byte), (cO, .byte)] t ∧ va_D (va_A [(h0, .inr (1, [.ref qw, v1])), (qw, .inl (cW, 52, .inl (w))), (qi, .inl (cI, 8, .inl (f))), (qo, .inl (cO, 8, .inl (g)))] sz) [(h0, .inr (1, [.ref qw, v1])), (qw, .inl (cW, 52, .inl (w))), (qi, .inl (cI, 8, .inl (f))), (qo, .inl (cO, 8, .inl (u)))]) (va_A [(h0, .inr (1, [.ref qw, v1])), (qw, .inl (cW, 52, .inl (w))), (qi, .inl (cI, 8, .inl (f))), (qo, .inl (cO, 8, .inl (g)))] sz)) 0 0 (va_A [(h0, .inr (1, [.ref qw, v1])), (qw, .inl (cW, 52, .inl (w))), (qi, .inl (cI, 8, .inl (f))), (qo, .inl (cO, 8, .inl (g)))] sz) := by
  refine Met.ofW (cc := cX2_processBlock) (maxL := 5) (ret := (some .int)) (by decide) rfl ?_
  intro p e s m args below meth c s₁ B hml hv
  obtain ⟨rfl, hsz, hP, hK, hD0⟩ := hv
  have hx := B.exec
  have hb := B.bytes
  have hr := B.returns
  have hts := atoms_spec (ws := (ws_ yX2_processBlock cX2_processBlock 5 (some .int))) B.pre
  have hts : ∀ w ∈ lw_all, w.before _ s = true := fun w h => hts w (List.mem_cons_of_mem _ h)
  have hown : s.vm.findClass RX2 = some m.cls := findClass_of_methodNamed B.named
  have hlocks := B.notSynchronized
  subst hsz
  have hD := hD0.self (sz := s.heap.size)
  generalize hAe : va_A [(h0, .inr (1, [.ref qw, v1])), (qw, .inl (cW, 52, .inl (w))), (qi, .inl (cI, 8, .inl (f))), (qo, .inl (cO, 8, .inl (g)))] s.heap.size = A at hD ⊢
  have hA : ∀ q : Nat, s.heap.size ≤ q → A q := fun q h => by rw [← hAe]; exact Or.inr h
  have hS : va_S A s.heap s.heap [] := va_S.rf
  have hP : va_P (dC, dI) vwCl [(h0, .inr (1, [.ref qw, v1])), (qw, .inl (cW, 52, .inl (w))), (qi, .inl (cI, 8, .inl (f))), (qo, .inl (cO, 8, .inl (g)))] s.heap := hP
  have hl := lv_entry ([.ref h0, .ref qi, .int (nI 0), .ref qo, .int (nI 0)]) (n := 5) (Nat.le_of_ble_eq_true rfl)
  rw [lg_entry_eq]
  generalize (lg_sl ([.ref h0, .ref qi, .int (nI 0), .ref qo, .int (nI 0)]) ++ List.replicate (5 - (lg_sl ([.ref h0, .ref qi, .int (nI 0), .ref qo, .int (nI 0)])).length) Slot.unset).toArray = ls at hl ⊢
  have hl : lv_has ls 5 [(0, .ref h0), (1, .ref qi), (2, .int (nI 0)), (3, .ref qo), (4, .int (nI 0))] := hl
  refine lv_aload_n hx hb dX2_processBlock_0 rfl (lv_at hl 0 rfl) ?_
  refine va_get (D := (dC, dI)) (ci := 1) (v := .ref qw) (C := RX2) (T := TX2) (N := 2) hx hb hts in_X2 hown hK hP 0 rfl rfl 0 (by decide) (hts _ q43) (fun _ h9 => h9) rfl dX2_processBlock_1 ?_
  refine lv_ifnonnull (tgt := 17) hx hb dX2_processBlock_4 (by decide) ?_
  refine lv_iload_n hx hb dX2_processBlock_17 rfl (lv_at hl 2 rfl) ?_
  refine lv_bipush (v := nI 8) hx hb dX2_processBlock_18 (by decide +kernel) ?_
  refine lv_iadd hx hb dX2_processBlock_20 ?_
  refine id_is (y := nI (8)) (id_addn (by omega)) ?_
  refine lv_aload_n hx hb dX2_processBlock_21 rfl (lv_at hl 1 rfl) ?_
  refine va_alen (v := nI 8) hx hb hK hP 2 1 rfl rfl rfl dX2_processBlock_22 ?_
  refine lv_icmp_le (tgt := 36) hx hb dX2_processBlock_23 (by decide) (fun c23 => ?_) (fun c23 => ?_)
  · refine lv_iload hx hb dX2_processBlock_36 (lv_at hl 4 rfl) ?_
    refine lv_bipush (v := nI 8) hx hb dX2_processBlock_38 (by decide +kernel) ?_
    refine lv_iadd hx hb dX2_processBlock_40 ?_
    refine id_is (y := nI (8)) (id_addn (by omega)) ?_
    refine lv_aload_n hx hb dX2_processBlock_41 rfl (lv_at hl 3 rfl) ?_
    refine va_alen (v := nI 8) hx hb hK hP 3 2 rfl rfl rfl dX2_processBlock_42 ?_
    refine lv_icmp_le (tgt := 56) hx hb dX2_processBlock_43 (by decide) (fun c43 => ?_) (fun c43 => ?_)
    · refine lv_aload_n hx hb dX2_processBlock_56 rfl (lv_at hl 0 rfl) ?_
      refine lv_aload_n hx hb dX2_processBlock_57 rfl (lv_at hl 0 rfl) ?_
      refine va_get (D := (dC, dI)) (ci := 1) (v := .ref qw) (C := RX2) (T := TX2) (N := 2) hx hb hts in_X2 hown hK hP 0 rfl rfl 0 (by decide) (hts _ q43) (fun _ h9 => h9) rfl dX2_processBlock_58 ?_
      refine lv_aload_n hx hb dX2_processBlock_61 rfl (lv_at hl 1 rfl) ?_
      refine lv_iload_n hx hb dX2_processBlock_62 rfl (lv_at hl 2 rfl) ?_
      refine lv_aload_n hx hb dX2_processBlock_63 rfl (lv_at hl 3 rfl) ?_
      refine lv_iload hx hb dX2_processBlock_64 (lv_at hl 4 rfl) ?_
      have hPc := hP.sub (ws' := [(h0, .inr (1, [.ref qw, v1])), (qw, .inl (cW, 52, .inl (w))), (qi, .inl (cI, 8, .inl (f))), (qo, .inl (cO, 8, .inl (g)))]) [0, 1, 2, 3] rfl
      have hDc := hD.sub (ws' := [(h0, .inr (1, [.ref qw, v1])), (qw, .inl (cW, 52, .inl (w))), (qi, .inl (cI, 8, .inl (f))), (qo, .inl (cO, 8, .inl (g)))]) [0, 1, 2, 3] (by decide) rfl
      have hKc := hK.sub (tys' := [(cW, .int), (cI, .byte), (cO, .byte)]) [0, 1, 2] rfl
      have hFc := va_free (wc := [(h0, .inr (1, [.ref qw, v1])), (qw, .inl (cW, 52, .inl (w))), (qi, .inl (cI, 8, .inl (f))), (qo, .inl (cO, 8, .inl (g)))]) hD hS hA [0, 1, 2, 3] rfl
      refine va_callv (va_runV (As := [.ref qw, .ref qi, .int (nI 0), .ref qo, .int (nI 0)]) (rest := []) ⟨hx, hb, hml, hown, hts⟩ (met_ideaFunc l dC dI h0 qw qi qo s.heap.size cW cI cO (.ref qw) v1 w f g) (cwV 5 hts (lw_V q244 q246 qs7 q12 q247) rfl rfl rfl (by decide +kernel) ⟨Nat.le_of_ble_eq_true rfl, Nat.le_of_ble_eq_true rfl⟩) ⟨fun a U g mk q => by obtain ⟨q0, q1, qP, qK, qD⟩ := q; exact ⟨q0, q1, qP, va_K.moved (u := U) (U := U.calling g mk a) (Vm.Alike.refl U.vm) qK, qD⟩, va_recv hKc hPc (ci := 1) (q0 := 0) rfl rfl, fun U hU hW => ⟨rfl, by rw [hU], by rw [hU]; exact hPc, va_K.moved hW.alike hKc, hDc.weaken (fun _ _ _ _ => trivial)⟩⟩ rfl rfl hl.1 rfl (lv_room (Nat.le_of_ble_eq_true rfl)) dX2_processBlock_66 ⟨Nat.le_of_ble_eq_true rfl, Nat.le_of_ble_eq_true rfl⟩) hS (fun q _ h => hFc q h) hFc (fun u t H1 locs ht hvm hw hB hz1 hk1 hS => ?_)
      obtain ⟨u1, rfl⟩ : ∃ z, z = u := ⟨_, rfl⟩
      have hw_u1 := hw
      obtain ⟨hP1, hK1, hD1⟩ := hB
      rw [ht] at hP1
      have hK1 := va_K.moved hvm.symm hK1
      obtain ⟨hP, hD⟩ := va_join (wr := []) (w1 := [(h0, .inr (1, [.ref qw, v1])), (qw, .inl (cW, 52, .inl (w))), (qi, .inl (cI, 8, .inl (f))), (qo, .inl (cO, 8, .inl (u1)))]) hP hD [0, 1, 2, 3] [] rfl rfl (by decide) (by decide) hk1 hFc hP1 hD1
      generalize H1 = H at hP hS ⊢
      have hP : va_P (dC, dI) vwCl [(h0, .inr (1, [.ref qw, v1])), (qw, .inl (cW, 52, .inl (w))), (qi, .inl (cI, 8, .inl (f))), (qo, .inl (cO, 8, .inl (u1)))] H := hP
      have hD : va_D A [(h0, .inr (1, [.ref qw, v1])), (qw, .inl (cW, 52, .inl (w))), (qi, .inl (cI, 8, .inl (f))), (qo, .inl (cO, 8, .inl (u1)))] := hD
      refine W.widen (k := 0) (n := 0) (Nat.le_of_ble_eq_true rfl) (Nat.le_of_ble_eq_true rfl) ?_
      refine lv_bipush (v := nI 8) hx hb dX2_processBlock_69 (by decide +kernel) ?_
      have hP9 := hP.sub (ws' := [(h0, .inr (1, [.ref qw, v1])), (qw, .inl (cW, 52, .inl (w))), (qi, .inl (cI, 8, .inl (f))), (qo, .inl (cO, 8, .inl (u1)))]) [0, 1, 2, 3] rfl
      have hD9 := hD.sub (ws' := [(h0, .inr (1, [.ref qw, v1])), (qw, .inl (cW, 52, .inl (w))), (qi, .inl (cI, 8, .inl (f))), (qo, .inl (cO, 8, .inl (u1)))]) [0, 1, 2, 3] (by decide) rfl
      have hK9 := hK.sub (tys' := [(cW, .int), (cI, .byte), (cO, .byte)]) [0, 1, 2] rfl
      exact W.iret (v := nI 8) hx hb hr (fun t ht hW => ⟨⟨nI 8, u1, rfl, hw_u1, by rw [ht]; exact hP9, va_K.moved hW.alike hK9, hD9⟩, hS.F ht⟩) hS.2.2 dX2_processBlock_71
    · exact absurd (nI_le (Nat.le_refl 8) (by decide)) c43
  · exact absurd (nI_le (Nat.le_refl 8) (by decide)) c23
end
section
/-! the desk -/
set_option maxRecDepth 100000
def xB_init : MethodName := ⟨"BlockCipher", "init", "(ZLCipherParameters;)V"⟩
def xB_pb : MethodName := ⟨"BlockCipher", "processBlock", "([BI[BI)I"⟩
/-- what the two calls through the interface rest on -/
def id_env (U : State) : Prop := va_Fw RX2 xB_init yX2_init_2 U ∧ va_Fw RX2 xB_pb yX2_processBlock U
theorem id_env.moved {u U : State} (h : u.vm.Alike U.vm) (e : id_env u) : id_env U := ⟨va_Fw.moved ⟨by decide +kernel, by decide +kernel⟩ h e.1, va_Fw.moved ⟨by decide +kernel, by decide +kernel⟩ h e.2⟩
theorem id_lwF {own : String} {idx : Nat} {C : String} {x y : MethodName} {b : ByteArray} {L : Nat} {r : Option FieldType} (h1 : Cond.methodLink own idx x ∈ lw_all) (h2 : Cond.selects C x y ∈ lw_all) (h3 : Cond.instanceMethod y ∈ lw_all) (h4 : Cond.initialized y.cls ∈ lw_all) (h5 : Cond.code y b L r ∈ lw_all) : GoodIn lw_all (va_wsF own idx C x y (ws_ y b L r)) := by
  refine lw_app ?_ (lw_meth h5)
  intro w hw
  simp only [List.mem_cons, List.not_mem_nil, or_false] at hw
  rcases hw with e | e | e | e
  · rw [e]; exact h1
  · rw [e]; exact h2
  · rw [e]; exact h3
  · rw [e]; exact h4
def id_w4 (g : Nat → Int32) (k : Nat) (v : Int32) : Nat → Int32 := upd (upd (upd (upd g k (id_b8 (v >>> ((24 : Int32) &&& 31)))) (k + 1) (id_b8 (v >>> ((16 : Int32) &&& 31)))) (k + 2) (id_b8 (v >>> ((8 : Int32) &&& 31)))) (k + 3) (id_b8 v)
def id_k4 (g : Nat → Int32) (k : Nat) (a b c d : Int32) : Nat → Int32 := id_w4 (id_w4 (id_w4 (id_w4 g k a) (k + 4) b) (k + 8) c) (k + 12) d
noncomputable def id_run (b : Int32) (fk fb fo : Nat → Int32) : Nat → Int32 := id_out (id_gk b (fun i => id_b8 (fk i))) fb fo
set_option maxHeartbeats 4000000 in
set_option maxRecDepth 100000 in
/-- the desk made -/
theorem met_desk (l : Launch) (dC : Nat → ClassId) (dI : Nat → Nat → Nat) (h0 sz : Nat) : Met l yX1_init (ws_ yX1_init cX1_init 1 none) ({ frames := 1, cells := 3, slots := 48, locals := 12 }) (va_Pc [.ref h0] (fun U => U.heap.size = sz ∧ va_P (dC, dI) vwCl [(h0, .inr (0, [.null, .null, .null]))] U.heap ∧ va_K (dC, dI) vwCl [] U ∧ va_D (fun _ => True) [(h0, .inr (0, [.null, .null, .null]))])) (va_Qv (fun _ : Unit => True) (fun (_ : Unit) (t : State) => ∃ (qk qb qo : Nat) (cK cB cO : ClassId), va_P (dC, dI) vwCl [(h0, .inr (0, [.ref qk, .ref qb, .ref qo])), (qk, .inl (cK, 32, .inl (fun _ => 0))), (qb, .inl (cB, 8, .inl (fun _ => 0))), (qo, .inl (cO, 8, .inl (fun _ => 0)))] t.heap ∧ va_K (dC, dI) vwCl [(cK, .byte), (cB, .byte), (cO, .byte)] t ∧ va_D (va_A [(h0, .inr (0, [.null, .null, .null]))] sz) [(h0, .inr (0, [.ref qk, .ref qb, .ref qo])), (qk, .inl (cK, 32, .inl (fun _ => 0))), (qb, .inl (cB, 8, .inl (fun _ => 0))), (qo, .inl (cO, 8, .inl (fun _ => 0)))]) (va_A [(h0, .inr (0, [.null, .null, .null]))] sz)) 3 48 (va_A [(h0, .inr (0, [.null, .null, .null]))] sz) := by
  refine Met.ofW (cc := cX1_init) (maxL := 1) (ret := none) (by decide) rfl ?_
  intro p e s m args below meth c s₁ B hml hv
  obtain ⟨rfl, hsz, hP, hK, hD0⟩ := hv
  have hx := B.exec
  have hb := B.bytes
  have hr := B.returns
  have hts := atoms_spec (ws := (ws_ yX1_init cX1_init 1 none)) B.pre
  have hts : ∀ w ∈ lw_all, w.before _ s = true := fun w h => hts w (List.mem_cons_of_mem _ h)
  have hown : s.vm.findClass RX1 = some m.cls := findClass_of_methodNamed B.named
  have hlocks := B.notSynchronized
  have hin : meth.name = "<init>" := (name_of_methodNamed B.named B.method).1
  subst hsz
  have hD := hD0.self (sz := s.heap.size)
  generalize hAe : va_A [(h0, .inr (0, [.null, .null, .null]))] s.heap.size = A at hD ⊢
  have hA : ∀ q : Nat, s.heap.size ≤ q → A q := fun q h => by rw [← hAe]; exact Or.inr h
  have hS : va_S A s.heap s.heap [] := va_S.rf
  have hP : va_P (dC, dI) vwCl [(h0, .inr (0, [.null, .null, .null]))] s.heap := hP
  have hl := lv_entry ([.ref h0]) (n := 1) (Nat.le_of_ble_eq_true rfl)
  rw [lg_entry_eq]
  generalize (lg_sl ([.ref h0]) ++ List.replicate (1 - (lg_sl ([.ref h0])).length) Slot.unset).toArray = ls at hl ⊢
  have hl : lv_has ls 1 [(0, .ref h0)] := hl
  refine lv_aload_n hx hb dX1_init_0 rfl (lv_at hl 0 rfl) ?_
  refine W.objInit hx hb hown (hts _ q271) (hts _ q41) (hts _ q42) rfl (by rw [hml]; exact hl.1) rfl dX1_init_1 (Nat.le_of_ble_eq_true rfl) (Nat.le_of_ble_eq_true rfl) ?_
  refine W.eq (g2 := F0 m 4 ls []) rfl ?_
  refine lv_aload_n hx hb dX1_init_4 rfl (lv_at hl 0 rfl) ?_
  refine lv_bipush (v := nI 32) hx hb dX1_init_5 (by decide +kernel) ?_
  refine va_newa (atype := .byte) (ty := .byte) (a0 := (32, .inl (fun _ => 0))) hx hb (hts _ q50) rfl hK hP hD hS hA (fun _ => rfl) (nI_pos (by decide)) (nI_clamp (n := 32) (by decide)) (Nat.le_of_ble_eq_true rfl) (Nat.le_of_ble_eq_true rfl) (Nat.le_of_ble_eq_true rfl) dX1_init_7 (fun qk cK H hK hP hD hS => ?_)
  have hP : va_P (dC, dI) vwCl [(h0, .inr (0, [.null, .null, .null])), (qk, .inl (cK, 32, .inl (fun _ => 0)))] H := hP
  have hD : va_D A [(h0, .inr (0, [.null, .null, .null])), (qk, .inl (cK, 32, .inl (fun _ => 0)))] := hD
  have hK : va_K (dC, dI) vwCl [(cK, .byte)] s := hK
  refine W.widen (k := 1) (n := 32) (Nat.le_of_ble_eq_true rfl) (Nat.le_of_ble_eq_true rfl) ?_
  refine va_putF (D := (dC, dI)) (ci := 0) (v := .ref qk) (ty := .array .byte) (C := RX1) (T := TX1) (N := 3) hx hb hts in_X1 tyX1 tyX1_ok nmX1 hown hK hP hD hS 0 rfl rfl 0 (by decide) (hts _ q272) (fun _ h9 => h9) rfl hin rfl (by decide +kernel) rfl rfl (Nat.le_of_ble_eq_true rfl) dX1_init_9 (fun H locs hP hD hS => ?_)
  have hP : va_P (dC, dI) vwCl [(h0, .inr (0, [.ref qk, .null, .null])), (qk, .inl (cK, 32, .inl (fun _ => 0)))] H := hP
  have hD : va_D A [(h0, .inr (0, [.ref qk, .null, .null])), (qk, .inl (cK, 32, .inl (fun _ => 0)))] := hD
  refine lv_aload_n hx hb dX1_init_12 rfl (lv_at hl 0 rfl) ?_
  refine lv_bipush (v := nI 8) hx hb dX1_init_13 (by decide +kernel) ?_
  refine va_newa (atype := .byte) (ty := .byte) (a0 := (8, .inl (fun _ => 0))) hx hb (hts _ q50) rfl hK hP hD hS hA (fun _ => rfl) (nI_pos (by decide)) (nI_clamp (n := 8) (by decide)) (Nat.le_of_ble_eq_true rfl) (Nat.le_of_ble_eq_true rfl) (Nat.le_of_ble_eq_true rfl) dX1_init_15 (fun qb cB H hK hP hD hS => ?_)
  have hP : va_P (dC, dI) vwCl [(h0, .inr (0, [.ref qk, .null, .null])), (qk, .inl (cK, 32, .inl (fun _ => 0))), (qb, .inl (cB, 8, .inl (fun _ => 0)))] H := hP
  have hD : va_D A [(h0, .inr (0, [.ref qk, .null, .null])), (qk, .inl (cK, 32, .inl (fun _ => 0))), (qb, .inl (cB, 8, .inl (fun _ => 0)))] := hD
  have hK : va_K (dC, dI) vwCl [(cK, .byte), (cB, .byte)] s := hK
  refine W.widen (k := 2) (n := 40) (Nat.le_of_ble_eq_true rfl) (Nat.le_of_ble_eq_true rfl) ?_
  refine va_putF (D := (dC, dI)) (ci := 0) (v := .ref qb) (ty := .array .byte) (C := RX1) (T := TX1) (N := 3) hx hb hts in_X1 tyX1 tyX1_ok nmX1 hown hK hP hD hS 0 rfl rfl 1 (by decide) (hts _ q273) (fun _ h9 => h9) rfl hin rfl (by decide +kernel) rfl rfl (Nat.le_of_ble_eq_true rfl) dX1_init_17 (fun H locs hP hD hS => ?_)
  have hP : va_P (dC, dI) vwCl [(h0, .inr (0, [.ref qk, .ref qb, .null])), (qk, .inl (cK, 32, .inl (fun _ => 0))), (qb, .inl (cB, 8, .inl (fun _ => 0)))] H := hP
  have hD : va_D A [(h0, .inr (0, [.ref qk, .ref qb, .null])), (qk, .inl (cK, 32, .inl (fun _ => 0))), (qb, .inl (cB, 8, .inl (fun _ => 0)))] := hD
  refine lv_aload_n hx hb dX1_init_20 rfl (lv_at hl 0 rfl) ?_
  refine lv_bipush (v := nI 8) hx hb dX1_init_21 (by decide +kernel) ?_
  refine va_newa (atype := .byte) (ty := .byte) (a0 := (8, .inl (fun _ => 0))) hx hb (hts _ q50) rfl hK hP hD hS hA (fun _ => rfl) (nI_pos (by decide)) (nI_clamp (n := 8) (by decide)) (Nat.le_of_ble_eq_true rfl) (Nat.le_of_ble_eq_true rfl) (Nat.le_of_ble_eq_true rfl) dX1_init_23 (fun qo cO H hK hP hD hS => ?_)
  have hP : va_P (dC, dI) vwCl [(h0, .inr (0, [.ref qk, .ref qb, .null])), (qk, .inl (cK, 32, .inl (fun _ => 0))), (qb, .inl (cB, 8, .inl (fun _ => 0))), (qo, .inl (cO, 8, .inl (fun _ => 0)))] H := hP
  have hD : va_D A [(h0, .inr (0, [.ref qk, .ref qb, .null])), (qk, .inl (cK, 32, .inl (fun _ => 0))), (qb, .inl (cB, 8, .inl (fun _ => 0))), (qo, .inl (cO, 8, .inl (fun _ => 0)))] := hD
  have hK : va_K (dC, dI) vwCl [(cK, .byte), (cB, .byte), (cO, .byte)] s := hK
  refine W.widen (k := 3) (n := 48) (Nat.le_of_ble_eq_true rfl) (Nat.le_of_ble_eq_true rfl) ?_
  refine va_putF (D := (dC, dI)) (ci := 0) (v := .ref qo) (ty := .array .byte) (C := RX1) (T := TX1) (N := 3) hx hb hts in_X1 tyX1 tyX1_ok nmX1 hown hK hP hD hS 0 rfl rfl 2 (by decide) (hts _ q274) (fun _ h9 => h9) rfl hin rfl (by decide +kernel) rfl rfl (Nat.le_of_ble_eq_true rfl) dX1_init_25 (fun H locs hP hD hS => ?_)
  have hP : va_P (dC, dI) vwCl [(h0, .inr (0, [.ref qk, .ref qb, .ref qo])), (qk, .inl (cK, 32, .inl (fun _ => 0))), (qb, .inl (cB, 8, .inl (fun _ => 0))), (qo, .inl (cO, 8, .inl (fun _ => 0)))] H := hP
  have hD : va_D A [(h0, .inr (0, [.ref qk, .ref qb, .ref qo])), (qk, .inl (cK, 32, .inl (fun _ => 0))), (qb, .inl (cB, 8, .inl (fun _ => 0))), (qo, .inl (cO, 8, .inl (fun _ => 0)))] := hD
  have hP9 := hP.sub (ws' := [(h0, .inr (0, [.ref qk, .ref qb, .ref qo])), (qk, .inl (cK, 32, .inl (fun _ => 0))), (qb, .inl (cB, 8, .inl (fun _ => 0))), (qo, .inl (cO, 8, .inl (fun _ => 0)))]) [0, 1, 2, 3] rfl
  have hD9 := hD.sub (ws' := [(h0, .inr (0, [.ref qk, .ref qb, .ref qo])), (qk, .inl (cK, 32, .inl (fun _ => 0))), (qb, .inl (cB, 8, .inl (fun _ => 0))), (qo, .inl (cO, 8, .inl (fun _ => 0)))]) [0, 1, 2, 3] (by decide) rfl
  have hK9 := hK.sub (tys' := [(cK, .byte), (cB, .byte), (cO, .byte)]) [0, 1, 2] rfl
  exact W.vret hx hb hr (fun t ht hW => ⟨⟨(), rfl, trivial, qk, qb, qo, cK, cB, cO, by rw [ht]; exact hP9, va_K.moved hW.alike hK9, hD9⟩, hS.F ht⟩) hS.2.2 dX1_init_28
set_option maxHeartbeats 4000000 in
set_option maxRecDepth 100000 in
/-- word(to, k, v) -/
theorem met_word (l : Launch) (dC : Nat → ClassId) (dI : Nat → Nat → Nat) (a sz : Nat) (cA : ClassId) (n k : Nat) (f : Nat → Int32) (v : Int32) (hk : k + 3 < n) (hn : n < 2 ^ 31) : Met l yX1_word (ws_ yX1_word cX1_word 3 none) ({ frames := 0, cells := 0, slots := 0, locals := 0 }) (va_Pc [.ref a, .int (nI k), .int v] (fun U => U.heap.size = sz ∧ va_P (dC, dI) vwCl [(a, .inl (cA, n, .inl (f)))] U.heap ∧ va_K (dC, dI) vwCl [(cA, .byte)] U ∧ va_D (fun _ => True) [(a, .inl (cA, n, .inl (f)))])) (va_Qv (fun u : Nat → Int32 => u = id_w4 f k v) (fun (u : Nat → Int32) (t : State) => va_P (dC, dI) vwCl [(a, .inl (cA, n, .inl (u)))] t.heap ∧ va_K (dC, dI) vwCl [(cA, .byte)] t ∧ va_D (va_A [(a, .inl (cA, n, .inl (f)))] sz) [(a, .inl (cA, n, .inl (u)))]) (va_A [(a, .inl (cA, n, .inl (f)))] sz)) 0 0 (va_A [(a, .inl (cA, n, .inl (f)))] sz) := by
  refine Met.ofW (cc := cX1_word) (maxL := 3) (ret := none) (by decide) rfl ?_
  intro p e s m args below meth c s₁ B hml hv
  obtain ⟨rfl, hsz, hP, hK, hD0⟩ := hv
  have hx := B.exec
  have hb := B.bytes
  have hr := B.returns
  have hts := atoms_spec (ws := (ws_ yX1_word cX1_word 3 none)) B.pre
  have hts : ∀ w ∈ lw_all, w.before _ s = true := fun w h => hts w (List.mem_cons_of_mem _ h)
  have hown : s.vm.findClass RX1 = some m.cls := findClass_of_methodNamed B.named
  have hlocks := B.notSynchronized
  subst hsz
  have hD := hD0.self (sz := s.heap.size)
  generalize hAe : va_A [(a, .inl (cA, n, .inl (f)))] s.heap.size = A at hD ⊢
  have hA : ∀ q : Nat, s.heap.size ≤ q → A q := fun q h => by rw [← hAe]; exact Or.inr h
  have hS : va_S A s.heap s.heap [] := va_S.rf
  have hP : va_P (dC, dI) vwCl [(a, .inl (cA, n, .inl (f)))] s.heap := hP
  have hl := lv_entry ([.ref a, .int (nI k), .int v]) (n := 3) (Nat.le_of_ble_eq_true rfl)
  rw [lg_entry_eq]
  generalize (lg_sl ([.ref a, .int (nI k), .int v]) ++ List.replicate (3 - (lg_sl ([.ref a, .int (nI k), .int v])).length) Slot.unset).toArray = ls at hl ⊢
  have hl : lv_has ls 3 [(0, .ref a), (1, .int (nI k)), (2, .int v)] := hl
  refine lv_aload_n hx hb dX1_word_0 rfl (lv_at hl 0 rfl) ?_
  refine lv_iload_n hx hb dX1_word_1 rfl (lv_at hl 1 rfl) ?_
  refine lv_iload_n hx hb dX1_word_2 rfl (lv_at hl 2 rfl) ?_
  refine lv_bipush (v := 24) hx hb dX1_word_3 (by decide +kernel) ?_
  refine lv_ishr hx hb dX1_word_5 ?_
  refine lv_i2b (v := ((v) >>> ((24 : Int32) &&& 31) : Int32).toInt8.toInt32) hx hb dX1_word_6 rfl ?_
  refine va_bast hx hb hK hP hD hS 0 0 rfl rfl (vp_in_nI (by omega) (by omega)) dX1_word_7 (fun H locs hP hD hS => ?_)
  rw [nI_clamp (n := k) (by omega)] at hP hD
  rw [pk_vb] at hP hD
  have hP : va_P (dC, dI) vwCl [(a, .inl (cA, n, .inl (upd (f) (k) (((v) >>> ((24 : Int32) &&& 31) : Int32).toInt8.toInt32))))] H := hP
  have hD : va_D A [(a, .inl (cA, n, .inl (upd (f) (k) (((v) >>> ((24 : Int32) &&& 31) : Int32).toInt8.toInt32))))] := hD
  refine lv_aload_n hx hb dX1_word_8 rfl (lv_at hl 0 rfl) ?_
  refine lv_iload_n hx hb dX1_word_9 rfl (lv_at hl 1 rfl) ?_
  refine lv_iconst (v := nI 1) hx hb dX1_word_10 (by decide +kernel) ?_
  refine lv_iadd hx hb dX1_word_11 ?_
  refine id_is (y := nI (k + 1)) (id_addn (by omega)) ?_
  refine lv_iload_n hx hb dX1_word_12 rfl (lv_at hl 2 rfl) ?_
  refine lv_bipush (v := 16) hx hb dX1_word_13 (by decide +kernel) ?_
  refine lv_ishr hx hb dX1_word_15 ?_
  refine lv_i2b (v := ((v) >>> ((16 : Int32) &&& 31) : Int32).toInt8.toInt32) hx hb dX1_word_16 rfl ?_
  refine va_bast hx hb hK hP hD hS 0 0 rfl rfl (vp_in_nI (by omega) (by omega)) dX1_word_17 (fun H locs hP hD hS => ?_)
  rw [nI_clamp (n := k + 1) (by omega)] at hP hD
  rw [pk_vb] at hP hD
  have hP : va_P (dC, dI) vwCl [(a, .inl (cA, n, .inl (upd (upd (f) (k) (((v) >>> ((24 : Int32) &&& 31) : Int32).toInt8.toInt32)) (k + 1) (((v) >>> ((16 : Int32) &&& 31) : Int32).toInt8.toInt32))))] H := hP
  have hD : va_D A [(a, .inl (cA, n, .inl (upd (upd (f) (k) (((v) >>> ((24 : Int32) &&& 31) : Int32).toInt8.toInt32)) (k + 1) (((v) >>> ((16 : Int32) &&& 31) : Int32).toInt8.toInt32))))] := hD
  refine lv_aload_n hx hb dX1_word_18 rfl (lv_at hl 0 rfl) ?_
  refine lv_iload_n hx hb dX1_word_19 rfl (lv_at hl 1 rfl) ?_
  refine lv_iconst (v := nI 2) hx hb dX1_word_20 (by decide +kernel) ?_
  refine lv_iadd hx hb dX1_word_21 ?_
  refine id_is (y := nI (k + 2)) (id_addn (by omega)) ?_
  refine lv_iload_n hx hb dX1_word_22 rfl (lv_at hl 2 rfl) ?_
  refine lv_bipush (v := 8) hx hb dX1_word_23 (by decide +kernel) ?_
  refine lv_ishr hx hb dX1_word_25 ?_
  refine lv_i2b (v := ((v) >>> ((8 : Int32) &&& 31) : Int32).toInt8.toInt32) hx hb dX1_word_26 rfl ?_
  refine va_bast hx hb hK hP hD hS 0 0 rfl rfl (vp_in_nI (by omega) (by omega)) dX1_word_27 (fun H locs hP hD hS => ?_)
  rw [nI_clamp (n := k + 2) (by omega)] at hP hD
  rw [pk_vb] at hP hD
  have hP : va_P (dC, dI) vwCl [(a, .inl (cA, n, .inl (upd (upd (upd (f) (k) (((v) >>> ((24 : Int32) &&& 31) : Int32).toInt8.toInt32)) (k + 1) (((v) >>> ((16 : Int32) &&& 31) : Int32).toInt8.toInt32)) (k + 2) (((v) >>> ((8 : Int32) &&& 31) : Int32).toInt8.toInt32))))] H := hP
  have hD : va_D A [(a, .inl (cA, n, .inl (upd (upd (upd (f) (k) (((v) >>> ((24 : Int32) &&& 31) : Int32).toInt8.toInt32)) (k + 1) (((v) >>> ((16 : Int32) &&& 31) : Int32).toInt8.toInt32)) (k + 2) (((v) >>> ((8 : Int32) &&& 31) : Int32).toInt8.toInt32))))] := hD
  refine lv_aload_n hx hb dX1_word_28 rfl (lv_at hl 0 rfl) ?_
  refine lv_iload_n hx hb dX1_word_29 rfl (lv_at hl 1 rfl) ?_
  refine lv_iconst (v := nI 3) hx hb dX1_word_30 (by decide +kernel) ?_
  refine lv_iadd hx hb dX1_word_31 ?_
  refine id_is (y := nI (k + 3)) (id_addn (by omega)) ?_
  refine lv_iload_n hx hb dX1_word_32 rfl (lv_at hl 2 rfl) ?_
  refine lv_i2b (v := (v : Int32).toInt8.toInt32) hx hb dX1_word_33 rfl ?_
  refine va_bast hx hb hK hP hD hS 0 0 rfl rfl (vp_in_nI (by omega) (by omega)) dX1_word_34 (fun H locs hP hD hS => ?_)
  rw [nI_clamp (n := k + 3) (by omega)] at hP hD
  rw [pk_vb] at hP hD
  have hP : va_P (dC, dI) vwCl [(a, .inl (cA, n, .inl (upd (upd (upd (upd (f) (k) (((v) >>> ((24 : Int32) &&& 31) : Int32).toInt8.toInt32)) (k + 1) (((v) >>> ((16 : Int32) &&& 31) : Int32).toInt8.toInt32)) (k + 2) (((v) >>> ((8 : Int32) &&& 31) : Int32).toInt8.toInt32)) (k + 3) ((v : Int32).toInt8.toInt32))))] H := hP
  have hD : va_D A [(a, .inl (cA, n, .inl (upd (upd (upd (upd (f) (k) (((v) >>> ((24 : Int32) &&& 31) : Int32).toInt8.toInt32)) (k + 1) (((v) >>> ((16 : Int32) &&& 31) : Int32).toInt8.toInt32)) (k + 2) (((v) >>> ((8 : Int32) &&& 31) : Int32).toInt8.toInt32)) (k + 3) ((v : Int32).toInt8.toInt32))))] := hD
  have hP9 := hP.sub (ws' := [(a, .inl (cA, n, .inl (id_w4 f k v)))]) [0] rfl
  have hD9 := hD.sub (ws' := [(a, .inl (cA, n, .inl (id_w4 f k v)))]) [0] (by decide) rfl
  have hK9 := hK.sub (tys' := [(cA, .byte)]) [0] rfl
  exact W.vret hx hb hr (fun t ht hW => ⟨⟨(id_w4 f k v), rfl, rfl, by rw [ht]; exact hP9, va_K.moved hW.alike hK9, hD9⟩, hS.F ht⟩) hS.2.2 dX1_word_35
set_option maxHeartbeats 4000000 in
set_option maxRecDepth 100000 in
/-- key(half, ..) -/
theorem met_key (l : Launch) (dC : Nat → ClassId) (dI : Nat → Nat → Nat) (h0 qk qb qo sz : Nat) (cK : ClassId) (fk : Nat → Int32) (hh : Nat) (hhh : hh < 2) (a1 a2 a3 a4 : Int32) : Met l yX1_key (ws_ yX1_key cX1_key 7 none) ({ frames := 1, cells := 0, slots := 0, locals := 24 }) (va_Pc [.ref h0, .int (nI hh), .int a1, .int a2, .int a3, .int a4] (fun U => U.heap.size = sz ∧ va_P (dC, dI) vwCl [(h0, .inr (0, [.ref qk, .ref qb, .ref qo])), (qk, .inl (cK, 32, .inl (fk)))] U.heap ∧ va_K (dC, dI) vwCl [(cK, .byte)] U ∧ va_D (fun _ => True) [(h0, .inr (0, [.ref qk, .ref qb, .ref qo])), (qk, .inl (cK, 32, .inl (fk)))])) (va_Qv (fun u : Nat → Int32 => u = id_k4 fk (hh * 16) a1 a2 a3 a4) (fun (u : Nat → Int32) (t : State) => va_P (dC, dI) vwCl [(h0, .inr (0, [.ref qk, .ref qb, .ref qo])), (qk, .inl (cK, 32, .inl (u)))] t.heap ∧ va_K (dC, dI) vwCl [(cK, .byte)] t ∧ va_D (va_A [(h0, .inr (0, [.ref qk, .ref qb, .ref qo])), (qk, .inl (cK, 32, .inl (fk)))] sz) [(h0, .inr (0, [.ref qk, .ref qb, .ref qo])), (qk, .inl (cK, 32, .inl (u)))]) (va_A [(h0, .inr (0, [.ref qk, .ref qb, .ref qo])), (qk, .inl (cK, 32, .inl (fk)))] sz)) 0 0 (va_A [(h0, .inr (0, [.ref qk, .ref qb, .ref qo])), (qk, .inl (cK, 32, .inl (fk)))] sz) := by
  refine Met.ofW (cc := cX1_key) (maxL := 7) (ret := none) (by decide) rfl ?_
  intro p e s m args below meth c s₁ B hml hv
  obtain ⟨rfl, hsz, hP, hK, hD0⟩ := hv
  have hx := B.exec
  have hb := B.bytes
  have hr := B.returns
  have hts := atoms_spec (ws := (ws_ yX1_key cX1_key 7 none)) B.pre
  have hts : ∀ w ∈ lw_all, w.before _ s = true := fun w h => hts w (List.mem_cons_of_mem _ h)
  have hown : s.vm.findClass RX1 = some m.cls := findClass_of_methodNamed B.named
  have hlocks := B.notSynchronized
  subst hsz
  have hD := hD0.self (sz := s.heap.size)
  generalize hAe : va_A [(h0, .inr (0, [.ref qk, .ref qb, .ref qo])), (qk, .inl (cK, 32, .inl (fk)))] s.heap.size = A at hD ⊢
  have hA : ∀ q : Nat, s.heap.size ≤ q → A q := fun q h => by rw [← hAe]; exact Or.inr h
  have hS : va_S A s.heap s.heap [] := va_S.rf
  have hP : va_P (dC, dI) vwCl [(h0, .inr (0, [.ref qk, .ref qb, .ref qo])), (qk, .inl (cK, 32, .inl (fk)))] s.heap := hP
  have hl := lv_entry ([.ref h0, .int (nI hh), .int a1, .int a2, .int a3, .int a4]) (n := 7) (Nat.le_of_ble_eq_true rfl)
  rw [lg_entry_eq]
  generalize (lg_sl ([.ref h0, .int (nI hh), .int a1, .int a2, .int a3, .int a4]) ++ List.replicate (7 - (lg_sl ([.ref h0, .int (nI hh), .int a1, .int a2, .int a3, .int a4])).length) Slot.unset).toArray = ls at hl ⊢
  have hl : lv_has ls 7 [(0, .ref h0), (1, .int (nI hh)), (2, .int a1), (3, .int a2), (4, .int a3), (5, .int a4)] := hl
  refine lv_iload_n hx hb dX1_key_0 rfl (lv_at hl 1 rfl) ?_
  refine lv_iconst (v := 1) hx hb dX1_key_1 (by decide +kernel) ?_
  refine lv_iand hx hb dX1_key_2 ?_
  refine id_is (y := nI hh) (id_andn (by omega) 1 (by decide) (by omega)) ?_
  refine lv_iconst (v := 4) hx hb dX1_key_3 (by decide +kernel) ?_
  refine lv_ishl hx hb dX1_key_4 ?_
  refine id_is (y := nI (hh * 16)) (pk_shlN (n := hh) _ 4 (by decide) (by omega)) ?_
  refine lv_istore (lv' := [(6, .int (nI (hh * 16))), (0, .ref h0), (1, .int (nI hh)), (2, .int a1), (3, .int a2), (4, .int a3), (5, .int a4)]) hx hb dX1_key_5 hl (by decide) rfl (fun ls hl => ?_)
  refine lv_aload_n hx hb dX1_key_7 rfl (lv_at hl 1 rfl) ?_
  refine va_get (D := (dC, dI)) (ci := 0) (v := .ref qk) (C := RX1) (T := TX1) (N := 3) hx hb hts in_X1 hown hK hP 0 rfl rfl 0 (by decide) (hts _ q272) (fun _ h9 => h9) rfl dX1_key_8 ?_
  refine lv_iload hx hb dX1_key_11 (lv_at hl 0 rfl) ?_
  refine lv_iload_n hx hb dX1_key_13 rfl (lv_at hl 3 rfl) ?_
  have hPc := hP.sub (ws' := [(qk, .inl (cK, 32, .inl (fk)))]) [1] rfl
  have hDc := hD.sub (ws' := [(qk, .inl (cK, 32, .inl (fk)))]) [1] (by decide) rfl
  have hKc := hK.sub (tys' := [(cK, .byte)]) [0] rfl
  have hFc := va_free (wc := [(qk, .inl (cK, 32, .inl (fk)))]) hD hS hA [1] rfl
  refine va_callv (va_runS (As := [.ref qk, .int (nI (hh * 16)), .int a1]) (rest := []) ⟨hx, hb, hml, hown, hts⟩ (met_word l dC dI qk s.heap.size cK 32 (hh * 16) (fk) (a1) (by omega) (by omega)) (va_cwS 3 hts (lw_S q289 q290 q11 q291) rfl rfl rfl (by decide +kernel) ⟨Nat.le_of_ble_eq_true rfl, Nat.le_of_ble_eq_true rfl⟩) ⟨fun a U g mk q => by obtain ⟨q0, q1, qP, qK, qD⟩ := q; exact ⟨q0, q1, qP, va_K.moved (u := U) (U := U.calling g mk a) (Vm.Alike.refl U.vm) qK, qD⟩, fun U hU hW => ⟨rfl, by rw [hU], by rw [hU]; exact hPc, va_K.moved hW.alike hKc, hDc.weaken (fun _ _ _ _ => trivial)⟩⟩ rfl rfl hl.1 rfl (lv_room (Nat.le_of_ble_eq_true rfl)) dX1_key_14 ⟨Nat.le_of_ble_eq_true rfl, Nat.le_of_ble_eq_true rfl⟩) hS (fun q _ h => hFc q h) hFc (fun u t H1 locs ht hvm hw hB hz1 hk1 hS => ?_)
  obtain ⟨f1, rfl⟩ : ∃ z, z = u := ⟨_, rfl⟩
  have hw_f1 := hw
  obtain ⟨hP1, hK1, hD1⟩ := hB
  rw [ht] at hP1
  have hK1 := va_K.moved hvm.symm hK1
  obtain ⟨hP, hD⟩ := va_join (wr := [(h0, .inr (0, [.ref qk, .ref qb, .ref qo]))]) (w1 := [(qk, .inl (cK, 32, .inl (f1)))]) hP hD [1] [0] rfl rfl (by decide) (by decide) hk1 hFc hP1 hD1
  generalize H1 = H at hP hS ⊢
  have hP : va_P (dC, dI) vwCl [(h0, .inr (0, [.ref qk, .ref qb, .ref qo])), (qk, .inl (cK, 32, .inl (f1)))] H := hP
  have hD : va_D A [(h0, .inr (0, [.ref qk, .ref qb, .ref qo])), (qk, .inl (cK, 32, .inl (f1)))] := hD
  refine W.widen (k := 0) (n := 0) (Nat.le_of_ble_eq_true rfl) (Nat.le_of_ble_eq_true rfl) ?_
  rw [hw_f1] at hP hD
  have hP : va_P (dC, dI) vwCl [(h0, .inr (0, [.ref qk, .ref qb, .ref qo])), (qk, .inl (cK, 32, .inl (id_w4 (fk) (hh * 16) (a1))))] H := hP
  have hD : va_D A [(h0, .inr (0, [.ref qk, .ref qb, .ref qo])), (qk, .inl (cK, 32, .inl (id_w4 (fk) (hh * 16) (a1))))] := hD
  refine lv_aload_n hx hb dX1_key_17 rfl (lv_at hl 1 rfl) ?_
  refine va_get (D := (dC, dI)) (ci := 0) (v := .ref qk) (C := RX1) (T := TX1) (N := 3) hx hb hts in_X1 hown hK hP 0 rfl rfl 0 (by decide) (hts _ q272) (fun _ h9 => h9) rfl dX1_key_18 ?_
  refine lv_iload hx hb dX1_key_21 (lv_at hl 0 rfl) ?_
  refine lv_iconst (v := nI 4) hx hb dX1_key_23 (by decide +kernel) ?_
  refine lv_iadd hx hb dX1_key_24 ?_
  refine id_is (y := nI (hh * 16 + 4)) (id_addn (by omega)) ?_
  refine lv_iload_n hx hb dX1_key_25 rfl (lv_at hl 4 rfl) ?_
  have hPc := hP.sub (ws' := [(qk, .inl (cK, 32, .inl (id_w4 (fk) (hh * 16) (a1))))]) [1] rfl
  have hDc := hD.sub (ws' := [(qk, .inl (cK, 32, .inl (id_w4 (fk) (hh * 16) (a1))))]) [1] (by decide) rfl
  have hKc := hK.sub (tys' := [(cK, .byte)]) [0] rfl
  have hFc := va_free (wc := [(qk, .inl (cK, 32, .inl (id_w4 (fk) (hh * 16) (a1))))]) hD hS hA [1] rfl
  refine va_callv (va_runS (As := [.ref qk, .int (nI (hh * 16 + 4)), .int a2]) (rest := []) ⟨hx, hb, hml, hown, hts⟩ (met_word l dC dI qk H.size cK 32 (hh * 16 + 4) (id_w4 (fk) (hh * 16) (a1)) (a2) (by omega) (by omega)) (va_cwS 3 hts (lw_S q289 q290 q11 q291) rfl rfl rfl (by decide +kernel) ⟨Nat.le_of_ble_eq_true rfl, Nat.le_of_ble_eq_true rfl⟩) ⟨fun a U g mk q => by obtain ⟨q0, q1, qP, qK, qD⟩ := q; exact ⟨q0, q1, qP, va_K.moved (u := U) (U := U.calling g mk a) (Vm.Alike.refl U.vm) qK, qD⟩, fun U hU hW => ⟨rfl, by rw [hU], by rw [hU]; exact hPc, va_K.moved hW.alike hKc, hDc.weaken (fun _ _ _ _ => trivial)⟩⟩ rfl rfl hl.1 rfl (lv_room (Nat.le_of_ble_eq_true rfl)) dX1_key_26 ⟨Nat.le_of_ble_eq_true rfl, Nat.le_of_ble_eq_true rfl⟩) hS (fun q _ h => hFc q h) hFc (fun u t H1 locs ht hvm hw hB hz1 hk1 hS => ?_)
  obtain ⟨f2, rfl⟩ : ∃ z, z = u := ⟨_, rfl⟩
  have hw_f2 := hw
  obtain ⟨hP1, hK1, hD1⟩ := hB
  rw [ht] at hP1
  have hK1 := va_K.moved hvm.symm hK1
  obtain ⟨hP, hD⟩ := va_join (wr := [(h0, .inr (0, [.ref qk, .ref qb, .ref qo]))]) (w1 := [(qk, .inl (cK, 32, .inl (f2)))]) hP hD [1] [0] rfl rfl (by decide) (by decide) hk1 hFc hP1 hD1
  generalize H1 = H at hP hS ⊢
  have hP : va_P (dC, dI) vwCl [(h0, .inr (0, [.ref qk, .ref qb, .ref qo])), (qk, .inl (cK, 32, .inl (f2)))] H := hP
  have hD : va_D A [(h0, .inr (0, [.ref qk, .ref qb, .ref qo])), (qk, .inl (cK, 32, .inl (f2)))] := hD
  refine W.widen (k := 0) (n := 0) (Nat.le_of_ble_eq_true rfl) (Nat.le_of_ble_eq_true rfl) ?_
  rw [hw_f2] at hP hD
  have hP : va_P (dC, dI) vwCl [(h0, .inr (0, [.ref qk, .ref qb, .ref qo])), (qk, .inl (cK, 32, .inl (id_w4 (id_w4 (fk) (hh * 16) (a1)) (hh * 16 + 4) (a2))))] H := hP
  have hD : va_D A [(h0, .inr (0, [.ref qk, .ref qb, .ref qo])), (qk, .inl (cK, 32, .inl (id_w4 (id_w4 (fk) (hh * 16) (a1)) (hh * 16 + 4) (a2))))] := hD
  refine lv_aload_n hx hb dX1_key_29 rfl (lv_at hl 1 rfl) ?_
  refine va_get (D := (dC, dI)) (ci := 0) (v := .ref qk) (C := RX1) (T := TX1) (N := 3) hx hb hts in_X1 hown hK hP 0 rfl rfl 0 (by decide) (hts _ q272) (fun _ h9 => h9) rfl dX1_key_30 ?_
  refine lv_iload hx hb dX1_key_33 (lv_at hl 0 rfl) ?_
  refine lv_bipush (v := nI 8) hx hb dX1_key_35 (by decide +kernel) ?_
  refine lv_iadd hx hb dX1_key_37 ?_
  refine id_is (y := nI (hh * 16 + 8)) (id_addn (by omega)) ?_
  refine lv_iload hx hb dX1_key_38 (lv_at hl 5 rfl) ?_
  have hPc := hP.sub (ws' := [(qk, .inl (cK, 32, .inl (id_w4 (id_w4 (fk) (hh * 16) (a1)) (hh * 16 + 4) (a2))))]) [1] rfl
  have hDc := hD.sub (ws' := [(qk, .inl (cK, 32, .inl (id_w4 (id_w4 (fk) (hh * 16) (a1)) (hh * 16 + 4) (a2))))]) [1] (by decide) rfl
  have hKc := hK.sub (tys' := [(cK, .byte)]) [0] rfl
  have hFc := va_free (wc := [(qk, .inl (cK, 32, .inl (id_w4 (id_w4 (fk) (hh * 16) (a1)) (hh * 16 + 4) (a2))))]) hD hS hA [1] rfl
  refine va_callv (va_runS (As := [.ref qk, .int (nI (hh * 16 + 8)), .int a3]) (rest := []) ⟨hx, hb, hml, hown, hts⟩ (met_word l dC dI qk H.size cK 32 (hh * 16 + 8) (id_w4 (id_w4 (fk) (hh * 16) (a1)) (hh * 16 + 4) (a2)) (a3) (by omega) (by omega)) (va_cwS 3 hts (lw_S q289 q290 q11 q291) rfl rfl rfl (by decide +kernel) ⟨Nat.le_of_ble_eq_true rfl, Nat.le_of_ble_eq_true rfl⟩) ⟨fun a U g mk q => by obtain ⟨q0, q1, qP, qK, qD⟩ := q; exact ⟨q0, q1, qP, va_K.moved (u := U) (U := U.calling g mk a) (Vm.Alike.refl U.vm) qK, qD⟩, fun U hU hW => ⟨rfl, by rw [hU], by rw [hU]; exact hPc, va_K.moved hW.alike hKc, hDc.weaken (fun _ _ _ _ => trivial)⟩⟩ rfl rfl hl.1 rfl (lv_room (Nat.le_of_ble_eq_true rfl)) dX1_key_40 ⟨Nat.le_of_ble_eq_true rfl, Nat.le_of_ble_eq_true rfl⟩) hS (fun q _ h => hFc q h) hFc (fun u t H1 locs ht hvm hw hB hz1 hk1 hS => ?_)
  obtain ⟨f3, rfl⟩ : ∃ z, z = u := ⟨_, rfl⟩
  have hw_f3 := hw
  obtain ⟨hP1, hK1, hD1⟩ := hB
  rw [ht] at hP1
  have hK1 := va_K.moved hvm.symm hK1
  obtain ⟨hP, hD⟩ := va_join (wr := [(h0, .inr (0, [.ref qk, .ref qb, .ref qo]))]) (w1 := [(qk, .inl (cK, 32, .inl (f3)))]) hP hD [1] [0] rfl rfl (by decide) (by decide) hk1 hFc hP1 hD1
  generalize H1 = H at hP hS ⊢
  have hP : va_P (dC, dI) vwCl [(h0, .inr (0, [.ref qk, .ref qb, .ref qo])), (qk, .inl (cK, 32, .inl (f3)))] H := hP
  have hD : va_D A [(h0, .inr (0, [.ref qk, .ref qb, .ref qo])), (qk, .inl (cK, 32, .inl (f3)))] := hD
  refine W.widen (k := 0) (n := 0) (Nat.le_of_ble_eq_true rfl) (Nat.le_of_ble_eq_true rfl) ?_
  rw [hw_f3] at hP hD
  have hP : va_P (dC, dI) vwCl [(h0, .inr (0, [.ref qk, .ref qb, .ref qo])), (qk, .inl (cK, 32, .inl (id_w4 (id_w4 (id_w4 (fk) (hh * 16) (a1)) (hh * 16 + 4) (a2)) (hh * 16 + 8) (a3))))] H := hP
  have hD : va_D A [(h0, .inr (0, [.ref qk, .ref qb, .ref qo])), (qk, .inl (cK, 32, .inl (id_w4 (id_w4 (id_w4 (fk) (hh * 16) (a1)) (hh * 16 + 4) (a2)) (hh * 16 + 8) (a3))))] := hD
  refine lv_aload_n hx hb dX1_key_43 rfl (lv_at hl 1 rfl) ?_
  refine va_get (D := (dC, dI)) (ci := 0) (v := .ref qk) (C := RX1) (T := TX1) (N := 3) hx hb hts in_X1 hown hK hP 0 rfl rfl 0 (by decide) (hts _ q272) (fun _ h9 => h9) rfl dX1_key_44 ?_
  refine lv_iload hx hb dX1_key_47 (lv_at hl 0 rfl) ?_
  refine lv_bipush (v := nI 12) hx hb dX1_key_49 (by decide +kernel) ?_
  refine lv_iadd hx hb dX1_key_51 ?_
  refine id_is (y := nI (hh * 16 + 12)) (id_addn (by omega)) ?_
  refine lv_iload hx hb dX1_key_52 (lv_at hl 6 rfl) ?_
  have hPc := hP.sub (ws' := [(qk, .inl (cK, 32, .inl (id_w4 (id_w4 (id_w4 (fk) (hh * 16) (a1)) (hh * 16 + 4) (a2)) (hh * 16 + 8) (a3))))]) [1] rfl
  have hDc := hD.sub (ws' := [(qk, .inl (cK, 32, .inl (id_w4 (id_w4 (id_w4 (fk) (hh * 16) (a1)) (hh * 16 + 4) (a2)) (hh * 16 + 8) (a3))))]) [1] (by decide) rfl
  have hKc := hK.sub (tys' := [(cK, .byte)]) [0] rfl
  have hFc := va_free (wc := [(qk, .inl (cK, 32, .inl (id_w4 (id_w4 (id_w4 (fk) (hh * 16) (a1)) (hh * 16 + 4) (a2)) (hh * 16 + 8) (a3))))]) hD hS hA [1] rfl
  refine va_callv (va_runS (As := [.ref qk, .int (nI (hh * 16 + 12)), .int a4]) (rest := []) ⟨hx, hb, hml, hown, hts⟩ (met_word l dC dI qk H.size cK 32 (hh * 16 + 12) (id_w4 (id_w4 (id_w4 (fk) (hh * 16) (a1)) (hh * 16 + 4) (a2)) (hh * 16 + 8) (a3)) (a4) (by omega) (by omega)) (va_cwS 3 hts (lw_S q289 q290 q11 q291) rfl rfl rfl (by decide +kernel) ⟨Nat.le_of_ble_eq_true rfl, Nat.le_of_ble_eq_true rfl⟩) ⟨fun a U g mk q => by obtain ⟨q0, q1, qP, qK, qD⟩ := q; exact ⟨q0, q1, qP, va_K.moved (u := U) (U := U.calling g mk a) (Vm.Alike.refl U.vm) qK, qD⟩, fun U hU hW => ⟨rfl, by rw [hU], by rw [hU]; exact hPc, va_K.moved hW.alike hKc, hDc.weaken (fun _ _ _ _ => trivial)⟩⟩ rfl rfl hl.1 rfl (lv_room (Nat.le_of_ble_eq_true rfl)) dX1_key_54 ⟨Nat.le_of_ble_eq_true rfl, Nat.le_of_ble_eq_true rfl⟩) hS (fun q _ h => hFc q h) hFc (fun u t H1 locs ht hvm hw hB hz1 hk1 hS => ?_)
  obtain ⟨f4, rfl⟩ : ∃ z, z = u := ⟨_, rfl⟩
  have hw_f4 := hw
  obtain ⟨hP1, hK1, hD1⟩ := hB
  rw [ht] at hP1
  have hK1 := va_K.moved hvm.symm hK1
  obtain ⟨hP, hD⟩ := va_join (wr := [(h0, .inr (0, [.ref qk, .ref qb, .ref qo]))]) (w1 := [(qk, .inl (cK, 32, .inl (f4)))]) hP hD [1] [0] rfl rfl (by decide) (by decide) hk1 hFc hP1 hD1
  generalize H1 = H at hP hS ⊢
  have hP : va_P (dC, dI) vwCl [(h0, .inr (0, [.ref qk, .ref qb, .ref qo])), (qk, .inl (cK, 32, .inl (f4)))] H := hP
  have hD : va_D A [(h0, .inr (0, [.ref qk, .ref qb, .ref qo])), (qk, .inl (cK, 32, .inl (f4)))] := hD
  refine W.widen (k := 0) (n := 0) (Nat.le_of_ble_eq_true rfl) (Nat.le_of_ble_eq_true rfl) ?_
  rw [hw_f4] at hP hD
  have hP : va_P (dC, dI) vwCl [(h0, .inr (0, [.ref qk, .ref qb, .ref qo])), (qk, .inl (cK, 32, .inl (id_w4 (id_w4 (id_w4 (id_w4 (fk) (hh * 16) (a1)) (hh * 16 + 4) (a2)) (hh * 16 + 8) (a3)) (hh * 16 + 12) (a4))))] H := hP
  have hD : va_D A [(h0, .inr (0, [.ref qk, .ref qb, .ref qo])), (qk, .inl (cK, 32, .inl (id_w4 (id_w4 (id_w4 (id_w4 (fk) (hh * 16) (a1)) (hh * 16 + 4) (a2)) (hh * 16 + 8) (a3)) (hh * 16 + 12) (a4))))] := hD
  have hP9 := hP.sub (ws' := [(h0, .inr (0, [.ref qk, .ref qb, .ref qo])), (qk, .inl (cK, 32, .inl (id_k4 fk (hh * 16) a1 a2 a3 a4)))]) [0, 1] rfl
  have hD9 := hD.sub (ws' := [(h0, .inr (0, [.ref qk, .ref qb, .ref qo])), (qk, .inl (cK, 32, .inl (id_k4 fk (hh * 16) a1 a2 a3 a4)))]) [0, 1] (by decide) rfl
  have hK9 := hK.sub (tys' := [(cK, .byte)]) [0] rfl
  exact W.vret hx hb hr (fun t ht hW => ⟨⟨(id_k4 fk (hh * 16) a1 a2 a3 a4), rfl, rfl, by rw [ht]; exact hP9, va_K.moved hW.alike hK9, hD9⟩, hS.F ht⟩) hS.2.2 dX1_key_57
set_option maxHeartbeats 4000000 in
set_option maxRecDepth 100000 in
/-- block(a, b) -/
theorem met_block (l : Launch) (dC : Nat → ClassId) (dI : Nat → Nat → Nat) (h0 qk qb qo sz : Nat) (cB : ClassId) (fb : Nat → Int32) (a1 a2 : Int32) : Met l yX1_block (ws_ yX1_block cX1_block 3 none) ({ frames := 1, cells := 0, slots := 0, locals := 24 }) (va_Pc [.ref h0, .int a1, .int a2] (fun U => U.heap.size = sz ∧ va_P (dC, dI) vwCl [(h0, .inr (0, [.ref qk, .ref qb, .ref qo])), (qb, .inl (cB, 8, .inl (fb)))] U.heap ∧ va_K (dC, dI) vwCl [(cB, .byte)] U ∧ va_D (fun _ => True) [(h0, .inr (0, [.ref qk, .ref qb, .ref qo])), (qb, .inl (cB, 8, .inl (fb)))])) (va_Qv (fun u : Nat → Int32 => u = id_w4 (id_w4 fb 0 a1) 4 a2) (fun (u : Nat → Int32) (t : State) => va_P (dC, dI) vwCl [(h0, .inr (0, [.ref qk, .ref qb, .ref qo])), (qb, .inl (cB, 8, .inl (u)))] t.heap ∧ va_K (dC, dI) vwCl [(cB, .byte)] t ∧ va_D (va_A [(h0, .inr (0, [.ref qk, .ref qb, .ref qo])), (qb, .inl (cB, 8, .inl (fb)))] sz) [(h0, .inr (0, [.ref qk, .ref qb, .ref qo])), (qb, .inl (cB, 8, .inl (u)))]) (va_A [(h0, .inr (0, [.ref qk, .ref qb, .ref qo])), (qb, .inl (cB, 8, .inl (fb)))] sz)) 0 0 (va_A [(h0, .inr (0, [.ref qk, .ref qb, .ref qo])), (qb, .inl (cB, 8, .inl (fb)))] sz) := by
  refine Met.ofW (cc := cX1_block) (maxL := 3) (ret := none) (by decide) rfl ?_
  intro p e s m args below meth c s₁ B hml hv
  obtain ⟨rfl, hsz, hP, hK, hD0⟩ := hv
  have hx := B.exec
  have hb := B.bytes
  have hr := B.returns
  have hts := atoms_spec (ws := (ws_ yX1_block cX1_block 3 none)) B.pre
  have hts : ∀ w ∈ lw_all, w.before _ s = true := fun w h => hts w (List.mem_cons_of_mem _ h)
  have hown : s.vm.findClass RX1 = some m.cls := findClass_of_methodNamed B.named
  have hlocks := B.notSynchronized
  subst hsz
  have hD := hD0.self (sz := s.heap.size)
  generalize hAe : va_A [(h0, .inr (0, [.ref qk, .ref qb, .ref qo])), (qb, .inl (cB, 8, .inl (fb)))] s.heap.size = A at hD ⊢
  have hA : ∀ q : Nat, s.heap.size ≤ q → A q := fun q h => by rw [← hAe]; exact Or.inr h
  have hS : va_S A s.heap s.heap [] := va_S.rf
  have hP : va_P (dC, dI) vwCl [(h0, .inr (0, [.ref qk, .ref qb, .ref qo])), (qb, .inl (cB, 8, .inl (fb)))] s.heap := hP
  have hl := lv_entry ([.ref h0, .int a1, .int a2]) (n := 3) (Nat.le_of_ble_eq_true rfl)
  rw [lg_entry_eq]
  generalize (lg_sl ([.ref h0, .int a1, .int a2]) ++ List.replicate (3 - (lg_sl ([.ref h0, .int a1, .int a2])).length) Slot.unset).toArray = ls at hl ⊢
  have hl : lv_has ls 3 [(0, .ref h0), (1, .int a1), (2, .int a2)] := hl
  refine lv_aload_n hx hb dX1_block_0 rfl (lv_at hl 0 rfl) ?_
  refine va_get (D := (dC, dI)) (ci := 0) (v := .ref qb) (C := RX1) (T := TX1) (N := 3) hx hb hts in_X1 hown hK hP 0 rfl rfl 1 (by decide) (hts _ q273) (fun _ h9 => h9) rfl dX1_block_1 ?_
  refine lv_iconst (v := nI 0) hx hb dX1_block_4 (by decide +kernel) ?_
  refine lv_iload_n hx hb dX1_block_5 rfl (lv_at hl 1 rfl) ?_
  have hPc := hP.sub (ws' := [(qb, .inl (cB, 8, .inl (fb)))]) [1] rfl
  have hDc := hD.sub (ws' := [(qb, .inl (cB, 8, .inl (fb)))]) [1] (by decide) rfl
  have hKc := hK.sub (tys' := [(cB, .byte)]) [0] rfl
  have hFc := va_free (wc := [(qb, .inl (cB, 8, .inl (fb)))]) hD hS hA [1] rfl
  refine va_callv (va_runS (As := [.ref qb, .int (nI 0), .int a1]) (rest := []) ⟨hx, hb, hml, hown, hts⟩ (met_word l dC dI qb s.heap.size cB 8 (0) (fb) (a1) (by omega) (by omega)) (va_cwS 3 hts (lw_S q289 q290 q11 q291) rfl rfl rfl (by decide +kernel) ⟨Nat.le_of_ble_eq_true rfl, Nat.le_of_ble_eq_true rfl⟩) ⟨fun a U g mk q => by obtain ⟨q0, q1, qP, qK, qD⟩ := q; exact ⟨q0, q1, qP, va_K.moved (u := U) (U := U.calling g mk a) (Vm.Alike.refl U.vm) qK, qD⟩, fun U hU hW => ⟨rfl, by rw [hU], by rw [hU]; exact hPc, va_K.moved hW.alike hKc, hDc.weaken (fun _ _ _ _ => trivial)⟩⟩ rfl rfl hl.1 rfl (lv_room (Nat.le_of_ble_eq_true rfl)) dX1_block_6 ⟨Nat.le_of_ble_eq_true rfl, Nat.le_of_ble_eq_true rfl⟩) hS (fun q _ h => hFc q h) hFc (fun u t H1 locs ht hvm hw hB hz1 hk1 hS => ?_)
  obtain ⟨f1, rfl⟩ : ∃ z, z = u := ⟨_, rfl⟩
  have hw_f1 := hw
  obtain ⟨hP1, hK1, hD1⟩ := hB
  rw [ht] at hP1
  have hK1 := va_K.moved hvm.symm hK1
  obtain ⟨hP, hD⟩ := va_join (wr := [(h0, .inr (0, [.ref qk, .ref qb, .ref qo]))]) (w1 := [(qb, .inl (cB, 8, .inl (f1)))]) hP hD [1] [0] rfl rfl (by decide) (by decide) hk1 hFc hP1 hD1
  generalize H1 = H at hP hS ⊢
  have hP : va_P (dC, dI) vwCl [(h0, .inr (0, [.ref qk, .ref qb, .ref qo])), (qb, .inl (cB, 8, .inl (f1)))] H := hP
  have hD : va_D A [(h0, .inr (0, [.ref qk, .ref qb, .ref qo])), (qb, .inl (cB, 8, .inl (f1)))] := hD
  refine W.widen (k := 0) (n := 0) (Nat.le_of_ble_eq_true rfl) (Nat.le_of_ble_eq_true rfl) ?_
  rw [hw_f1] at hP hD
  have hP : va_P (dC, dI) vwCl [(h0, .inr (0, [.ref qk, .ref qb, .ref qo])), (qb, .inl (cB, 8, .inl (id_w4 (fb) (0) (a1))))] H := hP
  have hD : va_D A [(h0, .inr (0, [.ref qk, .ref qb, .ref qo])), (qb, .inl (cB, 8, .inl (id_w4 (fb) (0) (a1))))] := hD
  refine lv_aload_n hx hb dX1_block_9 rfl (lv_at hl 0 rfl) ?_
  refine va_get (D := (dC, dI)) (ci := 0) (v := .ref qb) (C := RX1) (T := TX1) (N := 3) hx hb hts in_X1 hown hK hP 0 rfl rfl 1 (by decide) (hts _ q273) (fun _ h9 => h9) rfl dX1_block_10 ?_
  refine lv_iconst (v := nI 4) hx hb dX1_block_13 (by decide +kernel) ?_
  refine lv_iload_n hx hb dX1_block_14 rfl (lv_at hl 2 rfl) ?_
  have hPc := hP.sub (ws' := [(qb, .inl (cB, 8, .inl (id_w4 (fb) (0) (a1))))]) [1] rfl
  have hDc := hD.sub (ws' := [(qb, .inl (cB, 8, .inl (id_w4 (fb) (0) (a1))))]) [1] (by decide) rfl
  have hKc := hK.sub (tys' := [(cB, .byte)]) [0] rfl
  have hFc := va_free (wc := [(qb, .inl (cB, 8, .inl (id_w4 (fb) (0) (a1))))]) hD hS hA [1] rfl
  refine va_callv (va_runS (As := [.ref qb, .int (nI 4), .int a2]) (rest := []) ⟨hx, hb, hml, hown, hts⟩ (met_word l dC dI qb H.size cB 8 (4) (id_w4 (fb) (0) (a1)) (a2) (by omega) (by omega)) (va_cwS 3 hts (lw_S q289 q290 q11 q291) rfl rfl rfl (by decide +kernel) ⟨Nat.le_of_ble_eq_true rfl, Nat.le_of_ble_eq_true rfl⟩) ⟨fun a U g mk q => by obtain ⟨q0, q1, qP, qK, qD⟩ := q; exact ⟨q0, q1, qP, va_K.moved (u := U) (U := U.calling g mk a) (Vm.Alike.refl U.vm) qK, qD⟩, fun U hU hW => ⟨rfl, by rw [hU], by rw [hU]; exact hPc, va_K.moved hW.alike hKc, hDc.weaken (fun _ _ _ _ => trivial)⟩⟩ rfl rfl hl.1 rfl (lv_room (Nat.le_of_ble_eq_true rfl)) dX1_block_15 ⟨Nat.le_of_ble_eq_true rfl, Nat.le_of_ble_eq_true rfl⟩) hS (fun q _ h => hFc q h) hFc (fun u t H1 locs ht hvm hw hB hz1 hk1 hS => ?_)
  obtain ⟨f2, rfl⟩ : ∃ z, z = u := ⟨_, rfl⟩
  have hw_f2 := hw
  obtain ⟨hP1, hK1, hD1⟩ := hB
  rw [ht] at hP1
  have hK1 := va_K.moved hvm.symm hK1
  obtain ⟨hP, hD⟩ := va_join (wr := [(h0, .inr (0, [.ref qk, .ref qb, .ref qo]))]) (w1 := [(qb, .inl (cB, 8, .inl (f2)))]) hP hD [1] [0] rfl rfl (by decide) (by decide) hk1 hFc hP1 hD1
  generalize H1 = H at hP hS ⊢
  have hP : va_P (dC, dI) vwCl [(h0, .inr (0, [.ref qk, .ref qb, .ref qo])), (qb, .inl (cB, 8, .inl (f2)))] H := hP
  have hD : va_D A [(h0, .inr (0, [.ref qk, .ref qb, .ref qo])), (qb, .inl (cB, 8, .inl (f2)))] := hD
  refine W.widen (k := 0) (n := 0) (Nat.le_of_ble_eq_true rfl) (Nat.le_of_ble_eq_true rfl) ?_
  rw [hw_f2] at hP hD
  have hP : va_P (dC, dI) vwCl [(h0, .inr (0, [.ref qk, .ref qb, .ref qo])), (qb, .inl (cB, 8, .inl (id_w4 (id_w4 (fb) (0) (a1)) (4) (a2))))] H := hP
  have hD : va_D A [(h0, .inr (0, [.ref qk, .ref qb, .ref qo])), (qb, .inl (cB, 8, .inl (id_w4 (id_w4 (fb) (0) (a1)) (4) (a2))))] := hD
  have hP9 := hP.sub (ws' := [(h0, .inr (0, [.ref qk, .ref qb, .ref qo])), (qb, .inl (cB, 8, .inl (id_w4 (id_w4 fb 0 a1) 4 a2)))]) [0, 1] rfl
  have hD9 := hD.sub (ws' := [(h0, .inr (0, [.ref qk, .ref qb, .ref qo])), (qb, .inl (cB, 8, .inl (id_w4 (id_w4 fb 0 a1) 4 a2)))]) [0, 1] (by decide) rfl
  have hK9 := hK.sub (tys' := [(cB, .byte)]) [0] rfl
  exact W.vret hx hb hr (fun t ht hW => ⟨⟨(id_w4 (id_w4 fb 0 a1) 4 a2), rfl, rfl, by rw [ht]; exact hP9, va_K.moved hW.alike hK9, hD9⟩, hS.F ht⟩) hS.2.2 dX1_block_18
set_option maxHeartbeats 4000000 in
set_option maxRecDepth 100000 in
/-- size(x) -/
theorem met_size (l : Launch) (x : Int32) : Met l yX1_size (ws_ yX1_size cX1_size 1 (some .int)) ({ frames := 0, cells := 0, slots := 0, locals := 0 }) (va_Pc [.int x] (fun _ => True)) (vp_Si (fun r => r = nI 16)) 0 0 (fun _ => False) := by
  refine Met.ofW (cc := cX1_size) (maxL := 1) (ret := (some .int)) (by decide) rfl ?_
  intro p e s m args below meth c s₁ B hml hv
  obtain ⟨rfl, -⟩ := hv
  have hx := B.exec
  have hb := B.bytes
  have hr := B.returns
  have hts := atoms_spec (ws := (ws_ yX1_size cX1_size 1 (some .int))) B.pre
  have hts : ∀ w ∈ lw_all, w.before _ s = true := fun w h => hts w (List.mem_cons_of_mem _ h)
  have hown : s.vm.findClass RX1 = some m.cls := findClass_of_methodNamed B.named
  have hlocks := B.notSynchronized
  have hl := lv_entry ([.int x]) (n := 1) (Nat.le_of_ble_eq_true rfl)
  rw [lg_entry_eq]
  generalize (lg_sl ([.int x]) ++ List.replicate (1 - (lg_sl ([.int x])).length) Slot.unset).toArray = ls at hl ⊢
  have hl : lv_has ls 1 [(0, .int x)] := hl
  refine lv_bipush (v := nI 16) hx hb dX1_size_0 (by decide +kernel) ?_
  exact W.iret (v := nI 16) hx hb hr (fun t ht hW => ⟨nI 16, rfl, rfl, ht⟩) (fun _ h => absurd h List.not_mem_nil) dX1_size_2
set_option maxHeartbeats 4000000 in
set_option maxRecDepth 100000 in
/-- again() -/
theorem met_again (l : Launch) (dC : Nat → ClassId) (dI : Nat → Nat → Nat) (h0 qk qb qo sz : Nat) (cB cO : ClassId) (fb fo : Nat → Int32) : Met l yX1_again (ws_ yX1_again cX1_again 2 none) ({ frames := 0, cells := 0, slots := 0, locals := 0 }) (va_Pc [.ref h0] (fun U => U.heap.size = sz ∧ va_P (dC, dI) vwCl [(h0, .inr (0, [.ref qk, .ref qb, .ref qo])), (qb, .inl (cB, 8, .inl (fb))), (qo, .inl (cO, 8, .inl (fo)))] U.heap ∧ va_K (dC, dI) vwCl [(cB, .byte), (cO, .byte)] U ∧ va_D (fun _ => True) [(h0, .inr (0, [.ref qk, .ref qb, .ref qo])), (qb, .inl (cB, 8, .inl (fb))), (qo, .inl (cO, 8, .inl (fo)))])) (va_Qv (fun u : Nat → Int32 => ∀ i, i < 8 → u i = id_b8 (fo i)) (fun (u : Nat → Int32) (t : State) => va_P (dC, dI) vwCl [(h0, .inr (0, [.ref qk, .ref qb, .ref qo])), (qb, .inl (cB, 8, .inl (u))), (qo, .inl (cO, 8, .inl (fo)))] t.heap ∧ va_K (dC, dI) vwCl [(cB, .byte), (cO, .byte)] t ∧ va_D (va_A [(h0, .inr (0, [.ref qk, .ref qb, .ref qo])), (qb, .inl (cB, 8, .inl (fb))), (qo, .inl (cO, 8, .inl (fo)))] sz) [(h0, .inr (0, [.ref qk, .ref qb, .ref qo])), (qb, .inl (cB, 8, .inl (u))), (qo, .inl (cO, 8, .inl (fo)))]) (va_A [(h0, .inr (0, [.ref qk, .ref qb, .ref qo])), (qb, .inl (cB, 8, .inl (fb))), (qo, .inl (cO, 8, .inl (fo)))] sz)) 0 0 (va_A [(h0, .inr (0, [.ref qk, .ref qb, .ref qo])), (qb, .inl (cB, 8, .inl (fb))), (qo, .inl (cO, 8, .inl (fo)))] sz) := by
  refine Met.ofW (cc := cX1_again) (maxL := 2) (ret := none) (by decide) rfl ?_
  intro p e s m args below meth c s₁ B hml hv
  obtain ⟨rfl, hsz, hP, hK, hD0⟩ := hv
  have hx := B.exec
  have hb := B.bytes
  have hr := B.returns
  have hts := atoms_spec (ws := (ws_ yX1_again cX1_again 2 none)) B.pre
  have hts : ∀ w ∈ lw_all, w.before _ s = true := fun w h => hts w (List.mem_cons_of_mem _ h)
  have hown : s.vm.findClass RX1 = some m.cls := findClass_of_methodNamed B.named
  have hlocks := B.notSynchronized
  subst hsz
  have hD := hD0.self (sz := s.heap.size)
  generalize hAe : va_A [(h0, .inr (0, [.ref qk, .ref qb, .ref qo])), (qb, .inl (cB, 8, .inl (fb))), (qo, .inl (cO, 8, .inl (fo)))] s.heap.size = A at hD ⊢
  have hA : ∀ q : Nat, s.heap.size ≤ q → A q := fun q h => by rw [← hAe]; exact Or.inr h
  have hS : va_S A s.heap s.heap [] := va_S.rf
  have hP : va_P (dC, dI) vwCl [(h0, .inr (0, [.ref qk, .ref qb, .ref qo])), (qb, .inl (cB, 8, .inl (fb))), (qo, .inl (cO, 8, .inl (fo)))] s.heap := hP
  have hl := lv_entry ([.ref h0]) (n := 2) (Nat.le_of_ble_eq_true rfl)
  rw [lg_entry_eq]
  generalize (lg_sl ([.ref h0]) ++ List.replicate (2 - (lg_sl ([.ref h0])).length) Slot.unset).toArray = ls at hl ⊢
  have hl : lv_has ls 2 [(0, .ref h0)] := hl
  refine lv_iconst (v := nI 0) hx hb dX1_again_0 (by decide +kernel) ?_
  refine lv_istore_n (lv' := [(1, .int (nI 0)), (0, .ref h0)]) hx hb dX1_again_1 rfl hl (by decide) rfl (fun ls hl => ?_)
  have key : ∀ (n i : Nat), i ≤ 8 → 9 ≤ i + n → ∀ (g : Nat → Int32) (H : Heap) (locs : List Loc), (∀ k, k < i → g k = id_b8 (fo k)) → va_P (dC, dI) vwCl [(h0, .inr (0, [.ref qk, .ref qb, .ref qo])), (qb, .inl (cB, 8, .inl (g))), (qo, .inl (cO, 8, .inl (fo)))] H → va_D A [(h0, .inr (0, [.ref qk, .ref qb, .ref qo])), (qb, .inl (cB, 8, .inl (g))), (qo, .inl (cO, 8, .inl (fo)))] → va_S A s.heap H locs → ∀ ls : Array Slot, lv_has ls 2 [(1, .int (nI i)), (0, .ref h0)] → W p l e (headSpec (ws_ yX1_again cX1_again 2 none) { frames := 0, cells := 0, slots := 0, locals := 0 }).room s m ([.ref h0] : List Value).toArray below meth c H locs 0 0 (MQ below (va_Qv (fun u : Nat → Int32 => ∀ i, i < 8 → u i = id_b8 (fo i)) (fun (u : Nat → Int32) (t : State) => va_P (dC, dI) vwCl [(h0, .inr (0, [.ref qk, .ref qb, .ref qo])), (qb, .inl (cB, 8, .inl (u))), (qo, .inl (cO, 8, .inl (fo)))] t.heap ∧ va_K (dC, dI) vwCl [(cB, .byte), (cO, .byte)] t ∧ va_D A [(h0, .inr (0, [.ref qk, .ref qb, .ref qo])), (qb, .inl (cB, 8, .inl (u))), (qo, .inl (cO, 8, .inl (fo)))]) A) ([.ref h0] : List Value).toArray s 0 0 A) (F0 m 2 ls []) := by
    intro n
    induction n with
    | zero => intro i h1 h2; exact absurd h2 (by omega)
    | succ n ih =>
      intro i hi hin g H locs hg hP hD hS ls hl
      refine lv_iload_n hx hb dX1_again_2 rfl (lv_at hl 0 rfl) ?_
      refine lv_bipush (v := nI 8) hx hb dX1_again_3 (by decide +kernel) ?_
      refine lv_icmp_ge (tgt := 26) hx hb dX1_again_5 (by decide) (fun c5 => ?_) (fun c5 => ?_)
      · obtain rfl : i = 8 := by have := (nI_leI (by decide) (by omega)).mp c5; omega
        have hP9 := hP.sub (ws' := [(h0, .inr (0, [.ref qk, .ref qb, .ref qo])), (qb, .inl (cB, 8, .inl (g))), (qo, .inl (cO, 8, .inl (fo)))]) [0, 1, 2] rfl
        have hD9 := hD.sub (ws' := [(h0, .inr (0, [.ref qk, .ref qb, .ref qo])), (qb, .inl (cB, 8, .inl (g))), (qo, .inl (cO, 8, .inl (fo)))]) [0, 1, 2] (by decide) rfl
        have hK9 := hK.sub (tys' := [(cB, .byte), (cO, .byte)]) [0, 1] rfl
        exact W.vret hx hb hr (fun t ht hW => ⟨⟨g, rfl, hg, by rw [ht]; exact hP9, va_K.moved hW.alike hK9, hD9⟩, hS.F ht⟩) hS.2.2 dX1_again_26
      · have hlt : i + 1 ≤ 8 := by rcases Nat.lt_or_ge i 8 with q | q; exact q; exact absurd (nI_le q (by omega)) c5
        refine lv_aload_n hx hb dX1_again_8 rfl (lv_at hl 1 rfl) ?_
        refine va_get (D := (dC, dI)) (ci := 0) (v := .ref qb) (C := RX1) (T := TX1) (N := 3) hx hb hts in_X1 hown hK hP 0 rfl rfl 1 (by decide) (hts _ q273) (fun _ h9 => h9) rfl dX1_again_9 ?_
        refine lv_iload_n hx hb dX1_again_12 rfl (lv_at hl 0 rfl) ?_
        refine lv_aload_n hx hb dX1_again_13 rfl (lv_at hl 1 rfl) ?_
        refine va_get (D := (dC, dI)) (ci := 0) (v := .ref qo) (C := RX1) (T := TX1) (N := 3) hx hb hts in_X1 hown hK hP 0 rfl rfl 2 (by decide) (hts _ q274) (fun _ h9 => h9) rfl dX1_again_14 ?_
        refine lv_iload_n hx hb dX1_again_17 rfl (lv_at hl 0 rfl) ?_
        refine va_bald hx hb hK hP 2 1 rfl rfl (vp_in_nI (by omega) (by omega)) dX1_again_18 ?_
        refine id_is (y := (fo) (i)) (by rw [nI_clamp (n := i) (by omega)]) ?_
        refine va_bast hx hb hK hP hD hS 1 0 rfl rfl (vp_in_nI (by omega) (by omega)) dX1_again_19 (fun H locs hP hD hS => ?_)
        rw [nI_clamp (n := i) (by omega)] at hP hD
        rw [vp_nar_byte] at hP hD
        have hP : va_P (dC, dI) vwCl [(h0, .inr (0, [.ref qk, .ref qb, .ref qo])), (qb, .inl (cB, 8, .inl (upd (g) (i) (((fo) (i) : Int32).toInt8.toInt32)))), (qo, .inl (cO, 8, .inl (fo)))] H := hP
        have hD : va_D A [(h0, .inr (0, [.ref qk, .ref qb, .ref qo])), (qb, .inl (cB, 8, .inl (upd (g) (i) (((fo) (i) : Int32).toInt8.toInt32)))), (qo, .inl (cO, 8, .inl (fo)))] := hD
        refine lv_iinc (v := nI (i + 1)) (lv' := [(1, .int (nI (i + 1))), (0, .ref h0)]) hx hb dX1_again_20 hl (k := 0) rfl (id_inc (by omega)) (by decide) rfl (fun ls hl => ?_)
        refine lv_goto (tgt := 2) hx hb dX1_again_23 (by decide) ?_
        exact ih (i + 1) hlt (by omega) (upd (g) (i) (((fo) (i) : Int32).toInt8.toInt32)) H locs (id_up hg rfl) hP hD hS ls (lv_sub hl [0, 1] rfl)
  exact key 9 0 (by decide) (by decide) fb s.heap [] (fun k hk => absurd hk (Nat.not_lt_zero _)) hP hD hS ls (lv_sub hl [0, 1] rfl)
set_option maxHeartbeats 4000000 in
set_option maxRecDepth 100000 in
/-- out(k) -/
theorem met_out (l : Launch) (dC : Nat → ClassId) (dI : Nat → Nat → Nat) (h0 qk qb qo : Nat) (cO : ClassId) (fo : Nat → Int32) (k : Nat) (hk : k < 8) : Met l yX1_out (ws_ yX1_out cX1_out 2 (some .int)) ({ frames := 0, cells := 0, slots := 0, locals := 0 }) (va_Pc [.ref h0, .int (nI k)] (fun U => va_P (dC, dI) vwCl [(h0, .inr (0, [.ref qk, .ref qb, .ref qo])), (qo, .inl (cO, 8, .inl (fo)))] U.heap ∧ va_K (dC, dI) vwCl [(cO, .byte)] U)) (vp_Si (fun r => r = (fo k) &&& 255)) 0 0 (fun _ => False) := by
  refine Met.ofW (cc := cX1_out) (maxL := 2) (ret := (some .int)) (by decide) rfl ?_
  intro p e s m args below meth c s₁ B hml hv
  obtain ⟨rfl, hP, hK⟩ := hv
  have hx := B.exec
  have hb := B.bytes
  have hr := B.returns
  have hts := atoms_spec (ws := (ws_ yX1_out cX1_out 2 (some .int))) B.pre
  have hts : ∀ w ∈ lw_all, w.before _ s = true := fun w h => hts w (List.mem_cons_of_mem _ h)
  have hown : s.vm.findClass RX1 = some m.cls := findClass_of_methodNamed B.named
  have hlocks := B.notSynchronized
  have hl := lv_entry ([.ref h0, .int (nI k)]) (n := 2) (Nat.le_of_ble_eq_true rfl)
  rw [lg_entry_eq]
  generalize (lg_sl ([.ref h0, .int (nI k)]) ++ List.replicate (2 - (lg_sl ([.ref h0, .int (nI k)])).length) Slot.unset).toArray = ls at hl ⊢
  have hl : lv_has ls 2 [(0, .ref h0), (1, .int (nI k))] := hl
  refine lv_aload_n hx hb dX1_out_0 rfl (lv_at hl 0 rfl) ?_
  refine va_get (D := (dC, dI)) (ci := 0) (v := .ref qo) (C := RX1) (T := TX1) (N := 3) hx hb hts in_X1 hown hK hP 0 rfl rfl 2 (by decide) (hts _ q274) (fun _ h9 => h9) rfl dX1_out_1 ?_
  refine lv_iload_n hx hb dX1_out_4 rfl (lv_at hl 1 rfl) ?_
  refine lv_bipush (v := 7) hx hb dX1_out_5 (by decide +kernel) ?_
  refine lv_iand hx hb dX1_out_7 ?_
  refine id_is (y := nI (k)) (id_andn (by omega) 3 (by decide) (by omega)) ?_
  refine va_bald hx hb hK hP 1 0 rfl rfl (vp_in_nI (by omega) (by omega)) dX1_out_8 ?_
  refine id_is (y := (fo) (k)) (by rw [nI_clamp (n := k) (by omega)]) ?_
  refine lv_sipush (v := 255) hx hb dX1_out_9 (by decide +kernel) ?_
  refine lv_iand hx hb dX1_out_12 ?_
  exact W.iret (v := ((fo) (k)) &&& (255)) hx hb hr (fun t ht hW => ⟨((fo) (k)) &&& (255), rfl, rfl, ht⟩) (fun _ h => absurd h List.not_mem_nil) dX1_out_13
end
section
/-! the desk: run, both ways -/
set_option maxRecDepth 100000
set_option maxHeartbeats 4000000 in
set_option maxRecDepth 100000 in
/-- run(b, kind) -/
theorem met_run (l : Launch) (dC : Nat → ClassId) (dI : Nat → Nat → Nat) (h0 qk qb qo sz : Nat) (cK cB cO : ClassId) (fk fb fo : Nat → Int32) (b kd : Int32) (hbb : b = 0 ∨ b = 1) : Met l yX1_run (ws_ yX1_run cX1_run 6 none) ({ frames := 4, cells := 6, slots := 139, locals := 99 }) (va_Pc [.ref h0, .int b, .int kd] (fun U => U.heap.size = sz ∧ va_P (dC, dI) vwCl [(h0, .inr (0, [.ref qk, .ref qb, .ref qo])), (qk, .inl (cK, 32, .inl (fk))), (qb, .inl (cB, 8, .inl (fb))), (qo, .inl (cO, 8, .inl (fo)))] U.heap ∧ va_K (dC, dI) vwCl [(cK, .byte), (cB, .byte), (cO, .byte)] U ∧ va_D (fun _ => True) [(h0, .inr (0, [.ref qk, .ref qb, .ref qo])), (qk, .inl (cK, 32, .inl (fk))), (qb, .inl (cB, 8, .inl (fb))), (qo, .inl (cO, 8, .inl (fo)))] ∧ id_env U)) (va_Qv (fun u : Nat → Int32 => u = id_run b fk fb fo) (fun (u : Nat → Int32) (t : State) => va_P (dC, dI) vwCl [(h0, .inr (0, [.ref qk, .ref qb, .ref qo])), (qk, .inl (cK, 32, .inl (fk))), (qb, .inl (cB, 8, .inl (fb))), (qo, .inl (cO, 8, .inl (u)))] t.heap ∧ va_K (dC, dI) vwCl [(cK, .byte), (cB, .byte), (cO, .byte)] t ∧ va_D (va_A [(h0, .inr (0, [.ref qk, .ref qb, .ref qo])), (qk, .inl (cK, 32, .inl (fk))), (qb, .inl (cB, 8, .inl (fb))), (qo, .inl (cO, 8, .inl (fo)))] sz) [(h0, .inr (0, [.ref qk, .ref qb, .ref qo])), (qk, .inl (cK, 32, .inl (fk))), (qb, .inl (cB, 8, .inl (fb))), (qo, .inl (cO, 8, .inl (u)))]) (va_A [(h0, .inr (0, [.ref qk, .ref qb, .ref qo])), (qk, .inl (cK, 32, .inl (fk))), (qb, .inl (cB, 8, .inl (fb))), (qo, .inl (cO, 8, .inl (fo)))] sz)) 6 139 (va_A [(h0, .inr (0, [.ref qk, .ref qb, .ref qo])), (qk, .inl (cK, 32, .inl (fk))), (qb, .inl (cB, 8, .inl (fb))), (qo, .inl (cO, 8, .inl (fo)))] sz) := by
  refine Met.ofW (cc := cX1_run) (maxL := 6) (ret := none) (by decide) rfl ?_
  intro p e s m args below meth c s₁ B hml hv
  obtain ⟨rfl, hsz, hP, hK, hD0, hE⟩ := hv
  have hx := B.exec
  have hb := B.bytes
  have hr := B.returns
  have hts := atoms_spec (ws := (ws_ yX1_run cX1_run 6 none)) B.pre
  have hts : ∀ w ∈ lw_all, w.before _ s = true := fun w h => hts w (List.mem_cons_of_mem _ h)
  have hown : s.vm.findClass RX1 = some m.cls := findClass_of_methodNamed B.named
  have hlocks := B.notSynchronized
  subst hsz
  have hD := hD0.self (sz := s.heap.size)
  generalize hAe : va_A [(h0, .inr (0, [.ref qk, .ref qb, .ref qo])), (qk, .inl (cK, 32, .inl (fk))), (qb, .inl (cB, 8, .inl (fb))), (qo, .inl (cO, 8, .inl (fo)))] s.heap.size = A at hD ⊢
  have hA : ∀ q : Nat, s.heap.size ≤ q → A q := fun q h => by rw [← hAe]; exact Or.inr h
  have hS : va_S A s.heap s.heap [] := va_S.rf
  have hP : va_P (dC, dI) vwCl [(h0, .inr (0, [.ref qk, .ref qb, .ref qo])), (qk, .inl (cK, 32, .inl (fk))), (qb, .inl (cB, 8, .inl (fb))), (qo, .inl (cO, 8, .inl (fo)))] s.heap := hP
  have hl := lv_entry ([.ref h0, .int b, .int kd]) (n := 6) (Nat.le_of_ble_eq_true rfl)
  rw [lg_entry_eq]
  generalize (lg_sl ([.ref h0, .int b, .int kd]) ++ List.replicate (6 - (lg_sl ([.ref h0, .int b, .int kd])).length) Slot.unset).toArray = ls at hl ⊢
  have hl : lv_has ls 6 [(0, .ref h0), (1, .int b), (2, .int kd)] := hl
  refine lv_iload_n hx hb dX1_run_0 rfl (lv_at hl 2 rfl) ?_
  refine lv_iconst (v := 3) hx hb dX1_run_1 (by decide +kernel) ?_
  refine lv_iand hx hb dX1_run_2 ?_
  refine vp_callSi (W.runS (As := [.int ((kd) &&& (3))]) (rest := []) ⟨hx, hb, hml, hown, hts⟩ (met_size l ((kd) &&& (3))) (va_cwS 1 hts (lw_S q32 q33 q11 q34) rfl rfl rfl (by decide +kernel) ⟨Nat.le_of_ble_eq_true rfl, Nat.le_of_ble_eq_true rfl⟩) ⟨fun _ _ _ _ q => q, fun U hU hW => ⟨rfl, trivial⟩⟩ rfl rfl hl.1 rfl (lv_room (Nat.le_of_ble_eq_true rfl)) dX1_run_3 ⟨Nat.le_of_ble_eq_true rfl, Nat.le_of_ble_eq_true rfl⟩) (fun z ez => ?_)
  refine id_is (y := nI 16) (ez) ?_
  refine lv_istore_n (lv' := [(3, .int (nI 16)), (0, .ref h0), (1, .int b), (2, .int kd)]) hx hb dX1_run_6 rfl hl (by decide) rfl (fun ls hl => ?_)
  refine lv_iload_n hx hb dX1_run_7 rfl (lv_at hl 0 rfl) ?_
  refine va_newa (atype := .byte) (ty := .byte) (a0 := (16, .inl (fun _ => 0))) hx hb (hts _ q50) rfl hK hP hD hS hA (fun _ => rfl) (nI_pos (by decide)) (nI_clamp (n := 16) (by decide)) (Nat.le_of_ble_eq_true rfl) (Nat.le_of_ble_eq_true rfl) (Nat.le_of_ble_eq_true rfl) dX1_run_8 (fun qn cN H hK hP hD hS => ?_)
  have hP : va_P (dC, dI) vwCl [(h0, .inr (0, [.ref qk, .ref qb, .ref qo])), (qk, .inl (cK, 32, .inl (fk))), (qb, .inl (cB, 8, .inl (fb))), (qo, .inl (cO, 8, .inl (fo))), (qn, .inl (cN, 16, .inl (fun _ => 0)))] H := hP
  have hD : va_D A [(h0, .inr (0, [.ref qk, .ref qb, .ref qo])), (qk, .inl (cK, 32, .inl (fk))), (qb, .inl (cB, 8, .inl (fb))), (qo, .inl (cO, 8, .inl (fo))), (qn, .inl (cN, 16, .inl (fun _ => 0)))] := hD
  have hK : va_K (dC, dI) vwCl [(cK, .byte), (cB, .byte), (cO, .byte), (cN, .byte)] s := hK
  refine W.widen (k := 1) (n := 16) (Nat.le_of_ble_eq_true rfl) (Nat.le_of_ble_eq_true rfl) ?_
  refine lv_astore (lv' := [(4, .ref qn), (3, .int (nI 16)), (0, .ref h0), (1, .int b), (2, .int kd)]) hx hb dX1_run_10 hl (by decide) rfl (fun ls hl => ?_)
  refine lv_iconst (v := nI 0) hx hb dX1_run_12 (by decide +kernel) ?_
  refine lv_istore (lv' := [(5, .int (nI 0)), (4, .ref qn), (3, .int (nI 16)), (0, .ref h0), (1, .int b), (2, .int kd)]) hx hb dX1_run_13 hl (by decide) rfl (fun ls hl => ?_)
  have key : ∀ (n i : Nat), i ≤ 16 → 17 ≤ i + n → ∀ (g : Nat → Int32) (H : Heap) (locs : List Loc), (∀ k, k < i → g k = id_b8 (fk k)) → va_P (dC, dI) vwCl [(h0, .inr (0, [.ref qk, .ref qb, .ref qo])), (qk, .inl (cK, 32, .inl (fk))), (qb, .inl (cB, 8, .inl (fb))), (qo, .inl (cO, 8, .inl (fo))), (qn, .inl (cN, 16, .inl (g)))] H → va_D A [(h0, .inr (0, [.ref qk, .ref qb, .ref qo])), (qk, .inl (cK, 32, .inl (fk))), (qb, .inl (cB, 8, .inl (fb))), (qo, .inl (cO, 8, .inl (fo))), (qn, .inl (cN, 16, .inl (g)))] → va_S A s.heap H locs → ∀ ls : Array Slot, lv_has ls 6 [(5, .int (nI i)), (4, .ref qn), (3, .int (nI 16)), (1, .int b), (0, .ref h0)] → W p l e (headSpec (ws_ yX1_run cX1_run 6 none) { frames := 4, cells := 6, slots := 139, locals := 99 }).room s m ([.ref h0, .int b, .int kd] : List Value).toArray below meth c H locs 1 16 (MQ below (va_Qv (fun u : Nat → Int32 => u = id_run b fk fb fo) (fun (u : Nat → Int32) (t : State) => va_P (dC, dI) vwCl [(h0, .inr (0, [.ref qk, .ref qb, .ref qo])), (qk, .inl (cK, 32, .inl (fk))), (qb, .inl (cB, 8, .inl (fb))), (qo, .inl (cO, 8, .inl (u)))] t.heap ∧ va_K (dC, dI) vwCl [(cK, .byte), (cB, .byte), (cO, .byte)] t ∧ va_D A [(h0, .inr (0, [.ref qk, .ref qb, .ref qo])), (qk, .inl (cK, 32, .inl (fk))), (qb, .inl (cB, 8, .inl (fb))), (qo, .inl (cO, 8, .inl (u)))]) A) ([.ref h0, .int b, .int kd] : List Value).toArray s 6 139 A) (F0 m 15 ls []) := by
    intro n
    induction n with
    | zero => intro i h1 h2; exact absurd h2 (by omega)
    | succ n ih =>
      intro i hi hin g H locs hg hP hD hS ls hl
      refine lv_iload hx hb dX1_run_15 (lv_at hl 0 rfl) ?_
      refine lv_iload_n hx hb dX1_run_17 rfl (lv_at hl 2 rfl) ?_
      refine lv_icmp_ge (tgt := 39) hx hb dX1_run_18 (by decide) (fun c18 => ?_) (fun c18 => ?_)
      · obtain rfl : i = 16 := by have := (nI_leI (by decide) (by omega)).mp c18; omega
        refine va_new (ci := 1) (fs := [.null, .int 0]) (C := RX2) (T := TX2) (N := 2) hx hb hts in_X2 tyX2 tyX2_ok hown (hts _ q35) (hts _ q36) (hts _ q12) hK hP hD hS hA rfl (fun j hj => by rcases (show j = 0 ∨ j = 1 by omega) with rfl | rfl <;> rfl) (Nat.le_of_ble_eq_true rfl) (Nat.le_of_ble_eq_true rfl) dX1_run_39 (fun qe H hP hD hS => ?_)
        have hP : va_P (dC, dI) vwCl [(h0, .inr (0, [.ref qk, .ref qb, .ref qo])), (qk, .inl (cK, 32, .inl (fk))), (qb, .inl (cB, 8, .inl (fb))), (qo, .inl (cO, 8, .inl (fo))), (qn, .inl (cN, 16, .inl (g))), (qe, .inr (1, [.null, .int 0]))] H := hP
        have hD : va_D A [(h0, .inr (0, [.ref qk, .ref qb, .ref qo])), (qk, .inl (cK, 32, .inl (fk))), (qb, .inl (cB, 8, .inl (fb))), (qo, .inl (cO, 8, .inl (fo))), (qn, .inl (cN, 16, .inl (g))), (qe, .inr (1, [.null, .int 0]))] := hD
        refine W.widen (k := 2) (n := 18) (Nat.le_of_ble_eq_true rfl) (Nat.le_of_ble_eq_true rfl) ?_
        refine lv_dup hx hb dX1_run_42 rfl ?_
        have hPc := hP.sub (ws' := [(qe, .inr (1, [.null, .int 0]))]) [5] rfl
        have hDc := hD.sub (ws' := [(qe, .inr (1, [.null, .int 0]))]) [5] (by decide) rfl
        have hKc := hK.sub (tys' := []) [] rfl
        have hFc := va_free (wc := [(qe, .inr (1, [.null, .int 0]))]) hD hS hA [5] rfl
        refine va_callv (va_runI (As := []) (rest := [.ref qe]) ⟨hx, hb, hml, hown, hts⟩ (met_engine l dC dI qe H.size) (cwI 0 hts (lw_meth q39) rfl rfl rfl (hts _ q12) (hts _ q37) (hts _ q38) rfl (by decide +kernel) ⟨Nat.le_of_ble_eq_true rfl, Nat.le_of_ble_eq_true rfl⟩) ⟨fun a U g mk q => by obtain ⟨q0, q1, qP, qK, qD⟩ := q; exact ⟨q0, q1, qP, va_K.moved (u := U) (U := U.calling g mk a) (Vm.Alike.refl U.vm) qK, qD⟩, fun U hU hW => ⟨rfl, by rw [hU], by rw [hU]; exact hPc, va_K.moved hW.alike hKc, hDc.weaken (fun _ _ _ _ => trivial)⟩⟩ rfl rfl hl.1 rfl (lv_room (Nat.le_of_ble_eq_true rfl)) dX1_run_43 ⟨Nat.le_of_ble_eq_true rfl, Nat.le_of_ble_eq_true rfl⟩) hS (fun q _ h => hFc q h) hFc (fun u t H1 locs ht hvm hw hB hz1 hk1 hS => ?_)
        obtain ⟨hP1, hK1, hD1⟩ := hB
        rw [ht] at hP1
        have hK1 := va_K.moved hvm.symm hK1
        obtain ⟨hP, hD⟩ := va_join (wr := [(h0, .inr (0, [.ref qk, .ref qb, .ref qo])), (qk, .inl (cK, 32, .inl (fk))), (qb, .inl (cB, 8, .inl (fb))), (qo, .inl (cO, 8, .inl (fo))), (qn, .inl (cN, 16, .inl (g)))]) (w1 := [(qe, .inr (1, [.null, .int 0]))]) hP hD [5] [0, 1, 2, 3, 4] rfl rfl (by decide) (by decide) hk1 hFc hP1 hD1
        generalize H1 = H at hP hS ⊢
        have hP : va_P (dC, dI) vwCl [(h0, .inr (0, [.ref qk, .ref qb, .ref qo])), (qk, .inl (cK, 32, .inl (fk))), (qb, .inl (cB, 8, .inl (fb))), (qo, .inl (cO, 8, .inl (fo))), (qn, .inl (cN, 16, .inl (g))), (qe, .inr (1, [.null, .int 0]))] H := hP
        have hD : va_D A [(h0, .inr (0, [.ref qk, .ref qb, .ref qo])), (qk, .inl (cK, 32, .inl (fk))), (qb, .inl (cB, 8, .inl (fb))), (qo, .inl (cO, 8, .inl (fo))), (qn, .inl (cN, 16, .inl (g))), (qe, .inr (1, [.null, .int 0]))] := hD
        refine W.widen (k := 2) (n := 18) (Nat.le_of_ble_eq_true rfl) (Nat.le_of_ble_eq_true rfl) ?_
        refine lv_astore (lv' := [(5, .ref qe), (4, .ref qn), (3, .int (nI 16)), (1, .int b), (0, .ref h0)]) hx hb dX1_run_46 hl (by decide) rfl (fun ls hl => ?_)
        refine lv_aload hx hb dX1_run_48 (lv_at hl 0 rfl) ?_
        refine lv_iload_n hx hb dX1_run_50 rfl (lv_at hl 3 rfl) ?_
        refine va_new (ci := 2) (fs := [.null]) (C := RX3) (T := TX3) (N := 1) hx hb hts in_X3 tyX3 tyX3_ok hown (hts _ q51) (hts _ q52) (hts _ q13) hK hP hD hS hA rfl (fun j hj => by rcases (show j = 0 by omega) with rfl <;> rfl) (Nat.le_of_ble_eq_true rfl) (Nat.le_of_ble_eq_true rfl) dX1_run_51 (fun qp H hP hD hS => ?_)
        have hP : va_P (dC, dI) vwCl [(h0, .inr (0, [.ref qk, .ref qb, .ref qo])), (qk, .inl (cK, 32, .inl (fk))), (qb, .inl (cB, 8, .inl (fb))), (qo, .inl (cO, 8, .inl (fo))), (qn, .inl (cN, 16, .inl (g))), (qe, .inr (1, [.null, .int 0])), (qp, .inr (2, [.null]))] H := hP
        have hD : va_D A [(h0, .inr (0, [.ref qk, .ref qb, .ref qo])), (qk, .inl (cK, 32, .inl (fk))), (qb, .inl (cB, 8, .inl (fb))), (qo, .inl (cO, 8, .inl (fo))), (qn, .inl (cN, 16, .inl (g))), (qe, .inr (1, [.null, .int 0])), (qp, .inr (2, [.null]))] := hD
        refine W.widen (k := 3) (n := 19) (Nat.le_of_ble_eq_true rfl) (Nat.le_of_ble_eq_true rfl) ?_
        refine lv_dup hx hb dX1_run_54 rfl ?_
        refine lv_aload hx hb dX1_run_55 (lv_at hl 1 rfl) ?_
        have hPc := hP.sub (ws' := [(qp, .inr (2, [.null])), (qn, .inl (cN, 16, .inl (g)))]) [6, 4] rfl
        have hDc := hD.sub (ws' := [(qp, .inr (2, [.null])), (qn, .inl (cN, 16, .inl (g)))]) [6, 4] (by decide) rfl
        have hKc := hK.sub (tys' := [(cN, .byte)]) [3] rfl
        have hFc := va_free (wc := [(qp, .inr (2, [.null])), (qn, .inl (cN, 16, .inl (g)))]) hD hS hA [6, 4] rfl
        refine va_callv (va_runI (As := [.ref qn]) (rest := [.ref qp, .int b, .ref qe]) ⟨hx, hb, hml, hown, hts⟩ (met_kp l dC dI qp qn H.size cN g (fun i hi => by rw [hg i hi]; exact pk_fb _)) (cwI 1 hts (lw_meth q55) rfl rfl rfl (hts _ q13) (hts _ q53) (hts _ q54) rfl (by decide +kernel) ⟨Nat.le_of_ble_eq_true rfl, Nat.le_of_ble_eq_true rfl⟩) ⟨fun a U g mk q => by obtain ⟨q0, q1, qP, qK, qD⟩ := q; exact ⟨q0, q1, qP, va_K.moved (u := U) (U := U.calling g mk a) (Vm.Alike.refl U.vm) qK, qD⟩, fun U hU hW => ⟨rfl, by rw [hU], by rw [hU]; exact hPc, va_K.moved hW.alike hKc, hDc.weaken (fun _ _ _ _ => trivial)⟩⟩ rfl rfl hl.1 rfl (lv_room (Nat.le_of_ble_eq_true rfl)) dX1_run_57 ⟨Nat.le_of_ble_eq_true rfl, Nat.le_of_ble_eq_true rfl⟩) hS (fun q _ h => hFc q h) hFc (fun u t H1 locs ht hvm hw hB hz1 hk1 hS => ?_)
        obtain ⟨u1, rfl⟩ : ∃ z, z = u := ⟨_, rfl⟩
        have hw_u1 := hw
        obtain ⟨qx, cX, hP1, hK1, hD1⟩ := hB
        rw [ht] at hP1
        have hK1 := va_K.moved hvm.symm hK1
        obtain ⟨hP, hD⟩ := va_join (wr := [(h0, .inr (0, [.ref qk, .ref qb, .ref qo])), (qk, .inl (cK, 32, .inl (fk))), (qb, .inl (cB, 8, .inl (fb))), (qo, .inl (cO, 8, .inl (fo))), (qe, .inr (1, [.null, .int 0]))]) (w1 := [(qp, .inr (2, [.ref qx])), (qn, .inl (cN, 16, .inl (g))), (qx, .inl (cX, 16, .inl (u1)))]) hP hD [6, 4] [0, 1, 2, 3, 5] rfl rfl (by decide) (by decide) hk1 hFc hP1 hD1
        have hK := (hK.sub (tys' := [(cK, .byte), (cB, .byte), (cO, .byte)]) [0, 1, 2] rfl).app hK1
        generalize H1 = H at hP hS ⊢
        have hP : va_P (dC, dI) vwCl [(h0, .inr (0, [.ref qk, .ref qb, .ref qo])), (qk, .inl (cK, 32, .inl (fk))), (qb, .inl (cB, 8, .inl (fb))), (qo, .inl (cO, 8, .inl (fo))), (qe, .inr (1, [.null, .int 0])), (qp, .inr (2, [.ref qx])), (qn, .inl (cN, 16, .inl (g))), (qx, .inl (cX, 16, .inl (u1)))] H := hP
        have hD : va_D A [(h0, .inr (0, [.ref qk, .ref qb, .ref qo])), (qk, .inl (cK, 32, .inl (fk))), (qb, .inl (cB, 8, .inl (fb))), (qo, .inl (cO, 8, .inl (fo))), (qe, .inr (1, [.null, .int 0])), (qp, .inr (2, [.ref qx])), (qn, .inl (cN, 16, .inl (g))), (qx, .inl (cX, 16, .inl (u1)))] := hD
        have hK : va_K (dC, dI) vwCl [(cK, .byte), (cB, .byte), (cO, .byte), (cN, .byte), (cX, .byte)] s := hK
        refine W.widen (k := 4) (n := 35) (Nat.le_of_ble_eq_true rfl) (Nat.le_of_ble_eq_true rfl) ?_
        have hPc := hP.sub (ws' := [(qe, .inr (1, [.null, .int 0])), (qp, .inr (2, [.ref qx])), (qx, .inl (cX, 16, .inl (u1)))]) [4, 5, 7] rfl
        have hDc := hD.sub (ws' := [(qe, .inr (1, [.null, .int 0])), (qp, .inr (2, [.ref qx])), (qx, .inl (cX, 16, .inl (u1)))]) [4, 5, 7] (by decide) rfl
        have hKc := hK.sub (tys' := [(cX, .byte)]) [4] rfl
        have hFc := va_free (wc := [(qe, .inr (1, [.null, .int 0])), (qp, .inr (2, [.ref qx])), (qx, .inl (cX, 16, .inl (u1)))]) hD hS hA [4, 5, 7] rfl
        refine va_callFv (va_runF (As := [.int b, .ref qp]) (rest := []) (hK.1 1 _ rfl).2 ⟨hx, hb, hml, hown, hts⟩ (met_init l dC dI qe qp qx H.size cX .null (.int 0) b hbb u1) (va_cwF 2 hts (id_lwF q71 q75 q77 q12 q79) rfl rfl rfl hE.1 (by decide +kernel) ⟨Nat.le_of_ble_eq_true rfl, Nat.le_of_ble_eq_true rfl⟩) ⟨fun a U g mk q => by obtain ⟨q0, q1, qP, qK, qD⟩ := q; exact ⟨q0, q1, qP, va_K.moved (u := U) (U := U.calling g mk a) (Vm.Alike.refl U.vm) qK, qD⟩, va_recv hKc hPc (ci := 1) (q0 := 0) rfl rfl, fun U hU hW => ⟨rfl, by rw [hU], by rw [hU]; exact hPc, va_K.moved hW.alike hKc, hDc.weaken (fun _ _ _ _ => trivial)⟩⟩ rfl rfl hl.1 rfl (lv_room (Nat.le_of_ble_eq_true rfl)) dX1_run_60 ⟨Nat.le_of_ble_eq_true rfl, Nat.le_of_ble_eq_true rfl⟩) hS (fun q _ h => hFc q h) hFc (fun u t H1 locs ht hvm hw hB hz1 hk1 hS => ?_)
        obtain ⟨u2, rfl⟩ : ∃ z, z = u := ⟨_, rfl⟩
        have hw_u2 := hw
        obtain ⟨qw, cW, hP1, hK1, hD1⟩ := hB
        rw [ht] at hP1
        have hK1 := va_K.moved hvm.symm hK1
        obtain ⟨hP, hD⟩ := va_join (wr := [(h0, .inr (0, [.ref qk, .ref qb, .ref qo])), (qk, .inl (cK, 32, .inl (fk))), (qb, .inl (cB, 8, .inl (fb))), (qo, .inl (cO, 8, .inl (fo))), (qn, .inl (cN, 16, .inl (g)))]) (w1 := [(qe, .inr (1, [.ref qw, .int b])), (qp, .inr (2, [.ref qx])), (qx, .inl (cX, 16, .inl (u1))), (qw, .inl (cW, 52, .inl (u2)))]) hP hD [4, 5, 7] [0, 1, 2, 3, 6] rfl rfl (by decide) (by decide) hk1 hFc hP1 hD1
        have hK := (hK.sub (tys' := [(cK, .byte), (cB, .byte), (cO, .byte), (cN, .byte)]) [0, 1, 2, 3] rfl).app hK1
        generalize H1 = H at hP hS ⊢
        have hP : va_P (dC, dI) vwCl [(h0, .inr (0, [.ref qk, .ref qb, .ref qo])), (qk, .inl (cK, 32, .inl (fk))), (qb, .inl (cB, 8, .inl (fb))), (qo, .inl (cO, 8, .inl (fo))), (qn, .inl (cN, 16, .inl (g))), (qe, .inr (1, [.ref qw, .int b])), (qp, .inr (2, [.ref qx])), (qx, .inl (cX, 16, .inl (u1))), (qw, .inl (cW, 52, .inl (u2)))] H := hP
        have hD : va_D A [(h0, .inr (0, [.ref qk, .ref qb, .ref qo])), (qk, .inl (cK, 32, .inl (fk))), (qb, .inl (cB, 8, .inl (fb))), (qo, .inl (cO, 8, .inl (fo))), (qn, .inl (cN, 16, .inl (g))), (qe, .inr (1, [.ref qw, .int b])), (qp, .inr (2, [.ref qx])), (qx, .inl (cX, 16, .inl (u1))), (qw, .inl (cW, 52, .inl (u2)))] := hD
        have hK : va_K (dC, dI) vwCl [(cK, .byte), (cB, .byte), (cO, .byte), (cN, .byte), (cX, .byte), (cW, .int)] s := hK
        refine W.widen (k := 6) (n := 139) (Nat.le_of_ble_eq_true rfl) (Nat.le_of_ble_eq_true rfl) ?_
        refine lv_aload hx hb dX1_run_65 (lv_at hl 0 rfl) ?_
        refine lv_aload_n hx hb dX1_run_67 rfl (lv_at hl 4 rfl) ?_
        refine va_get (D := (dC, dI)) (ci := 0) (v := .ref qb) (C := RX1) (T := TX1) (N := 3) hx hb hts in_X1 hown hK hP 0 rfl rfl 1 (by decide) (hts _ q273) (fun _ h9 => h9) rfl dX1_run_68 ?_
        refine lv_iconst (v := nI 0) hx hb dX1_run_71 (by decide +kernel) ?_
        refine lv_aload_n hx hb dX1_run_72 rfl (lv_at hl 4 rfl) ?_
        refine va_get (D := (dC, dI)) (ci := 0) (v := .ref qo) (C := RX1) (T := TX1) (N := 3) hx hb hts in_X1 hown hK hP 0 rfl rfl 2 (by decide) (hts _ q274) (fun _ h9 => h9) rfl dX1_run_73 ?_
        refine lv_iconst (v := nI 0) hx hb dX1_run_76 (by decide +kernel) ?_
        have hPc := hP.sub (ws' := [(qe, .inr (1, [.ref qw, .int b])), (qw, .inl (cW, 52, .inl (u2))), (qb, .inl (cB, 8, .inl (fb))), (qo, .inl (cO, 8, .inl (fo)))]) [5, 8, 2, 3] rfl
        have hDc := hD.sub (ws' := [(qe, .inr (1, [.ref qw, .int b])), (qw, .inl (cW, 52, .inl (u2))), (qb, .inl (cB, 8, .inl (fb))), (qo, .inl (cO, 8, .inl (fo)))]) [5, 8, 2, 3] (by decide) rfl
        have hKc := hK.sub (tys' := [(cW, .int), (cB, .byte), (cO, .byte)]) [5, 1, 2] rfl
        have hFc := va_free (wc := [(qe, .inr (1, [.ref qw, .int b])), (qw, .inl (cW, 52, .inl (u2))), (qb, .inl (cB, 8, .inl (fb))), (qo, .inl (cO, 8, .inl (fo)))]) hD hS hA [5, 8, 2, 3] rfl
        refine va_callFi (va_runF (As := [.ref qb, .int (nI 0), .ref qo, .int (nI 0)]) (rest := []) (hK.1 1 _ rfl).2 ⟨hx, hb, hml, hown, hts⟩ (met_pb l dC dI qe qw qb qo H.size cW cB cO (.int b) u2 fb fo) (va_cwF 4 hts (id_lwF q183 q186 q188 q12 q190) rfl rfl rfl hE.2 (by decide +kernel) ⟨Nat.le_of_ble_eq_true rfl, Nat.le_of_ble_eq_true rfl⟩) ⟨fun a U g mk q => by obtain ⟨q0, q1, qP, qK, qD⟩ := q; exact ⟨q0, q1, qP, va_K.moved (u := U) (U := U.calling g mk a) (Vm.Alike.refl U.vm) qK, qD⟩, va_recv hKc hPc (ci := 1) (q0 := 0) rfl rfl, fun U hU hW => ⟨rfl, by rw [hU], by rw [hU]; exact hPc, va_K.moved hW.alike hKc, hDc.weaken (fun _ _ _ _ => trivial)⟩⟩ rfl rfl hl.1 rfl (lv_room (Nat.le_of_ble_eq_true rfl)) dX1_run_77 ⟨Nat.le_of_ble_eq_true rfl, Nat.le_of_ble_eq_true rfl⟩) hS (fun q _ h => hFc q h) hFc (fun r77 u t H1 locs ht hvm hw hB hz1 hk1 hS => ?_)
        obtain ⟨u3, rfl⟩ : ∃ z, z = u := ⟨_, rfl⟩
        have hw_u3 := hw
        obtain ⟨hP1, hK1, hD1⟩ := hB
        rw [ht] at hP1
        have hK1 := va_K.moved hvm.symm hK1
        obtain ⟨hP, hD⟩ := va_join (wr := [(h0, .inr (0, [.ref qk, .ref qb, .ref qo])), (qk, .inl (cK, 32, .inl (fk))), (qn, .inl (cN, 16, .inl (g))), (qp, .inr (2, [.ref qx])), (qx, .inl (cX, 16, .inl (u1)))]) (w1 := [(qe, .inr (1, [.ref qw, .int b])), (qw, .inl (cW, 52, .inl (u2))), (qb, .inl (cB, 8, .inl (fb))), (qo, .inl (cO, 8, .inl (u3)))]) hP hD [5, 8, 2, 3] [0, 1, 4, 6, 7] rfl rfl (by decide) (by decide) hk1 hFc hP1 hD1
        generalize H1 = H at hP hS ⊢
        have hP : va_P (dC, dI) vwCl [(h0, .inr (0, [.ref qk, .ref qb, .ref qo])), (qk, .inl (cK, 32, .inl (fk))), (qn, .inl (cN, 16, .inl (g))), (qp, .inr (2, [.ref qx])), (qx, .inl (cX, 16, .inl (u1))), (qe, .inr (1, [.ref qw, .int b])), (qw, .inl (cW, 52, .inl (u2))), (qb, .inl (cB, 8, .inl (fb))), (qo, .inl (cO, 8, .inl (u3)))] H := hP
        have hD : va_D A [(h0, .inr (0, [.ref qk, .ref qb, .ref qo])), (qk, .inl (cK, 32, .inl (fk))), (qn, .inl (cN, 16, .inl (g))), (qp, .inr (2, [.ref qx])), (qx, .inl (cX, 16, .inl (u1))), (qe, .inr (1, [.ref qw, .int b])), (qw, .inl (cW, 52, .inl (u2))), (qb, .inl (cB, 8, .inl (fb))), (qo, .inl (cO, 8, .inl (u3)))] := hD
        refine W.widen (k := 6) (n := 139) (Nat.le_of_ble_eq_true rfl) (Nat.le_of_ble_eq_true rfl) ?_
        refine lv_pop hx hb dX1_run_82 rfl ?_
        have hP9 := hP.sub (ws' := [(h0, .inr (0, [.ref qk, .ref qb, .ref qo])), (qk, .inl (cK, 32, .inl (fk))), (qb, .inl (cB, 8, .inl (fb))), (qo, .inl (cO, 8, .inl (u3)))]) [0, 1, 7, 8] rfl
        have hD9 := hD.sub (ws' := [(h0, .inr (0, [.ref qk, .ref qb, .ref qo])), (qk, .inl (cK, 32, .inl (fk))), (qb, .inl (cB, 8, .inl (fb))), (qo, .inl (cO, 8, .inl (u3)))]) [0, 1, 7, 8] (by decide) rfl
        have hK9 := hK.sub (tys' := [(cK, .byte), (cB, .byte), (cO, .byte)]) [0, 1, 2] rfl
        exact W.vret hx hb hr (fun t ht hW => ⟨⟨u3, rfl, (by rw [hw_u3]; exact id_out_congr (fun k hk => (hw_u2 k hk).trans (id_gk_congr b (fun i hi => (hw_u1 i hi).trans (hg i hi)) hk)) fb fo), by rw [ht]; exact hP9, va_K.moved hW.alike hK9, hD9⟩, hS.F ht⟩) hS.2.2 dX1_run_83
      · have hlt : i + 1 ≤ 16 := by rcases Nat.lt_or_ge i 16 with q | q; exact q; exact absurd (nI_le q (by omega)) c18
        refine lv_aload hx hb dX1_run_21 (lv_at hl 1 rfl) ?_
        refine lv_iload hx hb dX1_run_23 (lv_at hl 0 rfl) ?_
        refine lv_aload_n hx hb dX1_run_25 rfl (lv_at hl 4 rfl) ?_
        refine va_get (D := (dC, dI)) (ci := 0) (v := .ref qk) (C := RX1) (T := TX1) (N := 3) hx hb hts in_X1 hown hK hP 0 rfl rfl 0 (by decide) (hts _ q272) (fun _ h9 => h9) rfl dX1_run_26 ?_
        refine lv_iload hx hb dX1_run_29 (lv_at hl 0 rfl) ?_
        refine va_bald hx hb hK hP 1 0 rfl rfl (vp_in_nI (by omega) (by omega)) dX1_run_31 ?_
        refine id_is (y := (fk) (i)) (by rw [nI_clamp (n := i) (by omega)]) ?_
        refine va_bast hx hb hK hP hD hS 4 3 rfl rfl (vp_in_nI (by omega) (by omega)) dX1_run_32 (fun H locs hP hD hS => ?_)
        rw [nI_clamp (n := i) (by omega)] at hP hD
        rw [vp_nar_byte] at hP hD
        have hP : va_P (dC, dI) vwCl [(h0, .inr (0, [.ref qk, .ref qb, .ref qo])), (qk, .inl (cK, 32, .inl (fk))), (qb, .inl (cB, 8, .inl (fb))), (qo, .inl (cO, 8, .inl (fo))), (qn, .inl (cN, 16, .inl (upd (g) (i) (((fk) (i) : Int32).toInt8.toInt32))))] H := hP
        have hD : va_D A [(h0, .inr (0, [.ref qk, .ref qb, .ref qo])), (qk, .inl (cK, 32, .inl (fk))), (qb, .inl (cB, 8, .inl (fb))), (qo, .inl (cO, 8, .inl (fo))), (qn, .inl (cN, 16, .inl (upd (g) (i) (((fk) (i) : Int32).toInt8.toInt32))))] := hD
        refine lv_iinc (v := nI (i + 1)) (lv' := [(5, .int (nI (i + 1))), (4, .ref qn), (3, .int (nI 16)), (1, .int b), (0, .ref h0)]) hx hb dX1_run_33 hl (k := 0) rfl (id_inc (by omega)) (by decide) rfl (fun ls hl => ?_)
        refine lv_goto (tgt := 15) hx hb dX1_run_36 (by decide) ?_
        exact ih (i + 1) hlt (by omega) (upd (g) (i) (((fk) (i) : Int32).toInt8.toInt32)) H locs (id_up hg rfl) hP hD hS ls (lv_sub hl [0, 1, 2, 3, 4] rfl)
  exact key 17 0 (by decide) (by decide) (fun _ => 0) H _ (fun k hk => absurd hk (Nat.not_lt_zero _)) hP hD hS ls (lv_sub hl [0, 1, 2, 4, 3] rfl)
set_option maxHeartbeats 4000000 in
set_option maxRecDepth 100000 in
/-- lock -/
theorem met_lock (l : Launch) (dC : Nat → ClassId) (dI : Nat → Nat → Nat) (h0 qk qb qo sz : Nat) (cK cB cO : ClassId) (fk fb fo : Nat → Int32) (kd : Int32) : Met l yX1_lock (ws_ yX1_lock cX1_lock 2 none) ({ frames := 5, cells := 6, slots := 139, locals := 124 }) (va_Pc [.ref h0, .int kd] (fun U => U.heap.size = sz ∧ va_P (dC, dI) vwCl [(h0, .inr (0, [.ref qk, .ref qb, .ref qo])), (qk, .inl (cK, 32, .inl (fk))), (qb, .inl (cB, 8, .inl (fb))), (qo, .inl (cO, 8, .inl (fo)))] U.heap ∧ va_K (dC, dI) vwCl [(cK, .byte), (cB, .byte), (cO, .byte)] U ∧ va_D (fun _ => True) [(h0, .inr (0, [.ref qk, .ref qb, .ref qo])), (qk, .inl (cK, 32, .inl (fk))), (qb, .inl (cB, 8, .inl (fb))), (qo, .inl (cO, 8, .inl (fo)))] ∧ id_env U)) (va_Qv (fun u : Nat → Int32 => u = id_run 1 fk fb fo) (fun (u : Nat → Int32) (t : State) => va_P (dC, dI) vwCl [(h0, .inr (0, [.ref qk, .ref qb, .ref qo])), (qk, .inl (cK, 32, .inl (fk))), (qb, .inl (cB, 8, .inl (fb))), (qo, .inl (cO, 8, .inl (u)))] t.heap ∧ va_K (dC, dI) vwCl [(cK, .byte), (cB, .byte), (cO, .byte)] t ∧ va_D (va_A [(h0, .inr (0, [.ref qk, .ref qb, .ref qo])), (qk, .inl (cK, 32, .inl (fk))), (qb, .inl (cB, 8, .inl (fb))), (qo, .inl (cO, 8, .inl (fo)))] sz) [(h0, .inr (0, [.ref qk, .ref qb, .ref qo])), (qk, .inl (cK, 32, .inl (fk))), (qb, .inl (cB, 8, .inl (fb))), (qo, .inl (cO, 8, .inl (u)))]) (va_A [(h0, .inr (0, [.ref qk, .ref qb, .ref qo])), (qk, .inl (cK, 32, .inl (fk))), (qb, .inl (cB, 8, .inl (fb))), (qo, .inl (cO, 8, .inl (fo)))] sz)) 6 139 (va_A [(h0, .inr (0, [.ref qk, .ref qb, .ref qo])), (qk, .inl (cK, 32, .inl (fk))), (qb, .inl (cB, 8, .inl (fb))), (qo, .inl (cO, 8, .inl (fo)))] sz) := by
  refine Met.ofW (cc := cX1_lock) (maxL := 2) (ret := none) (by decide) rfl ?_
  intro p e s m args below meth c s₁ B hml hv
  obtain ⟨rfl, hsz, hP, hK, hD0, hE⟩ := hv
  have hx := B.exec
  have hb := B.bytes
  have hr := B.returns
  have hts := atoms_spec (ws := (ws_ yX1_lock cX1_lock 2 none)) B.pre
  have hts : ∀ w ∈ lw_all, w.before _ s = true := fun w h => hts w (List.mem_cons_of_mem _ h)
  have hown : s.vm.findClass RX1 = some m.cls := findClass_of_methodNamed B.named
  have hlocks := B.notSynchronized
  subst hsz
  have hD := hD0.self (sz := s.heap.size)
  generalize hAe : va_A [(h0, .inr (0, [.ref qk, .ref qb, .ref qo])), (qk, .inl (cK, 32, .inl (fk))), (qb, .inl (cB, 8, .inl (fb))), (qo, .inl (cO, 8, .inl (fo)))] s.heap.size = A at hD ⊢
  have hA : ∀ q : Nat, s.heap.size ≤ q → A q := fun q h => by rw [← hAe]; exact Or.inr h
  have hS : va_S A s.heap s.heap [] := va_S.rf
  have hP : va_P (dC, dI) vwCl [(h0, .inr (0, [.ref qk, .ref qb, .ref qo])), (qk, .inl (cK, 32, .inl (fk))), (qb, .inl (cB, 8, .inl (fb))), (qo, .inl (cO, 8, .inl (fo)))] s.heap := hP
  have hl := lv_entry ([.ref h0, .int kd]) (n := 2) (Nat.le_of_ble_eq_true rfl)
  rw [lg_entry_eq]
  generalize (lg_sl ([.ref h0, .int kd]) ++ List.replicate (2 - (lg_sl ([.ref h0, .int kd])).length) Slot.unset).toArray = ls at hl ⊢
  have hl : lv_has ls 2 [(0, .ref h0), (1, .int kd)] := hl
  refine lv_aload_n hx hb dX1_lock_0 rfl (lv_at hl 0 rfl) ?_
  refine lv_iconst (v := 1) hx hb dX1_lock_1 (by decide +kernel) ?_
  refine lv_iload_n hx hb dX1_lock_2 rfl (lv_at hl 1 rfl) ?_
  have hPc := hP.sub (ws' := [(h0, .inr (0, [.ref qk, .ref qb, .ref qo])), (qk, .inl (cK, 32, .inl (fk))), (qb, .inl (cB, 8, .inl (fb))), (qo, .inl (cO, 8, .inl (fo)))]) [0, 1, 2, 3] rfl
  have hDc := hD.sub (ws' := [(h0, .inr (0, [.ref qk, .ref qb, .ref qo])), (qk, .inl (cK, 32, .inl (fk))), (qb, .inl (cB, 8, .inl (fb))), (qo, .inl (cO, 8, .inl (fo)))]) [0, 1, 2, 3] (by decide) rfl
  have hKc := hK.sub (tys' := [(cK, .byte), (cB, .byte), (cO, .byte)]) [0, 1, 2] rfl
  have hFc := va_free (wc := [(h0, .inr (0, [.ref qk, .ref qb, .ref qo])), (qk, .inl (cK, 32, .inl (fk))), (qb, .inl (cB, 8, .inl (fb))), (qo, .inl (cO, 8, .inl (fo)))]) hD hS hA [0, 1, 2, 3] rfl
  refine va_callv (va_runV (As := [.int (1), .int kd]) (rest := []) ⟨hx, hb, hml, hown, hts⟩ (met_run l dC dI h0 qk qb qo s.heap.size cK cB cO fk fb fo 1 kd (by decide)) (cwV 2 hts (lw_V q27 q29 qs0 q11 q31) rfl rfl rfl (by decide +kernel) ⟨Nat.le_of_ble_eq_true rfl, Nat.le_of_ble_eq_true rfl⟩) ⟨fun a U g mk q => by obtain ⟨q0, q1, qP, qK, qD, qE⟩ := q; exact ⟨q0, q1, qP, va_K.moved (u := U) (U := U.calling g mk a) (Vm.Alike.refl U.vm) qK, qD, id_env.moved (Vm.Alike.refl U.vm) qE⟩, va_recv hKc hPc (ci := 0) (q0 := 0) rfl rfl, fun U hU hW => ⟨rfl, by rw [hU], by rw [hU]; exact hPc, va_K.moved hW.alike hKc, hDc.weaken (fun _ _ _ _ => trivial), id_env.moved hW.alike hE⟩⟩ rfl rfl hl.1 rfl (lv_room (Nat.le_of_ble_eq_true rfl)) dX1_lock_3 ⟨Nat.le_of_ble_eq_true rfl, Nat.le_of_ble_eq_true rfl⟩) hS (fun q _ h => hFc q h) hFc (fun u t H1 locs ht hvm hw hB hz1 hk1 hS => ?_)
  obtain ⟨u1, rfl⟩ : ∃ z, z = u := ⟨_, rfl⟩
  have hw_u1 := hw
  obtain ⟨hP1, hK1, hD1⟩ := hB
  rw [ht] at hP1
  have hK1 := va_K.moved hvm.symm hK1
  obtain ⟨hP, hD⟩ := va_join (wr := []) (w1 := [(h0, .inr (0, [.ref qk, .ref qb, .ref qo])), (qk, .inl (cK, 32, .inl (fk))), (qb, .inl (cB, 8, .inl (fb))), (qo, .inl (cO, 8, .inl (u1)))]) hP hD [0, 1, 2, 3] [] rfl rfl (by decide) (by decide) hk1 hFc hP1 hD1
  generalize H1 = H at hP hS ⊢
  have hP : va_P (dC, dI) vwCl [(h0, .inr (0, [.ref qk, .ref qb, .ref qo])), (qk, .inl (cK, 32, .inl (fk))), (qb, .inl (cB, 8, .inl (fb))), (qo, .inl (cO, 8, .inl (u1)))] H := hP
  have hD : va_D A [(h0, .inr (0, [.ref qk, .ref qb, .ref qo])), (qk, .inl (cK, 32, .inl (fk))), (qb, .inl (cB, 8, .inl (fb))), (qo, .inl (cO, 8, .inl (u1)))] := hD
  refine W.widen (k := 6) (n := 139) (Nat.le_of_ble_eq_true rfl) (Nat.le_of_ble_eq_true rfl) ?_
  have hP9 := hP.sub (ws' := [(h0, .inr (0, [.ref qk, .ref qb, .ref qo])), (qk, .inl (cK, 32, .inl (fk))), (qb, .inl (cB, 8, .inl (fb))), (qo, .inl (cO, 8, .inl (u1)))]) [0, 1, 2, 3] rfl
  have hD9 := hD.sub (ws' := [(h0, .inr (0, [.ref qk, .ref qb, .ref qo])), (qk, .inl (cK, 32, .inl (fk))), (qb, .inl (cB, 8, .inl (fb))), (qo, .inl (cO, 8, .inl (u1)))]) [0, 1, 2, 3] (by decide) rfl
  have hK9 := hK.sub (tys' := [(cK, .byte), (cB, .byte), (cO, .byte)]) [0, 1, 2] rfl
  exact W.vret hx hb hr (fun t ht hW => ⟨⟨u1, rfl, hw_u1, by rw [ht]; exact hP9, va_K.moved hW.alike hK9, hD9⟩, hS.F ht⟩) hS.2.2 dX1_lock_6
set_option maxHeartbeats 4000000 in
set_option maxRecDepth 100000 in
/-- unlock -/
theorem met_unlock (l : Launch) (dC : Nat → ClassId) (dI : Nat → Nat → Nat) (h0 qk qb qo sz : Nat) (cK cB cO : ClassId) (fk fb fo : Nat → Int32) (kd : Int32) : Met l yX1_open (ws_ yX1_open cX1_open 2 none) ({ frames := 5, cells := 6, slots := 139, locals := 124 }) (va_Pc [.ref h0, .int kd] (fun U => U.heap.size = sz ∧ va_P (dC, dI) vwCl [(h0, .inr (0, [.ref qk, .ref qb, .ref qo])), (qk, .inl (cK, 32, .inl (fk))), (qb, .inl (cB, 8, .inl (fb))), (qo, .inl (cO, 8, .inl (fo)))] U.heap ∧ va_K (dC, dI) vwCl [(cK, .byte), (cB, .byte), (cO, .byte)] U ∧ va_D (fun _ => True) [(h0, .inr (0, [.ref qk, .ref qb, .ref qo])), (qk, .inl (cK, 32, .inl (fk))), (qb, .inl (cB, 8, .inl (fb))), (qo, .inl (cO, 8, .inl (fo)))] ∧ id_env U)) (va_Qv (fun u : Nat → Int32 => u = id_run 0 fk fb fo) (fun (u : Nat → Int32) (t : State) => va_P (dC, dI) vwCl [(h0, .inr (0, [.ref qk, .ref qb, .ref qo])), (qk, .inl (cK, 32, .inl (fk))), (qb, .inl (cB, 8, .inl (fb))), (qo, .inl (cO, 8, .inl (u)))] t.heap ∧ va_K (dC, dI) vwCl [(cK, .byte), (cB, .byte), (cO, .byte)] t ∧ va_D (va_A [(h0, .inr (0, [.ref qk, .ref qb, .ref qo])), (qk, .inl (cK, 32, .inl (fk))), (qb, .inl (cB, 8, .inl (fb))), (qo, .inl (cO, 8, .inl (fo)))] sz) [(h0, .inr (0, [.ref qk, .ref qb, .ref qo])), (qk, .inl (cK, 32, .inl (fk))), (qb, .inl (cB, 8, .inl (fb))), (qo, .inl (cO, 8, .inl (u)))]) (va_A [(h0, .inr (0, [.ref qk, .ref qb, .ref qo])), (qk, .inl (cK, 32, .inl (fk))), (qb, .inl (cB, 8, .inl (fb))), (qo, .inl (cO, 8, .inl (fo)))] sz)) 6 139 (va_A [(h0, .inr (0, [.ref qk, .ref qb, .ref qo])), (qk, .inl (cK, 32, .inl (fk))), (qb, .inl (cB, 8, .inl (fb))), (qo, .inl (cO, 8, .inl (fo)))] sz) := by
  refine Met.ofW (cc := cX1_open) (maxL := 2) (ret := none) (by decide) rfl ?_
  intro p e s m args below meth c s₁ B hml hv
  obtain ⟨rfl, hsz, hP, hK, hD0, hE⟩ := hv
  have hx := B.exec
  have hb := B.bytes
  have hr := B.returns
  have hts := atoms_spec (ws := (ws_ yX1_open cX1_open 2 none)) B.pre
  have hts : ∀ w ∈ lw_all, w.before _ s = true := fun w h => hts w (List.mem_cons_of_mem _ h)
  have hown : s.vm.findClass RX1 = some m.cls := findClass_of_methodNamed B.named
  have hlocks := B.notSynchronized
  subst hsz
  have hD := hD0.self (sz := s.heap.size)
  generalize hAe : va_A [(h0, .inr (0, [.ref qk, .ref qb, .ref qo])), (qk, .inl (cK, 32, .inl (fk))), (qb, .inl (cB, 8, .inl (fb))), (qo, .inl (cO, 8, .inl (fo)))] s.heap.size = A at hD ⊢
  have hA : ∀ q : Nat, s.heap.size ≤ q → A q := fun q h => by rw [← hAe]; exact Or.inr h
  have hS : va_S A s.heap s.heap [] := va_S.rf
  have hP : va_P (dC, dI) vwCl [(h0, .inr (0, [.ref qk, .ref qb, .ref qo])), (qk, .inl (cK, 32, .inl (fk))), (qb, .inl (cB, 8, .inl (fb))), (qo, .inl (cO, 8, .inl (fo)))] s.heap := hP
  have hl := lv_entry ([.ref h0, .int kd]) (n := 2) (Nat.le_of_ble_eq_true rfl)
  rw [lg_entry_eq]
  generalize (lg_sl ([.ref h0, .int kd]) ++ List.replicate (2 - (lg_sl ([.ref h0, .int kd])).length) Slot.unset).toArray = ls at hl ⊢
  have hl : lv_has ls 2 [(0, .ref h0), (1, .int kd)] := hl
  refine lv_aload_n hx hb dX1_open_0 rfl (lv_at hl 0 rfl) ?_
  refine lv_iconst (v := 0) hx hb dX1_open_1 (by decide +kernel) ?_
  refine lv_iload_n hx hb dX1_open_2 rfl (lv_at hl 1 rfl) ?_
  have hPc := hP.sub (ws' := [(h0, .inr (0, [.ref qk, .ref qb, .ref qo])), (qk, .inl (cK, 32, .inl (fk))), (qb, .inl (cB, 8, .inl (fb))), (qo, .inl (cO, 8, .inl (fo)))]) [0, 1, 2, 3] rfl
  have hDc := hD.sub (ws' := [(h0, .inr (0, [.ref qk, .ref qb, .ref qo])), (qk, .inl (cK, 32, .inl (fk))), (qb, .inl (cB, 8, .inl (fb))), (qo, .inl (cO, 8, .inl (fo)))]) [0, 1, 2, 3] (by decide) rfl
  have hKc := hK.sub (tys' := [(cK, .byte), (cB, .byte), (cO, .byte)]) [0, 1, 2] rfl
  have hFc := va_free (wc := [(h0, .inr (0, [.ref qk, .ref qb, .ref qo])), (qk, .inl (cK, 32, .inl (fk))), (qb, .inl (cB, 8, .inl (fb))), (qo, .inl (cO, 8, .inl (fo)))]) hD hS hA [0, 1, 2, 3] rfl
  refine va_callv (va_runV (As := [.int (0), .int kd]) (rest := []) ⟨hx, hb, hml, hown, hts⟩ (met_run l dC dI h0 qk qb qo s.heap.size cK cB cO fk fb fo 0 kd (by decide)) (cwV 2 hts (lw_V q27 q29 qs0 q11 q31) rfl rfl rfl (by decide +kernel) ⟨Nat.le_of_ble_eq_true rfl, Nat.le_of_ble_eq_true rfl⟩) ⟨fun a U g mk q => by obtain ⟨q0, q1, qP, qK, qD, qE⟩ := q; exact ⟨q0, q1, qP, va_K.moved (u := U) (U := U.calling g mk a) (Vm.Alike.refl U.vm) qK, qD, id_env.moved (Vm.Alike.refl U.vm) qE⟩, va_recv hKc hPc (ci := 0) (q0 := 0) rfl rfl, fun U hU hW => ⟨rfl, by rw [hU], by rw [hU]; exact hPc, va_K.moved hW.alike hKc, hDc.weaken (fun _ _ _ _ => trivial), id_env.moved hW.alike hE⟩⟩ rfl rfl hl.1 rfl (lv_room (Nat.le_of_ble_eq_true rfl)) dX1_open_3 ⟨Nat.le_of_ble_eq_true rfl, Nat.le_of_ble_eq_true rfl⟩) hS (fun q _ h => hFc q h) hFc (fun u t H1 locs ht hvm hw hB hz1 hk1 hS => ?_)
  obtain ⟨u1, rfl⟩ : ∃ z, z = u := ⟨_, rfl⟩
  have hw_u1 := hw
  obtain ⟨hP1, hK1, hD1⟩ := hB
  rw [ht] at hP1
  have hK1 := va_K.moved hvm.symm hK1
  obtain ⟨hP, hD⟩ := va_join (wr := []) (w1 := [(h0, .inr (0, [.ref qk, .ref qb, .ref qo])), (qk, .inl (cK, 32, .inl (fk))), (qb, .inl (cB, 8, .inl (fb))), (qo, .inl (cO, 8, .inl (u1)))]) hP hD [0, 1, 2, 3] [] rfl rfl (by decide) (by decide) hk1 hFc hP1 hD1
  generalize H1 = H at hP hS ⊢
  have hP : va_P (dC, dI) vwCl [(h0, .inr (0, [.ref qk, .ref qb, .ref qo])), (qk, .inl (cK, 32, .inl (fk))), (qb, .inl (cB, 8, .inl (fb))), (qo, .inl (cO, 8, .inl (u1)))] H := hP
  have hD : va_D A [(h0, .inr (0, [.ref qk, .ref qb, .ref qo])), (qk, .inl (cK, 32, .inl (fk))), (qb, .inl (cB, 8, .inl (fb))), (qo, .inl (cO, 8, .inl (u1)))] := hD
  refine W.widen (k := 6) (n := 139) (Nat.le_of_ble_eq_true rfl) (Nat.le_of_ble_eq_true rfl) ?_
  have hP9 := hP.sub (ws' := [(h0, .inr (0, [.ref qk, .ref qb, .ref qo])), (qk, .inl (cK, 32, .inl (fk))), (qb, .inl (cB, 8, .inl (fb))), (qo, .inl (cO, 8, .inl (u1)))]) [0, 1, 2, 3] rfl
  have hD9 := hD.sub (ws' := [(h0, .inr (0, [.ref qk, .ref qb, .ref qo])), (qk, .inl (cK, 32, .inl (fk))), (qb, .inl (cB, 8, .inl (fb))), (qo, .inl (cO, 8, .inl (u1)))]) [0, 1, 2, 3] (by decide) rfl
  have hK9 := hK.sub (tys' := [(cK, .byte), (cB, .byte), (cO, .byte)]) [0, 1, 2] rfl
  exact W.vret hx hb hr (fun t ht hW => ⟨⟨u1, rfl, hw_u1, by rw [ht]; exact hP9, va_K.moved hW.alike hK9, hD9⟩, hS.F ht⟩) hS.2.2 dX1_open_6
end
section
/-! the law's own numbers: the script's cells, the bytes that must come out, the two published answers -/
set_option maxRecDepth 100000
def id_c (L : Nat) (xs : Nat → Int32) (k : Nat) : Int32 := if k < L then xs k else 0
def id_ck (L : Nat) (xs : Nat → Int32) : Nat → Int32 := id_k4 (id_k4 (fun _ => 0) (0 * 16) (id_c L xs 0) (id_c L xs 1) (id_c L xs 2) (id_c L xs 3)) (1 * 16) (id_c L xs 4) (id_c L xs 5) (id_c L xs 6) (id_c L xs 7)
def id_cb (L : Nat) (xs : Nat → Int32) : Nat → Int32 := id_w4 (id_w4 (fun _ => 0) 0 (id_c L xs 8)) 4 (id_c L xs 9)
theorem id_lo_sh (v : Int32) : id_lo (id_b8 (v >>> ((24 : Int32) &&& 31))) = v.toBitVec.toNat / 2 ^ 24 % 256 ∧ id_lo (id_b8 (v >>> ((16 : Int32) &&& 31))) = v.toBitVec.toNat / 2 ^ 16 % 256 ∧ id_lo (id_b8 (v >>> ((8 : Int32) &&& 31))) = v.toBitVec.toNat / 2 ^ 8 % 256 ∧ id_lo (id_b8 v) = v.toBitVec.toNat / 2 ^ 0 % 256 := by
  refine ⟨?_, ?_, ?_, ?_⟩
  · rw [id_lo_b8]; exact id_shr_lo v (s := 24) (by decide)
  · rw [id_lo_b8]; exact id_shr_lo v (s := 16) (by decide)
  · rw [id_lo_b8]; exact id_shr_lo v (s := 8) (by decide)
  · rw [id_lo_b8, Nat.pow_zero, Nat.div_one]; rfl
theorem id_cb_lo (L : Nat) (xs : Nat → Int32) : ∀ i, i < 8 → id_lo (id_cb L xs i) = (id_c L xs (8 + i / 4)).toBitVec.toNat / 2 ^ (24 - 8 * (i % 4)) % 256 := by
  intro i hi
  have h8 := id_lo_sh (id_c L xs 8)
  have h9 := id_lo_sh (id_c L xs 9)
  rcases (show i = 0 ∨ i = 1 ∨ i = 2 ∨ i = 3 ∨ i = 4 ∨ i = 5 ∨ i = 6 ∨ i = 7 by omega) with rfl | rfl | rfl | rfl | rfl | rfl | rfl | rfl
  · exact h8.1
  · exact h8.2.1
  · exact h8.2.2.1
  · exact h8.2.2.2
  · exact h9.1
  · exact h9.2.1
  · exact h9.2.2.1
  · exact h9.2.2.2
theorem id_same {L : Nat} {xs : Nat → Int32} {u : Nat → Int32} (h : ∀ i, i < 8 → id_lo (u i) = id_lo (id_cb L xs i)) : ∀ i, i < 8 → (u i) &&& 255 = (id_u (id_c L xs (8 + i / 4)) (nI (24 - 8 * (i % 4)))) &&& 255 := by
  intro i hi
  rw [id_and255, id_and255, h i hi, id_u_lo _ (by omega), id_cb_lo L xs i hi]
theorem id_both {L : Nat} {xs : Nat → Int32} {b c : Int32} (hbc : (b = 1 ∧ c = 0) ∨ (b = 0 ∧ c = 1)) {kf g g2 u v w : Nat → Int32} (h1 : u = id_run b kf (id_cb L xs) g) (h2 : ∀ i, i < 8 → v i = id_b8 (u i)) (h3 : w = id_run c kf v g2) : ∀ i, i < 8 → (w i) &&& 255 = (id_u (id_c L xs (8 + i / 4)) (nI (24 - 8 * (i % 4)))) &&& 255 := by
  subst h1 h3
  exact id_same (id_law (fun i => id_b8 (kf i)) (id_cb L xs) v g g2 hbc h2)
/-! published answers -/
def id_shT (T : Nat → Nat) (k : Nat) : Int32 := if k % 8 < 6 then id_sh (nI (T (k - 7))) (nI (T (k - 6))) else if k % 8 = 6 then id_sh (nI (T (k - 7))) (nI (T (k - 14))) else id_sh (nI (T (k - 15))) (nI (T (k - 14)))
theorem id_ek_is {f : Nat → Int32} {T : Nat → Nat} (h0 : ∀ k, k < 8 → id_wd (f (k * 2)) (f (k * 2 + 1)) = nI (T k)) (h1 : ∀ k, k < 52 → 8 ≤ k → id_shT T k = nI (T k)) : ∀ n k, k < n → k < 52 → id_ek f k = nI (T k) := by
  intro n
  induction n with
  | zero => intro k hk; omega
  | succ n ih =>
    intro k hk hk2
    rcases Nat.lt_or_ge k 8 with h8 | h8
    · rw [id_ek_0 f h8, h0 k h8]
    · rw [← h1 k hk2 h8]
      unfold id_shT
      rcases (show k % 8 < 6 ∨ k % 8 = 6 ∨ k % 8 = 7 by omega) with h2 | h2 | h2
      · rw [id_ek_1 f h8 h2, ih (k - 7) (by omega) (by omega), ih (k - 6) (by omega) (by omega), if_pos h2]
      · rw [id_ek_2 f h8 h2, ih (k - 7) (by omega) (by omega), ih (k - 14) (by omega) (by omega), if_neg (by omega), if_pos h2]
      · rw [id_ek_3 f h8 h2, ih (k - 15) (by omega) (by omega), ih (k - 14) (by omega) (by omega), if_neg (by omega), if_neg (by omega)]
theorem id_bytes {f : Nat → Int32} {a b c d : Nat} (h : id_blk f = (a, b, c, d)) : ∀ i, i < 8 → (f i) &&& 255 = nI ([a / 256, a % 256, b / 256, b % 256, c / 256, c % 256, d / 256, d % 256].getD i 0) := by
  unfold id_blk at h
  obtain ⟨h0, h⟩ := Prod.mk.inj h
  obtain ⟨h1, h⟩ := Prod.mk.inj h
  obtain ⟨h2, h3⟩ := Prod.mk.inj h
  have hf := fun i => id_lo_lt (f i)
  intro i hi
  rw [id_and255]
  rcases (show i = 0 ∨ i = 1 ∨ i = 2 ∨ i = 3 ∨ i = 4 ∨ i = 5 ∨ i = 6 ∨ i = 7 by omega) with rfl | rfl | rfl | rfl | rfl | rfl | rfl | rfl
  · exact congrArg nI (show id_lo (f 0) = a / 256 by have := hf 1; omega)
  · exact congrArg nI (show id_lo (f 1) = a % 256 by have := hf 1; omega)
  · exact congrArg nI (show id_lo (f 2) = b / 256 by have := hf 3; omega)
  · exact congrArg nI (show id_lo (f 3) = b % 256 by have := hf 3; omega)
  · exact congrArg nI (show id_lo (f 4) = c / 256 by have := hf 5; omega)
  · exact congrArg nI (show id_lo (f 5) = c % 256 by have := hf 5; omega)
  · exact congrArg nI (show id_lo (f 6) = d / 256 by have := hf 7; omega)
  · exact congrArg nI (show id_lo (f 7) = d % 256 by have := hf 7; omega)
def id_rnd (K : Nat → Nat) (r : Nat) (x : id_Q) : id_Q := id_nS (id_nM (K (6 * r + 4)) (K (6 * r + 5)) (id_nT (K (6 * r)) (K (6 * r + 1)) (K (6 * r + 2)) (K (6 * r + 3)) x))
theorem id_nE_s {K : Nat → Nat} {x y z : id_Q} {r : Nat} (h : id_nE K x r = y) (e : id_rnd K r y = z) : id_nE K x (r + 1) = z := by
  rw [← e, ← h]
  rfl
def id_T0 (k : Nat) : Nat := [1, 2, 3, 4, 5, 6, 7, 8, 1024, 1536, 2048, 2560, 3072, 3584, 4096, 512, 16, 20, 24, 28, 32, 4, 8, 12, 10240, 12288, 14336, 16384, 2048, 4096, 6144, 8192, 112, 128, 16, 32, 48, 64, 80, 96, 0, 8192, 16384, 24576, 32768, 40960, 49152, 57345, 128, 192, 256, 320].getD k 0
def id_K0 : Nat → Int32 := id_k4 (id_k4 (fun _ => 0) (0 * 16) 65538 196612 327686 458760) (1 * 16) 0 0 0 0
def id_B0 : Nat → Int32 := id_w4 (id_w4 (fun _ => 0) 0 1) 4 131075
theorem id_T0_0 : ∀ k, k < 8 → id_wd (id_b8 (id_K0 (k * 2))) (id_b8 (id_K0 (k * 2 + 1))) = nI (id_T0 k) := by decide +kernel
theorem id_T0_1 : ∀ k, k < 52 → 8 ≤ k → id_shT id_T0 k = nI (id_T0 k) := by decide +kernel
theorem id_T0_2 : ∀ k, k < 52 → id_T0 k < 65536 := by decide +kernel
theorem id_B0_0 : id_blk id_B0 = (0, 1, 2, 3) := by decide +kernel
theorem id_r0_0 : id_rnd id_T0 0 (0, 1, 2, 3) = (240, 245, 266, 261) := by decide +kernel
theorem id_r0_1 : id_rnd id_T0 1 (240, 245, 266, 261) = (8751, 8629, 62558, 59737) := by decide +kernel
theorem id_r0_2 : id_rnd id_T0 2 (8751, 8629, 62558, 59737) = (3974, 14782, 36584, 4467) := by decide +kernel
theorem id_r0_3 : id_rnd id_T0 3 (3974, 14782, 36584, 4467) = (22495, 44120, 50779, 47693) := by decide +kernel
theorem id_r0_4 : id_rnd id_T0 4 (22495, 44120, 50779, 47693) = (36481, 47772, 63359, 14922) := by decide +kernel
theorem id_r0_5 : id_rnd id_T0 5 (36481, 47772, 63359, 14922) = (26946, 37897, 57883, 7268) := by decide +kernel
theorem id_r0_6 : id_rnd id_T0 6 (26946, 37897, 57883, 7268) = (39376, 51190, 21297, 25102) := by decide +kernel
theorem id_r0_7 : id_rnd id_T0 7 (39376, 51190, 21297, 25102) = (2596, 152, 60523, 18725) := by decide +kernel
theorem id_f0 : id_nT (id_T0 48) (id_T0 49) (id_T0 50) (id_T0 51) (id_nS (2596, 152, 60523, 18725)) = (4603, 60715, 408, 28133) := by decide +kernel
theorem id_C0 : id_nC id_T0 (0, 1, 2, 3) = (4603, 60715, 408, 28133) := by
  have h : id_nE id_T0 (0, 1, 2, 3) 8 = (2596, 152, 60523, 18725) := id_nE_s (id_nE_s (id_nE_s (id_nE_s (id_nE_s (id_nE_s (id_nE_s (id_nE_s (rfl) id_r0_0) id_r0_1) id_r0_2) id_r0_3) id_r0_4) id_r0_5) id_r0_6) id_r0_7
  unfold id_nC
  rw [h]
  exact id_f0
theorem id_known0 (g : Nat → Int32) : ∀ i, i < 8 → (id_run 1 id_K0 id_B0 g i) &&& 255 = nI ([17, 251, 237, 43, 1, 152, 109, 229].getD i 0) := by
  have hk : id_tab (id_gk 1 (fun i => id_b8 (id_K0 i))) id_T0 := fun k hk => ⟨id_T0_2 k hk, by
    show (if (1 : Int32) = 0 then _ else id_ek (fun i => id_b8 (id_K0 i)) k) = _
    rw [if_neg (by decide)]
    exact id_ek_is (f := fun i => id_b8 (id_K0 i)) id_T0_0 id_T0_1 (k + 1) k (Nat.lt_succ_self k) hk⟩
  have h := id_out_blk hk id_B0 g
  rw [id_B0_0, id_C0] at h
  exact id_bytes h
def id_T1 (k : Nat) : Nat := [32768, 0, 0, 0, 0, 0, 0, 0, 0, 0, 0, 0, 0, 0, 256, 0, 0, 0, 0, 0, 2, 0, 0, 0, 0, 0, 0, 1024, 0, 0, 0, 0, 0, 8, 0, 0, 0, 0, 0, 0, 4096, 0, 0, 0, 0, 0, 0, 0, 0, 0, 0, 0].getD k 0
def id_K1 : Nat → Int32 := id_k4 (id_k4 (fun _ => 0) (0 * 16) (-2147483648) 0 0 0) (1 * 16) 0 0 0 0
def id_B1 : Nat → Int32 := id_w4 (id_w4 (fun _ => 0) 0 0) 4 0
theorem id_T1_0 : ∀ k, k < 8 → id_wd (id_b8 (id_K1 (k * 2))) (id_b8 (id_K1 (k * 2 + 1))) = nI (id_T1 k) := by decide +kernel
theorem id_T1_1 : ∀ k, k < 52 → 8 ≤ k → id_shT id_T1 k = nI (id_T1 k) := by decide +kernel
theorem id_T1_2 : ∀ k, k < 52 → id_T1 k < 65536 := by decide +kernel
theorem id_B1_0 : id_blk id_B1 = (0, 0, 0, 0) := by decide +kernel
theorem id_r1_0 : id_rnd id_T1 0 (0, 0, 0, 0) = (1, 32768, 0, 1) := by decide +kernel
theorem id_r1_1 : id_rnd id_T1 1 (1, 32768, 0, 1) = (32768, 32768, 1, 32769) := by decide +kernel
theorem id_r1_2 : id_rnd id_T1 2 (32768, 32768, 1, 32769) = (257, 32769, 32769, 32769) := by decide +kernel
theorem id_r1_3 : id_rnd id_T1 3 (257, 32769, 32769, 32769) = (32770, 65281, 32769, 32768) := by decide +kernel
theorem id_r1_4 : id_rnd id_T1 4 (32770, 65281, 32769, 32768) = (33025, 32511, 0, 256) := by decide +kernel
theorem id_r1_5 : id_rnd id_T1 5 (33025, 32511, 0, 256) = (30465, 2049, 63485, 33026) := by decide +kernel
theorem id_r1_6 : id_rnd id_T1 6 (30465, 2049, 63485, 33026) = (18930, 14095, 33026, 63484) := by decide +kernel
theorem id_r1_7 : id_rnd id_T1 7 (18930, 14095, 33026, 63484) = (19980, 30977, 63480, 51442) := by decide +kernel
theorem id_f1 : id_nT (id_T1 48) (id_T1 49) (id_T1 50) (id_T1 51) (id_nS (19980, 30977, 63480, 51442)) = (45557, 63480, 30977, 14095) := by decide +kernel
theorem id_C1 : id_nC id_T1 (0, 0, 0, 0) = (45557, 63480, 30977, 14095) := by
  have h : id_nE id_T1 (0, 0, 0, 0) 8 = (19980, 30977, 63480, 51442) := id_nE_s (id_nE_s (id_nE_s (id_nE_s (id_nE_s (id_nE_s (id_nE_s (id_nE_s (rfl) id_r1_0) id_r1_1) id_r1_2) id_r1_3) id_r1_4) id_r1_5) id_r1_6) id_r1_7
  unfold id_nC
  rw [h]
  exact id_f1
theorem id_known1 (g : Nat → Int32) : ∀ i, i < 8 → (id_run 1 id_K1 id_B1 g i) &&& 255 = nI ([177, 245, 247, 248, 121, 1, 55, 15].getD i 0) := by
  have hk : id_tab (id_gk 1 (fun i => id_b8 (id_K1 i))) id_T1 := fun k hk => ⟨id_T1_2 k hk, by
    show (if (1 : Int32) = 0 then _ else id_ek (fun i => id_b8 (id_K1 i)) k) = _
    rw [if_neg (by decide)]
    exact id_ek_is (f := fun i => id_b8 (id_K1 i)) id_T1_0 id_T1_1 (k + 1) k (Nat.lt_succ_self k) hk⟩
  have h := id_out_blk hk id_B1 g
  rw [id_B1_0, id_C1] at h
  exact id_bytes h
end
section
/-! the law's own methods -/
set_option maxRecDepth 100000
theorem id_Xlt {b L : Nat} {xs : Nat → Int32} {U : State} {H : Heap} (h : va_X b L xs U H) : b < H.size := by
  obtain ⟨scr, h1, -⟩ := h
  exact (Array.getElem?_eq_some_iff.mp h1).1
theorem id_Anil {q sz : Nat} (h : q < sz) : ¬ va_A [] sz q := by
  rintro (⟨k, e, h1⟩ | h1)
  · simp at h1
  · omega
set_option maxHeartbeats 4000000 in
set_option maxRecDepth 100000 in
/-- cell(s, k) -/
theorem met_cell (l : Launch) (sc L : Nat) (xs : Nat → Int32) (k : Nat) (hk : k < 2 ^ 31) (hL : L < 2 ^ 31) : Met l yX0_cell (ws_ yX0_cell cX0_cell 2 (some .int)) ({ frames := 0, cells := 0, slots := 0, locals := 0 }) (va_Pc [.ref sc, .int (nI k)] (fun U => va_X sc L xs U U.heap)) (vp_Si (fun r => r = id_c L xs k)) 0 0 (fun _ => False) := by
  refine Met.ofW (cc := cX0_cell) (maxL := 2) (ret := (some .int)) (by decide) rfl ?_
  intro p e s m args below meth c s₁ B hml hv
  obtain ⟨rfl, hX⟩ := hv
  have hx := B.exec
  have hb := B.bytes
  have hr := B.returns
  have hts := atoms_spec (ws := (ws_ yX0_cell cX0_cell 2 (some .int))) B.pre
  have hts : ∀ w ∈ lw_all, w.before _ s = true := fun w h => hts w (List.mem_cons_of_mem _ h)
  have hown : s.vm.findClass RX0 = some m.cls := findClass_of_methodNamed B.named
  have hlocks := B.notSynchronized
  have hl := lv_entry ([.ref sc, .int (nI k)]) (n := 2) (Nat.le_of_ble_eq_true rfl)
  rw [lg_entry_eq]
  generalize (lg_sl ([.ref sc, .int (nI k)]) ++ List.replicate (2 - (lg_sl ([.ref sc, .int (nI k)])).length) Slot.unset).toArray = ls at hl ⊢
  have hl : lv_has ls 2 [(0, .ref sc), (1, .int (nI k))] := hl
  have hbl := id_Xlt hX
  have hbA : ¬ (fun _ : Nat => False) sc := fun h => h
  have hS : va_S (fun _ => False) s.heap s.heap [] := va_S.rf
  refine lv_iload_n hx hb dX0_cell_0 rfl (lv_at hl 1 rfl) ?_
  refine lv_aload_n hx hb dX0_cell_1 rfl (lv_at hl 0 rfl) ?_
  refine va_slen hx hb hX hbl hbA hS dX0_cell_2 ?_
  refine id_is (y := nI L) (rfl) ?_
  refine lv_icmp_ge (tgt := 12) hx hb dX0_cell_3 (by decide) (fun c3 => ?_) (fun c3 => ?_)
  · have hge : L ≤ k := (nI_leI hL hk).mp c3
    refine lv_iconst (v := 0) hx hb dX0_cell_12 (by decide +kernel) ?_
    exact W.iret (v := 0) hx hb hr (fun t ht hW => ⟨0, rfl, (by unfold id_c; rw [if_neg (by omega)]), ht⟩) (fun _ h => absurd h List.not_mem_nil) dX0_cell_13
  · have hlt : k < L := by rcases Nat.lt_or_ge k L with q | q; exact q; exact absurd (nI_le q hk) c3
    refine lv_aload_n hx hb dX0_cell_6 rfl (lv_at hl 0 rfl) ?_
    refine lv_iload_n hx hb dX0_cell_7 rfl (lv_at hl 1 rfl) ?_
    refine va_sld hx hb hX hbl hbA hS (vp_in_nI hlt hL) dX0_cell_8 ?_
    refine id_is (y := xs k) (by rw [nI_clamp hk]) ?_
    refine lv_goto (tgt := 13) hx hb dX0_cell_9 (by decide) ?_
    exact W.iret (v := xs k) hx hb hr (fun t ht hW => ⟨xs k, rfl, (by unfold id_c; rw [if_pos hlt]), ht⟩) (fun _ h => absurd h List.not_mem_nil) dX0_cell_13
set_option maxHeartbeats 4000000 in
set_option maxRecDepth 100000 in
/-- with(s): a desk of the script -/
theorem met_with (l : Launch) (dC : Nat → ClassId) (dI : Nat → Nat → Nat) (sc sz L : Nat) (xs : Nat → Int32) (hL : L < 2 ^ 31) : Met l yX0_with (ws_ yX0_with cX0_with 2 (some (.object "IdeaDesk"))) ({ frames := 2, cells := 4, slots := 51, locals := 50 }) (va_Pc [.ref sc] (fun U => U.heap.size = sz ∧ va_P (dC, dI) vwCl [] U.heap ∧ va_K (dC, dI) vwCl [] U ∧ va_D (fun _ => True) [] ∧ va_X sc L xs U U.heap)) (va_Qr (fun _ : Unit => True) (fun (_ : Unit) (ra : Nat) (t : State) => ∃ (qk1 qb1 qo1 : Nat) (ck1 cb1 co1 : ClassId), va_P (dC, dI) vwCl [(ra, .inr (0, [.ref qk1, .ref qb1, .ref qo1])), (qk1, .inl (ck1, 32, .inl (id_ck L xs))), (qb1, .inl (cb1, 8, .inl (id_cb L xs))), (qo1, .inl (co1, 8, .inl (fun _ => 0)))] t.heap ∧ va_K (dC, dI) vwCl [(ck1, .byte), (cb1, .byte), (co1, .byte)] t ∧ va_D (va_A [] sz) [(ra, .inr (0, [.ref qk1, .ref qb1, .ref qo1])), (qk1, .inl (ck1, 32, .inl (id_ck L xs))), (qb1, .inl (cb1, 8, .inl (id_cb L xs))), (qo1, .inl (co1, 8, .inl (fun _ => 0)))]) (va_A [] sz)) 4 51 (va_A [] sz) := by
  refine Met.ofW (cc := cX0_with) (maxL := 2) (ret := (some (.object "IdeaDesk"))) (by decide) rfl ?_
  intro p e s m args below meth c s₁ B hml hv
  obtain ⟨rfl, hsz, hP, hK, hD0, hX⟩ := hv
  have hx := B.exec
  have hb := B.bytes
  have hr := B.returns
  have hts := atoms_spec (ws := (ws_ yX0_with cX0_with 2 (some (.object "IdeaDesk")))) B.pre
  have hts : ∀ w ∈ lw_all, w.before _ s = true := fun w h => hts w (List.mem_cons_of_mem _ h)
  have hown : s.vm.findClass RX0 = some m.cls := findClass_of_methodNamed B.named
  have hlocks := B.notSynchronized
  subst hsz
  have hD := hD0.self (sz := s.heap.size)
  have hbl := id_Xlt hX
  have hbA : ¬ va_A [] s.heap.size sc := id_Anil hbl
  generalize hAe : va_A [] s.heap.size = A at hD hbA ⊢
  have hA : ∀ q : Nat, s.heap.size ≤ q → A q := fun q h => by rw [← hAe]; exact Or.inr h
  have hS : va_S A s.heap s.heap [] := va_S.rf
  have hP : va_P (dC, dI) vwCl [] s.heap := hP
  have hl := lv_entry ([.ref sc]) (n := 2) (Nat.le_of_ble_eq_true rfl)
  rw [lg_entry_eq]
  generalize (lg_sl ([.ref sc]) ++ List.replicate (2 - (lg_sl ([.ref sc])).length) Slot.unset).toArray = ls at hl ⊢
  have hl : lv_has ls 2 [(0, .ref sc)] := hl
  refine va_new (ci := 0) (fs := [.null, .null, .null]) (C := RX1) (T := TX1) (N := 3) hx hb hts in_X1 tyX1 tyX1_ok hown (hts _ q267) (hts _ q30) (hts _ q11) hK hP hD hS hA rfl (fun j hj => by rcases (show j = 0 ∨ j = 1 ∨ j = 2 by omega) with rfl | rfl | rfl <;> rfl) (Nat.le_of_ble_eq_true rfl) (Nat.le_of_ble_eq_true rfl) dX0_with_0 (fun qd H hP hD hS => ?_)
  have hP : va_P (dC, dI) vwCl [(qd, .inr (0, [.null, .null, .null]))] H := hP
  have hD : va_D A [(qd, .inr (0, [.null, .null, .null]))] := hD
  refine W.widen (k := 1) (n := 3) (Nat.le_of_ble_eq_true rfl) (Nat.le_of_ble_eq_true rfl) ?_
  refine lv_dup hx hb dX0_with_3 rfl ?_
  have hPc := hP.sub (ws' := [(qd, .inr (0, [.null, .null, .null]))]) [0] rfl
  have hDc := hD.sub (ws' := [(qd, .inr (0, [.null, .null, .null]))]) [0] (by decide) rfl
  have hKc := hK.sub (tys' := []) [] rfl
  have hFc := va_free (wc := [(qd, .inr (0, [.null, .null, .null]))]) hD hS hA [0] rfl
  refine va_callv (va_runI (As := []) (rest := [.ref qd]) ⟨hx, hb, hml, hown, hts⟩ (met_desk l dC dI qd H.size) (cwI 0 hts (lw_meth q270) rfl rfl rfl (hts _ q11) (hts _ q268) (hts _ q269) rfl (by decide +kernel) ⟨Nat.le_of_ble_eq_true rfl, Nat.le_of_ble_eq_true rfl⟩) ⟨fun a U g mk q => by obtain ⟨q0, q1, qP, qK, qD⟩ := q; exact ⟨q0, q1, qP, va_K.moved (u := U) (U := U.calling g mk a) (Vm.Alike.refl U.vm) qK, qD⟩, fun U hU hW => ⟨rfl, by rw [hU], by rw [hU]; exact hPc, va_K.moved hW.alike hKc, hDc.weaken (fun _ _ _ _ => trivial)⟩⟩ rfl rfl hl.1 rfl (lv_room (Nat.le_of_ble_eq_true rfl)) dX0_with_4 ⟨Nat.le_of_ble_eq_true rfl, Nat.le_of_ble_eq_true rfl⟩) hS (fun q _ h => hFc q h) hFc (fun u t H1 locs ht hvm hw hB hz1 hk1 hS => ?_)
  obtain ⟨qk1, qb1, qo1, ck1, cb1, co1, hP1, hK1, hD1⟩ := hB
  rw [ht] at hP1
  have hK1 := va_K.moved hvm.symm hK1
  obtain ⟨hP, hD⟩ := va_join (wr := []) (w1 := [(qd, .inr (0, [.ref qk1, .ref qb1, .ref qo1])), (qk1, .inl (ck1, 32, .inl (fun _ => 0))), (qb1, .inl (cb1, 8, .inl (fun _ => 0))), (qo1, .inl (co1, 8, .inl (fun _ => 0)))]) hP hD [0] [] rfl rfl (by decide) (by decide) hk1 hFc hP1 hD1
  have hK := (hK.sub (tys' := []) [] rfl).app hK1
  generalize H1 = H at hP hS ⊢
  have hP : va_P (dC, dI) vwCl [(qd, .inr (0, [.ref qk1, .ref qb1, .ref qo1])), (qk1, .inl (ck1, 32, .inl (fun _ => 0))), (qb1, .inl (cb1, 8, .inl (fun _ => 0))), (qo1, .inl (co1, 8, .inl (fun _ => 0)))] H := hP
  have hD : va_D A [(qd, .inr (0, [.ref qk1, .ref qb1, .ref qo1])), (qk1, .inl (ck1, 32, .inl (fun _ => 0))), (qb1, .inl (cb1, 8, .inl (fun _ => 0))), (qo1, .inl (co1, 8, .inl (fun _ => 0)))] := hD
  have hK : va_K (dC, dI) vwCl [(ck1, .byte), (cb1, .byte), (co1, .byte)] s := hK
  refine W.widen (k := 4) (n := 51) (Nat.le_of_ble_eq_true rfl) (Nat.le_of_ble_eq_true rfl) ?_
  refine lv_astore_n (lv' := [(1, .ref qd), (0, .ref sc)]) hx hb dX0_with_7 rfl hl (by decide) rfl (fun ls hl => ?_)
  refine lv_aload_n hx hb dX0_with_8 rfl (lv_at hl 0 rfl) ?_
  refine lv_iconst (v := nI 0) hx hb dX0_with_9 (by decide +kernel) ?_
  refine lv_aload_n hx hb dX0_with_10 rfl (lv_at hl 1 rfl) ?_
  refine lv_iconst (v := nI 0) hx hb dX0_with_11 (by decide +kernel) ?_
  refine vp_callSi (W.runS (As := [.ref sc, .int (nI 0)]) (rest := [.int (nI 0), .ref qd]) ⟨hx, hb, hml, hown, hts⟩ (met_cell l sc L xs (0) (by omega) hL) (va_cwS 2 hts (lw_S q282 q283 q10 q284) rfl rfl rfl (by decide +kernel) ⟨Nat.le_of_ble_eq_true rfl, Nat.le_of_ble_eq_true rfl⟩) ⟨fun a U g mk q => by obtain ⟨q0, qX⟩ := q; exact ⟨q0, va_X.moved (u := U) (U := U.calling g mk a) (Vm.Alike.refl U.vm) qX⟩, fun U hU hW => ⟨rfl, by show va_X sc L xs U U.heap; rw [hU]; exact va_X.moved hW.alike (hX.kept (hS.2.1 sc hbl hbA))⟩⟩ rfl rfl hl.1 rfl (lv_room (Nat.le_of_ble_eq_true rfl)) dX0_with_12 ⟨Nat.le_of_ble_eq_true rfl, Nat.le_of_ble_eq_true rfl⟩) (fun z ez => ?_)
  refine id_is (y := id_c L xs (0)) (ez) ?_
  refine lv_aload_n hx hb dX0_with_15 rfl (lv_at hl 1 rfl) ?_
  refine lv_iconst (v := nI 1) hx hb dX0_with_16 (by decide +kernel) ?_
  refine vp_callSi (W.runS (As := [.ref sc, .int (nI 1)]) (rest := [.int (id_c L xs (0)), .int (nI 0), .ref qd]) ⟨hx, hb, hml, hown, hts⟩ (met_cell l sc L xs (1) (by omega) hL) (va_cwS 2 hts (lw_S q282 q283 q10 q284) rfl rfl rfl (by decide +kernel) ⟨Nat.le_of_ble_eq_true rfl, Nat.le_of_ble_eq_true rfl⟩) ⟨fun a U g mk q => by obtain ⟨q0, qX⟩ := q; exact ⟨q0, va_X.moved (u := U) (U := U.calling g mk a) (Vm.Alike.refl U.vm) qX⟩, fun U hU hW => ⟨rfl, by show va_X sc L xs U U.heap; rw [hU]; exact va_X.moved hW.alike (hX.kept (hS.2.1 sc hbl hbA))⟩⟩ rfl rfl hl.1 rfl (lv_room (Nat.le_of_ble_eq_true rfl)) dX0_with_17 ⟨Nat.le_of_ble_eq_true rfl, Nat.le_of_ble_eq_true rfl⟩) (fun z ez => ?_)
  refine id_is (y := id_c L xs (1)) (ez) ?_
  refine lv_aload_n hx hb dX0_with_20 rfl (lv_at hl 1 rfl) ?_
  refine lv_iconst (v := nI 2) hx hb dX0_with_21 (by decide +kernel) ?_
  refine vp_callSi (W.runS (As := [.ref sc, .int (nI 2)]) (rest := [.int (id_c L xs (1)), .int (id_c L xs (0)), .int (nI 0), .ref qd]) ⟨hx, hb, hml, hown, hts⟩ (met_cell l sc L xs (2) (by omega) hL) (va_cwS 2 hts (lw_S q282 q283 q10 q284) rfl rfl rfl (by decide +kernel) ⟨Nat.le_of_ble_eq_true rfl, Nat.le_of_ble_eq_true rfl⟩) ⟨fun a U g mk q => by obtain ⟨q0, qX⟩ := q; exact ⟨q0, va_X.moved (u := U) (U := U.calling g mk a) (Vm.Alike.refl U.vm) qX⟩, fun U hU hW => ⟨rfl, by show va_X sc L xs U U.heap; rw [hU]; exact va_X.moved hW.alike (hX.kept (hS.2.1 sc hbl hbA))⟩⟩ rfl rfl hl.1 rfl (lv_room (Nat.le_of_ble_eq_true rfl)) dX0_with_22 ⟨Nat.le_of_ble_eq_true rfl, Nat.le_of_ble_eq_true rfl⟩) (fun z ez => ?_)
  refine id_is (y := id_c L xs (2)) (ez) ?_
  refine lv_aload_n hx hb dX0_with_25 rfl (lv_at hl 1 rfl) ?_
  refine lv_iconst (v := nI 3) hx hb dX0_with_26 (by decide +kernel) ?_
  refine vp_callSi (W.runS (As := [.ref sc, .int (nI 3)]) (rest := [.int (id_c L xs (2)), .int (id_c L xs (1)), .int (id_c L xs (0)), .int (nI 0), .ref qd]) ⟨hx, hb, hml, hown, hts⟩ (met_cell l sc L xs (3) (by omega) hL) (va_cwS 2 hts (lw_S q282 q283 q10 q284) rfl rfl rfl (by decide +kernel) ⟨Nat.le_of_ble_eq_true rfl, Nat.le_of_ble_eq_true rfl⟩) ⟨fun a U g mk q => by obtain ⟨q0, qX⟩ := q; exact ⟨q0, va_X.moved (u := U) (U := U.calling g mk a) (Vm.Alike.refl U.vm) qX⟩, fun U hU hW => ⟨rfl, by show va_X sc L xs U U.heap; rw [hU]; exact va_X.moved hW.alike (hX.kept (hS.2.1 sc hbl hbA))⟩⟩ rfl rfl hl.1 rfl (lv_room (Nat.le_of_ble_eq_true rfl)) dX0_with_27 ⟨Nat.le_of_ble_eq_true rfl, Nat.le_of_ble_eq_true rfl⟩) (fun z ez => ?_)
  refine id_is (y := id_c L xs (3)) (ez) ?_
  have hPc := hP.sub (ws' := [(qd, .inr (0, [.ref qk1, .ref qb1, .ref qo1])), (qk1, .inl (ck1, 32, .inl (fun _ => 0)))]) [0, 1] rfl
  have hDc := hD.sub (ws' := [(qd, .inr (0, [.ref qk1, .ref qb1, .ref qo1])), (qk1, .inl (ck1, 32, .inl (fun _ => 0)))]) [0, 1] (by decide) rfl
  have hKc := hK.sub (tys' := [(ck1, .byte)]) [0] rfl
  have hFc := va_free (wc := [(qd, .inr (0, [.ref qk1, .ref qb1, .ref qo1])), (qk1, .inl (ck1, 32, .inl (fun _ => 0)))]) hD hS hA [0, 1] rfl
  refine va_callv (va_runV (As := [.int (nI 0), .int (id_c L xs (0)), .int (id_c L xs (1)), .int (id_c L xs (2)), .int (id_c L xs (3))]) (rest := []) ⟨hx, hb, hml, hown, hts⟩ (met_key l dC dI qd qk1 qb1 qo1 H.size ck1 (fun _ => 0) 0 (by decide) (id_c L xs (0)) (id_c L xs (1)) (id_c L xs (2)) (id_c L xs (3))) (cwV 5 hts (lw_V q285 q286 q287 q11 q288) rfl rfl rfl (by decide +kernel) ⟨Nat.le_of_ble_eq_true rfl, Nat.le_of_ble_eq_true rfl⟩) ⟨fun a U g mk q => by obtain ⟨q0, q1, qP, qK, qD⟩ := q; exact ⟨q0, q1, qP, va_K.moved (u := U) (U := U.calling g mk a) (Vm.Alike.refl U.vm) qK, qD⟩, va_recv hKc hPc (ci := 0) (q0 := 0) rfl rfl, fun U hU hW => ⟨rfl, by rw [hU], by rw [hU]; exact hPc, va_K.moved hW.alike hKc, hDc.weaken (fun _ _ _ _ => trivial)⟩⟩ rfl rfl hl.1 rfl (lv_room (Nat.le_of_ble_eq_true rfl)) dX0_with_30 ⟨Nat.le_of_ble_eq_true rfl, Nat.le_of_ble_eq_true rfl⟩) hS (fun q _ h => hFc q h) hFc (fun u t H1 locs ht hvm hw hB hz1 hk1 hS => ?_)
  obtain ⟨f1, rfl⟩ : ∃ z, z = u := ⟨_, rfl⟩
  have hw_f1 := hw
  obtain ⟨hP1, hK1, hD1⟩ := hB
  rw [ht] at hP1
  have hK1 := va_K.moved hvm.symm hK1
  obtain ⟨hP, hD⟩ := va_join (wr := [(qb1, .inl (cb1, 8, .inl (fun _ => 0))), (qo1, .inl (co1, 8, .inl (fun _ => 0)))]) (w1 := [(qd, .inr (0, [.ref qk1, .ref qb1, .ref qo1])), (qk1, .inl (ck1, 32, .inl (f1)))]) hP hD [0, 1] [2, 3] rfl rfl (by decide) (by decide) hk1 hFc hP1 hD1
  generalize H1 = H at hP hS ⊢
  have hP : va_P (dC, dI) vwCl [(qb1, .inl (cb1, 8, .inl (fun _ => 0))), (qo1, .inl (co1, 8, .inl (fun _ => 0))), (qd, .inr (0, [.ref qk1, .ref qb1, .ref qo1])), (qk1, .inl (ck1, 32, .inl (f1)))] H := hP
  have hD : va_D A [(qb1, .inl (cb1, 8, .inl (fun _ => 0))), (qo1, .inl (co1, 8, .inl (fun _ => 0))), (qd, .inr (0, [.ref qk1, .ref qb1, .ref qo1])), (qk1, .inl (ck1, 32, .inl (f1)))] := hD
  refine W.widen (k := 4) (n := 51) (Nat.le_of_ble_eq_true rfl) (Nat.le_of_ble_eq_true rfl) ?_
  rw [hw_f1] at hP hD
  have hP : va_P (dC, dI) vwCl [(qb1, .inl (cb1, 8, .inl (fun _ => 0))), (qo1, .inl (co1, 8, .inl (fun _ => 0))), (qd, .inr (0, [.ref qk1, .ref qb1, .ref qo1])), (qk1, .inl (ck1, 32, .inl (id_k4 (fun _ => 0) (0 * 16) (id_c L xs (0)) (id_c L xs (1)) (id_c L xs (2)) (id_c L xs (3)))))] H := hP
  have hD : va_D A [(qb1, .inl (cb1, 8, .inl (fun _ => 0))), (qo1, .inl (co1, 8, .inl (fun _ => 0))), (qd, .inr (0, [.ref qk1, .ref qb1, .ref qo1])), (qk1, .inl (ck1, 32, .inl (id_k4 (fun _ => 0) (0 * 16) (id_c L xs (0)) (id_c L xs (1)) (id_c L xs (2)) (id_c L xs (3)))))] := hD
  refine lv_aload_n hx hb dX0_with_33 rfl (lv_at hl 0 rfl) ?_
  refine lv_iconst (v := nI 1) hx hb dX0_with_34 (by decide +kernel) ?_
  refine lv_aload_n hx hb dX0_with_35 rfl (lv_at hl 1 rfl) ?_
  refine lv_iconst (v := nI 4) hx hb dX0_with_36 (by decide +kernel) ?_
  refine vp_callSi (W.runS (As := [.ref sc, .int (nI 4)]) (rest := [.int (nI 1), .ref qd]) ⟨hx, hb, hml, hown, hts⟩ (met_cell l sc L xs (4) (by omega) hL) (va_cwS 2 hts (lw_S q282 q283 q10 q284) rfl rfl rfl (by decide +kernel) ⟨Nat.le_of_ble_eq_true rfl, Nat.le_of_ble_eq_true rfl⟩) ⟨fun a U g mk q => by obtain ⟨q0, qX⟩ := q; exact ⟨q0, va_X.moved (u := U) (U := U.calling g mk a) (Vm.Alike.refl U.vm) qX⟩, fun U hU hW => ⟨rfl, by show va_X sc L xs U U.heap; rw [hU]; exact va_X.moved hW.alike (hX.kept (hS.2.1 sc hbl hbA))⟩⟩ rfl rfl hl.1 rfl (lv_room (Nat.le_of_ble_eq_true rfl)) dX0_with_37 ⟨Nat.le_of_ble_eq_true rfl, Nat.le_of_ble_eq_true rfl⟩) (fun z ez => ?_)
  refine id_is (y := id_c L xs (4)) (ez) ?_
  refine lv_aload_n hx hb dX0_with_40 rfl (lv_at hl 1 rfl) ?_
  refine lv_iconst (v := nI 5) hx hb dX0_with_41 (by decide +kernel) ?_
  refine vp_callSi (W.runS (As := [.ref sc, .int (nI 5)]) (rest := [.int (id_c L xs (4)), .int (nI 1), .ref qd]) ⟨hx, hb, hml, hown, hts⟩ (met_cell l sc L xs (5) (by omega) hL) (va_cwS 2 hts (lw_S q282 q283 q10 q284) rfl rfl rfl (by decide +kernel) ⟨Nat.le_of_ble_eq_true rfl, Nat.le_of_ble_eq_true rfl⟩) ⟨fun a U g mk q => by obtain ⟨q0, qX⟩ := q; exact ⟨q0, va_X.moved (u := U) (U := U.calling g mk a) (Vm.Alike.refl U.vm) qX⟩, fun U hU hW => ⟨rfl, by show va_X sc L xs U U.heap; rw [hU]; exact va_X.moved hW.alike (hX.kept (hS.2.1 sc hbl hbA))⟩⟩ rfl rfl hl.1 rfl (lv_room (Nat.le_of_ble_eq_true rfl)) dX0_with_42 ⟨Nat.le_of_ble_eq_true rfl, Nat.le_of_ble_eq_true rfl⟩) (fun z ez => ?_)
  refine id_is (y := id_c L xs (5)) (ez) ?_
  refine lv_aload_n hx hb dX0_with_45 rfl (lv_at hl 1 rfl) ?_
  refine lv_bipush (v := nI 6) hx hb dX0_with_46 (by decide +kernel) ?_
  refine vp_callSi (W.runS (As := [.ref sc, .int (nI 6)]) (rest := [.int (id_c L xs (5)), .int (id_c L xs (4)), .int (nI 1), .ref qd]) ⟨hx, hb, hml, hown, hts⟩ (met_cell l sc L xs (6) (by omega) hL) (va_cwS 2 hts (lw_S q282 q283 q10 q284) rfl rfl rfl (by decide +kernel) ⟨Nat.le_of_ble_eq_true rfl, Nat.le_of_ble_eq_true rfl⟩) ⟨fun a U g mk q => by obtain ⟨q0, qX⟩ := q; exact ⟨q0, va_X.moved (u := U) (U := U.calling g mk a) (Vm.Alike.refl U.vm) qX⟩, fun U hU hW => ⟨rfl, by show va_X sc L xs U U.heap; rw [hU]; exact va_X.moved hW.alike (hX.kept (hS.2.1 sc hbl hbA))⟩⟩ rfl rfl hl.1 rfl (lv_room (Nat.le_of_ble_eq_true rfl)) dX0_with_48 ⟨Nat.le_of_ble_eq_true rfl, Nat.le_of_ble_eq_true rfl⟩) (fun z ez => ?_)
  refine id_is (y := id_c L xs (6)) (ez) ?_
  refine lv_aload_n hx hb dX0_with_51 rfl (lv_at hl 1 rfl) ?_
  refine lv_bipush (v := nI 7) hx hb dX0_with_52 (by decide +kernel) ?_
  refine vp_callSi (W.runS (As := [.ref sc, .int (nI 7)]) (rest := [.int (id_c L xs (6)), .int (id_c L xs (5)), .int (id_c L xs (4)), .int (nI 1), .ref qd]) ⟨hx, hb, hml, hown, hts⟩ (met_cell l sc L xs (7) (by omega) hL) (va_cwS 2 hts (lw_S q282 q283 q10 q284) rfl rfl rfl (by decide +kernel) ⟨Nat.le_of_ble_eq_true rfl, Nat.le_of_ble_eq_true rfl⟩) ⟨fun a U g mk q => by obtain ⟨q0, qX⟩ := q; exact ⟨q0, va_X.moved (u := U) (U := U.calling g mk a) (Vm.Alike.refl U.vm) qX⟩, fun U hU hW => ⟨rfl, by show va_X sc L xs U U.heap; rw [hU]; exact va_X.moved hW.alike (hX.kept (hS.2.1 sc hbl hbA))⟩⟩ rfl rfl hl.1 rfl (lv_room (Nat.le_of_ble_eq_true rfl)) dX0_with_54 ⟨Nat.le_of_ble_eq_true rfl, Nat.le_of_ble_eq_true rfl⟩) (fun z ez => ?_)
  refine id_is (y := id_c L xs (7)) (ez) ?_
  have hPc := hP.sub (ws' := [(qd, .inr (0, [.ref qk1, .ref qb1, .ref qo1])), (qk1, .inl (ck1, 32, .inl (id_k4 (fun _ => 0) (0 * 16) (id_c L xs (0)) (id_c L xs (1)) (id_c L xs (2)) (id_c L xs (3)))))]) [2, 3] rfl
  have hDc := hD.sub (ws' := [(qd, .inr (0, [.ref qk1, .ref qb1, .ref qo1])), (qk1, .inl (ck1, 32, .inl (id_k4 (fun _ => 0) (0 * 16) (id_c L xs (0)) (id_c L xs (1)) (id_c L xs (2)) (id_c L xs (3)))))]) [2, 3] (by decide) rfl
  have hKc := hK.sub (tys' := [(ck1, .byte)]) [0] rfl
  have hFc := va_free (wc := [(qd, .inr (0, [.ref qk1, .ref qb1, .ref qo1])), (qk1, .inl (ck1, 32, .inl (id_k4 (fun _ => 0) (0 * 16) (id_c L xs (0)) (id_c L xs (1)) (id_c L xs (2)) (id_c L xs (3)))))]) hD hS hA [2, 3] rfl
  refine va_callv (va_runV (As := [.int (nI 1), .int (id_c L xs (4)), .int (id_c L xs (5)), .int (id_c L xs (6)), .int (id_c L xs (7))]) (rest := []) ⟨hx, hb, hml, hown, hts⟩ (met_key l dC dI qd qk1 qb1 qo1 H.size ck1 (id_k4 (fun _ => 0) (0 * 16) (id_c L xs (0)) (id_c L xs (1)) (id_c L xs (2)) (id_c L xs (3))) 1 (by decide) (id_c L xs (4)) (id_c L xs (5)) (id_c L xs (6)) (id_c L xs (7))) (cwV 5 hts (lw_V q285 q286 q287 q11 q288) rfl rfl rfl (by decide +kernel) ⟨Nat.le_of_ble_eq_true rfl, Nat.le_of_ble_eq_true rfl⟩) ⟨fun a U g mk q => by obtain ⟨q0, q1, qP, qK, qD⟩ := q; exact ⟨q0, q1, qP, va_K.moved (u := U) (U := U.calling g mk a) (Vm.Alike.refl U.vm) qK, qD⟩, va_recv hKc hPc (ci := 0) (q0 := 0) rfl rfl, fun U hU hW => ⟨rfl, by rw [hU], by rw [hU]; exact hPc, va_K.moved hW.alike hKc, hDc.weaken (fun _ _ _ _ => trivial)⟩⟩ rfl rfl hl.1 rfl (lv_room (Nat.le_of_ble_eq_true rfl)) dX0_with_57 ⟨Nat.le_of_ble_eq_true rfl, Nat.le_of_ble_eq_true rfl⟩) hS (fun q _ h => hFc q h) hFc (fun u t H1 locs ht hvm hw hB hz1 hk1 hS => ?_)
  obtain ⟨f2, rfl⟩ : ∃ z, z = u := ⟨_, rfl⟩
  have hw_f2 := hw
  obtain ⟨hP1, hK1, hD1⟩ := hB
  rw [ht] at hP1
  have hK1 := va_K.moved hvm.symm hK1
  obtain ⟨hP, hD⟩ := va_join (wr := [(qb1, .inl (cb1, 8, .inl (fun _ => 0))), (qo1, .inl (co1, 8, .inl (fun _ => 0)))]) (w1 := [(qd, .inr (0, [.ref qk1, .ref qb1, .ref qo1])), (qk1, .inl (ck1, 32, .inl (f2)))]) hP hD [2, 3] [0, 1] rfl rfl (by decide) (by decide) hk1 hFc hP1 hD1
  generalize H1 = H at hP hS ⊢
  have hP : va_P (dC, dI) vwCl [(qb1, .inl (cb1, 8, .inl (fun _ => 0))), (qo1, .inl (co1, 8, .inl (fun _ => 0))), (qd, .inr (0, [.ref qk1, .ref qb1, .ref qo1])), (qk1, .inl (ck1, 32, .inl (f2)))] H := hP
  have hD : va_D A [(qb1, .inl (cb1, 8, .inl (fun _ => 0))), (qo1, .inl (co1, 8, .inl (fun _ => 0))), (qd, .inr (0, [.ref qk1, .ref qb1, .ref qo1])), (qk1, .inl (ck1, 32, .inl (f2)))] := hD
  refine W.widen (k := 4) (n := 51) (Nat.le_of_ble_eq_true rfl) (Nat.le_of_ble_eq_true rfl) ?_
  rw [hw_f2] at hP hD
  have hP : va_P (dC, dI) vwCl [(qb1, .inl (cb1, 8, .inl (fun _ => 0))), (qo1, .inl (co1, 8, .inl (fun _ => 0))), (qd, .inr (0, [.ref qk1, .ref qb1, .ref qo1])), (qk1, .inl (ck1, 32, .inl (id_k4 (id_k4 (fun _ => 0) (0 * 16) (id_c L xs (0)) (id_c L xs (1)) (id_c L xs (2)) (id_c L xs (3))) (1 * 16) (id_c L xs (4)) (id_c L xs (5)) (id_c L xs (6)) (id_c L xs (7)))))] H := hP
  have hD : va_D A [(qb1, .inl (cb1, 8, .inl (fun _ => 0))), (qo1, .inl (co1, 8, .inl (fun _ => 0))), (qd, .inr (0, [.ref qk1, .ref qb1, .ref qo1])), (qk1, .inl (ck1, 32, .inl (id_k4 (id_k4 (fun _ => 0) (0 * 16) (id_c L xs (0)) (id_c L xs (1)) (id_c L xs (2)) (id_c L xs (3))) (1 * 16) (id_c L xs (4)) (id_c L xs (5)) (id_c L xs (6)) (id_c L xs (7)))))] := hD
  refine lv_aload_n hx hb dX0_with_60 rfl (lv_at hl 0 rfl) ?_
  refine lv_aload_n hx hb dX0_with_61 rfl (lv_at hl 1 rfl) ?_
  refine lv_bipush (v := nI 8) hx hb dX0_with_62 (by decide +kernel) ?_
  refine vp_callSi (W.runS (As := [.ref sc, .int (nI 8)]) (rest := [.ref qd]) ⟨hx, hb, hml, hown, hts⟩ (met_cell l sc L xs (8) (by omega) hL) (va_cwS 2 hts (lw_S q282 q283 q10 q284) rfl rfl rfl (by decide +kernel) ⟨Nat.le_of_ble_eq_true rfl, Nat.le_of_ble_eq_true rfl⟩) ⟨fun a U g mk q => by obtain ⟨q0, qX⟩ := q; exact ⟨q0, va_X.moved (u := U) (U := U.calling g mk a) (Vm.Alike.refl U.vm) qX⟩, fun U hU hW => ⟨rfl, by show va_X sc L xs U U.heap; rw [hU]; exact va_X.moved hW.alike (hX.kept (hS.2.1 sc hbl hbA))⟩⟩ rfl rfl hl.1 rfl (lv_room (Nat.le_of_ble_eq_true rfl)) dX0_with_64 ⟨Nat.le_of_ble_eq_true rfl, Nat.le_of_ble_eq_true rfl⟩) (fun z ez => ?_)
  refine id_is (y := id_c L xs (8)) (ez) ?_
  refine lv_aload_n hx hb dX0_with_67 rfl (lv_at hl 1 rfl) ?_
  refine lv_bipush (v := nI 9) hx hb dX0_with_68 (by decide +kernel) ?_
  refine vp_callSi (W.runS (As := [.ref sc, .int (nI 9)]) (rest := [.int (id_c L xs (8)), .ref qd]) ⟨hx, hb, hml, hown, hts⟩ (met_cell l sc L xs (9) (by omega) hL) (va_cwS 2 hts (lw_S q282 q283 q10 q284) rfl rfl rfl (by decide +kernel) ⟨Nat.le_of_ble_eq_true rfl, Nat.le_of_ble_eq_true rfl⟩) ⟨fun a U g mk q => by obtain ⟨q0, qX⟩ := q; exact ⟨q0, va_X.moved (u := U) (U := U.calling g mk a) (Vm.Alike.refl U.vm) qX⟩, fun U hU hW => ⟨rfl, by show va_X sc L xs U U.heap; rw [hU]; exact va_X.moved hW.alike (hX.kept (hS.2.1 sc hbl hbA))⟩⟩ rfl rfl hl.1 rfl (lv_room (Nat.le_of_ble_eq_true rfl)) dX0_with_70 ⟨Nat.le_of_ble_eq_true rfl, Nat.le_of_ble_eq_true rfl⟩) (fun z ez => ?_)
  refine id_is (y := id_c L xs (9)) (ez) ?_
  have hPc := hP.sub (ws' := [(qd, .inr (0, [.ref qk1, .ref qb1, .ref qo1])), (qb1, .inl (cb1, 8, .inl (fun _ => 0)))]) [2, 0] rfl
  have hDc := hD.sub (ws' := [(qd, .inr (0, [.ref qk1, .ref qb1, .ref qo1])), (qb1, .inl (cb1, 8, .inl (fun _ => 0)))]) [2, 0] (by decide) rfl
  have hKc := hK.sub (tys' := [(cb1, .byte)]) [1] rfl
  have hFc := va_free (wc := [(qd, .inr (0, [.ref qk1, .ref qb1, .ref qo1])), (qb1, .inl (cb1, 8, .inl (fun _ => 0)))]) hD hS hA [2, 0] rfl
  refine va_callv (va_runV (As := [.int (id_c L xs (8)), .int (id_c L xs (9))]) (rest := []) ⟨hx, hb, hml, hown, hts⟩ (met_block l dC dI qd qk1 qb1 qo1 H.size cb1 (fun _ => 0) (id_c L xs (8)) (id_c L xs (9))) (cwV 2 hts (lw_V q292 q293 q294 q11 q295) rfl rfl rfl (by decide +kernel) ⟨Nat.le_of_ble_eq_true rfl, Nat.le_of_ble_eq_true rfl⟩) ⟨fun a U g mk q => by obtain ⟨q0, q1, qP, qK, qD⟩ := q; exact ⟨q0, q1, qP, va_K.moved (u := U) (U := U.calling g mk a) (Vm.Alike.refl U.vm) qK, qD⟩, va_recv hKc hPc (ci := 0) (q0 := 0) rfl rfl, fun U hU hW => ⟨rfl, by rw [hU], by rw [hU]; exact hPc, va_K.moved hW.alike hKc, hDc.weaken (fun _ _ _ _ => trivial)⟩⟩ rfl rfl hl.1 rfl (lv_room (Nat.le_of_ble_eq_true rfl)) dX0_with_73 ⟨Nat.le_of_ble_eq_true rfl, Nat.le_of_ble_eq_true rfl⟩) hS (fun q _ h => hFc q h) hFc (fun u t H1 locs ht hvm hw hB hz1 hk1 hS => ?_)
  obtain ⟨f3, rfl⟩ : ∃ z, z = u := ⟨_, rfl⟩
  have hw_f3 := hw
  obtain ⟨hP1, hK1, hD1⟩ := hB
  rw [ht] at hP1
  have hK1 := va_K.moved hvm.symm hK1
  obtain ⟨hP, hD⟩ := va_join (wr := [(qo1, .inl (co1, 8, .inl (fun _ => 0))), (qk1, .inl (ck1, 32, .inl (id_k4 (id_k4 (fun _ => 0) (0 * 16) (id_c L xs (0)) (id_c L xs (1)) (id_c L xs (2)) (id_c L xs (3))) (1 * 16) (id_c L xs (4)) (id_c L xs (5)) (id_c L xs (6)) (id_c L xs (7)))))]) (w1 := [(qd, .inr (0, [.ref qk1, .ref qb1, .ref qo1])), (qb1, .inl (cb1, 8, .inl (f3)))]) hP hD [2, 0] [1, 3] rfl rfl (by decide) (by decide) hk1 hFc hP1 hD1
  generalize H1 = H at hP hS ⊢
  have hP : va_P (dC, dI) vwCl [(qo1, .inl (co1, 8, .inl (fun _ => 0))), (qk1, .inl (ck1, 32, .inl (id_k4 (id_k4 (fun _ => 0) (0 * 16) (id_c L xs (0)) (id_c L xs (1)) (id_c L xs (2)) (id_c L xs (3))) (1 * 16) (id_c L xs (4)) (id_c L xs (5)) (id_c L xs (6)) (id_c L xs (7))))), (qd, .inr (0, [.ref qk1, .ref qb1, .ref qo1])), (qb1, .inl (cb1, 8, .inl (f3)))] H := hP
  have hD : va_D A [(qo1, .inl (co1, 8, .inl (fun _ => 0))), (qk1, .inl (ck1, 32, .inl (id_k4 (id_k4 (fun _ => 0) (0 * 16) (id_c L xs (0)) (id_c L xs (1)) (id_c L xs (2)) (id_c L xs (3))) (1 * 16) (id_c L xs (4)) (id_c L xs (5)) (id_c L xs (6)) (id_c L xs (7))))), (qd, .inr (0, [.ref qk1, .ref qb1, .ref qo1])), (qb1, .inl (cb1, 8, .inl (f3)))] := hD
  refine W.widen (k := 4) (n := 51) (Nat.le_of_ble_eq_true rfl) (Nat.le_of_ble_eq_true rfl) ?_
  rw [hw_f3] at hP hD
  have hP : va_P (dC, dI) vwCl [(qo1, .inl (co1, 8, .inl (fun _ => 0))), (qk1, .inl (ck1, 32, .inl (id_k4 (id_k4 (fun _ => 0) (0 * 16) (id_c L xs (0)) (id_c L xs (1)) (id_c L xs (2)) (id_c L xs (3))) (1 * 16) (id_c L xs (4)) (id_c L xs (5)) (id_c L xs (6)) (id_c L xs (7))))), (qd, .inr (0, [.ref qk1, .ref qb1, .ref qo1])), (qb1, .inl (cb1, 8, .inl (id_w4 (id_w4 (fun _ => 0) 0 (id_c L xs (8))) 4 (id_c L xs (9)))))] H := hP
  have hD : va_D A [(qo1, .inl (co1, 8, .inl (fun _ => 0))), (qk1, .inl (ck1, 32, .inl (id_k4 (id_k4 (fun _ => 0) (0 * 16) (id_c L xs (0)) (id_c L xs (1)) (id_c L xs (2)) (id_c L xs (3))) (1 * 16) (id_c L xs (4)) (id_c L xs (5)) (id_c L xs (6)) (id_c L xs (7))))), (qd, .inr (0, [.ref qk1, .ref qb1, .ref qo1])), (qb1, .inl (cb1, 8, .inl (id_w4 (id_w4 (fun _ => 0) 0 (id_c L xs (8))) 4 (id_c L xs (9)))))] := hD
  refine lv_aload_n hx hb dX0_with_76 rfl (lv_at hl 0 rfl) ?_
  have hP9 := hP.sub (ws' := [(qd, .inr (0, [.ref qk1, .ref qb1, .ref qo1])), (qk1, .inl (ck1, 32, .inl (id_ck L xs))), (qb1, .inl (cb1, 8, .inl (id_cb L xs))), (qo1, .inl (co1, 8, .inl (fun _ => 0)))]) [2, 1, 3, 0] rfl
  have hD9 := hD.sub (ws' := [(qd, .inr (0, [.ref qk1, .ref qb1, .ref qo1])), (qk1, .inl (ck1, 32, .inl (id_ck L xs))), (qb1, .inl (cb1, 8, .inl (id_cb L xs))), (qo1, .inl (co1, 8, .inl (fun _ => 0)))]) [2, 1, 3, 0] (by decide) rfl
  have hK9 := hK.sub (tys' := [(ck1, .byte), (cb1, .byte), (co1, .byte)]) [0, 1, 2] rfl
  exact W.aret (v := .ref qd) hx hb hr (Or.inl ⟨_, rfl⟩) (Or.inr ⟨_, rfl⟩) (fun t ht hW => ⟨⟨(), qd, rfl, trivial, qk1, qb1, qo1, ck1, cb1, co1, by rw [ht]; exact hP9, va_K.moved hW.alike hK9, hD9⟩, hS.F ht⟩) hS.2.2 dX0_with_77
set_option maxHeartbeats 4000000 in
set_option maxRecDepth 100000 in
/-- same(x, s), where the bytes agree -/
theorem met_same (l : Launch) (dC : Nat → ClassId) (dI : Nat → Nat → Nat) (qd qk1 qb1 qo1 sc L : Nat) (co1 : ClassId) (fo xs : Nat → Int32) (hL : L < 2 ^ 31) (hsame : ∀ i, i < 8 → (fo i) &&& 255 = (id_u (id_c L xs (8 + i / 4)) (nI (24 - 8 * (i % 4)))) &&& 255) : Met l yX0_same (ws_ yX0_same cX0_same 3 (some .boolean)) ({ frames := 1, cells := 0, slots := 0, locals := 24 }) (va_Pc [.ref qd, .ref sc] (fun U => va_P (dC, dI) vwCl [(qd, .inr (0, [.ref qk1, .ref qb1, .ref qo1])), (qo1, .inl (co1, 8, .inl (fo)))] U.heap ∧ va_K (dC, dI) vwCl [(co1, .byte)] U ∧ va_X sc L xs U U.heap)) (vp_Si (fun r => r = 1)) 0 0 (fun _ => False) := by
  refine Met.ofW (cc := cX0_same) (maxL := 3) (ret := (some .boolean)) (by decide) rfl ?_
  intro p e s m args below meth c s₁ B hml hv
  obtain ⟨rfl, hP, hK, hX⟩ := hv
  have hx := B.exec
  have hb := B.bytes
  have hr := B.returns
  have hts := atoms_spec (ws := (ws_ yX0_same cX0_same 3 (some .boolean))) B.pre
  have hts : ∀ w ∈ lw_all, w.before _ s = true := fun w h => hts w (List.mem_cons_of_mem _ h)
  have hown : s.vm.findClass RX0 = some m.cls := findClass_of_methodNamed B.named
  have hlocks := B.notSynchronized
  have hl := lv_entry ([.ref qd, .ref sc]) (n := 3) (Nat.le_of_ble_eq_true rfl)
  rw [lg_entry_eq]
  generalize (lg_sl ([.ref qd, .ref sc]) ++ List.replicate (3 - (lg_sl ([.ref qd, .ref sc])).length) Slot.unset).toArray = ls at hl ⊢
  have hl : lv_has ls 3 [(0, .ref qd), (1, .ref sc)] := hl
  refine lv_iconst (v := nI 0) hx hb dX0_same_0 (by decide +kernel) ?_
  refine lv_istore_n (lv' := [(2, .int (nI 0)), (0, .ref qd), (1, .ref sc)]) hx hb dX0_same_1 rfl hl (by decide) rfl (fun ls hl => ?_)
  have key : ∀ (n i : Nat), i ≤ 8 → 9 ≤ i + n → ∀ ls : Array Slot, lv_has ls 3 [(2, .int (nI i)), (1, .ref sc), (0, .ref qd)] → W p l e (headSpec (ws_ yX0_same cX0_same 3 (some .boolean)) { frames := 1, cells := 0, slots := 0, locals := 24 }).room s m ([.ref qd, .ref sc] : List Value).toArray below meth c s.heap [] 0 0 (MQ below (vp_Si (fun r => r = 1)) ([.ref qd, .ref sc] : List Value).toArray s 0 0 (fun _ => False)) (F0 m 2 ls []) := by
    intro n
    induction n with
    | zero => intro i h1 h2; exact absurd h2 (by omega)
    | succ n ih =>
      intro i hi hin ls hl
      refine lv_iload_n hx hb dX0_same_2 rfl (lv_at hl 0 rfl) ?_
      refine lv_bipush (v := nI 8) hx hb dX0_same_3 (by decide +kernel) ?_
      refine lv_icmp_ge (tgt := 48) hx hb dX0_same_5 (by decide) (fun c5 => ?_) (fun c5 => ?_)
      · refine lv_iconst (v := 1) hx hb dX0_same_48 (by decide +kernel) ?_
        exact W.zret (v := 1) hx hb hr rfl (fun t ht hW => ⟨1, rfl, rfl, ht⟩) (fun _ h => absurd h List.not_mem_nil) dX0_same_49
      · have hlt : i + 1 ≤ 8 := by rcases Nat.lt_or_ge i 8 with q | q; exact q; exact absurd (nI_le q (by omega)) c5
        refine lv_aload_n hx hb dX0_same_8 rfl (lv_at hl 2 rfl) ?_
        refine lv_iload_n hx hb dX0_same_9 rfl (lv_at hl 0 rfl) ?_
        refine vp_callSi (W.runV (As := [.int (nI i)]) (rest := []) ⟨hx, hb, hml, hown, hts⟩ (met_out l dC dI qd qk1 qb1 qo1 co1 (fo) (i) (by omega)) (cwV 1 hts (lw_V q299 q300 q301 q11 q302) rfl rfl rfl (by decide +kernel) ⟨Nat.le_of_ble_eq_true rfl, Nat.le_of_ble_eq_true rfl⟩) ⟨fun a U g mk q => by obtain ⟨q0, qP, qK⟩ := q; exact ⟨q0, qP, va_K.moved (u := U) (U := U.calling g mk a) (Vm.Alike.refl U.vm) qK⟩, va_recv hK hP (ci := 0) (q0 := 0) rfl rfl, fun U hU hW => ⟨rfl, by rw [hU]; exact hP.sub (ws' := [(qd, .inr (0, [.ref qk1, .ref qb1, .ref qo1])), (qo1, .inl (co1, 8, .inl (fo)))]) [0, 1] rfl, va_K.moved hW.alike (hK.sub (tys' := [(co1, .byte)]) [0] rfl)⟩⟩ rfl rfl hl.1 rfl (lv_room (Nat.le_of_ble_eq_true rfl)) dX0_same_10 ⟨Nat.le_of_ble_eq_true rfl, Nat.le_of_ble_eq_true rfl⟩) (fun z ez => ?_)
        refine id_is (y := ((fo) (i)) &&& 255) (ez) ?_
        refine lv_aload_n hx hb dX0_same_13 rfl (lv_at hl 1 rfl) ?_
        refine lv_bipush (v := nI 8) hx hb dX0_same_14 (by decide +kernel) ?_
        refine lv_iload_n hx hb dX0_same_16 rfl (lv_at hl 0 rfl) ?_
        refine lv_iconst (v := nI 4) hx hb dX0_same_17 (by decide +kernel) ?_
        refine lv_idiv hx hb dX0_same_18 (nI_ne0 (by decide) (by decide)) ?_
        refine id_is (y := nI (i / 4)) (pk_div (by omega) (by decide) (by decide)) ?_
        refine lv_iadd hx hb dX0_same_19 ?_
        refine id_is (y := nI (8 + i / 4)) (id_addn (by omega)) ?_
        refine vp_callSi (W.runS (As := [.ref sc, .int (nI (8 + i / 4))]) (rest := [.int (((fo) (i)) &&& 255)]) ⟨hx, hb, hml, hown, hts⟩ (met_cell l sc L xs (8 + i / 4) (by omega) hL) (va_cwS 2 hts (lw_S q282 q283 q10 q284) rfl rfl rfl (by decide +kernel) ⟨Nat.le_of_ble_eq_true rfl, Nat.le_of_ble_eq_true rfl⟩) ⟨fun a U g mk q => by obtain ⟨q0, qX⟩ := q; exact ⟨q0, va_X.moved (u := U) (U := U.calling g mk a) (Vm.Alike.refl U.vm) qX⟩, fun U hU hW => ⟨rfl, by show va_X sc L xs U U.heap; rw [hU]; exact va_X.moved hW.alike (hX)⟩⟩ rfl rfl hl.1 rfl (lv_room (Nat.le_of_ble_eq_true rfl)) dX0_same_20 ⟨Nat.le_of_ble_eq_true rfl, Nat.le_of_ble_eq_true rfl⟩) (fun z ez => ?_)
        refine id_is (y := id_c L xs (8 + i / 4)) (ez) ?_
        refine lv_bipush (v := nI 24) hx hb dX0_same_23 (by decide +kernel) ?_
        refine lv_bipush (v := nI 8) hx hb dX0_same_25 (by decide +kernel) ?_
        refine lv_iload_n hx hb dX0_same_27 rfl (lv_at hl 0 rfl) ?_
        refine lv_iconst (v := nI 4) hx hb dX0_same_28 (by decide +kernel) ?_
        refine lv_irem hx hb dX0_same_29 (nI_ne0 (by decide) (by decide)) ?_
        refine id_is (y := nI (i % 4)) (pk_rem (by omega) (by decide) (by decide)) ?_
        refine lv_imul hx hb dX0_same_30 ?_
        refine id_is (y := nI (8 * (i % 4))) (id_muln rfl) ?_
        refine lv_isub hx hb dX0_same_31 ?_
        refine id_is (y := nI (24 - 8 * (i % 4))) (pk_sub (by omega)) ?_
        refine lv_iushr (v := id_u (id_c L xs (8 + i / 4)) (nI (24 - 8 * (i % 4)))) hx hb dX0_same_32 rfl ?_
        refine lv_sipush (v := 255) hx hb dX0_same_33 (by decide +kernel) ?_
        refine lv_iand hx hb dX0_same_36 ?_
        refine lv_icmp_eq (tgt := 42) hx hb dX0_same_37 (by decide) (fun c37 => ?_) (fun c37 => ?_)
        · refine lv_iinc (v := nI (i + 1)) (lv' := [(2, .int (nI (i + 1))), (1, .ref sc), (0, .ref qd)]) hx hb dX0_same_42 hl (k := 0) rfl (id_inc (by omega)) (by decide) rfl (fun ls hl => ?_)
          refine lv_goto (tgt := 2) hx hb dX0_same_45 (by decide) ?_
          exact ih (i + 1) hlt (by omega) ls (lv_sub hl [0, 1, 2] rfl)
        · exact absurd (hsame i (by omega)) c37
  exact key 9 0 (by decide) (by decide) ls (lv_sub hl [0, 2, 1] rfl)
end
section
/-! the published answers -/
set_option maxRecDepth 100000
set_option maxHeartbeats 4000000 in
set_option maxRecDepth 100000 in
/-- known() -/
theorem met_known (l : Launch) (dC : Nat → ClassId) (dI : Nat → Nat → Nat) (sz : Nat) : Met l yX0_known (ws_ yX0_known cX0_known 5 (some .boolean)) ({ frames := 6, cells := 22, slots := 396, locals := 146 }) (va_Pc [] (fun U => U.heap.size = sz ∧ va_P (dC, dI) vwCl [] U.heap ∧ va_K (dC, dI) vwCl [] U ∧ va_D (fun _ => True) [] ∧ id_env U)) (va_Qi (fun (r : Int32) (_ : Unit) => r = 1) (fun (_ : Unit) (t : State) => va_P (dC, dI) vwCl [] t.heap ∧ va_K (dC, dI) vwCl [] t ∧ va_D (va_A [] sz) []) (va_A [] sz)) 22 396 (va_A [] sz) := by
  refine Met.ofW (cc := cX0_known) (maxL := 5) (ret := (some .boolean)) (by decide) rfl ?_
  intro p e s m args below meth c s₁ B hml hv
  obtain ⟨rfl, hsz, hP, hK, hD0, hE⟩ := hv
  have hx := B.exec
  have hb := B.bytes
  have hr := B.returns
  have hts := atoms_spec (ws := (ws_ yX0_known cX0_known 5 (some .boolean))) B.pre
  have hts : ∀ w ∈ lw_all, w.before _ s = true := fun w h => hts w (List.mem_cons_of_mem _ h)
  have hown : s.vm.findClass RX0 = some m.cls := findClass_of_methodNamed B.named
  have hlocks := B.notSynchronized
  subst hsz
  have hD := hD0.self (sz := s.heap.size)
  generalize hAe : va_A [] s.heap.size = A at hD ⊢
  have hA : ∀ q : Nat, s.heap.size ≤ q → A q := fun q h => by rw [← hAe]; exact Or.inr h
  have hS : va_S A s.heap s.heap [] := va_S.rf
  have hP : va_P (dC, dI) vwCl [] s.heap := hP
  have hl := lv_entry ([]) (n := 5) (Nat.le_of_ble_eq_true rfl)
  rw [lg_entry_eq]
  generalize (lg_sl ([]) ++ List.replicate (5 - (lg_sl ([])).length) Slot.unset).toArray = ls at hl ⊢
  have hl : lv_has ls 5 [] := hl
  refine va_new (ci := 0) (fs := [.null, .null, .null]) (C := RX1) (T := TX1) (N := 3) hx hb hts in_X1 tyX1 tyX1_ok hown (hts _ q267) (hts _ q30) (hts _ q11) hK hP hD hS hA rfl (fun j hj => by rcases (show j = 0 ∨ j = 1 ∨ j = 2 by omega) with rfl | rfl | rfl <;> rfl) (Nat.le_of_ble_eq_true rfl) (Nat.le_of_ble_eq_true rfl) dX0_known_0 (fun qd1 H hP hD hS => ?_)
  have hP : va_P (dC, dI) vwCl [(qd1, .inr (0, [.null, .null, .null]))] H := hP
  have hD : va_D A [(qd1, .inr (0, [.null, .null, .null]))] := hD
  refine W.widen (k := 1) (n := 3) (Nat.le_of_ble_eq_true rfl) (Nat.le_of_ble_eq_true rfl) ?_
  refine lv_dup hx hb dX0_known_3 rfl ?_
  have hPc := hP.sub (ws' := [(qd1, .inr (0, [.null, .null, .null]))]) [0] rfl
  have hDc := hD.sub (ws' := [(qd1, .inr (0, [.null, .null, .null]))]) [0] (by decide) rfl
  have hKc := hK.sub (tys' := []) [] rfl
  have hFc := va_free (wc := [(qd1, .inr (0, [.null, .null, .null]))]) hD hS hA [0] rfl
  refine va_callv (va_runI (As := []) (rest := [.ref qd1]) ⟨hx, hb, hml, hown, hts⟩ (met_desk l dC dI qd1 H.size) (cwI 0 hts (lw_meth q270) rfl rfl rfl (hts _ q11) (hts _ q268) (hts _ q269) rfl (by decide +kernel) ⟨Nat.le_of_ble_eq_true rfl, Nat.le_of_ble_eq_true rfl⟩) ⟨fun a U g mk q => by obtain ⟨q0, q1, qP, qK, qD⟩ := q; exact ⟨q0, q1, qP, va_K.moved (u := U) (U := U.calling g mk a) (Vm.Alike.refl U.vm) qK, qD⟩, fun U hU hW => ⟨rfl, by rw [hU], by rw [hU]; exact hPc, va_K.moved hW.alike hKc, hDc.weaken (fun _ _ _ _ => trivial)⟩⟩ rfl rfl hl.1 rfl (lv_room (Nat.le_of_ble_eq_true rfl)) dX0_known_4 ⟨Nat.le_of_ble_eq_true rfl, Nat.le_of_ble_eq_true rfl⟩) hS (fun q _ h => hFc q h) hFc (fun u t H1 locs ht hvm hw hB hz1 hk1 hS => ?_)
  obtain ⟨qk1, qb1, qo1, ck1, cb1, co1, hP1, hK1, hD1⟩ := hB
  rw [ht] at hP1
  have hK1 := va_K.moved hvm.symm hK1
  obtain ⟨hP, hD⟩ := va_join (wr := []) (w1 := [(qd1, .inr (0, [.ref qk1, .ref qb1, .ref qo1])), (qk1, .inl (ck1, 32, .inl (fun _ => 0))), (qb1, .inl (cb1, 8, .inl (fun _ => 0))), (qo1, .inl (co1, 8, .inl (fun _ => 0)))]) hP hD [0] [] rfl rfl (by decide) (by decide) hk1 hFc hP1 hD1
  have hK := (hK.sub (tys' := []) [] rfl).app hK1
  generalize H1 = H at hP hS ⊢
  have hP : va_P (dC, dI) vwCl [(qd1, .inr (0, [.ref qk1, .ref qb1, .ref qo1])), (qk1, .inl (ck1, 32, .inl (fun _ => 0))), (qb1, .inl (cb1, 8, .inl (fun _ => 0))), (qo1, .inl (co1, 8, .inl (fun _ => 0)))] H := hP
  have hD : va_D A [(qd1, .inr (0, [.ref qk1, .ref qb1, .ref qo1])), (qk1, .inl (ck1, 32, .inl (fun _ => 0))), (qb1, .inl (cb1, 8, .inl (fun _ => 0))), (qo1, .inl (co1, 8, .inl (fun _ => 0)))] := hD
  have hK : va_K (dC, dI) vwCl [(ck1, .byte), (cb1, .byte), (co1, .byte)] s := hK
  refine W.widen (k := 4) (n := 51) (Nat.le_of_ble_eq_true rfl) (Nat.le_of_ble_eq_true rfl) ?_
  refine lv_astore_n (lv' := [(0, .ref qd1)]) hx hb dX0_known_7 rfl hl (by decide) rfl (fun ls hl => ?_)
  refine lv_aload_n hx hb dX0_known_8 rfl (lv_at hl 0 rfl) ?_
  refine lv_iconst (v := nI 0) hx hb dX0_known_9 (by decide +kernel) ?_
  refine lv_ldc (v := 65538) hx hb hown (hts _ q306) dX0_known_10 ?_
  refine lv_ldc (v := 196612) hx hb hown (hts _ q307) dX0_known_12 ?_
  refine lv_ldc (v := 327686) hx hb hown (hts _ q308) dX0_known_14 ?_
  refine lv_ldc (v := 458760) hx hb hown (hts _ q309) dX0_known_16 ?_
  have hPc := hP.sub (ws' := [(qd1, .inr (0, [.ref qk1, .ref qb1, .ref qo1])), (qk1, .inl (ck1, 32, .inl (fun _ => 0)))]) [0, 1] rfl
  have hDc := hD.sub (ws' := [(qd1, .inr (0, [.ref qk1, .ref qb1, .ref qo1])), (qk1, .inl (ck1, 32, .inl (fun _ => 0)))]) [0, 1] (by decide) rfl
  have hKc := hK.sub (tys' := [(ck1, .byte)]) [0] rfl
  have hFc := va_free (wc := [(qd1, .inr (0, [.ref qk1, .ref qb1, .ref qo1])), (qk1, .inl (ck1, 32, .inl (fun _ => 0)))]) hD hS hA [0, 1] rfl
  refine va_callv (va_runV (As := [.int (nI 0), .int 65538, .int 196612, .int 327686, .int 458760]) (rest := []) ⟨hx, hb, hml, hown, hts⟩ (met_key l dC dI qd1 qk1 qb1 qo1 H.size ck1 (fun _ => 0) 0 (by decide) (65538) (196612) (327686) (458760)) (cwV 5 hts (lw_V q285 q286 q287 q11 q288) rfl rfl rfl (by decide +kernel) ⟨Nat.le_of_ble_eq_true rfl, Nat.le_of_ble_eq_true rfl⟩) ⟨fun a U g mk q => by obtain ⟨q0, q1, qP, qK, qD⟩ := q; exact ⟨q0, q1, qP, va_K.moved (u := U) (U := U.calling g mk a) (Vm.Alike.refl U.vm) qK, qD⟩, va_recv hKc hPc (ci := 0) (q0 := 0) rfl rfl, fun U hU hW => ⟨rfl, by rw [hU], by rw [hU]; exact hPc, va_K.moved hW.alike hKc, hDc.weaken (fun _ _ _ _ => trivial)⟩⟩ rfl rfl hl.1 rfl (lv_room (Nat.le_of_ble_eq_true rfl)) dX0_known_18 ⟨Nat.le_of_ble_eq_true rfl, Nat.le_of_ble_eq_true rfl⟩) hS (fun q _ h => hFc q h) hFc (fun u t H1 locs ht hvm hw hB hz1 hk1 hS => ?_)
  obtain ⟨f1, rfl⟩ : ∃ z, z = u := ⟨_, rfl⟩
  have hw_f1 := hw
  obtain ⟨hP1, hK1, hD1⟩ := hB
  rw [ht] at hP1
  have hK1 := va_K.moved hvm.symm hK1
  obtain ⟨hP, hD⟩ := va_join (wr := [(qb1, .inl (cb1, 8, .inl (fun _ => 0))), (qo1, .inl (co1, 8, .inl (fun _ => 0)))]) (w1 := [(qd1, .inr (0, [.ref qk1, .ref qb1, .ref qo1])), (qk1, .inl (ck1, 32, .inl (f1)))]) hP hD [0, 1] [2, 3] rfl rfl (by decide) (by decide) hk1 hFc hP1 hD1
  generalize H1 = H at hP hS ⊢
  have hP : va_P (dC, dI) vwCl [(qb1, .inl (cb1, 8, .inl (fun _ => 0))), (qo1, .inl (co1, 8, .inl (fun _ => 0))), (qd1, .inr (0, [.ref qk1, .ref qb1, .ref qo1])), (qk1, .inl (ck1, 32, .inl (f1)))] H := hP
  have hD : va_D A [(qb1, .inl (cb1, 8, .inl (fun _ => 0))), (qo1, .inl (co1, 8, .inl (fun _ => 0))), (qd1, .inr (0, [.ref qk1, .ref qb1, .ref qo1])), (qk1, .inl (ck1, 32, .inl (f1)))] := hD
  refine W.widen (k := 4) (n := 51) (Nat.le_of_ble_eq_true rfl) (Nat.le_of_ble_eq_true rfl) ?_
  rw [hw_f1] at hP hD
  have hP : va_P (dC, dI) vwCl [(qb1, .inl (cb1, 8, .inl (fun _ => 0))), (qo1, .inl (co1, 8, .inl (fun _ => 0))), (qd1, .inr (0, [.ref qk1, .ref qb1, .ref qo1])), (qk1, .inl (ck1, 32, .inl (id_k4 (fun _ => 0) (0 * 16) (65538) (196612) (327686) (458760))))] H := hP
  have hD : va_D A [(qb1, .inl (cb1, 8, .inl (fun _ => 0))), (qo1, .inl (co1, 8, .inl (fun _ => 0))), (qd1, .inr (0, [.ref qk1, .ref qb1, .ref qo1])), (qk1, .inl (ck1, 32, .inl (id_k4 (fun _ => 0) (0 * 16) (65538) (196612) (327686) (458760))))] := hD
  refine lv_aload_n hx hb dX0_known_21 rfl (lv_at hl 0 rfl) ?_
  refine lv_iconst (v := nI 1) hx hb dX0_known_22 (by decide +kernel) ?_
  refine lv_iconst (v := 0) hx hb dX0_known_23 (by decide +kernel) ?_
  refine lv_iconst (v := 0) hx hb dX0_known_24 (by decide +kernel) ?_
  refine lv_iconst (v := 0) hx hb dX0_known_25 (by decide +kernel) ?_
  refine lv_iconst (v := 0) hx hb dX0_known_26 (by decide +kernel) ?_
  have hPc := hP.sub (ws' := [(qd1, .inr (0, [.ref qk1, .ref qb1, .ref qo1])), (qk1, .inl (ck1, 32, .inl (id_k4 (fun _ => 0) (0 * 16) (65538) (196612) (327686) (458760))))]) [2, 3] rfl
  have hDc := hD.sub (ws' := [(qd1, .inr (0, [.ref qk1, .ref qb1, .ref qo1])), (qk1, .inl (ck1, 32, .inl (id_k4 (fun _ => 0) (0 * 16) (65538) (196612) (327686) (458760))))]) [2, 3] (by decide) rfl
  have hKc := hK.sub (tys' := [(ck1, .byte)]) [0] rfl
  have hFc := va_free (wc := [(qd1, .inr (0, [.ref qk1, .ref qb1, .ref qo1])), (qk1, .inl (ck1, 32, .inl (id_k4 (fun _ => 0) (0 * 16) (65538) (196612) (327686) (458760))))]) hD hS hA [2, 3] rfl
  refine va_callv (va_runV (As := [.int (nI 1), .int (0), .int (0), .int (0), .int (0)]) (rest := []) ⟨hx, hb, hml, hown, hts⟩ (met_key l dC dI qd1 qk1 qb1 qo1 H.size ck1 (id_k4 (fun _ => 0) (0 * 16) (65538) (196612) (327686) (458760)) 1 (by decide) (0) (0) (0) (0)) (cwV 5 hts (lw_V q285 q286 q287 q11 q288) rfl rfl rfl (by decide +kernel) ⟨Nat.le_of_ble_eq_true rfl, Nat.le_of_ble_eq_true rfl⟩) ⟨fun a U g mk q => by obtain ⟨q0, q1, qP, qK, qD⟩ := q; exact ⟨q0, q1, qP, va_K.moved (u := U) (U := U.calling g mk a) (Vm.Alike.refl U.vm) qK, qD⟩, va_recv hKc hPc (ci := 0) (q0 := 0) rfl rfl, fun U hU hW => ⟨rfl, by rw [hU], by rw [hU]; exact hPc, va_K.moved hW.alike hKc, hDc.weaken (fun _ _ _ _ => trivial)⟩⟩ rfl rfl hl.1 rfl (lv_room (Nat.le_of_ble_eq_true rfl)) dX0_known_27 ⟨Nat.le_of_ble_eq_true rfl, Nat.le_of_ble_eq_true rfl⟩) hS (fun q _ h => hFc q h) hFc (fun u t H1 locs ht hvm hw hB hz1 hk1 hS => ?_)
  obtain ⟨f2, rfl⟩ : ∃ z, z = u := ⟨_, rfl⟩
  have hw_f2 := hw
  obtain ⟨hP1, hK1, hD1⟩ := hB
  rw [ht] at hP1
  have hK1 := va_K.moved hvm.symm hK1
  obtain ⟨hP, hD⟩ := va_join (wr := [(qb1, .inl (cb1, 8, .inl (fun _ => 0))), (qo1, .inl (co1, 8, .inl (fun _ => 0)))]) (w1 := [(qd1, .inr (0, [.ref qk1, .ref qb1, .ref qo1])), (qk1, .inl (ck1, 32, .inl (f2)))]) hP hD [2, 3] [0, 1] rfl rfl (by decide) (by decide) hk1 hFc hP1 hD1
  generalize H1 = H at hP hS ⊢
  have hP : va_P (dC, dI) vwCl [(qb1, .inl (cb1, 8, .inl (fun _ => 0))), (qo1, .inl (co1, 8, .inl (fun _ => 0))), (qd1, .inr (0, [.ref qk1, .ref qb1, .ref qo1])), (qk1, .inl (ck1, 32, .inl (f2)))] H := hP
  have hD : va_D A [(qb1, .inl (cb1, 8, .inl (fun _ => 0))), (qo1, .inl (co1, 8, .inl (fun _ => 0))), (qd1, .inr (0, [.ref qk1, .ref qb1, .ref qo1])), (qk1, .inl (ck1, 32, .inl (f2)))] := hD
  refine W.widen (k := 4) (n := 51) (Nat.le_of_ble_eq_true rfl) (Nat.le_of_ble_eq_true rfl) ?_
  rw [hw_f2] at hP hD
  have hP : va_P (dC, dI) vwCl [(qb1, .inl (cb1, 8, .inl (fun _ => 0))), (qo1, .inl (co1, 8, .inl (fun _ => 0))), (qd1, .inr (0, [.ref qk1, .ref qb1, .ref qo1])), (qk1, .inl (ck1, 32, .inl (id_k4 (id_k4 (fun _ => 0) (0 * 16) (65538) (196612) (327686) (458760)) (1 * 16) (0) (0) (0) (0))))] H := hP
  have hD : va_D A [(qb1, .inl (cb1, 8, .inl (fun _ => 0))), (qo1, .inl (co1, 8, .inl (fun _ => 0))), (qd1, .inr (0, [.ref qk1, .ref qb1, .ref qo1])), (qk1, .inl (ck1, 32, .inl (id_k4 (id_k4 (fun _ => 0) (0 * 16) (65538) (196612) (327686) (458760)) (1 * 16) (0) (0) (0) (0))))] := hD
  refine lv_aload_n hx hb dX0_known_30 rfl (lv_at hl 0 rfl) ?_
  refine lv_iconst (v := 1) hx hb dX0_known_31 (by decide +kernel) ?_
  refine lv_ldc (v := 131075) hx hb hown (hts _ q310) dX0_known_32 ?_
  have hPc := hP.sub (ws' := [(qd1, .inr (0, [.ref qk1, .ref qb1, .ref qo1])), (qb1, .inl (cb1, 8, .inl (fun _ => 0)))]) [2, 0] rfl
  have hDc := hD.sub (ws' := [(qd1, .inr (0, [.ref qk1, .ref qb1, .ref qo1])), (qb1, .inl (cb1, 8, .inl (fun _ => 0)))]) [2, 0] (by decide) rfl
  have hKc := hK.sub (tys' := [(cb1, .byte)]) [1] rfl
  have hFc := va_free (wc := [(qd1, .inr (0, [.ref qk1, .ref qb1, .ref qo1])), (qb1, .inl (cb1, 8, .inl (fun _ => 0)))]) hD hS hA [2, 0] rfl
  refine va_callv (va_runV (As := [.int (1), .int 131075]) (rest := []) ⟨hx, hb, hml, hown, hts⟩ (met_block l dC dI qd1 qk1 qb1 qo1 H.size cb1 (fun _ => 0) (1) (131075)) (cwV 2 hts (lw_V q292 q293 q294 q11 q295) rfl rfl rfl (by decide +kernel) ⟨Nat.le_of_ble_eq_true rfl, Nat.le_of_ble_eq_true rfl⟩) ⟨fun a U g mk q => by obtain ⟨q0, q1, qP, qK, qD⟩ := q; exact ⟨q0, q1, qP, va_K.moved (u := U) (U := U.calling g mk a) (Vm.Alike.refl U.vm) qK, qD⟩, va_recv hKc hPc (ci := 0) (q0 := 0) rfl rfl, fun U hU hW => ⟨rfl, by rw [hU], by rw [hU]; exact hPc, va_K.moved hW.alike hKc, hDc.weaken (fun _ _ _ _ => trivial)⟩⟩ rfl rfl hl.1 rfl (lv_room (Nat.le_of_ble_eq_true rfl)) dX0_known_34 ⟨Nat.le_of_ble_eq_true rfl, Nat.le_of_ble_eq_true rfl⟩) hS (fun q _ h => hFc q h) hFc (fun u t H1 locs ht hvm hw hB hz1 hk1 hS => ?_)
  obtain ⟨f3, rfl⟩ : ∃ z, z = u := ⟨_, rfl⟩
  have hw_f3 := hw
  obtain ⟨hP1, hK1, hD1⟩ := hB
  rw [ht] at hP1
  have hK1 := va_K.moved hvm.symm hK1
  obtain ⟨hP, hD⟩ := va_join (wr := [(qo1, .inl (co1, 8, .inl (fun _ => 0))), (qk1, .inl (ck1, 32, .inl (id_k4 (id_k4 (fun _ => 0) (0 * 16) (65538) (196612) (327686) (458760)) (1 * 16) (0) (0) (0) (0))))]) (w1 := [(qd1, .inr (0, [.ref qk1, .ref qb1, .ref qo1])), (qb1, .inl (cb1, 8, .inl (f3)))]) hP hD [2, 0] [1, 3] rfl rfl (by decide) (by decide) hk1 hFc hP1 hD1
  generalize H1 = H at hP hS ⊢
  have hP : va_P (dC, dI) vwCl [(qo1, .inl (co1, 8, .inl (fun _ => 0))), (qk1, .inl (ck1, 32, .inl (id_k4 (id_k4 (fun _ => 0) (0 * 16) (65538) (196612) (327686) (458760)) (1 * 16) (0) (0) (0) (0)))), (qd1, .inr (0, [.ref qk1, .ref qb1, .ref qo1])), (qb1, .inl (cb1, 8, .inl (f3)))] H := hP
  have hD : va_D A [(qo1, .inl (co1, 8, .inl (fun _ => 0))), (qk1, .inl (ck1, 32, .inl (id_k4 (id_k4 (fun _ => 0) (0 * 16) (65538) (196612) (327686) (458760)) (1 * 16) (0) (0) (0) (0)))), (qd1, .inr (0, [.ref qk1, .ref qb1, .ref qo1])), (qb1, .inl (cb1, 8, .inl (f3)))] := hD
  refine W.widen (k := 4) (n := 51) (Nat.le_of_ble_eq_true rfl) (Nat.le_of_ble_eq_true rfl) ?_
  rw [hw_f3] at hP hD
  have hP : va_P (dC, dI) vwCl [(qo1, .inl (co1, 8, .inl (fun _ => 0))), (qk1, .inl (ck1, 32, .inl (id_k4 (id_k4 (fun _ => 0) (0 * 16) (65538) (196612) (327686) (458760)) (1 * 16) (0) (0) (0) (0)))), (qd1, .inr (0, [.ref qk1, .ref qb1, .ref qo1])), (qb1, .inl (cb1, 8, .inl (id_w4 (id_w4 (fun _ => 0) 0 (1)) 4 (131075))))] H := hP
  have hD : va_D A [(qo1, .inl (co1, 8, .inl (fun _ => 0))), (qk1, .inl (ck1, 32, .inl (id_k4 (id_k4 (fun _ => 0) (0 * 16) (65538) (196612) (327686) (458760)) (1 * 16) (0) (0) (0) (0)))), (qd1, .inr (0, [.ref qk1, .ref qb1, .ref qo1])), (qb1, .inl (cb1, 8, .inl (id_w4 (id_w4 (fun _ => 0) 0 (1)) 4 (131075))))] := hD
  refine lv_aload_n hx hb dX0_known_37 rfl (lv_at hl 0 rfl) ?_
  refine lv_iconst (v := 0) hx hb dX0_known_38 (by decide +kernel) ?_
  have hPc := hP.sub (ws' := [(qd1, .inr (0, [.ref qk1, .ref qb1, .ref qo1])), (qk1, .inl (ck1, 32, .inl (id_k4 (id_k4 (fun _ => 0) (0 * 16) (65538) (196612) (327686) (458760)) (1 * 16) (0) (0) (0) (0)))), (qb1, .inl (cb1, 8, .inl (id_w4 (id_w4 (fun _ => 0) 0 (1)) 4 (131075)))), (qo1, .inl (co1, 8, .inl (fun _ => 0)))]) [2, 1, 3, 0] rfl
  have hDc := hD.sub (ws' := [(qd1, .inr (0, [.ref qk1, .ref qb1, .ref qo1])), (qk1, .inl (ck1, 32, .inl (id_k4 (id_k4 (fun _ => 0) (0 * 16) (65538) (196612) (327686) (458760)) (1 * 16) (0) (0) (0) (0)))), (qb1, .inl (cb1, 8, .inl (id_w4 (id_w4 (fun _ => 0) 0 (1)) 4 (131075)))), (qo1, .inl (co1, 8, .inl (fun _ => 0)))]) [2, 1, 3, 0] (by decide) rfl
  have hKc := hK.sub (tys' := [(ck1, .byte), (cb1, .byte), (co1, .byte)]) [0, 1, 2] rfl
  have hFc := va_free (wc := [(qd1, .inr (0, [.ref qk1, .ref qb1, .ref qo1])), (qk1, .inl (ck1, 32, .inl (id_k4 (id_k4 (fun _ => 0) (0 * 16) (65538) (196612) (327686) (458760)) (1 * 16) (0) (0) (0) (0)))), (qb1, .inl (cb1, 8, .inl (id_w4 (id_w4 (fun _ => 0) 0 (1)) 4 (131075)))), (qo1, .inl (co1, 8, .inl (fun _ => 0)))]) hD hS hA [2, 1, 3, 0] rfl
  refine va_callv (va_runV (As := [.int (0)]) (rest := []) ⟨hx, hb, hml, hown, hts⟩ (met_lock l dC dI qd1 qk1 qb1 qo1 H.size ck1 cb1 co1 (id_k4 (id_k4 (fun _ => 0) (0 * 16) (65538) (196612) (327686) (458760)) (1 * 16) (0) (0) (0) (0)) (id_w4 (id_w4 (fun _ => 0) 0 (1)) 4 (131075)) (fun _ => 0) (0)) (cwV 1 hts (lw_V q23 q24 q25 q11 q26) rfl rfl rfl (by decide +kernel) ⟨Nat.le_of_ble_eq_true rfl, Nat.le_of_ble_eq_true rfl⟩) ⟨fun a U g mk q => by obtain ⟨q0, q1, qP, qK, qD, qE⟩ := q; exact ⟨q0, q1, qP, va_K.moved (u := U) (U := U.calling g mk a) (Vm.Alike.refl U.vm) qK, qD, id_env.moved (Vm.Alike.refl U.vm) qE⟩, va_recv hKc hPc (ci := 0) (q0 := 0) rfl rfl, fun U hU hW => ⟨rfl, by rw [hU], by rw [hU]; exact hPc, va_K.moved hW.alike hKc, hDc.weaken (fun _ _ _ _ => trivial), id_env.moved hW.alike hE⟩⟩ rfl rfl hl.1 rfl (lv_room (Nat.le_of_ble_eq_true rfl)) dX0_known_39 ⟨Nat.le_of_ble_eq_true rfl, Nat.le_of_ble_eq_true rfl⟩) hS (fun q _ h => hFc q h) hFc (fun u t H1 locs ht hvm hw hB hz1 hk1 hS => ?_)
  obtain ⟨u1, rfl⟩ : ∃ z, z = u := ⟨_, rfl⟩
  have hw_u1 := hw
  obtain ⟨hP1, hK1, hD1⟩ := hB
  rw [ht] at hP1
  have hK1 := va_K.moved hvm.symm hK1
  obtain ⟨hP, hD⟩ := va_join (wr := []) (w1 := [(qd1, .inr (0, [.ref qk1, .ref qb1, .ref qo1])), (qk1, .inl (ck1, 32, .inl (id_k4 (id_k4 (fun _ => 0) (0 * 16) (65538) (196612) (327686) (458760)) (1 * 16) (0) (0) (0) (0)))), (qb1, .inl (cb1, 8, .inl (id_w4 (id_w4 (fun _ => 0) 0 (1)) 4 (131075)))), (qo1, .inl (co1, 8, .inl (u1)))]) hP hD [2, 1, 3, 0] [] rfl rfl (by decide) (by decide) hk1 hFc hP1 hD1
  generalize H1 = H at hP hS ⊢
  have hP : va_P (dC, dI) vwCl [(qd1, .inr (0, [.ref qk1, .ref qb1, .ref qo1])), (qk1, .inl (ck1, 32, .inl (id_k4 (id_k4 (fun _ => 0) (0 * 16) (65538) (196612) (327686) (458760)) (1 * 16) (0) (0) (0) (0)))), (qb1, .inl (cb1, 8, .inl (id_w4 (id_w4 (fun _ => 0) 0 (1)) 4 (131075)))), (qo1, .inl (co1, 8, .inl (u1)))] H := hP
  have hD : va_D A [(qd1, .inr (0, [.ref qk1, .ref qb1, .ref qo1])), (qk1, .inl (ck1, 32, .inl (id_k4 (id_k4 (fun _ => 0) (0 * 16) (65538) (196612) (327686) (458760)) (1 * 16) (0) (0) (0) (0)))), (qb1, .inl (cb1, 8, .inl (id_w4 (id_w4 (fun _ => 0) 0 (1)) 4 (131075)))), (qo1, .inl (co1, 8, .inl (u1)))] := hD
  refine W.widen (k := 10) (n := 190) (Nat.le_of_ble_eq_true rfl) (Nat.le_of_ble_eq_true rfl) ?_
  refine lv_bipush (v := nI 8) hx hb dX0_known_42 (by decide +kernel) ?_
  refine va_newa (atype := .int) (ty := .int) (a0 := (8, .inl (fun _ => 0))) hx hb (hts _ q181) rfl hK hP hD hS hA (fun _ => rfl) (nI_pos (by decide)) (nI_clamp (n := 8) (by decide)) (Nat.le_of_ble_eq_true rfl) (Nat.le_of_ble_eq_true rfl) (Nat.le_of_ble_eq_true rfl) dX0_known_44 (fun qa1 ca1 H hK hP hD hS => ?_)
  have hP : va_P (dC, dI) vwCl [(qd1, .inr (0, [.ref qk1, .ref qb1, .ref qo1])), (qk1, .inl (ck1, 32, .inl (id_k4 (id_k4 (fun _ => 0) (0 * 16) (65538) (196612) (327686) (458760)) (1 * 16) (0) (0) (0) (0)))), (qb1, .inl (cb1, 8, .inl (id_w4 (id_w4 (fun _ => 0) 0 (1)) 4 (131075)))), (qo1, .inl (co1, 8, .inl (u1))), (qa1, .inl (ca1, 8, .inl (fun _ => 0)))] H := hP
  have hD : va_D A [(qd1, .inr (0, [.ref qk1, .ref qb1, .ref qo1])), (qk1, .inl (ck1, 32, .inl (id_k4 (id_k4 (fun _ => 0) (0 * 16) (65538) (196612) (327686) (458760)) (1 * 16) (0) (0) (0) (0)))), (qb1, .inl (cb1, 8, .inl (id_w4 (id_w4 (fun _ => 0) 0 (1)) 4 (131075)))), (qo1, .inl (co1, 8, .inl (u1))), (qa1, .inl (ca1, 8, .inl (fun _ => 0)))] := hD
  have hK : va_K (dC, dI) vwCl [(ck1, .byte), (cb1, .byte), (co1, .byte), (ca1, .int)] s := hK
  refine W.widen (k := 11) (n := 198) (Nat.le_of_ble_eq_true rfl) (Nat.le_of_ble_eq_true rfl) ?_
  refine lv_dup hx hb dX0_known_46 rfl ?_
  refine lv_iconst (v := nI 0) hx hb dX0_known_47 (by decide +kernel) ?_
  refine lv_bipush (v := 17) hx hb dX0_known_48 (by decide +kernel) ?_
  refine va_iast hx hb hK hP hD hS 4 3 rfl rfl (vp_in_nI (by omega) (by omega)) dX0_known_50 (fun H locs hP hD hS => ?_)
  rw [nI_clamp (n := 0) (by omega)] at hP hD
  have hP : va_P (dC, dI) vwCl [(qd1, .inr (0, [.ref qk1, .ref qb1, .ref qo1])), (qk1, .inl (ck1, 32, .inl (id_k4 (id_k4 (fun _ => 0) (0 * 16) (65538) (196612) (327686) (458760)) (1 * 16) (0) (0) (0) (0)))), (qb1, .inl (cb1, 8, .inl (id_w4 (id_w4 (fun _ => 0) 0 (1)) 4 (131075)))), (qo1, .inl (co1, 8, .inl (u1))), (qa1, .inl (ca1, 8, .inl (upd (fun _ => 0) (0) (17))))] H := hP
  have hD : va_D A [(qd1, .inr (0, [.ref qk1, .ref qb1, .ref qo1])), (qk1, .inl (ck1, 32, .inl (id_k4 (id_k4 (fun _ => 0) (0 * 16) (65538) (196612) (327686) (458760)) (1 * 16) (0) (0) (0) (0)))), (qb1, .inl (cb1, 8, .inl (id_w4 (id_w4 (fun _ => 0) 0 (1)) 4 (131075)))), (qo1, .inl (co1, 8, .inl (u1))), (qa1, .inl (ca1, 8, .inl (upd (fun _ => 0) (0) (17))))] := hD
  refine lv_dup hx hb dX0_known_51 rfl ?_
  refine lv_iconst (v := nI 1) hx hb dX0_known_52 (by decide +kernel) ?_
  refine lv_sipush (v := 251) hx hb dX0_known_53 (by decide +kernel) ?_
  refine va_iast hx hb hK hP hD hS 4 3 rfl rfl (vp_in_nI (by omega) (by omega)) dX0_known_56 (fun H locs hP hD hS => ?_)
  rw [nI_clamp (n := 1) (by omega)] at hP hD
  have hP : va_P (dC, dI) vwCl [(qd1, .inr (0, [.ref qk1, .ref qb1, .ref qo1])), (qk1, .inl (ck1, 32, .inl (id_k4 (id_k4 (fun _ => 0) (0 * 16) (65538) (196612) (327686) (458760)) (1 * 16) (0) (0) (0) (0)))), (qb1, .inl (cb1, 8, .inl (id_w4 (id_w4 (fun _ => 0) 0 (1)) 4 (131075)))), (qo1, .inl (co1, 8, .inl (u1))), (qa1, .inl (ca1, 8, .inl (upd (upd (fun _ => 0) (0) (17)) (1) (251))))] H := hP
  have hD : va_D A [(qd1, .inr (0, [.ref qk1, .ref qb1, .ref qo1])), (qk1, .inl (ck1, 32, .inl (id_k4 (id_k4 (fun _ => 0) (0 * 16) (65538) (196612) (327686) (458760)) (1 * 16) (0) (0) (0) (0)))), (qb1, .inl (cb1, 8, .inl (id_w4 (id_w4 (fun _ => 0) 0 (1)) 4 (131075)))), (qo1, .inl (co1, 8, .inl (u1))), (qa1, .inl (ca1, 8, .inl (upd (upd (fun _ => 0) (0) (17)) (1) (251))))] := hD
  refine lv_dup hx hb dX0_known_57 rfl ?_
  refine lv_iconst (v := nI 2) hx hb dX0_known_58 (by decide +kernel) ?_
  refine lv_sipush (v := 237) hx hb dX0_known_59 (by decide +kernel) ?_
  refine va_iast hx hb hK hP hD hS 4 3 rfl rfl (vp_in_nI (by omega) (by omega)) dX0_known_62 (fun H locs hP hD hS => ?_)
  rw [nI_clamp (n := 2) (by omega)] at hP hD
  have hP : va_P (dC, dI) vwCl [(qd1, .inr (0, [.ref qk1, .ref qb1, .ref qo1])), (qk1, .inl (ck1, 32, .inl (id_k4 (id_k4 (fun _ => 0) (0 * 16) (65538) (196612) (327686) (458760)) (1 * 16) (0) (0) (0) (0)))), (qb1, .inl (cb1, 8, .inl (id_w4 (id_w4 (fun _ => 0) 0 (1)) 4 (131075)))), (qo1, .inl (co1, 8, .inl (u1))), (qa1, .inl (ca1, 8, .inl (upd (upd (upd (fun _ => 0) (0) (17)) (1) (251)) (2) (237))))] H := hP
  have hD : va_D A [(qd1, .inr (0, [.ref qk1, .ref qb1, .ref qo1])), (qk1, .inl (ck1, 32, .inl (id_k4 (id_k4 (fun _ => 0) (0 * 16) (65538) (196612) (327686) (458760)) (1 * 16) (0) (0) (0) (0)))), (qb1, .inl (cb1, 8, .inl (id_w4 (id_w4 (fun _ => 0) 0 (1)) 4 (131075)))), (qo1, .inl (co1, 8, .inl (u1))), (qa1, .inl (ca1, 8, .inl (upd (upd (upd (fun _ => 0) (0) (17)) (1) (251)) (2) (237))))] := hD
  refine lv_dup hx hb dX0_known_63 rfl ?_
  refine lv_iconst (v := nI 3) hx hb dX0_known_64 (by decide +kernel) ?_
  refine lv_bipush (v := 43) hx hb dX0_known_65 (by decide +kernel) ?_
  refine va_iast hx hb hK hP hD hS 4 3 rfl rfl (vp_in_nI (by omega) (by omega)) dX0_known_67 (fun H locs hP hD hS => ?_)
  rw [nI_clamp (n := 3) (by omega)] at hP hD
  have hP : va_P (dC, dI) vwCl [(qd1, .inr (0, [.ref qk1, .ref qb1, .ref qo1])), (qk1, .inl (ck1, 32, .inl (id_k4 (id_k4 (fun _ => 0) (0 * 16) (65538) (196612) (327686) (458760)) (1 * 16) (0) (0) (0) (0)))), (qb1, .inl (cb1, 8, .inl (id_w4 (id_w4 (fun _ => 0) 0 (1)) 4 (131075)))), (qo1, .inl (co1, 8, .inl (u1))), (qa1, .inl (ca1, 8, .inl (upd (upd (upd (upd (fun _ => 0) (0) (17)) (1) (251)) (2) (237)) (3) (43))))] H := hP
  have hD : va_D A [(qd1, .inr (0, [.ref qk1, .ref qb1, .ref qo1])), (qk1, .inl (ck1, 32, .inl (id_k4 (id_k4 (fun _ => 0) (0 * 16) (65538) (196612) (327686) (458760)) (1 * 16) (0) (0) (0) (0)))), (qb1, .inl (cb1, 8, .inl (id_w4 (id_w4 (fun _ => 0) 0 (1)) 4 (131075)))), (qo1, .inl (co1, 8, .inl (u1))), (qa1, .inl (ca1, 8, .inl (upd (upd (upd (upd (fun _ => 0) (0) (17)) (1) (251)) (2) (237)) (3) (43))))] := hD
  refine lv_dup hx hb dX0_known_68 rfl ?_
  refine lv_iconst (v := nI 4) hx hb dX0_known_69 (by decide +kernel) ?_
  refine lv_iconst (v := 1) hx hb dX0_known_70 (by decide +kernel) ?_
  refine va_iast hx hb hK hP hD hS 4 3 rfl rfl (vp_in_nI (by omega) (by omega)) dX0_known_71 (fun H locs hP hD hS => ?_)
  rw [nI_clamp (n := 4) (by omega)] at hP hD
  have hP : va_P (dC, dI) vwCl [(qd1, .inr (0, [.ref qk1, .ref qb1, .ref qo1])), (qk1, .inl (ck1, 32, .inl (id_k4 (id_k4 (fun _ => 0) (0 * 16) (65538) (196612) (327686) (458760)) (1 * 16) (0) (0) (0) (0)))), (qb1, .inl (cb1, 8, .inl (id_w4 (id_w4 (fun _ => 0) 0 (1)) 4 (131075)))), (qo1, .inl (co1, 8, .inl (u1))), (qa1, .inl (ca1, 8, .inl (upd (upd (upd (upd (upd (fun _ => 0) (0) (17)) (1) (251)) (2) (237)) (3) (43)) (4) (1))))] H := hP
  have hD : va_D A [(qd1, .inr (0, [.ref qk1, .ref qb1, .ref qo1])), (qk1, .inl (ck1, 32, .inl (id_k4 (id_k4 (fun _ => 0) (0 * 16) (65538) (196612) (327686) (458760)) (1 * 16) (0) (0) (0) (0)))), (qb1, .inl (cb1, 8, .inl (id_w4 (id_w4 (fun _ => 0) 0 (1)) 4 (131075)))), (qo1, .inl (co1, 8, .inl (u1))), (qa1, .inl (ca1, 8, .inl (upd (upd (upd (upd (upd (fun _ => 0) (0) (17)) (1) (251)) (2) (237)) (3) (43)) (4) (1))))] := hD
  refine lv_dup hx hb dX0_known_72 rfl ?_
  refine lv_iconst (v := nI 5) hx hb dX0_known_73 (by decide +kernel) ?_
  refine lv_sipush (v := 152) hx hb dX0_known_74 (by decide +kernel) ?_
  refine va_iast hx hb hK hP hD hS 4 3 rfl rfl (vp_in_nI (by omega) (by omega)) dX0_known_77 (fun H locs hP hD hS => ?_)
  rw [nI_clamp (n := 5) (by omega)] at hP hD
  have hP : va_P (dC, dI) vwCl [(qd1, .inr (0, [.ref qk1, .ref qb1, .ref qo1])), (qk1, .inl (ck1, 32, .inl (id_k4 (id_k4 (fun _ => 0) (0 * 16) (65538) (196612) (327686) (458760)) (1 * 16) (0) (0) (0) (0)))), (qb1, .inl (cb1, 8, .inl (id_w4 (id_w4 (fun _ => 0) 0 (1)) 4 (131075)))), (qo1, .inl (co1, 8, .inl (u1))), (qa1, .inl (ca1, 8, .inl (upd (upd (upd (upd (upd (upd (fun _ => 0) (0) (17)) (1) (251)) (2) (237)) (3) (43)) (4) (1)) (5) (152))))] H := hP
  have hD : va_D A [(qd1, .inr (0, [.ref qk1, .ref qb1, .ref qo1])), (qk1, .inl (ck1, 32, .inl (id_k4 (id_k4 (fun _ => 0) (0 * 16) (65538) (196612) (327686) (458760)) (1 * 16) (0) (0) (0) (0)))), (qb1, .inl (cb1, 8, .inl (id_w4 (id_w4 (fun _ => 0) 0 (1)) 4 (131075)))), (qo1, .inl (co1, 8, .inl (u1))), (qa1, .inl (ca1, 8, .inl (upd (upd (upd (upd (upd (upd (fun _ => 0) (0) (17)) (1) (251)) (2) (237)) (3) (43)) (4) (1)) (5) (152))))] := hD
  refine lv_dup hx hb dX0_known_78 rfl ?_
  refine lv_bipush (v := nI 6) hx hb dX0_known_79 (by decide +kernel) ?_
  refine lv_bipush (v := 109) hx hb dX0_known_81 (by decide +kernel) ?_
  refine va_iast hx hb hK hP hD hS 4 3 rfl rfl (vp_in_nI (by omega) (by omega)) dX0_known_83 (fun H locs hP hD hS => ?_)
  rw [nI_clamp (n := 6) (by omega)] at hP hD
  have hP : va_P (dC, dI) vwCl [(qd1, .inr (0, [.ref qk1, .ref qb1, .ref qo1])), (qk1, .inl (ck1, 32, .inl (id_k4 (id_k4 (fun _ => 0) (0 * 16) (65538) (196612) (327686) (458760)) (1 * 16) (0) (0) (0) (0)))), (qb1, .inl (cb1, 8, .inl (id_w4 (id_w4 (fun _ => 0) 0 (1)) 4 (131075)))), (qo1, .inl (co1, 8, .inl (u1))), (qa1, .inl (ca1, 8, .inl (upd (upd (upd (upd (upd (upd (upd (fun _ => 0) (0) (17)) (1) (251)) (2) (237)) (3) (43)) (4) (1)) (5) (152)) (6) (109))))] H := hP
  have hD : va_D A [(qd1, .inr (0, [.ref qk1, .ref qb1, .ref qo1])), (qk1, .inl (ck1, 32, .inl (id_k4 (id_k4 (fun _ => 0) (0 * 16) (65538) (196612) (327686) (458760)) (1 * 16) (0) (0) (0) (0)))), (qb1, .inl (cb1, 8, .inl (id_w4 (id_w4 (fun _ => 0) 0 (1)) 4 (131075)))), (qo1, .inl (co1, 8, .inl (u1))), (qa1, .inl (ca1, 8, .inl (upd (upd (upd (upd (upd (upd (upd (fun _ => 0) (0) (17)) (1) (251)) (2) (237)) (3) (43)) (4) (1)) (5) (152)) (6) (109))))] := hD
  refine lv_dup hx hb dX0_known_84 rfl ?_
  refine lv_bipush (v := nI 7) hx hb dX0_known_85 (by decide +kernel) ?_
  refine lv_sipush (v := 229) hx hb dX0_known_87 (by decide +kernel) ?_
  refine va_iast hx hb hK hP hD hS 4 3 rfl rfl (vp_in_nI (by omega) (by omega)) dX0_known_90 (fun H locs hP hD hS => ?_)
  rw [nI_clamp (n := 7) (by omega)] at hP hD
  have hP : va_P (dC, dI) vwCl [(qd1, .inr (0, [.ref qk1, .ref qb1, .ref qo1])), (qk1, .inl (ck1, 32, .inl (id_k4 (id_k4 (fun _ => 0) (0 * 16) (65538) (196612) (327686) (458760)) (1 * 16) (0) (0) (0) (0)))), (qb1, .inl (cb1, 8, .inl (id_w4 (id_w4 (fun _ => 0) 0 (1)) 4 (131075)))), (qo1, .inl (co1, 8, .inl (u1))), (qa1, .inl (ca1, 8, .inl (upd (upd (upd (upd (upd (upd (upd (upd (fun _ => 0) (0) (17)) (1) (251)) (2) (237)) (3) (43)) (4) (1)) (5) (152)) (6) (109)) (7) (229))))] H := hP
  have hD : va_D A [(qd1, .inr (0, [.ref qk1, .ref qb1, .ref qo1])), (qk1, .inl (ck1, 32, .inl (id_k4 (id_k4 (fun _ => 0) (0 * 16) (65538) (196612) (327686) (458760)) (1 * 16) (0) (0) (0) (0)))), (qb1, .inl (cb1, 8, .inl (id_w4 (id_w4 (fun _ => 0) 0 (1)) 4 (131075)))), (qo1, .inl (co1, 8, .inl (u1))), (qa1, .inl (ca1, 8, .inl (upd (upd (upd (upd (upd (upd (upd (upd (fun _ => 0) (0) (17)) (1) (251)) (2) (237)) (3) (43)) (4) (1)) (5) (152)) (6) (109)) (7) (229))))] := hD
  refine lv_astore_n (lv' := [(1, .ref qa1), (0, .ref qd1)]) hx hb dX0_known_91 rfl hl (by decide) rfl (fun ls hl => ?_)
  refine lv_iconst (v := nI 0) hx hb dX0_known_92 (by decide +kernel) ?_
  refine lv_istore_n (lv' := [(2, .int (nI 0)), (1, .ref qa1), (0, .ref qd1)]) hx hb dX0_known_93 rfl hl (by decide) rfl (fun ls hl => ?_)
  have ha1 : ∀ i, i < 8 → (upd (upd (upd (upd (upd (upd (upd (upd (fun _ => 0) (0) (17)) (1) (251)) (2) (237)) (3) (43)) (4) (1)) (5) (152)) (6) (109)) (7) (229)) i = nI ([17, 251, 237, 43, 1, 152, 109, 229].getD i 0) := by decide +kernel
  generalize upd (upd (upd (upd (upd (upd (upd (upd (fun _ => 0) (0) (17)) (1) (251)) (2) (237)) (3) (43)) (4) (1)) (5) (152)) (6) (109)) (7) (229) = ta1 at hP hD ha1
  have hu1 : ∀ i, i < 8 → (u1 i) &&& 255 = nI ([17, 251, 237, 43, 1, 152, 109, 229].getD i 0) := by rw [hw_u1]; exact id_known0 _
  have key1 : ∀ (n i : Nat), i ≤ 8 → 9 ≤ i + n → ∀ ls : Array Slot, lv_has ls 5 [(2, .int (nI i)), (1, .ref qa1), (0, .ref qd1)] → W p l e (headSpec (ws_ yX0_known cX0_known 5 (some .boolean)) { frames := 6, cells := 22, slots := 396, locals := 146 }).room s m ([] : List Value).toArray below meth c H locs 11 198 (MQ below (va_Qi (fun (r : Int32) (_ : Unit) => r = 1) (fun (_ : Unit) (t : State) => va_P (dC, dI) vwCl [] t.heap ∧ va_K (dC, dI) vwCl [] t ∧ va_D A []) A) ([] : List Value).toArray s 22 396 A) (F0 m 94 ls []) := by
    intro n
    induction n with
    | zero => intro i h1 h2; exact absurd h2 (by omega)
    | succ n ih =>
      intro i hi hin ls hl
      refine lv_iload_n hx hb dX0_known_94 rfl (lv_at hl 0 rfl) ?_
      refine lv_bipush (v := nI 8) hx hb dX0_known_95 (by decide +kernel) ?_
      refine lv_icmp_ge (tgt := 119) hx hb dX0_known_97 (by decide) (fun c97 => ?_) (fun c97 => ?_)
      · refine va_new (ci := 0) (fs := [.null, .null, .null]) (C := RX1) (T := TX1) (N := 3) hx hb hts in_X1 tyX1 tyX1_ok hown (hts _ q267) (hts _ q30) (hts _ q11) hK hP hD hS hA rfl (fun j hj => by rcases (show j = 0 ∨ j = 1 ∨ j = 2 by omega) with rfl | rfl | rfl <;> rfl) (Nat.le_of_ble_eq_true rfl) (Nat.le_of_ble_eq_true rfl) dX0_known_119 (fun qd2 H hP hD hS => ?_)
        have hP : va_P (dC, dI) vwCl [(qd1, .inr (0, [.ref qk1, .ref qb1, .ref qo1])), (qk1, .inl (ck1, 32, .inl (id_k4 (id_k4 (fun _ => 0) (0 * 16) (65538) (196612) (327686) (458760)) (1 * 16) (0) (0) (0) (0)))), (qb1, .inl (cb1, 8, .inl (id_w4 (id_w4 (fun _ => 0) 0 (1)) 4 (131075)))), (qo1, .inl (co1, 8, .inl (u1))), (qa1, .inl (ca1, 8, .inl (ta1))), (qd2, .inr (0, [.null, .null, .null]))] H := hP
        have hD : va_D A [(qd1, .inr (0, [.ref qk1, .ref qb1, .ref qo1])), (qk1, .inl (ck1, 32, .inl (id_k4 (id_k4 (fun _ => 0) (0 * 16) (65538) (196612) (327686) (458760)) (1 * 16) (0) (0) (0) (0)))), (qb1, .inl (cb1, 8, .inl (id_w4 (id_w4 (fun _ => 0) 0 (1)) 4 (131075)))), (qo1, .inl (co1, 8, .inl (u1))), (qa1, .inl (ca1, 8, .inl (ta1))), (qd2, .inr (0, [.null, .null, .null]))] := hD
        refine W.widen (k := 12) (n := 201) (Nat.le_of_ble_eq_true rfl) (Nat.le_of_ble_eq_true rfl) ?_
        refine lv_dup hx hb dX0_known_122 rfl ?_
        have hPc := hP.sub (ws' := [(qd2, .inr (0, [.null, .null, .null]))]) [5] rfl
        have hDc := hD.sub (ws' := [(qd2, .inr (0, [.null, .null, .null]))]) [5] (by decide) rfl
        have hKc := hK.sub (tys' := []) [] rfl
        have hFc := va_free (wc := [(qd2, .inr (0, [.null, .null, .null]))]) hD hS hA [5] rfl
        refine va_callv (va_runI (As := []) (rest := [.ref qd2]) ⟨hx, hb, hml, hown, hts⟩ (met_desk l dC dI qd2 H.size) (cwI 0 hts (lw_meth q270) rfl rfl rfl (hts _ q11) (hts _ q268) (hts _ q269) rfl (by decide +kernel) ⟨Nat.le_of_ble_eq_true rfl, Nat.le_of_ble_eq_true rfl⟩) ⟨fun a U g mk q => by obtain ⟨q0, q1, qP, qK, qD⟩ := q; exact ⟨q0, q1, qP, va_K.moved (u := U) (U := U.calling g mk a) (Vm.Alike.refl U.vm) qK, qD⟩, fun U hU hW => ⟨rfl, by rw [hU], by rw [hU]; exact hPc, va_K.moved hW.alike hKc, hDc.weaken (fun _ _ _ _ => trivial)⟩⟩ rfl rfl hl.1 rfl (lv_room (Nat.le_of_ble_eq_true rfl)) dX0_known_123 ⟨Nat.le_of_ble_eq_true rfl, Nat.le_of_ble_eq_true rfl⟩) hS (fun q _ h => hFc q h) hFc (fun u t H1 locs ht hvm hw hB hz1 hk1 hS => ?_)
        obtain ⟨qk2, qb2, qo2, ck2, cb2, co2, hP1, hK1, hD1⟩ := hB
        rw [ht] at hP1
        have hK1 := va_K.moved hvm.symm hK1
        obtain ⟨hP, hD⟩ := va_join (wr := [(qd1, .inr (0, [.ref qk1, .ref qb1, .ref qo1])), (qk1, .inl (ck1, 32, .inl (id_k4 (id_k4 (fun _ => 0) (0 * 16) (65538) (196612) (327686) (458760)) (1 * 16) (0) (0) (0) (0)))), (qb1, .inl (cb1, 8, .inl (id_w4 (id_w4 (fun _ => 0) 0 (1)) 4 (131075)))), (qo1, .inl (co1, 8, .inl (u1))), (qa1, .inl (ca1, 8, .inl (ta1)))]) (w1 := [(qd2, .inr (0, [.ref qk2, .ref qb2, .ref qo2])), (qk2, .inl (ck2, 32, .inl (fun _ => 0))), (qb2, .inl (cb2, 8, .inl (fun _ => 0))), (qo2, .inl (co2, 8, .inl (fun _ => 0)))]) hP hD [5] [0, 1, 2, 3, 4] rfl rfl (by decide) (by decide) hk1 hFc hP1 hD1
        have hK := (hK.sub (tys' := [(ck1, .byte), (cb1, .byte), (co1, .byte), (ca1, .int)]) [0, 1, 2, 3] rfl).app hK1
        generalize H1 = H at hP hS ⊢
        have hP : va_P (dC, dI) vwCl [(qd1, .inr (0, [.ref qk1, .ref qb1, .ref qo1])), (qk1, .inl (ck1, 32, .inl (id_k4 (id_k4 (fun _ => 0) (0 * 16) (65538) (196612) (327686) (458760)) (1 * 16) (0) (0) (0) (0)))), (qb1, .inl (cb1, 8, .inl (id_w4 (id_w4 (fun _ => 0) 0 (1)) 4 (131075)))), (qo1, .inl (co1, 8, .inl (u1))), (qa1, .inl (ca1, 8, .inl (ta1))), (qd2, .inr (0, [.ref qk2, .ref qb2, .ref qo2])), (qk2, .inl (ck2, 32, .inl (fun _ => 0))), (qb2, .inl (cb2, 8, .inl (fun _ => 0))), (qo2, .inl (co2, 8, .inl (fun _ => 0)))] H := hP
        have hD : va_D A [(qd1, .inr (0, [.ref qk1, .ref qb1, .ref qo1])), (qk1, .inl (ck1, 32, .inl (id_k4 (id_k4 (fun _ => 0) (0 * 16) (65538) (196612) (327686) (458760)) (1 * 16) (0) (0) (0) (0)))), (qb1, .inl (cb1, 8, .inl (id_w4 (id_w4 (fun _ => 0) 0 (1)) 4 (131075)))), (qo1, .inl (co1, 8, .inl (u1))), (qa1, .inl (ca1, 8, .inl (ta1))), (qd2, .inr (0, [.ref qk2, .ref qb2, .ref qo2])), (qk2, .inl (ck2, 32, .inl (fun _ => 0))), (qb2, .inl (cb2, 8, .inl (fun _ => 0))), (qo2, .inl (co2, 8, .inl (fun _ => 0)))] := hD
        have hK : va_K (dC, dI) vwCl [(ck1, .byte), (cb1, .byte), (co1, .byte), (ca1, .int), (ck2, .byte), (cb2, .byte), (co2, .byte)] s := hK
        refine W.widen (k := 15) (n := 249) (Nat.le_of_ble_eq_true rfl) (Nat.le_of_ble_eq_true rfl) ?_
        refine lv_astore_n (lv' := [(2, .ref qd2), (1, .ref qa1), (0, .ref qd1)]) hx hb dX0_known_126 rfl hl (by decide) rfl (fun ls hl => ?_)
        refine lv_aload_n hx hb dX0_known_127 rfl (lv_at hl 0 rfl) ?_
        refine lv_iconst (v := nI 0) hx hb dX0_known_128 (by decide +kernel) ?_
        refine lv_ldc (v := (-2147483648)) hx hb hown (hts _ q311) dX0_known_129 ?_
        refine lv_iconst (v := 0) hx hb dX0_known_131 (by decide +kernel) ?_
        refine lv_iconst (v := 0) hx hb dX0_known_132 (by decide +kernel) ?_
        refine lv_iconst (v := 0) hx hb dX0_known_133 (by decide +kernel) ?_
        have hPc := hP.sub (ws' := [(qd2, .inr (0, [.ref qk2, .ref qb2, .ref qo2])), (qk2, .inl (ck2, 32, .inl (fun _ => 0)))]) [5, 6] rfl
        have hDc := hD.sub (ws' := [(qd2, .inr (0, [.ref qk2, .ref qb2, .ref qo2])), (qk2, .inl (ck2, 32, .inl (fun _ => 0)))]) [5, 6] (by decide) rfl
        have hKc := hK.sub (tys' := [(ck2, .byte)]) [4] rfl
        have hFc := va_free (wc := [(qd2, .inr (0, [.ref qk2, .ref qb2, .ref qo2])), (qk2, .inl (ck2, 32, .inl (fun _ => 0)))]) hD hS hA [5, 6] rfl
        refine va_callv (va_runV (As := [.int (nI 0), .int (-2147483648), .int (0), .int (0), .int (0)]) (rest := []) ⟨hx, hb, hml, hown, hts⟩ (met_key l dC dI qd2 qk2 qb2 qo2 H.size ck2 (fun _ => 0) 0 (by decide) (-2147483648) (0) (0) (0)) (cwV 5 hts (lw_V q285 q286 q287 q11 q288) rfl rfl rfl (by decide +kernel) ⟨Nat.le_of_ble_eq_true rfl, Nat.le_of_ble_eq_true rfl⟩) ⟨fun a U g mk q => by obtain ⟨q0, q1, qP, qK, qD⟩ := q; exact ⟨q0, q1, qP, va_K.moved (u := U) (U := U.calling g mk a) (Vm.Alike.refl U.vm) qK, qD⟩, va_recv hKc hPc (ci := 0) (q0 := 0) rfl rfl, fun U hU hW => ⟨rfl, by rw [hU], by rw [hU]; exact hPc, va_K.moved hW.alike hKc, hDc.weaken (fun _ _ _ _ => trivial)⟩⟩ rfl rfl hl.1 rfl (lv_room (Nat.le_of_ble_eq_true rfl)) dX0_known_134 ⟨Nat.le_of_ble_eq_true rfl, Nat.le_of_ble_eq_true rfl⟩) hS (fun q _ h => hFc q h) hFc (fun u t H1 locs ht hvm hw hB hz1 hk1 hS => ?_)
        obtain ⟨f4, rfl⟩ : ∃ z, z = u := ⟨_, rfl⟩
        have hw_f4 := hw
        obtain ⟨hP1, hK1, hD1⟩ := hB
        rw [ht] at hP1
        have hK1 := va_K.moved hvm.symm hK1
        obtain ⟨hP, hD⟩ := va_join (wr := [(qd1, .inr (0, [.ref qk1, .ref qb1, .ref qo1])), (qk1, .inl (ck1, 32, .inl (id_k4 (id_k4 (fun _ => 0) (0 * 16) (65538) (196612) (327686) (458760)) (1 * 16) (0) (0) (0) (0)))), (qb1, .inl (cb1, 8, .inl (id_w4 (id_w4 (fun _ => 0) 0 (1)) 4 (131075)))), (qo1, .inl (co1, 8, .inl (u1))), (qa1, .inl (ca1, 8, .inl (ta1))), (qb2, .inl (cb2, 8, .inl (fun _ => 0))), (qo2, .inl (co2, 8, .inl (fun _ => 0)))]) (w1 := [(qd2, .inr (0, [.ref qk2, .ref qb2, .ref qo2])), (qk2, .inl (ck2, 32, .inl (f4)))]) hP hD [5, 6] [0, 1, 2, 3, 4, 7, 8] rfl rfl (by decide) (by decide) hk1 hFc hP1 hD1
        generalize H1 = H at hP hS ⊢
        have hP : va_P (dC, dI) vwCl [(qd1, .inr (0, [.ref qk1, .ref qb1, .ref qo1])), (qk1, .inl (ck1, 32, .inl (id_k4 (id_k4 (fun _ => 0) (0 * 16) (65538) (196612) (327686) (458760)) (1 * 16) (0) (0) (0) (0)))), (qb1, .inl (cb1, 8, .inl (id_w4 (id_w4 (fun _ => 0) 0 (1)) 4 (131075)))), (qo1, .inl (co1, 8, .inl (u1))), (qa1, .inl (ca1, 8, .inl (ta1))), (qb2, .inl (cb2, 8, .inl (fun _ => 0))), (qo2, .inl (co2, 8, .inl (fun _ => 0))), (qd2, .inr (0, [.ref qk2, .ref qb2, .ref qo2])), (qk2, .inl (ck2, 32, .inl (f4)))] H := hP
        have hD : va_D A [(qd1, .inr (0, [.ref qk1, .ref qb1, .ref qo1])), (qk1, .inl (ck1, 32, .inl (id_k4 (id_k4 (fun _ => 0) (0 * 16) (65538) (196612) (327686) (458760)) (1 * 16) (0) (0) (0) (0)))), (qb1, .inl (cb1, 8, .inl (id_w4 (id_w4 (fun _ => 0) 0 (1)) 4 (131075)))), (qo1, .inl (co1, 8, .inl (u1))), (qa1, .inl (ca1, 8, .inl (ta1))), (qb2, .inl (cb2, 8, .inl (fun _ => 0))), (qo2, .inl (co2, 8, .inl (fun _ => 0))), (qd2, .inr (0, [.ref qk2, .ref qb2, .ref qo2])), (qk2, .inl (ck2, 32, .inl (f4)))] := hD
        refine W.widen (k := 15) (n := 249) (Nat.le_of_ble_eq_true rfl) (Nat.le_of_ble_eq_true rfl) ?_
        rw [hw_f4] at hP hD
        have hP : va_P (dC, dI) vwCl [(qd1, .inr (0, [.ref qk1, .ref qb1, .ref qo1])), (qk1, .inl (ck1, 32, .inl (id_k4 (id_k4 (fun _ => 0) (0 * 16) (65538) (196612) (327686) (458760)) (1 * 16) (0) (0) (0) (0)))), (qb1, .inl (cb1, 8, .inl (id_w4 (id_w4 (fun _ => 0) 0 (1)) 4 (131075)))), (qo1, .inl (co1, 8, .inl (u1))), (qa1, .inl (ca1, 8, .inl (ta1))), (qb2, .inl (cb2, 8, .inl (fun _ => 0))), (qo2, .inl (co2, 8, .inl (fun _ => 0))), (qd2, .inr (0, [.ref qk2, .ref qb2, .ref qo2])), (qk2, .inl (ck2, 32, .inl (id_k4 (fun _ => 0) (0 * 16) (-2147483648) (0) (0) (0))))] H := hP
        have hD : va_D A [(qd1, .inr (0, [.ref qk1, .ref qb1, .ref qo1])), (qk1, .inl (ck1, 32, .inl (id_k4 (id_k4 (fun _ => 0) (0 * 16) (65538) (196612) (327686) (458760)) (1 * 16) (0) (0) (0) (0)))), (qb1, .inl (cb1, 8, .inl (id_w4 (id_w4 (fun _ => 0) 0 (1)) 4 (131075)))), (qo1, .inl (co1, 8, .inl (u1))), (qa1, .inl (ca1, 8, .inl (ta1))), (qb2, .inl (cb2, 8, .inl (fun _ => 0))), (qo2, .inl (co2, 8, .inl (fun _ => 0))), (qd2, .inr (0, [.ref qk2, .ref qb2, .ref qo2])), (qk2, .inl (ck2, 32, .inl (id_k4 (fun _ => 0) (0 * 16) (-2147483648) (0) (0) (0))))] := hD
        refine lv_aload_n hx hb dX0_known_137 rfl (lv_at hl 0 rfl) ?_
        refine lv_iconst (v := nI 1) hx hb dX0_known_138 (by decide +kernel) ?_
        refine lv_iconst (v := 0) hx hb dX0_known_139 (by decide +kernel) ?_
        refine lv_iconst (v := 0) hx hb dX0_known_140 (by decide +kernel) ?_
        refine lv_iconst (v := 0) hx hb dX0_known_141 (by decide +kernel) ?_
        refine lv_iconst (v := 0) hx hb dX0_known_142 (by decide +kernel) ?_
        have hPc := hP.sub (ws' := [(qd2, .inr (0, [.ref qk2, .ref qb2, .ref qo2])), (qk2, .inl (ck2, 32, .inl (id_k4 (fun _ => 0) (0 * 16) (-2147483648) (0) (0) (0))))]) [7, 8] rfl
        have hDc := hD.sub (ws' := [(qd2, .inr (0, [.ref qk2, .ref qb2, .ref qo2])), (qk2, .inl (ck2, 32, .inl (id_k4 (fun _ => 0) (0 * 16) (-2147483648) (0) (0) (0))))]) [7, 8] (by decide) rfl
        have hKc := hK.sub (tys' := [(ck2, .byte)]) [4] rfl
        have hFc := va_free (wc := [(qd2, .inr (0, [.ref qk2, .ref qb2, .ref qo2])), (qk2, .inl (ck2, 32, .inl (id_k4 (fun _ => 0) (0 * 16) (-2147483648) (0) (0) (0))))]) hD hS hA [7, 8] rfl
        refine va_callv (va_runV (As := [.int (nI 1), .int (0), .int (0), .int (0), .int (0)]) (rest := []) ⟨hx, hb, hml, hown, hts⟩ (met_key l dC dI qd2 qk2 qb2 qo2 H.size ck2 (id_k4 (fun _ => 0) (0 * 16) (-2147483648) (0) (0) (0)) 1 (by decide) (0) (0) (0) (0)) (cwV 5 hts (lw_V q285 q286 q287 q11 q288) rfl rfl rfl (by decide +kernel) ⟨Nat.le_of_ble_eq_true rfl, Nat.le_of_ble_eq_true rfl⟩) ⟨fun a U g mk q => by obtain ⟨q0, q1, qP, qK, qD⟩ := q; exact ⟨q0, q1, qP, va_K.moved (u := U) (U := U.calling g mk a) (Vm.Alike.refl U.vm) qK, qD⟩, va_recv hKc hPc (ci := 0) (q0 := 0) rfl rfl, fun U hU hW => ⟨rfl, by rw [hU], by rw [hU]; exact hPc, va_K.moved hW.alike hKc, hDc.weaken (fun _ _ _ _ => trivial)⟩⟩ rfl rfl hl.1 rfl (lv_room (Nat.le_of_ble_eq_true rfl)) dX0_known_143 ⟨Nat.le_of_ble_eq_true rfl, Nat.le_of_ble_eq_true rfl⟩) hS (fun q _ h => hFc q h) hFc (fun u t H1 locs ht hvm hw hB hz1 hk1 hS => ?_)
        obtain ⟨f5, rfl⟩ : ∃ z, z = u := ⟨_, rfl⟩
        have hw_f5 := hw
        obtain ⟨hP1, hK1, hD1⟩ := hB
        rw [ht] at hP1
        have hK1 := va_K.moved hvm.symm hK1
        obtain ⟨hP, hD⟩ := va_join (wr := [(qd1, .inr (0, [.ref qk1, .ref qb1, .ref qo1])), (qk1, .inl (ck1, 32, .inl (id_k4 (id_k4 (fun _ => 0) (0 * 16) (65538) (196612) (327686) (458760)) (1 * 16) (0) (0) (0) (0)))), (qb1, .inl (cb1, 8, .inl (id_w4 (id_w4 (fun _ => 0) 0 (1)) 4 (131075)))), (qo1, .inl (co1, 8, .inl (u1))), (qa1, .inl (ca1, 8, .inl (ta1))), (qb2, .inl (cb2, 8, .inl (fun _ => 0))), (qo2, .inl (co2, 8, .inl (fun _ => 0)))]) (w1 := [(qd2, .inr (0, [.ref qk2, .ref qb2, .ref qo2])), (qk2, .inl (ck2, 32, .inl (f5)))]) hP hD [7, 8] [0, 1, 2, 3, 4, 5, 6] rfl rfl (by decide) (by decide) hk1 hFc hP1 hD1
        generalize H1 = H at hP hS ⊢
        have hP : va_P (dC, dI) vwCl [(qd1, .inr (0, [.ref qk1, .ref qb1, .ref qo1])), (qk1, .inl (ck1, 32, .inl (id_k4 (id_k4 (fun _ => 0) (0 * 16) (65538) (196612) (327686) (458760)) (1 * 16) (0) (0) (0) (0)))), (qb1, .inl (cb1, 8, .inl (id_w4 (id_w4 (fun _ => 0) 0 (1)) 4 (131075)))), (qo1, .inl (co1, 8, .inl (u1))), (qa1, .inl (ca1, 8, .inl (ta1))), (qb2, .inl (cb2, 8, .inl (fun _ => 0))), (qo2, .inl (co2, 8, .inl (fun _ => 0))), (qd2, .inr (0, [.ref qk2, .ref qb2, .ref qo2])), (qk2, .inl (ck2, 32, .inl (f5)))] H := hP
        have hD : va_D A [(qd1, .inr (0, [.ref qk1, .ref qb1, .ref qo1])), (qk1, .inl (ck1, 32, .inl (id_k4 (id_k4 (fun _ => 0) (0 * 16) (65538) (196612) (327686) (458760)) (1 * 16) (0) (0) (0) (0)))), (qb1, .inl (cb1, 8, .inl (id_w4 (id_w4 (fun _ => 0) 0 (1)) 4 (131075)))), (qo1, .inl (co1, 8, .inl (u1))), (qa1, .inl (ca1, 8, .inl (ta1))), (qb2, .inl (cb2, 8, .inl (fun _ => 0))), (qo2, .inl (co2, 8, .inl (fun _ => 0))), (qd2, .inr (0, [.ref qk2, .ref qb2, .ref qo2])), (qk2, .inl (ck2, 32, .inl (f5)))] := hD
        refine W.widen (k := 15) (n := 249) (Nat.le_of_ble_eq_true rfl) (Nat.le_of_ble_eq_true rfl) ?_
        rw [hw_f5] at hP hD
        have hP : va_P (dC, dI) vwCl [(qd1, .inr (0, [.ref qk1, .ref qb1, .ref qo1])), (qk1, .inl (ck1, 32, .inl (id_k4 (id_k4 (fun _ => 0) (0 * 16) (65538) (196612) (327686) (458760)) (1 * 16) (0) (0) (0) (0)))), (qb1, .inl (cb1, 8, .inl (id_w4 (id_w4 (fun _ => 0) 0 (1)) 4 (131075)))), (qo1, .inl (co1, 8, .inl (u1))), (qa1, .inl (ca1, 8, .inl (ta1))), (qb2, .inl (cb2, 8, .inl (fun _ => 0))), (qo2, .inl (co2, 8, .inl (fun _ => 0))), (qd2, .inr (0, [.ref qk2, .ref qb2, .ref qo2])), (qk2, .inl (ck2, 32, .inl (id_k4 (id_k4 (fun _ => 0) (0 * 16) (-2147483648) (0) (0) (0)) (1 * 16) (0) (0) (0) (0))))] H := hP
        have hD : va_D A [(qd1, .inr (0, [.ref qk1, .ref qb1, .ref qo1])), (qk1, .inl (ck1, 32, .inl (id_k4 (id_k4 (fun _ => 0) (0 * 16) (65538) (196612) (327686) (458760)) (1 * 16) (0) (0) (0) (0)))), (qb1, .inl (cb1, 8, .inl (id_w4 (id_w4 (fun _ => 0) 0 (1)) 4 (131075)))), (qo1, .inl (co1, 8, .inl (u1))), (qa1, .inl (ca1, 8, .inl (ta1))), (qb2, .inl (cb2, 8, .inl (fun _ => 0))), (qo2, .inl (co2, 8, .inl (fun _ => 0))), (qd2, .inr (0, [.ref qk2, .ref qb2, .ref qo2])), (qk2, .inl (ck2, 32, .inl (id_k4 (id_k4 (fun _ => 0) (0 * 16) (-2147483648) (0) (0) (0)) (1 * 16) (0) (0) (0) (0))))] := hD
        refine lv_aload_n hx hb dX0_known_146 rfl (lv_at hl 0 rfl) ?_
        refine lv_iconst (v := 0) hx hb dX0_known_147 (by decide +kernel) ?_
        refine lv_iconst (v := 0) hx hb dX0_known_148 (by decide +kernel) ?_
        have hPc := hP.sub (ws' := [(qd2, .inr (0, [.ref qk2, .ref qb2, .ref qo2])), (qb2, .inl (cb2, 8, .inl (fun _ => 0)))]) [7, 5] rfl
        have hDc := hD.sub (ws' := [(qd2, .inr (0, [.ref qk2, .ref qb2, .ref qo2])), (qb2, .inl (cb2, 8, .inl (fun _ => 0)))]) [7, 5] (by decide) rfl
        have hKc := hK.sub (tys' := [(cb2, .byte)]) [5] rfl
        have hFc := va_free (wc := [(qd2, .inr (0, [.ref qk2, .ref qb2, .ref qo2])), (qb2, .inl (cb2, 8, .inl (fun _ => 0)))]) hD hS hA [7, 5] rfl
        refine va_callv (va_runV (As := [.int (0), .int (0)]) (rest := []) ⟨hx, hb, hml, hown, hts⟩ (met_block l dC dI qd2 qk2 qb2 qo2 H.size cb2 (fun _ => 0) (0) (0)) (cwV 2 hts (lw_V q292 q293 q294 q11 q295) rfl rfl rfl (by decide +kernel) ⟨Nat.le_of_ble_eq_true rfl, Nat.le_of_ble_eq_true rfl⟩) ⟨fun a U g mk q => by obtain ⟨q0, q1, qP, qK, qD⟩ := q; exact ⟨q0, q1, qP, va_K.moved (u := U) (U := U.calling g mk a) (Vm.Alike.refl U.vm) qK, qD⟩, va_recv hKc hPc (ci := 0) (q0 := 0) rfl rfl, fun U hU hW => ⟨rfl, by rw [hU], by rw [hU]; exact hPc, va_K.moved hW.alike hKc, hDc.weaken (fun _ _ _ _ => trivial)⟩⟩ rfl rfl hl.1 rfl (lv_room (Nat.le_of_ble_eq_true rfl)) dX0_known_149 ⟨Nat.le_of_ble_eq_true rfl, Nat.le_of_ble_eq_true rfl⟩) hS (fun q _ h => hFc q h) hFc (fun u t H1 locs ht hvm hw hB hz1 hk1 hS => ?_)
        obtain ⟨f6, rfl⟩ : ∃ z, z = u := ⟨_, rfl⟩
        have hw_f6 := hw
        obtain ⟨hP1, hK1, hD1⟩ := hB
        rw [ht] at hP1
        have hK1 := va_K.moved hvm.symm hK1
        obtain ⟨hP, hD⟩ := va_join (wr := [(qd1, .inr (0, [.ref qk1, .ref qb1, .ref qo1])), (qk1, .inl (ck1, 32, .inl (id_k4 (id_k4 (fun _ => 0) (0 * 16) (65538) (196612) (327686) (458760)) (1 * 16) (0) (0) (0) (0)))), (qb1, .inl (cb1, 8, .inl (id_w4 (id_w4 (fun _ => 0) 0 (1)) 4 (131075)))), (qo1, .inl (co1, 8, .inl (u1))), (qa1, .inl (ca1, 8, .inl (ta1))), (qo2, .inl (co2, 8, .inl (fun _ => 0))), (qk2, .inl (ck2, 32, .inl (id_k4 (id_k4 (fun _ => 0) (0 * 16) (-2147483648) (0) (0) (0)) (1 * 16) (0) (0) (0) (0))))]) (w1 := [(qd2, .inr (0, [.ref qk2, .ref qb2, .ref qo2])), (qb2, .inl (cb2, 8, .inl (f6)))]) hP hD [7, 5] [0, 1, 2, 3, 4, 6, 8] rfl rfl (by decide) (by decide) hk1 hFc hP1 hD1
        generalize H1 = H at hP hS ⊢
        have hP : va_P (dC, dI) vwCl [(qd1, .inr (0, [.ref qk1, .ref qb1, .ref qo1])), (qk1, .inl (ck1, 32, .inl (id_k4 (id_k4 (fun _ => 0) (0 * 16) (65538) (196612) (327686) (458760)) (1 * 16) (0) (0) (0) (0)))), (qb1, .inl (cb1, 8, .inl (id_w4 (id_w4 (fun _ => 0) 0 (1)) 4 (131075)))), (qo1, .inl (co1, 8, .inl (u1))), (qa1, .inl (ca1, 8, .inl (ta1))), (qo2, .inl (co2, 8, .inl (fun _ => 0))), (qk2, .inl (ck2, 32, .inl (id_k4 (id_k4 (fun _ => 0) (0 * 16) (-2147483648) (0) (0) (0)) (1 * 16) (0) (0) (0) (0)))), (qd2, .inr (0, [.ref qk2, .ref qb2, .ref qo2])), (qb2, .inl (cb2, 8, .inl (f6)))] H := hP
        have hD : va_D A [(qd1, .inr (0, [.ref qk1, .ref qb1, .ref qo1])), (qk1, .inl (ck1, 32, .inl (id_k4 (id_k4 (fun _ => 0) (0 * 16) (65538) (196612) (327686) (458760)) (1 * 16) (0) (0) (0) (0)))), (qb1, .inl (cb1, 8, .inl (id_w4 (id_w4 (fun _ => 0) 0 (1)) 4 (131075)))), (qo1, .inl (co1, 8, .inl (u1))), (qa1, .inl (ca1, 8, .inl (ta1))), (qo2, .inl (co2, 8, .inl (fun _ => 0))), (qk2, .inl (ck2, 32, .inl (id_k4 (id_k4 (fun _ => 0) (0 * 16) (-2147483648) (0) (0) (0)) (1 * 16) (0) (0) (0) (0)))), (qd2, .inr (0, [.ref qk2, .ref qb2, .ref qo2])), (qb2, .inl (cb2, 8, .inl (f6)))] := hD
        refine W.widen (k := 15) (n := 249) (Nat.le_of_ble_eq_true rfl) (Nat.le_of_ble_eq_true rfl) ?_
        rw [hw_f6] at hP hD
        have hP : va_P (dC, dI) vwCl [(qd1, .inr (0, [.ref qk1, .ref qb1, .ref qo1])), (qk1, .inl (ck1, 32, .inl (id_k4 (id_k4 (fun _ => 0) (0 * 16) (65538) (196612) (327686) (458760)) (1 * 16) (0) (0) (0) (0)))), (qb1, .inl (cb1, 8, .inl (id_w4 (id_w4 (fun _ => 0) 0 (1)) 4 (131075)))), (qo1, .inl (co1, 8, .inl (u1))), (qa1, .inl (ca1, 8, .inl (ta1))), (qo2, .inl (co2, 8, .inl (fun _ => 0))), (qk2, .inl (ck2, 32, .inl (id_k4 (id_k4 (fun _ => 0) (0 * 16) (-2147483648) (0) (0) (0)) (1 * 16) (0) (0) (0) (0)))), (qd2, .inr (0, [.ref qk2, .ref qb2, .ref qo2])), (qb2, .inl (cb2, 8, .inl (id_w4 (id_w4 (fun _ => 0) 0 (0)) 4 (0))))] H := hP
        have hD : va_D A [(qd1, .inr (0, [.ref qk1, .ref qb1, .ref qo1])), (qk1, .inl (ck1, 32, .inl (id_k4 (id_k4 (fun _ => 0) (0 * 16) (65538) (196612) (327686) (458760)) (1 * 16) (0) (0) (0) (0)))), (qb1, .inl (cb1, 8, .inl (id_w4 (id_w4 (fun _ => 0) 0 (1)) 4 (131075)))), (qo1, .inl (co1, 8, .inl (u1))), (qa1, .inl (ca1, 8, .inl (ta1))), (qo2, .inl (co2, 8, .inl (fun _ => 0))), (qk2, .inl (ck2, 32, .inl (id_k4 (id_k4 (fun _ => 0) (0 * 16) (-2147483648) (0) (0) (0)) (1 * 16) (0) (0) (0) (0)))), (qd2, .inr (0, [.ref qk2, .ref qb2, .ref qo2])), (qb2, .inl (cb2, 8, .inl (id_w4 (id_w4 (fun _ => 0) 0 (0)) 4 (0))))] := hD
        refine lv_aload_n hx hb dX0_known_152 rfl (lv_at hl 0 rfl) ?_
        refine lv_iconst (v := 0) hx hb dX0_known_153 (by decide +kernel) ?_
        have hPc := hP.sub (ws' := [(qd2, .inr (0, [.ref qk2, .ref qb2, .ref qo2])), (qk2, .inl (ck2, 32, .inl (id_k4 (id_k4 (fun _ => 0) (0 * 16) (-2147483648) (0) (0) (0)) (1 * 16) (0) (0) (0) (0)))), (qb2, .inl (cb2, 8, .inl (id_w4 (id_w4 (fun _ => 0) 0 (0)) 4 (0)))), (qo2, .inl (co2, 8, .inl (fun _ => 0)))]) [7, 6, 8, 5] rfl
        have hDc := hD.sub (ws' := [(qd2, .inr (0, [.ref qk2, .ref qb2, .ref qo2])), (qk2, .inl (ck2, 32, .inl (id_k4 (id_k4 (fun _ => 0) (0 * 16) (-2147483648) (0) (0) (0)) (1 * 16) (0) (0) (0) (0)))), (qb2, .inl (cb2, 8, .inl (id_w4 (id_w4 (fun _ => 0) 0 (0)) 4 (0)))), (qo2, .inl (co2, 8, .inl (fun _ => 0)))]) [7, 6, 8, 5] (by decide) rfl
        have hKc := hK.sub (tys' := [(ck2, .byte), (cb2, .byte), (co2, .byte)]) [4, 5, 6] rfl
        have hFc := va_free (wc := [(qd2, .inr (0, [.ref qk2, .ref qb2, .ref qo2])), (qk2, .inl (ck2, 32, .inl (id_k4 (id_k4 (fun _ => 0) (0 * 16) (-2147483648) (0) (0) (0)) (1 * 16) (0) (0) (0) (0)))), (qb2, .inl (cb2, 8, .inl (id_w4 (id_w4 (fun _ => 0) 0 (0)) 4 (0)))), (qo2, .inl (co2, 8, .inl (fun _ => 0)))]) hD hS hA [7, 6, 8, 5] rfl
        refine va_callv (va_runV (As := [.int (0)]) (rest := []) ⟨hx, hb, hml, hown, hts⟩ (met_lock l dC dI qd2 qk2 qb2 qo2 H.size ck2 cb2 co2 (id_k4 (id_k4 (fun _ => 0) (0 * 16) (-2147483648) (0) (0) (0)) (1 * 16) (0) (0) (0) (0)) (id_w4 (id_w4 (fun _ => 0) 0 (0)) 4 (0)) (fun _ => 0) (0)) (cwV 1 hts (lw_V q23 q24 q25 q11 q26) rfl rfl rfl (by decide +kernel) ⟨Nat.le_of_ble_eq_true rfl, Nat.le_of_ble_eq_true rfl⟩) ⟨fun a U g mk q => by obtain ⟨q0, q1, qP, qK, qD, qE⟩ := q; exact ⟨q0, q1, qP, va_K.moved (u := U) (U := U.calling g mk a) (Vm.Alike.refl U.vm) qK, qD, id_env.moved (Vm.Alike.refl U.vm) qE⟩, va_recv hKc hPc (ci := 0) (q0 := 0) rfl rfl, fun U hU hW => ⟨rfl, by rw [hU], by rw [hU]; exact hPc, va_K.moved hW.alike hKc, hDc.weaken (fun _ _ _ _ => trivial), id_env.moved hW.alike hE⟩⟩ rfl rfl hl.1 rfl (lv_room (Nat.le_of_ble_eq_true rfl)) dX0_known_154 ⟨Nat.le_of_ble_eq_true rfl, Nat.le_of_ble_eq_true rfl⟩) hS (fun q _ h => hFc q h) hFc (fun u t H1 locs ht hvm hw hB hz1 hk1 hS => ?_)
        obtain ⟨u2, rfl⟩ : ∃ z, z = u := ⟨_, rfl⟩
        have hw_u2 := hw
        obtain ⟨hP1, hK1, hD1⟩ := hB
        rw [ht] at hP1
        have hK1 := va_K.moved hvm.symm hK1
        obtain ⟨hP, hD⟩ := va_join (wr := [(qd1, .inr (0, [.ref qk1, .ref qb1, .ref qo1])), (qk1, .inl (ck1, 32, .inl (id_k4 (id_k4 (fun _ => 0) (0 * 16) (65538) (196612) (327686) (458760)) (1 * 16) (0) (0) (0) (0)))), (qb1, .inl (cb1, 8, .inl (id_w4 (id_w4 (fun _ => 0) 0 (1)) 4 (131075)))), (qo1, .inl (co1, 8, .inl (u1))), (qa1, .inl (ca1, 8, .inl (ta1)))]) (w1 := [(qd2, .inr (0, [.ref qk2, .ref qb2, .ref qo2])), (qk2, .inl (ck2, 32, .inl (id_k4 (id_k4 (fun _ => 0) (0 * 16) (-2147483648) (0) (0) (0)) (1 * 16) (0) (0) (0) (0)))), (qb2, .inl (cb2, 8, .inl (id_w4 (id_w4 (fun _ => 0) 0 (0)) 4 (0)))), (qo2, .inl (co2, 8, .inl (u2)))]) hP hD [7, 6, 8, 5] [0, 1, 2, 3, 4] rfl rfl (by decide) (by decide) hk1 hFc hP1 hD1
        generalize H1 = H at hP hS ⊢
        have hP : va_P (dC, dI) vwCl [(qd1, .inr (0, [.ref qk1, .ref qb1, .ref qo1])), (qk1, .inl (ck1, 32, .inl (id_k4 (id_k4 (fun _ => 0) (0 * 16) (65538) (196612) (327686) (458760)) (1 * 16) (0) (0) (0) (0)))), (qb1, .inl (cb1, 8, .inl (id_w4 (id_w4 (fun _ => 0) 0 (1)) 4 (131075)))), (qo1, .inl (co1, 8, .inl (u1))), (qa1, .inl (ca1, 8, .inl (ta1))), (qd2, .inr (0, [.ref qk2, .ref qb2, .ref qo2])), (qk2, .inl (ck2, 32, .inl (id_k4 (id_k4 (fun _ => 0) (0 * 16) (-2147483648) (0) (0) (0)) (1 * 16) (0) (0) (0) (0)))), (qb2, .inl (cb2, 8, .inl (id_w4 (id_w4 (fun _ => 0) 0 (0)) 4 (0)))), (qo2, .inl (co2, 8, .inl (u2)))] H := hP
        have hD : va_D A [(qd1, .inr (0, [.ref qk1, .ref qb1, .ref qo1])), (qk1, .inl (ck1, 32, .inl (id_k4 (id_k4 (fun _ => 0) (0 * 16) (65538) (196612) (327686) (458760)) (1 * 16) (0) (0) (0) (0)))), (qb1, .inl (cb1, 8, .inl (id_w4 (id_w4 (fun _ => 0) 0 (1)) 4 (131075)))), (qo1, .inl (co1, 8, .inl (u1))), (qa1, .inl (ca1, 8, .inl (ta1))), (qd2, .inr (0, [.ref qk2, .ref qb2, .ref qo2])), (qk2, .inl (ck2, 32, .inl (id_k4 (id_k4 (fun _ => 0) (0 * 16) (-2147483648) (0) (0) (0)) (1 * 16) (0) (0) (0) (0)))), (qb2, .inl (cb2, 8, .inl (id_w4 (id_w4 (fun _ => 0) 0 (0)) 4 (0)))), (qo2, .inl (co2, 8, .inl (u2)))] := hD
        refine W.widen (k := 21) (n := 388) (Nat.le_of_ble_eq_true rfl) (Nat.le_of_ble_eq_true rfl) ?_
        refine lv_bipush (v := nI 8) hx hb dX0_known_157 (by decide +kernel) ?_
        refine va_newa (atype := .int) (ty := .int) (a0 := (8, .inl (fun _ => 0))) hx hb (hts _ q181) rfl hK hP hD hS hA (fun _ => rfl) (nI_pos (by decide)) (nI_clamp (n := 8) (by decide)) (Nat.le_of_ble_eq_true rfl) (Nat.le_of_ble_eq_true rfl) (Nat.le_of_ble_eq_true rfl) dX0_known_159 (fun qa2 ca2 H hK hP hD hS => ?_)
        have hP : va_P (dC, dI) vwCl [(qd1, .inr (0, [.ref qk1, .ref qb1, .ref qo1])), (qk1, .inl (ck1, 32, .inl (id_k4 (id_k4 (fun _ => 0) (0 * 16) (65538) (196612) (327686) (458760)) (1 * 16) (0) (0) (0) (0)))), (qb1, .inl (cb1, 8, .inl (id_w4 (id_w4 (fun _ => 0) 0 (1)) 4 (131075)))), (qo1, .inl (co1, 8, .inl (u1))), (qa1, .inl (ca1, 8, .inl (ta1))), (qd2, .inr (0, [.ref qk2, .ref qb2, .ref qo2])), (qk2, .inl (ck2, 32, .inl (id_k4 (id_k4 (fun _ => 0) (0 * 16) (-2147483648) (0) (0) (0)) (1 * 16) (0) (0) (0) (0)))), (qb2, .inl (cb2, 8, .inl (id_w4 (id_w4 (fun _ => 0) 0 (0)) 4 (0)))), (qo2, .inl (co2, 8, .inl (u2))), (qa2, .inl (ca2, 8, .inl (fun _ => 0)))] H := hP
        have hD : va_D A [(qd1, .inr (0, [.ref qk1, .ref qb1, .ref qo1])), (qk1, .inl (ck1, 32, .inl (id_k4 (id_k4 (fun _ => 0) (0 * 16) (65538) (196612) (327686) (458760)) (1 * 16) (0) (0) (0) (0)))), (qb1, .inl (cb1, 8, .inl (id_w4 (id_w4 (fun _ => 0) 0 (1)) 4 (131075)))), (qo1, .inl (co1, 8, .inl (u1))), (qa1, .inl (ca1, 8, .inl (ta1))), (qd2, .inr (0, [.ref qk2, .ref qb2, .ref qo2])), (qk2, .inl (ck2, 32, .inl (id_k4 (id_k4 (fun _ => 0) (0 * 16) (-2147483648) (0) (0) (0)) (1 * 16) (0) (0) (0) (0)))), (qb2, .inl (cb2, 8, .inl (id_w4 (id_w4 (fun _ => 0) 0 (0)) 4 (0)))), (qo2, .inl (co2, 8, .inl (u2))), (qa2, .inl (ca2, 8, .inl (fun _ => 0)))] := hD
        have hK : va_K (dC, dI) vwCl [(ck1, .byte), (cb1, .byte), (co1, .byte), (ca1, .int), (ck2, .byte), (cb2, .byte), (co2, .byte), (ca2, .int)] s := hK
        refine W.widen (k := 22) (n := 396) (Nat.le_of_ble_eq_true rfl) (Nat.le_of_ble_eq_true rfl) ?_
        refine lv_dup hx hb dX0_known_161 rfl ?_
        refine lv_iconst (v := nI 0) hx hb dX0_known_162 (by decide +kernel) ?_
        refine lv_sipush (v := 177) hx hb dX0_known_163 (by decide +kernel) ?_
        refine va_iast hx hb hK hP hD hS 9 7 rfl rfl (vp_in_nI (by omega) (by omega)) dX0_known_166 (fun H locs hP hD hS => ?_)
        rw [nI_clamp (n := 0) (by omega)] at hP hD
        have hP : va_P (dC, dI) vwCl [(qd1, .inr (0, [.ref qk1, .ref qb1, .ref qo1])), (qk1, .inl (ck1, 32, .inl (id_k4 (id_k4 (fun _ => 0) (0 * 16) (65538) (196612) (327686) (458760)) (1 * 16) (0) (0) (0) (0)))), (qb1, .inl (cb1, 8, .inl (id_w4 (id_w4 (fun _ => 0) 0 (1)) 4 (131075)))), (qo1, .inl (co1, 8, .inl (u1))), (qa1, .inl (ca1, 8, .inl (ta1))), (qd2, .inr (0, [.ref qk2, .ref qb2, .ref qo2])), (qk2, .inl (ck2, 32, .inl (id_k4 (id_k4 (fun _ => 0) (0 * 16) (-2147483648) (0) (0) (0)) (1 * 16) (0) (0) (0) (0)))), (qb2, .inl (cb2, 8, .inl (id_w4 (id_w4 (fun _ => 0) 0 (0)) 4 (0)))), (qo2, .inl (co2, 8, .inl (u2))), (qa2, .inl (ca2, 8, .inl (upd (fun _ => 0) (0) (177))))] H := hP
        have hD : va_D A [(qd1, .inr (0, [.ref qk1, .ref qb1, .ref qo1])), (qk1, .inl (ck1, 32, .inl (id_k4 (id_k4 (fun _ => 0) (0 * 16) (65538) (196612) (327686) (458760)) (1 * 16) (0) (0) (0) (0)))), (qb1, .inl (cb1, 8, .inl (id_w4 (id_w4 (fun _ => 0) 0 (1)) 4 (131075)))), (qo1, .inl (co1, 8, .inl (u1))), (qa1, .inl (ca1, 8, .inl (ta1))), (qd2, .inr (0, [.ref qk2, .ref qb2, .ref qo2])), (qk2, .inl (ck2, 32, .inl (id_k4 (id_k4 (fun _ => 0) (0 * 16) (-2147483648) (0) (0) (0)) (1 * 16) (0) (0) (0) (0)))), (qb2, .inl (cb2, 8, .inl (id_w4 (id_w4 (fun _ => 0) 0 (0)) 4 (0)))), (qo2, .inl (co2, 8, .inl (u2))), (qa2, .inl (ca2, 8, .inl (upd (fun _ => 0) (0) (177))))] := hD
        refine lv_dup hx hb dX0_known_167 rfl ?_
        refine lv_iconst (v := nI 1) hx hb dX0_known_168 (by decide +kernel) ?_
        refine lv_sipush (v := 245) hx hb dX0_known_169 (by decide +kernel) ?_
        refine va_iast hx hb hK hP hD hS 9 7 rfl rfl (vp_in_nI (by omega) (by omega)) dX0_known_172 (fun H locs hP hD hS => ?_)
        rw [nI_clamp (n := 1) (by omega)] at hP hD
        have hP : va_P (dC, dI) vwCl [(qd1, .inr (0, [.ref qk1, .ref qb1, .ref qo1])), (qk1, .inl (ck1, 32, .inl (id_k4 (id_k4 (fun _ => 0) (0 * 16) (65538) (196612) (327686) (458760)) (1 * 16) (0) (0) (0) (0)))), (qb1, .inl (cb1, 8, .inl (id_w4 (id_w4 (fun _ => 0) 0 (1)) 4 (131075)))), (qo1, .inl (co1, 8, .inl (u1))), (qa1, .inl (ca1, 8, .inl (ta1))), (qd2, .inr (0, [.ref qk2, .ref qb2, .ref qo2])), (qk2, .inl (ck2, 32, .inl (id_k4 (id_k4 (fun _ => 0) (0 * 16) (-2147483648) (0) (0) (0)) (1 * 16) (0) (0) (0) (0)))), (qb2, .inl (cb2, 8, .inl (id_w4 (id_w4 (fun _ => 0) 0 (0)) 4 (0)))), (qo2, .inl (co2, 8, .inl (u2))), (qa2, .inl (ca2, 8, .inl (upd (upd (fun _ => 0) (0) (177)) (1) (245))))] H := hP
        have hD : va_D A [(qd1, .inr (0, [.ref qk1, .ref qb1, .ref qo1])), (qk1, .inl (ck1, 32, .inl (id_k4 (id_k4 (fun _ => 0) (0 * 16) (65538) (196612) (327686) (458760)) (1 * 16) (0) (0) (0) (0)))), (qb1, .inl (cb1, 8, .inl (id_w4 (id_w4 (fun _ => 0) 0 (1)) 4 (131075)))), (qo1, .inl (co1, 8, .inl (u1))), (qa1, .inl (ca1, 8, .inl (ta1))), (qd2, .inr (0, [.ref qk2, .ref qb2, .ref qo2])), (qk2, .inl (ck2, 32, .inl (id_k4 (id_k4 (fun _ => 0) (0 * 16) (-2147483648) (0) (0) (0)) (1 * 16) (0) (0) (0) (0)))), (qb2, .inl (cb2, 8, .inl (id_w4 (id_w4 (fun _ => 0) 0 (0)) 4 (0)))), (qo2, .inl (co2, 8, .inl (u2))), (qa2, .inl (ca2, 8, .inl (upd (upd (fun _ => 0) (0) (177)) (1) (245))))] := hD
        refine lv_dup hx hb dX0_known_173 rfl ?_
        refine lv_iconst (v := nI 2) hx hb dX0_known_174 (by decide +kernel) ?_
        refine lv_sipush (v := 247) hx hb dX0_known_175 (by decide +kernel) ?_
        refine va_iast hx hb hK hP hD hS 9 7 rfl rfl (vp_in_nI (by omega) (by omega)) dX0_known_178 (fun H locs hP hD hS => ?_)
        rw [nI_clamp (n := 2) (by omega)] at hP hD
        have hP : va_P (dC, dI) vwCl [(qd1, .inr (0, [.ref qk1, .ref qb1, .ref qo1])), (qk1, .inl (ck1, 32, .inl (id_k4 (id_k4 (fun _ => 0) (0 * 16) (65538) (196612) (327686) (458760)) (1 * 16) (0) (0) (0) (0)))), (qb1, .inl (cb1, 8, .inl (id_w4 (id_w4 (fun _ => 0) 0 (1)) 4 (131075)))), (qo1, .inl (co1, 8, .inl (u1))), (qa1, .inl (ca1, 8, .inl (ta1))), (qd2, .inr (0, [.ref qk2, .ref qb2, .ref qo2])), (qk2, .inl (ck2, 32, .inl (id_k4 (id_k4 (fun _ => 0) (0 * 16) (-2147483648) (0) (0) (0)) (1 * 16) (0) (0) (0) (0)))), (qb2, .inl (cb2, 8, .inl (id_w4 (id_w4 (fun _ => 0) 0 (0)) 4 (0)))), (qo2, .inl (co2, 8, .inl (u2))), (qa2, .inl (ca2, 8, .inl (upd (upd (upd (fun _ => 0) (0) (177)) (1) (245)) (2) (247))))] H := hP
        have hD : va_D A [(qd1, .inr (0, [.ref qk1, .ref qb1, .ref qo1])), (qk1, .inl (ck1, 32, .inl (id_k4 (id_k4 (fun _ => 0) (0 * 16) (65538) (196612) (327686) (458760)) (1 * 16) (0) (0) (0) (0)))), (qb1, .inl (cb1, 8, .inl (id_w4 (id_w4 (fun _ => 0) 0 (1)) 4 (131075)))), (qo1, .inl (co1, 8, .inl (u1))), (qa1, .inl (ca1, 8, .inl (ta1))), (qd2, .inr (0, [.ref qk2, .ref qb2, .ref qo2])), (qk2, .inl (ck2, 32, .inl (id_k4 (id_k4 (fun _ => 0) (0 * 16) (-2147483648) (0) (0) (0)) (1 * 16) (0) (0) (0) (0)))), (qb2, .inl (cb2, 8, .inl (id_w4 (id_w4 (fun _ => 0) 0 (0)) 4 (0)))), (qo2, .inl (co2, 8, .inl (u2))), (qa2, .inl (ca2, 8, .inl (upd (upd (upd (fun _ => 0) (0) (177)) (1) (245)) (2) (247))))] := hD
        refine lv_dup hx hb dX0_known_179 rfl ?_
        refine lv_iconst (v := nI 3) hx hb dX0_known_180 (by decide +kernel) ?_
        refine lv_sipush (v := 248) hx hb dX0_known_181 (by decide +kernel) ?_
        refine va_iast hx hb hK hP hD hS 9 7 rfl rfl (vp_in_nI (by omega) (by omega)) dX0_known_184 (fun H locs hP hD hS => ?_)
        rw [nI_clamp (n := 3) (by omega)] at hP hD
        have hP : va_P (dC, dI) vwCl [(qd1, .inr (0, [.ref qk1, .ref qb1, .ref qo1])), (qk1, .inl (ck1, 32, .inl (id_k4 (id_k4 (fun _ => 0) (0 * 16) (65538) (196612) (327686) (458760)) (1 * 16) (0) (0) (0) (0)))), (qb1, .inl (cb1, 8, .inl (id_w4 (id_w4 (fun _ => 0) 0 (1)) 4 (131075)))), (qo1, .inl (co1, 8, .inl (u1))), (qa1, .inl (ca1, 8, .inl (ta1))), (qd2, .inr (0, [.ref qk2, .ref qb2, .ref qo2])), (qk2, .inl (ck2, 32, .inl (id_k4 (id_k4 (fun _ => 0) (0 * 16) (-2147483648) (0) (0) (0)) (1 * 16) (0) (0) (0) (0)))), (qb2, .inl (cb2, 8, .inl (id_w4 (id_w4 (fun _ => 0) 0 (0)) 4 (0)))), (qo2, .inl (co2, 8, .inl (u2))), (qa2, .inl (ca2, 8, .inl (upd (upd (upd (upd (fun _ => 0) (0) (177)) (1) (245)) (2) (247)) (3) (248))))] H := hP
        have hD : va_D A [(qd1, .inr (0, [.ref qk1, .ref qb1, .ref qo1])), (qk1, .inl (ck1, 32, .inl (id_k4 (id_k4 (fun _ => 0) (0 * 16) (65538) (196612) (327686) (458760)) (1 * 16) (0) (0) (0) (0)))), (qb1, .inl (cb1, 8, .inl (id_w4 (id_w4 (fun _ => 0) 0 (1)) 4 (131075)))), (qo1, .inl (co1, 8, .inl (u1))), (qa1, .inl (ca1, 8, .inl (ta1))), (qd2, .inr (0, [.ref qk2, .ref qb2, .ref qo2])), (qk2, .inl (ck2, 32, .inl (id_k4 (id_k4 (fun _ => 0) (0 * 16) (-2147483648) (0) (0) (0)) (1 * 16) (0) (0) (0) (0)))), (qb2, .inl (cb2, 8, .inl (id_w4 (id_w4 (fun _ => 0) 0 (0)) 4 (0)))), (qo2, .inl (co2, 8, .inl (u2))), (qa2, .inl (ca2, 8, .inl (upd (upd (upd (upd (fun _ => 0) (0) (177)) (1) (245)) (2) (247)) (3) (248))))] := hD
        refine lv_dup hx hb dX0_known_185 rfl ?_
        refine lv_iconst (v := nI 4) hx hb dX0_known_186 (by decide +kernel) ?_
        refine lv_bipush (v := 121) hx hb dX0_known_187 (by decide +kernel) ?_
        refine va_iast hx hb hK hP hD hS 9 7 rfl rfl (vp_in_nI (by omega) (by omega)) dX0_known_189 (fun H locs hP hD hS => ?_)
        rw [nI_clamp (n := 4) (by omega)] at hP hD
        have hP : va_P (dC, dI) vwCl [(qd1, .inr (0, [.ref qk1, .ref qb1, .ref qo1])), (qk1, .inl (ck1, 32, .inl (id_k4 (id_k4 (fun _ => 0) (0 * 16) (65538) (196612) (327686) (458760)) (1 * 16) (0) (0) (0) (0)))), (qb1, .inl (cb1, 8, .inl (id_w4 (id_w4 (fun _ => 0) 0 (1)) 4 (131075)))), (qo1, .inl (co1, 8, .inl (u1))), (qa1, .inl (ca1, 8, .inl (ta1))), (qd2, .inr (0, [.ref qk2, .ref qb2, .ref qo2])), (qk2, .inl (ck2, 32, .inl (id_k4 (id_k4 (fun _ => 0) (0 * 16) (-2147483648) (0) (0) (0)) (1 * 16) (0) (0) (0) (0)))), (qb2, .inl (cb2, 8, .inl (id_w4 (id_w4 (fun _ => 0) 0 (0)) 4 (0)))), (qo2, .inl (co2, 8, .inl (u2))), (qa2, .inl (ca2, 8, .inl (upd (upd (upd (upd (upd (fun _ => 0) (0) (177)) (1) (245)) (2) (247)) (3) (248)) (4) (121))))] H := hP
        have hD : va_D A [(qd1, .inr (0, [.ref qk1, .ref qb1, .ref qo1])), (qk1, .inl (ck1, 32, .inl (id_k4 (id_k4 (fun _ => 0) (0 * 16) (65538) (196612) (327686) (458760)) (1 * 16) (0) (0) (0) (0)))), (qb1, .inl (cb1, 8, .inl (id_w4 (id_w4 (fun _ => 0) 0 (1)) 4 (131075)))), (qo1, .inl (co1, 8, .inl (u1))), (qa1, .inl (ca1, 8, .inl (ta1))), (qd2, .inr (0, [.ref qk2, .ref qb2, .ref qo2])), (qk2, .inl (ck2, 32, .inl (id_k4 (id_k4 (fun _ => 0) (0 * 16) (-2147483648) (0) (0) (0)) (1 * 16) (0) (0) (0) (0)))), (qb2, .inl (cb2, 8, .inl (id_w4 (id_w4 (fun _ => 0) 0 (0)) 4 (0)))), (qo2, .inl (co2, 8, .inl (u2))), (qa2, .inl (ca2, 8, .inl (upd (upd (upd (upd (upd (fun _ => 0) (0) (177)) (1) (245)) (2) (247)) (3) (248)) (4) (121))))] := hD
        refine lv_dup hx hb dX0_known_190 rfl ?_
        refine lv_iconst (v := nI 5) hx hb dX0_known_191 (by decide +kernel) ?_
        refine lv_iconst (v := 1) hx hb dX0_known_192 (by decide +kernel) ?_
        refine va_iast hx hb hK hP hD hS 9 7 rfl rfl (vp_in_nI (by omega) (by omega)) dX0_known_193 (fun H locs hP hD hS => ?_)
        rw [nI_clamp (n := 5) (by omega)] at hP hD
        have hP : va_P (dC, dI) vwCl [(qd1, .inr (0, [.ref qk1, .ref qb1, .ref qo1])), (qk1, .inl (ck1, 32, .inl (id_k4 (id_k4 (fun _ => 0) (0 * 16) (65538) (196612) (327686) (458760)) (1 * 16) (0) (0) (0) (0)))), (qb1, .inl (cb1, 8, .inl (id_w4 (id_w4 (fun _ => 0) 0 (1)) 4 (131075)))), (qo1, .inl (co1, 8, .inl (u1))), (qa1, .inl (ca1, 8, .inl (ta1))), (qd2, .inr (0, [.ref qk2, .ref qb2, .ref qo2])), (qk2, .inl (ck2, 32, .inl (id_k4 (id_k4 (fun _ => 0) (0 * 16) (-2147483648) (0) (0) (0)) (1 * 16) (0) (0) (0) (0)))), (qb2, .inl (cb2, 8, .inl (id_w4 (id_w4 (fun _ => 0) 0 (0)) 4 (0)))), (qo2, .inl (co2, 8, .inl (u2))), (qa2, .inl (ca2, 8, .inl (upd (upd (upd (upd (upd (upd (fun _ => 0) (0) (177)) (1) (245)) (2) (247)) (3) (248)) (4) (121)) (5) (1))))] H := hP
        have hD : va_D A [(qd1, .inr (0, [.ref qk1, .ref qb1, .ref qo1])), (qk1, .inl (ck1, 32, .inl (id_k4 (id_k4 (fun _ => 0) (0 * 16) (65538) (196612) (327686) (458760)) (1 * 16) (0) (0) (0) (0)))), (qb1, .inl (cb1, 8, .inl (id_w4 (id_w4 (fun _ => 0) 0 (1)) 4 (131075)))), (qo1, .inl (co1, 8, .inl (u1))), (qa1, .inl (ca1, 8, .inl (ta1))), (qd2, .inr (0, [.ref qk2, .ref qb2, .ref qo2])), (qk2, .inl (ck2, 32, .inl (id_k4 (id_k4 (fun _ => 0) (0 * 16) (-2147483648) (0) (0) (0)) (1 * 16) (0) (0) (0) (0)))), (qb2, .inl (cb2, 8, .inl (id_w4 (id_w4 (fun _ => 0) 0 (0)) 4 (0)))), (qo2, .inl (co2, 8, .inl (u2))), (qa2, .inl (ca2, 8, .inl (upd (upd (upd (upd (upd (upd (fun _ => 0) (0) (177)) (1) (245)) (2) (247)) (3) (248)) (4) (121)) (5) (1))))] := hD
        refine lv_dup hx hb dX0_known_194 rfl ?_
        refine lv_bipush (v := nI 6) hx hb dX0_known_195 (by decide +kernel) ?_
        refine lv_bipush (v := 55) hx hb dX0_known_197 (by decide +kernel) ?_
        refine va_iast hx hb hK hP hD hS 9 7 rfl rfl (vp_in_nI (by omega) (by omega)) dX0_known_199 (fun H locs hP hD hS => ?_)
        rw [nI_clamp (n := 6) (by omega)] at hP hD
        have hP : va_P (dC, dI) vwCl [(qd1, .inr (0, [.ref qk1, .ref qb1, .ref qo1])), (qk1, .inl (ck1, 32, .inl (id_k4 (id_k4 (fun _ => 0) (0 * 16) (65538) (196612) (327686) (458760)) (1 * 16) (0) (0) (0) (0)))), (qb1, .inl (cb1, 8, .inl (id_w4 (id_w4 (fun _ => 0) 0 (1)) 4 (131075)))), (qo1, .inl (co1, 8, .inl (u1))), (qa1, .inl (ca1, 8, .inl (ta1))), (qd2, .inr (0, [.ref qk2, .ref qb2, .ref qo2])), (qk2, .inl (ck2, 32, .inl (id_k4 (id_k4 (fun _ => 0) (0 * 16) (-2147483648) (0) (0) (0)) (1 * 16) (0) (0) (0) (0)))), (qb2, .inl (cb2, 8, .inl (id_w4 (id_w4 (fun _ => 0) 0 (0)) 4 (0)))), (qo2, .inl (co2, 8, .inl (u2))), (qa2, .inl (ca2, 8, .inl (upd (upd (upd (upd (upd (upd (upd (fun _ => 0) (0) (177)) (1) (245)) (2) (247)) (3) (248)) (4) (121)) (5) (1)) (6) (55))))] H := hP
        have hD : va_D A [(qd1, .inr (0, [.ref qk1, .ref qb1, .ref qo1])), (qk1, .inl (ck1, 32, .inl (id_k4 (id_k4 (fun _ => 0) (0 * 16) (65538) (196612) (327686) (458760)) (1 * 16) (0) (0) (0) (0)))), (qb1, .inl (cb1, 8, .inl (id_w4 (id_w4 (fun _ => 0) 0 (1)) 4 (131075)))), (qo1, .inl (co1, 8, .inl (u1))), (qa1, .inl (ca1, 8, .inl (ta1))), (qd2, .inr (0, [.ref qk2, .ref qb2, .ref qo2])), (qk2, .inl (ck2, 32, .inl (id_k4 (id_k4 (fun _ => 0) (0 * 16) (-2147483648) (0) (0) (0)) (1 * 16) (0) (0) (0) (0)))), (qb2, .inl (cb2, 8, .inl (id_w4 (id_w4 (fun _ => 0) 0 (0)) 4 (0)))), (qo2, .inl (co2, 8, .inl (u2))), (qa2, .inl (ca2, 8, .inl (upd (upd (upd (upd (upd (upd (upd (fun _ => 0) (0) (177)) (1) (245)) (2) (247)) (3) (248)) (4) (121)) (5) (1)) (6) (55))))] := hD
        refine lv_dup hx hb dX0_known_200 rfl ?_
        refine lv_bipush (v := nI 7) hx hb dX0_known_201 (by decide +kernel) ?_
        refine lv_bipush (v := 15) hx hb dX0_known_203 (by decide +kernel) ?_
        refine va_iast hx hb hK hP hD hS 9 7 rfl rfl (vp_in_nI (by omega) (by omega)) dX0_known_205 (fun H locs hP hD hS => ?_)
        rw [nI_clamp (n := 7) (by omega)] at hP hD
        have hP : va_P (dC, dI) vwCl [(qd1, .inr (0, [.ref qk1, .ref qb1, .ref qo1])), (qk1, .inl (ck1, 32, .inl (id_k4 (id_k4 (fun _ => 0) (0 * 16) (65538) (196612) (327686) (458760)) (1 * 16) (0) (0) (0) (0)))), (qb1, .inl (cb1, 8, .inl (id_w4 (id_w4 (fun _ => 0) 0 (1)) 4 (131075)))), (qo1, .inl (co1, 8, .inl (u1))), (qa1, .inl (ca1, 8, .inl (ta1))), (qd2, .inr (0, [.ref qk2, .ref qb2, .ref qo2])), (qk2, .inl (ck2, 32, .inl (id_k4 (id_k4 (fun _ => 0) (0 * 16) (-2147483648) (0) (0) (0)) (1 * 16) (0) (0) (0) (0)))), (qb2, .inl (cb2, 8, .inl (id_w4 (id_w4 (fun _ => 0) 0 (0)) 4 (0)))), (qo2, .inl (co2, 8, .inl (u2))), (qa2, .inl (ca2, 8, .inl (upd (upd (upd (upd (upd (upd (upd (upd (fun _ => 0) (0) (177)) (1) (245)) (2) (247)) (3) (248)) (4) (121)) (5) (1)) (6) (55)) (7) (15))))] H := hP
        have hD : va_D A [(qd1, .inr (0, [.ref qk1, .ref qb1, .ref qo1])), (qk1, .inl (ck1, 32, .inl (id_k4 (id_k4 (fun _ => 0) (0 * 16) (65538) (196612) (327686) (458760)) (1 * 16) (0) (0) (0) (0)))), (qb1, .inl (cb1, 8, .inl (id_w4 (id_w4 (fun _ => 0) 0 (1)) 4 (131075)))), (qo1, .inl (co1, 8, .inl (u1))), (qa1, .inl (ca1, 8, .inl (ta1))), (qd2, .inr (0, [.ref qk2, .ref qb2, .ref qo2])), (qk2, .inl (ck2, 32, .inl (id_k4 (id_k4 (fun _ => 0) (0 * 16) (-2147483648) (0) (0) (0)) (1 * 16) (0) (0) (0) (0)))), (qb2, .inl (cb2, 8, .inl (id_w4 (id_w4 (fun _ => 0) 0 (0)) 4 (0)))), (qo2, .inl (co2, 8, .inl (u2))), (qa2, .inl (ca2, 8, .inl (upd (upd (upd (upd (upd (upd (upd (upd (fun _ => 0) (0) (177)) (1) (245)) (2) (247)) (3) (248)) (4) (121)) (5) (1)) (6) (55)) (7) (15))))] := hD
        refine lv_astore_n (lv' := [(3, .ref qa2), (2, .ref qd2), (1, .ref qa1), (0, .ref qd1)]) hx hb dX0_known_206 rfl hl (by decide) rfl (fun ls hl => ?_)
        refine lv_iconst (v := nI 0) hx hb dX0_known_207 (by decide +kernel) ?_
        refine lv_istore (lv' := [(4, .int (nI 0)), (3, .ref qa2), (2, .ref qd2), (1, .ref qa1), (0, .ref qd1)]) hx hb dX0_known_208 hl (by decide) rfl (fun ls hl => ?_)
        have ha2 : ∀ i, i < 8 → (upd (upd (upd (upd (upd (upd (upd (upd (fun _ => 0) (0) (177)) (1) (245)) (2) (247)) (3) (248)) (4) (121)) (5) (1)) (6) (55)) (7) (15)) i = nI ([177, 245, 247, 248, 121, 1, 55, 15].getD i 0) := by decide +kernel
        generalize upd (upd (upd (upd (upd (upd (upd (upd (fun _ => 0) (0) (177)) (1) (245)) (2) (247)) (3) (248)) (4) (121)) (5) (1)) (6) (55)) (7) (15) = ta2 at hP hD ha2
        have hu2 : ∀ i, i < 8 → (u2 i) &&& 255 = nI ([177, 245, 247, 248, 121, 1, 55, 15].getD i 0) := by rw [hw_u2]; exact id_known1 _
        have key2 : ∀ (n i : Nat), i ≤ 8 → 9 ≤ i + n → ∀ ls : Array Slot, lv_has ls 5 [(4, .int (nI i)), (3, .ref qa2), (2, .ref qd2), (1, .ref qa1), (0, .ref qd1)] → W p l e (headSpec (ws_ yX0_known cX0_known 5 (some .boolean)) { frames := 6, cells := 22, slots := 396, locals := 146 }).room s m ([] : List Value).toArray below meth c H locs 22 396 (MQ below (va_Qi (fun (r : Int32) (_ : Unit) => r = 1) (fun (_ : Unit) (t : State) => va_P (dC, dI) vwCl [] t.heap ∧ va_K (dC, dI) vwCl [] t ∧ va_D A []) A) ([] : List Value).toArray s 22 396 A) (F0 m 210 ls []) := by
          intro n
          induction n with
          | zero => intro i h1 h2; exact absurd h2 (by omega)
          | succ n ih =>
            intro i hi hin ls hl
            refine lv_iload hx hb dX0_known_210 (lv_at hl 0 rfl) ?_
            refine lv_bipush (v := nI 8) hx hb dX0_known_212 (by decide +kernel) ?_
            refine lv_icmp_ge (tgt := 238) hx hb dX0_known_214 (by decide) (fun c214 => ?_) (fun c214 => ?_)
            · refine lv_iconst (v := 1) hx hb dX0_known_238 (by decide +kernel) ?_
              have hP := hP.sub (ws' := []) [] rfl
              have hD := hD.sub (ws' := []) [] (by decide) rfl
              have hK := hK.sub (tys' := []) [] rfl
              have hP9 := hP.sub (ws' := []) [] rfl
              have hD9 := hD.sub (ws' := []) [] (by decide) rfl
              have hK9 := hK.sub (tys' := []) [] rfl
              exact W.zret (v := 1) hx hb hr rfl (fun t ht hW => ⟨⟨1, (), rfl, rfl, by rw [ht]; exact hP9, va_K.moved hW.alike hK9, hD9⟩, hS.F ht⟩) hS.2.2 dX0_known_239
            · have hlt : i + 1 ≤ 8 := by rcases Nat.lt_or_ge i 8 with q | q; exact q; exact absurd (nI_le q (by omega)) c214
              refine lv_aload_n hx hb dX0_known_217 rfl (lv_at hl 2 rfl) ?_
              refine lv_iload hx hb dX0_known_218 (lv_at hl 0 rfl) ?_
              refine vp_callSi (W.runV (As := [.int (nI i)]) (rest := []) ⟨hx, hb, hml, hown, hts⟩ (met_out l dC dI qd2 qk2 qb2 qo2 co2 (u2) (i) (by omega)) (cwV 1 hts (lw_V q299 q300 q301 q11 q302) rfl rfl rfl (by decide +kernel) ⟨Nat.le_of_ble_eq_true rfl, Nat.le_of_ble_eq_true rfl⟩) ⟨fun a U g mk q => by obtain ⟨q0, qP, qK⟩ := q; exact ⟨q0, qP, va_K.moved (u := U) (U := U.calling g mk a) (Vm.Alike.refl U.vm) qK⟩, va_recv hK hP (ci := 0) (q0 := 5) rfl rfl, fun U hU hW => ⟨rfl, by rw [hU]; exact hP.sub (ws' := [(qd2, .inr (0, [.ref qk2, .ref qb2, .ref qo2])), (qo2, .inl (co2, 8, .inl (u2)))]) [5, 8] rfl, va_K.moved hW.alike (hK.sub (tys' := [(co2, .byte)]) [6] rfl)⟩⟩ rfl rfl hl.1 rfl (lv_room (Nat.le_of_ble_eq_true rfl)) dX0_known_220 ⟨Nat.le_of_ble_eq_true rfl, Nat.le_of_ble_eq_true rfl⟩) (fun z ez => ?_)
              refine id_is (y := ((u2) (i)) &&& 255) (ez) ?_
              refine lv_aload_n hx hb dX0_known_223 rfl (lv_at hl 1 rfl) ?_
              refine lv_iload hx hb dX0_known_224 (lv_at hl 0 rfl) ?_
              refine va_iald hx hb hK hP 9 7 rfl rfl (vp_in_nI (by omega) (by omega)) dX0_known_226 ?_
              refine id_is (y := (ta2) (i)) (by rw [nI_clamp (n := i) (by omega)]) ?_
              refine lv_icmp_eq (tgt := 232) hx hb dX0_known_227 (by decide) (fun c227 => ?_) (fun c227 => ?_)
              · refine lv_iinc (v := nI (i + 1)) (lv' := [(4, .int (nI (i + 1))), (3, .ref qa2), (2, .ref qd2), (1, .ref qa1), (0, .ref qd1)]) hx hb dX0_known_232 hl (k := 0) rfl (id_inc (by omega)) (by decide) rfl (fun ls hl => ?_)
                refine lv_goto (tgt := 210) hx hb dX0_known_235 (by decide) ?_
                exact ih (i + 1) hlt (by omega) ls (lv_sub hl [0, 1, 2, 3, 4] rfl)
              · exact absurd ((hu2 i (by omega)).trans (ha2 i (by omega)).symm) c227
        exact key2 9 0 (by decide) (by decide) ls (lv_sub hl [0, 1, 2, 3, 4] rfl)
      · have hlt : i + 1 ≤ 8 := by rcases Nat.lt_or_ge i 8 with q | q; exact q; exact absurd (nI_le q (by omega)) c97
        refine lv_aload_n hx hb dX0_known_100 rfl (lv_at hl 2 rfl) ?_
        refine lv_iload_n hx hb dX0_known_101 rfl (lv_at hl 0 rfl) ?_
        refine vp_callSi (W.runV (As := [.int (nI i)]) (rest := []) ⟨hx, hb, hml, hown, hts⟩ (met_out l dC dI qd1 qk1 qb1 qo1 co1 (u1) (i) (by omega)) (cwV 1 hts (lw_V q299 q300 q301 q11 q302) rfl rfl rfl (by decide +kernel) ⟨Nat.le_of_ble_eq_true rfl, Nat.le_of_ble_eq_true rfl⟩) ⟨fun a U g mk q => by obtain ⟨q0, qP, qK⟩ := q; exact ⟨q0, qP, va_K.moved (u := U) (U := U.calling g mk a) (Vm.Alike.refl U.vm) qK⟩, va_recv hK hP (ci := 0) (q0 := 0) rfl rfl, fun U hU hW => ⟨rfl, by rw [hU]; exact hP.sub (ws' := [(qd1, .inr (0, [.ref qk1, .ref qb1, .ref qo1])), (qo1, .inl (co1, 8, .inl (u1)))]) [0, 3] rfl, va_K.moved hW.alike (hK.sub (tys' := [(co1, .byte)]) [2] rfl)⟩⟩ rfl rfl hl.1 rfl (lv_room (Nat.le_of_ble_eq_true rfl)) dX0_known_102 ⟨Nat.le_of_ble_eq_true rfl, Nat.le_of_ble_eq_true rfl⟩) (fun z ez => ?_)
        refine id_is (y := ((u1) (i)) &&& 255) (ez) ?_
        refine lv_aload_n hx hb dX0_known_105 rfl (lv_at hl 1 rfl) ?_
        refine lv_iload_n hx hb dX0_known_106 rfl (lv_at hl 0 rfl) ?_
        refine va_iald hx hb hK hP 4 3 rfl rfl (vp_in_nI (by omega) (by omega)) dX0_known_107 ?_
        refine id_is (y := (ta1) (i)) (by rw [nI_clamp (n := i) (by omega)]) ?_
        refine lv_icmp_eq (tgt := 113) hx hb dX0_known_108 (by decide) (fun c108 => ?_) (fun c108 => ?_)
        · refine lv_iinc (v := nI (i + 1)) (lv' := [(2, .int (nI (i + 1))), (1, .ref qa1), (0, .ref qd1)]) hx hb dX0_known_113 hl (k := 0) rfl (id_inc (by omega)) (by decide) rfl (fun ls hl => ?_)
          refine lv_goto (tgt := 94) hx hb dX0_known_116 (by decide) ?_
          exact ih (i + 1) hlt (by omega) ls (lv_sub hl [0, 1, 2] rfl)
        · exact absurd ((hu1 i (by omega)).trans (ha1 i (by omega)).symm) c108
  exact key1 9 0 (by decide) (by decide) ls (lv_sub hl [0, 1, 2] rfl)
end
section
set_option maxRecDepth 100000
/-! THE CLAIM OUT OF ONE WALK OF THE LAW'S BODY. Your part is whole_start (and what it stands on); all else here is the same for every law, but numbers. -/
def R_law : String := "IdeaDeskLaw"
def lw_P (b : Addr) (xs : List Int32) (args : Array Value) (s : State) : Prop := args = #[.ref b] ∧ s.IntsAt b xs ∧ xs.length ≤ 10 ∧ (Jvm.Cond.and given_1 narrow_1).before args s = true
def lw_Q (_ : Array Value) (s : State) (o : Outcome) (t : State) : Prop := o = .returned (some (.int 1)) ∧ Framed s o t [] 600020 7302070
def lw_Z (below : List Frame) (a : Array Value) (s : State) : State → Prop := fun t => ∃ o, t.status = .running ∧ Ended t below o ∧ lw_Q a s o t
/-- the law's own end, with 1 on the stack, nothing written that was there before, its room as the claim has it -/
theorem lw_ret {p : Program} {l : Launch} {e : Env} {s : State} {m : MethodId} {below : List Frame} {meth : Method} {c : Code} {b : Nat} (hx : p.tables.exec = Jvm.exec) (hb : c.code = code) (hr : meth.sig.returnType = ret) (hlocks : meth.locks = false) {pc : Nat} {H : Heap} {ls : Array Slot} (hdg : decode code pc = .ok (.ireturn, 1)) : W p l e room_1 s m #[Value.ref b] below meth c H [] 600020 7302070 (lw_Z below #[Value.ref b] s) (F0 m pc ls [.int 1]) := by
  intro T hT X
  obtain ⟨fs, hret, hrun, hended, hW, hframe⟩ := X.leave (v := some (.int 1)) (hlocks := hlocks) (fun h => by rw [hr] at h; cases h)
  have hmeth' : T.vm.method? m = some meth := X.method'
  refine ⟨T.setFrames fs, ?_, .returned (some (.int 1)), hrun, hended, rfl, ⟨_, rfl⟩, hW, hframe⟩
  jvm_step X.here [X.here.top, hx, hb, hdg, hmeth', hr, ret, narrow_b1]
  (try refine ⟨rfl, ?_⟩); (try refine ⟨rfl, ?_⟩)
  first | (intro acts; rw [hret _ acts rfl rfl rfl]) | rw [hret _ _ rfl rfl rfl]
  exact Steps.refl _
/-- what holds at the law's entry: the machine, the code, the tables' words (any of lw_tbl by 'hts w (by decide +kernel)'), the script of L ints xs at the cell b, what the Statement gives of the start (any of its parts by flat_of_before) -/
def lw_At (p : Program) (s : State) (m : MethodId) (meth : Method) (c : Code) (b L : Nat) (xs : Nat → Int32) : Prop :=
  p.tables.exec = Jvm.exec ∧ c.code = code ∧ meth.sig.returnType = ret ∧ c.maxLocals = 8 ∧ s.vm.findClass R_law = some m.cls ∧ (∀ w ∈ lw_tbl, w.before #[Value.ref b] s = true) ∧ va_X b L xs s s.heap ∧ b < s.heap.size ∧ meth.locks = false ∧ (Jvm.Cond.and given_1 narrow_1).before #[Value.ref b] s = true
end
section
/-! the law from its entry -/
set_option maxRecDepth 100000
set_option maxHeartbeats 4000000 in
set_option maxRecDepth 100000 in
/-- the law, from its entry -/
theorem id_whole {p : Program} {e : Env} {s : State} {m : MethodId} {below : List Frame} {meth : Method} {c : Code} (l : Launch) {sc L : Nat} {xs : Nat → Int32} (hL10 : L ≤ 10) (C0 : lw_At p s m meth c sc L xs) : W p l e room_1 s m #[Value.ref sc] below meth c s.heap [] 0 0 (lw_Z below #[Value.ref sc] s) (entryFrame m ([Value.ref sc] : List Value).toArray 8) := by
  obtain ⟨hx, hb, hr, hml, hown, hts0, hX, hbl, hlocks, hgv⟩ := C0
  have hL : L < 2 ^ 31 := Nat.lt_of_le_of_lt hL10 (by decide)
  have hown : s.vm.findClass RX0 = some m.cls := hown
  have hts : ∀ w ∈ lw_all, w.before #[Value.ref sc] s = true := fun w h => hts0 w (lw_all_tbl h)
  have hA : ∀ q : Nat, s.heap.size ≤ q → (fun q : Nat => s.heap.size ≤ q) q := fun _ h => h
  have hbA : ¬ (fun q : Nat => s.heap.size ≤ q) sc := Nat.not_le.mpr hbl
  obtain ⟨k1, iS1, hKn1⟩ := u_known (C := RX1) (T := TX1) (N := 3) (n := 3) hts in_X1 (hts _ q30)
  obtain ⟨k2, iS2, hKn2⟩ := u_known (C := RX2) (T := TX2) (N := 2) (n := 2) hts in_X2 (hts _ q36)
  obtain ⟨k3, iS3, hKn3⟩ := u_known (C := RX3) (T := TX3) (N := 1) (n := 1) hts in_X3 (hts _ q52)
  obtain ⟨dC, dI, hKc⟩ : ∃ (dC : Nat → ClassId) (dI : Nat → Nat → Nat), ∀ (k : Nat) (q : vw_C), vwCl[k]? = some q → u_Kn s q.1 q.2.1 q.2.2 (dC k) (dI k) := by
    refine ⟨fun k => if k = 0 then k1 else if k = 1 then k2 else k3, fun k => if k = 0 then iS1 else if k = 1 then iS2 else iS3, ?_⟩
    intro k q hq
    match k, hq with
    | 0, hq => cases hq; exact hKn1
    | 1, hq => cases hq; exact hKn2
    | 2, hq => cases hq; exact hKn3
    | k + 3, hq => simp [vwCl] at hq
  have hE : id_env s := ⟨va_Fw.of (hts0 _ q73) (hts0 _ q72) (hts0 _ q78) (hts0 _ q76) (hts0 _ q74), va_Fw.of (hts0 _ q185) (hts0 _ q184) (hts0 _ q189) (hts0 _ q187) (hts0 _ q74)⟩
  have hS : va_S (fun q : Nat => s.heap.size ≤ q) s.heap s.heap [] := va_S.rf
  have hK : va_K (dC, dI) vwCl [] s := ⟨hKc, fun k q h => by simp at h⟩
  have hP : va_P (dC, dI) vwCl [] s.heap := fun k q h => by simp at h
  have hD : va_D (fun q : Nat => s.heap.size ≤ q) [] := ⟨fun i j p q h => by simp at h, fun k q h => by simp at h⟩
  have hl := lv_entry ([.ref sc]) (n := 8) (Nat.le_of_ble_eq_true rfl)
  rw [lg_entry_eq]
  generalize (lg_sl ([.ref sc]) ++ List.replicate (8 - (lg_sl ([.ref sc])).length) Slot.unset).toArray = ls at hl ⊢
  have hl : lv_has ls 8 [(0, .ref sc)] := hl
  have hPc := hP.sub (ws' := []) [] rfl
  have hDc := hD.sub (ws' := []) [] (by decide) rfl
  have hKc := hK.sub (tys' := []) [] rfl
  have hFc := va_free (wc := []) hD hS hA [] rfl
  refine va_calli (va_runS (As := []) (rest := []) ⟨hx, hb, hml, hown, hts⟩ (met_known l dC dI s.heap.size) (va_cwS 0 hts (lw_S q303 q304 q10 q305) rfl rfl rfl (by decide +kernel) ⟨Nat.le_of_ble_eq_true rfl, Nat.le_of_ble_eq_true rfl⟩) ⟨fun a U g mk q => by obtain ⟨q0, q1, qP, qK, qD, qE⟩ := q; exact ⟨q0, q1, qP, va_K.moved (u := U) (U := U.calling g mk a) (Vm.Alike.refl U.vm) qK, qD, id_env.moved (Vm.Alike.refl U.vm) qE⟩, fun U hU hW => ⟨rfl, by rw [hU], by rw [hU]; exact hPc, va_K.moved hW.alike hKc, hDc.weaken (fun _ _ _ _ => trivial), id_env.moved hW.alike hE⟩⟩ rfl rfl hl.1 rfl (lv_room (Nat.le_of_ble_eq_true rfl)) dL_law_0 ⟨Nat.le_of_ble_eq_true rfl, Nat.le_of_ble_eq_true rfl⟩) hS (fun q _ h => hFc q h) hFc (fun r0 u t H1 locs ht hvm hw hB hz1 hk1 hS => ?_)
  obtain ⟨hP1, hK1, hD1⟩ := hB
  rw [ht] at hP1
  have hK1 := va_K.moved hvm.symm hK1
  obtain ⟨hP, hD⟩ := va_join (wr := []) (w1 := []) hP hD [] [] rfl rfl (by decide) (by decide) hk1 hFc hP1 hD1
  have hK := (hK.sub (tys' := []) [] rfl).app hK1
  generalize H1 = H at hP hS ⊢
  have hP : va_P (dC, dI) vwCl [] H := hP
  have hD : va_D (fun q : Nat => s.heap.size ≤ q) [] := hD
  have hK : va_K (dC, dI) vwCl [] s := hK
  refine W.widen (k := 22) (n := 396) (Nat.le_of_ble_eq_true rfl) (Nat.le_of_ble_eq_true rfl) ?_
  refine lv_if_ne (tgt := 8) hx hb dL_law_3 (by decide) (fun c3 => ?_) (fun c3 => ?_)
  · refine lv_iconst (v := nI 1) hx hb dL_law_8 (by decide +kernel) ?_
    refine va_newa (atype := .int) (ty := .int) (a0 := (1, .inl (fun _ => 0))) hx hb (hts _ q181) rfl hK hP hD hS hA (fun _ => rfl) (nI_pos (by decide)) (nI_clamp (n := 1) (by decide)) (Nat.le_of_ble_eq_true rfl) (Nat.le_of_ble_eq_true rfl) (Nat.le_of_ble_eq_true rfl) dL_law_9 (fun qz cz H hK hP hD hS => ?_)
    have hP : va_P (dC, dI) vwCl [(qz, .inl (cz, 1, .inl (fun _ => 0)))] H := hP
    have hD : va_D (fun q : Nat => s.heap.size ≤ q) [(qz, .inl (cz, 1, .inl (fun _ => 0)))] := hD
    have hK : va_K (dC, dI) vwCl [(cz, .int)] s := hK
    refine W.widen (k := 23) (n := 397) (Nat.le_of_ble_eq_true rfl) (Nat.le_of_ble_eq_true rfl) ?_
    refine lv_dup hx hb dL_law_11 rfl ?_
    refine lv_iconst (v := nI 0) hx hb dL_law_12 (by decide +kernel) ?_
    refine lv_iconst (v := 0) hx hb dL_law_13 (by decide +kernel) ?_
    refine va_iast hx hb hK hP hD hS 0 0 rfl rfl (vp_in_nI (by omega) (by omega)) dL_law_14 (fun H locs hP hD hS => ?_)
    rw [nI_clamp (n := 0) (by omega)] at hP hD
    have hP : va_P (dC, dI) vwCl [(qz, .inl (cz, 1, .inl (upd (fun _ => 0) (0) (0))))] H := hP
    have hD : va_D (fun q : Nat => s.heap.size ≤ q) [(qz, .inl (cz, 1, .inl (upd (fun _ => 0) (0) (0))))] := hD
    refine lv_astore_n (lv' := [(1, .ref qz), (0, .ref sc)]) hx hb dL_law_15 rfl hl (by decide) rfl (fun ls hl => ?_)
    refine lv_aload_n hx hb dL_law_16 rfl (lv_at hl 0 rfl) ?_
    refine lv_astore_n (lv' := [(2, .ref qz), (1, .ref qz), (0, .ref sc)]) hx hb dL_law_17 rfl hl (by decide) rfl (fun ls hl => ?_)
    refine lv_aload_n hx hb dL_law_18 rfl (lv_at hl 0 rfl) ?_
    refine va_alen (v := nI 1) hx hb hK hP 0 0 rfl rfl rfl dL_law_19 ?_
    refine lv_istore_n (lv' := [(3, .int (nI 1)), (2, .ref qz), (1, .ref qz), (0, .ref sc)]) hx hb dL_law_20 rfl hl (by decide) rfl (fun ls hl => ?_)
    refine lv_iconst (v := nI 0) hx hb dL_law_21 (by decide +kernel) ?_
    refine lv_istore (lv' := [(4, .int (nI 0)), (3, .int (nI 1)), (2, .ref qz), (1, .ref qz), (0, .ref sc)]) hx hb dL_law_22 hl (by decide) rfl (fun ls hl => ?_)
    refine lv_iload hx hb dL_law_24 (lv_at hl 0 rfl) ?_
    refine lv_iload_n hx hb dL_law_26 rfl (lv_at hl 1 rfl) ?_
    refine lv_icmp_ge (tgt := 112) hx hb dL_law_27 (by decide) (fun c27 => ?_) (fun c27 => ?_)
    · exact absurd c27 (nI_ge (by decide) (by decide))
    · refine lv_aload_n hx hb dL_law_30 rfl (lv_at hl 2 rfl) ?_
      refine lv_iload hx hb dL_law_31 (lv_at hl 0 rfl) ?_
      refine va_iald hx hb hK hP 0 0 rfl rfl (vp_in_nI (by omega) (by omega)) dL_law_33 ?_
      refine id_is (y := (upd (fun _ => 0) (0) (0)) (0)) (by rw [nI_clamp (n := 0) (by omega)]) ?_
      refine lv_topi (fun kd e_kd => ?_)
      refine lv_istore (lv' := [(5, .int kd), (4, .int (nI 0)), (3, .int (nI 1)), (2, .ref qz), (1, .ref qz), (0, .ref sc)]) hx hb dL_law_34 hl (by decide) rfl (fun ls hl => ?_)
      refine lv_aload_n hx hb dL_law_36 rfl (lv_at hl 5 rfl) ?_
      have hPc := hP.sub (ws' := []) [] rfl
      have hDc := hD.sub (ws' := []) [] (by decide) rfl
      have hKc := hK.sub (tys' := []) [] rfl
      have hFc := va_free (wc := []) hD hS hA [] rfl
      refine va_callr (va_runS (As := [.ref sc]) (rest := []) ⟨hx, hb, hml, hown, hts⟩ (met_with l dC dI sc H.size L xs hL) (va_cwS 1 hts (lw_S q264 q265 q10 q266) rfl rfl rfl (by decide +kernel) ⟨Nat.le_of_ble_eq_true rfl, Nat.le_of_ble_eq_true rfl⟩) ⟨fun a U g mk q => by obtain ⟨q0, q1, qP, qK, qD, qX⟩ := q; exact ⟨q0, q1, qP, va_K.moved (u := U) (U := U.calling g mk a) (Vm.Alike.refl U.vm) qK, qD, va_X.moved (u := U) (U := U.calling g mk a) (Vm.Alike.refl U.vm) qX⟩, fun U hU hW => ⟨rfl, by rw [hU], by rw [hU]; exact hPc, va_K.moved hW.alike hKc, hDc.weaken (fun _ _ _ _ => trivial), by rw [hU]; exact va_X.moved hW.alike (hX.kept (hS.2.1 sc hbl hbA))⟩⟩ rfl rfl hl.1 rfl (lv_room (Nat.le_of_ble_eq_true rfl)) dL_law_37 ⟨Nat.le_of_ble_eq_true rfl, Nat.le_of_ble_eq_true rfl⟩) hS (fun q _ h => hFc q h) hFc (fun u qd1 t H1 locs ht hvm hw hB hz1 hk1 hS => ?_)
      obtain ⟨qk1, qb1, qo1, ck1, cb1, co1, hP1, hK1, hD1⟩ := hB
      rw [ht] at hP1
      have hK1 := va_K.moved hvm.symm hK1
      obtain ⟨hP, hD⟩ := va_join (wr := [(qz, .inl (cz, 1, .inl (upd (fun _ => 0) (0) (0))))]) (w1 := [(qd1, .inr (0, [.ref qk1, .ref qb1, .ref qo1])), (qk1, .inl (ck1, 32, .inl (id_ck L xs))), (qb1, .inl (cb1, 8, .inl (id_cb L xs))), (qo1, .inl (co1, 8, .inl (fun _ => 0)))]) hP hD [] [0] rfl rfl (by decide) (by decide) hk1 hFc hP1 hD1
      have hK := (hK.sub (tys' := [(cz, .int)]) [0] rfl).app hK1
      generalize H1 = H at hP hS ⊢
      have hP : va_P (dC, dI) vwCl [(qz, .inl (cz, 1, .inl (upd (fun _ => 0) (0) (0)))), (qd1, .inr (0, [.ref qk1, .ref qb1, .ref qo1])), (qk1, .inl (ck1, 32, .inl (id_ck L xs))), (qb1, .inl (cb1, 8, .inl (id_cb L xs))), (qo1, .inl (co1, 8, .inl (fun _ => 0)))] H := hP
      have hD : va_D (fun q : Nat => s.heap.size ≤ q) [(qz, .inl (cz, 1, .inl (upd (fun _ => 0) (0) (0)))), (qd1, .inr (0, [.ref qk1, .ref qb1, .ref qo1])), (qk1, .inl (ck1, 32, .inl (id_ck L xs))), (qb1, .inl (cb1, 8, .inl (id_cb L xs))), (qo1, .inl (co1, 8, .inl (fun _ => 0)))] := hD
      have hK : va_K (dC, dI) vwCl [(cz, .int), (ck1, .byte), (cb1, .byte), (co1, .byte)] s := hK
      refine W.widen (k := 27) (n := 448) (Nat.le_of_ble_eq_true rfl) (Nat.le_of_ble_eq_true rfl) ?_
      refine lv_astore (lv' := [(6, .ref qd1), (5, .int kd), (4, .int (nI 0)), (3, .int (nI 1)), (2, .ref qz), (1, .ref qz), (0, .ref sc)]) hx hb dL_law_40 hl (by decide) rfl (fun ls hl => ?_)
      refine lv_aload_n hx hb dL_law_42 rfl (lv_at hl 6 rfl) ?_
      have hPc := hP.sub (ws' := []) [] rfl
      have hDc := hD.sub (ws' := []) [] (by decide) rfl
      have hKc := hK.sub (tys' := []) [] rfl
      have hFc := va_free (wc := []) hD hS hA [] rfl
      refine va_callr (va_runS (As := [.ref sc]) (rest := []) ⟨hx, hb, hml, hown, hts⟩ (met_with l dC dI sc H.size L xs hL) (va_cwS 1 hts (lw_S q264 q265 q10 q266) rfl rfl rfl (by decide +kernel) ⟨Nat.le_of_ble_eq_true rfl, Nat.le_of_ble_eq_true rfl⟩) ⟨fun a U g mk q => by obtain ⟨q0, q1, qP, qK, qD, qX⟩ := q; exact ⟨q0, q1, qP, va_K.moved (u := U) (U := U.calling g mk a) (Vm.Alike.refl U.vm) qK, qD, va_X.moved (u := U) (U := U.calling g mk a) (Vm.Alike.refl U.vm) qX⟩, fun U hU hW => ⟨rfl, by rw [hU], by rw [hU]; exact hPc, va_K.moved hW.alike hKc, hDc.weaken (fun _ _ _ _ => trivial), by rw [hU]; exact va_X.moved hW.alike (hX.kept (hS.2.1 sc hbl hbA))⟩⟩ rfl rfl hl.1 rfl (lv_room (Nat.le_of_ble_eq_true rfl)) dL_law_43 ⟨Nat.le_of_ble_eq_true rfl, Nat.le_of_ble_eq_true rfl⟩) hS (fun q _ h => hFc q h) hFc (fun u qd2 t H1 locs ht hvm hw hB hz1 hk1 hS => ?_)
      obtain ⟨qk2, qb2, qo2, ck2, cb2, co2, hP1, hK1, hD1⟩ := hB
      rw [ht] at hP1
      have hK1 := va_K.moved hvm.symm hK1
      obtain ⟨hP, hD⟩ := va_join (wr := [(qz, .inl (cz, 1, .inl (upd (fun _ => 0) (0) (0)))), (qd1, .inr (0, [.ref qk1, .ref qb1, .ref qo1])), (qk1, .inl (ck1, 32, .inl (id_ck L xs))), (qb1, .inl (cb1, 8, .inl (id_cb L xs))), (qo1, .inl (co1, 8, .inl (fun _ => 0)))]) (w1 := [(qd2, .inr (0, [.ref qk2, .ref qb2, .ref qo2])), (qk2, .inl (ck2, 32, .inl (id_ck L xs))), (qb2, .inl (cb2, 8, .inl (id_cb L xs))), (qo2, .inl (co2, 8, .inl (fun _ => 0)))]) hP hD [] [0, 1, 2, 3, 4] rfl rfl (by decide) (by decide) hk1 hFc hP1 hD1
      have hK := (hK.sub (tys' := [(cz, .int), (ck1, .byte), (cb1, .byte), (co1, .byte)]) [0, 1, 2, 3] rfl).app hK1
      generalize H1 = H at hP hS ⊢
      have hP : va_P (dC, dI) vwCl [(qz, .inl (cz, 1, .inl (upd (fun _ => 0) (0) (0)))), (qd1, .inr (0, [.ref qk1, .ref qb1, .ref qo1])), (qk1, .inl (ck1, 32, .inl (id_ck L xs))), (qb1, .inl (cb1, 8, .inl (id_cb L xs))), (qo1, .inl (co1, 8, .inl (fun _ => 0))), (qd2, .inr (0, [.ref qk2, .ref qb2, .ref qo2])), (qk2, .inl (ck2, 32, .inl (id_ck L xs))), (qb2, .inl (cb2, 8, .inl (id_cb L xs))), (qo2, .inl (co2, 8, .inl (fun _ => 0)))] H := hP
      have hD : va_D (fun q : Nat => s.heap.size ≤ q) [(qz, .inl (cz, 1, .inl (upd (fun _ => 0) (0) (0)))), (qd1, .inr (0, [.ref qk1, .ref qb1, .ref qo1])), (qk1, .inl (ck1, 32, .inl (id_ck L xs))), (qb1, .inl (cb1, 8, .inl (id_cb L xs))), (qo1, .inl (co1, 8, .inl (fun _ => 0))), (qd2, .inr (0, [.ref qk2, .ref qb2, .ref qo2])), (qk2, .inl (ck2, 32, .inl (id_ck L xs))), (qb2, .inl (cb2, 8, .inl (id_cb L xs))), (qo2, .inl (co2, 8, .inl (fun _ => 0)))] := hD
      have hK : va_K (dC, dI) vwCl [(cz, .int), (ck1, .byte), (cb1, .byte), (co1, .byte), (ck2, .byte), (cb2, .byte), (co2, .byte)] s := hK
      refine W.widen (k := 31) (n := 499) (Nat.le_of_ble_eq_true rfl) (Nat.le_of_ble_eq_true rfl) ?_
      refine lv_astore (lv' := [(7, .ref qd2), (6, .ref qd1), (5, .int kd), (4, .int (nI 0)), (3, .int (nI 1)), (2, .ref qz), (1, .ref qz), (0, .ref sc)]) hx hb dL_law_46 hl (by decide) rfl (fun ls hl => ?_)
      refine lv_aload hx hb dL_law_48 (lv_at hl 1 rfl) ?_
      refine lv_iload hx hb dL_law_50 (lv_at hl 2 rfl) ?_
      have hPc := hP.sub (ws' := [(qd1, .inr (0, [.ref qk1, .ref qb1, .ref qo1])), (qk1, .inl (ck1, 32, .inl (id_ck L xs))), (qb1, .inl (cb1, 8, .inl (id_cb L xs))), (qo1, .inl (co1, 8, .inl (fun _ => 0)))]) [1, 2, 3, 4] rfl
      have hDc := hD.sub (ws' := [(qd1, .inr (0, [.ref qk1, .ref qb1, .ref qo1])), (qk1, .inl (ck1, 32, .inl (id_ck L xs))), (qb1, .inl (cb1, 8, .inl (id_cb L xs))), (qo1, .inl (co1, 8, .inl (fun _ => 0)))]) [1, 2, 3, 4] (by decide) rfl
      have hKc := hK.sub (tys' := [(ck1, .byte), (cb1, .byte), (co1, .byte)]) [1, 2, 3] rfl
      have hFc := va_free (wc := [(qd1, .inr (0, [.ref qk1, .ref qb1, .ref qo1])), (qk1, .inl (ck1, 32, .inl (id_ck L xs))), (qb1, .inl (cb1, 8, .inl (id_cb L xs))), (qo1, .inl (co1, 8, .inl (fun _ => 0)))]) hD hS hA [1, 2, 3, 4] rfl
      refine va_callv (va_runV (As := [.int kd]) (rest := []) ⟨hx, hb, hml, hown, hts⟩ (met_lock l dC dI qd1 qk1 qb1 qo1 H.size ck1 cb1 co1 (id_ck L xs) (id_cb L xs) (fun _ => 0) (kd)) (cwV 1 hts (lw_V q23 q24 q25 q11 q26) rfl rfl rfl (by decide +kernel) ⟨Nat.le_of_ble_eq_true rfl, Nat.le_of_ble_eq_true rfl⟩) ⟨fun a U g mk q => by obtain ⟨q0, q1, qP, qK, qD, qE⟩ := q; exact ⟨q0, q1, qP, va_K.moved (u := U) (U := U.calling g mk a) (Vm.Alike.refl U.vm) qK, qD, id_env.moved (Vm.Alike.refl U.vm) qE⟩, va_recv hKc hPc (ci := 0) (q0 := 0) rfl rfl, fun U hU hW => ⟨rfl, by rw [hU], by rw [hU]; exact hPc, va_K.moved hW.alike hKc, hDc.weaken (fun _ _ _ _ => trivial), id_env.moved hW.alike hE⟩⟩ rfl rfl hl.1 rfl (lv_room (Nat.le_of_ble_eq_true rfl)) dL_law_52 ⟨Nat.le_of_ble_eq_true rfl, Nat.le_of_ble_eq_true rfl⟩) hS (fun q _ h => hFc q h) hFc (fun u t H1 locs ht hvm hw hB hz1 hk1 hS => ?_)
      obtain ⟨u1, rfl⟩ : ∃ z, z = u := ⟨_, rfl⟩
      have hw_u1 := hw
      obtain ⟨hP1, hK1, hD1⟩ := hB
      rw [ht] at hP1
      have hK1 := va_K.moved hvm.symm hK1
      obtain ⟨hP, hD⟩ := va_join (wr := [(qz, .inl (cz, 1, .inl (upd (fun _ => 0) (0) (0)))), (qd2, .inr (0, [.ref qk2, .ref qb2, .ref qo2])), (qk2, .inl (ck2, 32, .inl (id_ck L xs))), (qb2, .inl (cb2, 8, .inl (id_cb L xs))), (qo2, .inl (co2, 8, .inl (fun _ => 0)))]) (w1 := [(qd1, .inr (0, [.ref qk1, .ref qb1, .ref qo1])), (qk1, .inl (ck1, 32, .inl (id_ck L xs))), (qb1, .inl (cb1, 8, .inl (id_cb L xs))), (qo1, .inl (co1, 8, .inl (u1)))]) hP hD [1, 2, 3, 4] [0, 5, 6, 7, 8] rfl rfl (by decide) (by decide) hk1 hFc hP1 hD1
      generalize H1 = H at hP hS ⊢
      have hP : va_P (dC, dI) vwCl [(qz, .inl (cz, 1, .inl (upd (fun _ => 0) (0) (0)))), (qd2, .inr (0, [.ref qk2, .ref qb2, .ref qo2])), (qk2, .inl (ck2, 32, .inl (id_ck L xs))), (qb2, .inl (cb2, 8, .inl (id_cb L xs))), (qo2, .inl (co2, 8, .inl (fun _ => 0))), (qd1, .inr (0, [.ref qk1, .ref qb1, .ref qo1])), (qk1, .inl (ck1, 32, .inl (id_ck L xs))), (qb1, .inl (cb1, 8, .inl (id_cb L xs))), (qo1, .inl (co1, 8, .inl (u1)))] H := hP
      have hD : va_D (fun q : Nat => s.heap.size ≤ q) [(qz, .inl (cz, 1, .inl (upd (fun _ => 0) (0) (0)))), (qd2, .inr (0, [.ref qk2, .ref qb2, .ref qo2])), (qk2, .inl (ck2, 32, .inl (id_ck L xs))), (qb2, .inl (cb2, 8, .inl (id_cb L xs))), (qo2, .inl (co2, 8, .inl (fun _ => 0))), (qd1, .inr (0, [.ref qk1, .ref qb1, .ref qo1])), (qk1, .inl (ck1, 32, .inl (id_ck L xs))), (qb1, .inl (cb1, 8, .inl (id_cb L xs))), (qo1, .inl (co1, 8, .inl (u1)))] := hD
      refine W.widen (k := 37) (n := 638) (Nat.le_of_ble_eq_true rfl) (Nat.le_of_ble_eq_true rfl) ?_
      refine lv_aload hx hb dL_law_55 (lv_at hl 0 rfl) ?_
      refine lv_iload hx hb dL_law_57 (lv_at hl 2 rfl) ?_
      have hPc := hP.sub (ws' := [(qd2, .inr (0, [.ref qk2, .ref qb2, .ref qo2])), (qk2, .inl (ck2, 32, .inl (id_ck L xs))), (qb2, .inl (cb2, 8, .inl (id_cb L xs))), (qo2, .inl (co2, 8, .inl (fun _ => 0)))]) [1, 2, 3, 4] rfl
      have hDc := hD.sub (ws' := [(qd2, .inr (0, [.ref qk2, .ref qb2, .ref qo2])), (qk2, .inl (ck2, 32, .inl (id_ck L xs))), (qb2, .inl (cb2, 8, .inl (id_cb L xs))), (qo2, .inl (co2, 8, .inl (fun _ => 0)))]) [1, 2, 3, 4] (by decide) rfl
      have hKc := hK.sub (tys' := [(ck2, .byte), (cb2, .byte), (co2, .byte)]) [4, 5, 6] rfl
      have hFc := va_free (wc := [(qd2, .inr (0, [.ref qk2, .ref qb2, .ref qo2])), (qk2, .inl (ck2, 32, .inl (id_ck L xs))), (qb2, .inl (cb2, 8, .inl (id_cb L xs))), (qo2, .inl (co2, 8, .inl (fun _ => 0)))]) hD hS hA [1, 2, 3, 4] rfl
      refine va_callv (va_runV (As := [.int kd]) (rest := []) ⟨hx, hb, hml, hown, hts⟩ (met_unlock l dC dI qd2 qk2 qb2 qo2 H.size ck2 cb2 co2 (id_ck L xs) (id_cb L xs) (fun _ => 0) (kd)) (cwV 1 hts (lw_V q256 q257 q258 q11 q259) rfl rfl rfl (by decide +kernel) ⟨Nat.le_of_ble_eq_true rfl, Nat.le_of_ble_eq_true rfl⟩) ⟨fun a U g mk q => by obtain ⟨q0, q1, qP, qK, qD, qE⟩ := q; exact ⟨q0, q1, qP, va_K.moved (u := U) (U := U.calling g mk a) (Vm.Alike.refl U.vm) qK, qD, id_env.moved (Vm.Alike.refl U.vm) qE⟩, va_recv hKc hPc (ci := 0) (q0 := 0) rfl rfl, fun U hU hW => ⟨rfl, by rw [hU], by rw [hU]; exact hPc, va_K.moved hW.alike hKc, hDc.weaken (fun _ _ _ _ => trivial), id_env.moved hW.alike hE⟩⟩ rfl rfl hl.1 rfl (lv_room (Nat.le_of_ble_eq_true rfl)) dL_law_59 ⟨Nat.le_of_ble_eq_true rfl, Nat.le_of_ble_eq_true rfl⟩) hS (fun q _ h => hFc q h) hFc (fun u t H1 locs ht hvm hw hB hz1 hk1 hS => ?_)
      obtain ⟨u2, rfl⟩ : ∃ z, z = u := ⟨_, rfl⟩
      have hw_u2 := hw
      obtain ⟨hP1, hK1, hD1⟩ := hB
      rw [ht] at hP1
      have hK1 := va_K.moved hvm.symm hK1
      obtain ⟨hP, hD⟩ := va_join (wr := [(qz, .inl (cz, 1, .inl (upd (fun _ => 0) (0) (0)))), (qd1, .inr (0, [.ref qk1, .ref qb1, .ref qo1])), (qk1, .inl (ck1, 32, .inl (id_ck L xs))), (qb1, .inl (cb1, 8, .inl (id_cb L xs))), (qo1, .inl (co1, 8, .inl (u1)))]) (w1 := [(qd2, .inr (0, [.ref qk2, .ref qb2, .ref qo2])), (qk2, .inl (ck2, 32, .inl (id_ck L xs))), (qb2, .inl (cb2, 8, .inl (id_cb L xs))), (qo2, .inl (co2, 8, .inl (u2)))]) hP hD [1, 2, 3, 4] [0, 5, 6, 7, 8] rfl rfl (by decide) (by decide) hk1 hFc hP1 hD1
      generalize H1 = H at hP hS ⊢
      have hP : va_P (dC, dI) vwCl [(qz, .inl (cz, 1, .inl (upd (fun _ => 0) (0) (0)))), (qd1, .inr (0, [.ref qk1, .ref qb1, .ref qo1])), (qk1, .inl (ck1, 32, .inl (id_ck L xs))), (qb1, .inl (cb1, 8, .inl (id_cb L xs))), (qo1, .inl (co1, 8, .inl (u1))), (qd2, .inr (0, [.ref qk2, .ref qb2, .ref qo2])), (qk2, .inl (ck2, 32, .inl (id_ck L xs))), (qb2, .inl (cb2, 8, .inl (id_cb L xs))), (qo2, .inl (co2, 8, .inl (u2)))] H := hP
      have hD : va_D (fun q : Nat => s.heap.size ≤ q) [(qz, .inl (cz, 1, .inl (upd (fun _ => 0) (0) (0)))), (qd1, .inr (0, [.ref qk1, .ref qb1, .ref qo1])), (qk1, .inl (ck1, 32, .inl (id_ck L xs))), (qb1, .inl (cb1, 8, .inl (id_cb L xs))), (qo1, .inl (co1, 8, .inl (u1))), (qd2, .inr (0, [.ref qk2, .ref qb2, .ref qo2])), (qk2, .inl (ck2, 32, .inl (id_ck L xs))), (qb2, .inl (cb2, 8, .inl (id_cb L xs))), (qo2, .inl (co2, 8, .inl (u2)))] := hD
      refine W.widen (k := 43) (n := 777) (Nat.le_of_ble_eq_true rfl) (Nat.le_of_ble_eq_true rfl) ?_
      refine lv_aload hx hb dL_law_62 (lv_at hl 1 rfl) ?_
      have hPc := hP.sub (ws' := [(qd1, .inr (0, [.ref qk1, .ref qb1, .ref qo1])), (qb1, .inl (cb1, 8, .inl (id_cb L xs))), (qo1, .inl (co1, 8, .inl (u1)))]) [1, 3, 4] rfl
      have hDc := hD.sub (ws' := [(qd1, .inr (0, [.ref qk1, .ref qb1, .ref qo1])), (qb1, .inl (cb1, 8, .inl (id_cb L xs))), (qo1, .inl (co1, 8, .inl (u1)))]) [1, 3, 4] (by decide) rfl
      have hKc := hK.sub (tys' := [(cb1, .byte), (co1, .byte)]) [2, 3] rfl
      have hFc := va_free (wc := [(qd1, .inr (0, [.ref qk1, .ref qb1, .ref qo1])), (qb1, .inl (cb1, 8, .inl (id_cb L xs))), (qo1, .inl (co1, 8, .inl (u1)))]) hD hS hA [1, 3, 4] rfl
      refine va_callv (va_runV (As := []) (rest := []) ⟨hx, hb, hml, hown, hts⟩ (met_again l dC dI qd1 qk1 qb1 qo1 H.size cb1 co1 (id_cb L xs) (u1)) (cwV 0 hts (lw_V q260 q261 q262 q11 q263) rfl rfl rfl (by decide +kernel) ⟨Nat.le_of_ble_eq_true rfl, Nat.le_of_ble_eq_true rfl⟩) ⟨fun a U g mk q => by obtain ⟨q0, q1, qP, qK, qD⟩ := q; exact ⟨q0, q1, qP, va_K.moved (u := U) (U := U.calling g mk a) (Vm.Alike.refl U.vm) qK, qD⟩, va_recv hKc hPc (ci := 0) (q0 := 0) rfl rfl, fun U hU hW => ⟨rfl, by rw [hU], by rw [hU]; exact hPc, va_K.moved hW.alike hKc, hDc.weaken (fun _ _ _ _ => trivial)⟩⟩ rfl rfl hl.1 rfl (lv_room (Nat.le_of_ble_eq_true rfl)) dL_law_64 ⟨Nat.le_of_ble_eq_true rfl, Nat.le_of_ble_eq_true rfl⟩) hS (fun q _ h => hFc q h) hFc (fun u t H1 locs ht hvm hw hB hz1 hk1 hS => ?_)
      obtain ⟨v1, rfl⟩ : ∃ z, z = u := ⟨_, rfl⟩
      have hw_v1 := hw
      obtain ⟨hP1, hK1, hD1⟩ := hB
      rw [ht] at hP1
      have hK1 := va_K.moved hvm.symm hK1
      obtain ⟨hP, hD⟩ := va_join (wr := [(qz, .inl (cz, 1, .inl (upd (fun _ => 0) (0) (0)))), (qk1, .inl (ck1, 32, .inl (id_ck L xs))), (qd2, .inr (0, [.ref qk2, .ref qb2, .ref qo2])), (qk2, .inl (ck2, 32, .inl (id_ck L xs))), (qb2, .inl (cb2, 8, .inl (id_cb L xs))), (qo2, .inl (co2, 8, .inl (u2)))]) (w1 := [(qd1, .inr (0, [.ref qk1, .ref qb1, .ref qo1])), (qb1, .inl (cb1, 8, .inl (v1))), (qo1, .inl (co1, 8, .inl (u1)))]) hP hD [1, 3, 4] [0, 2, 5, 6, 7, 8] rfl rfl (by decide) (by decide) hk1 hFc hP1 hD1
      generalize H1 = H at hP hS ⊢
      have hP : va_P (dC, dI) vwCl [(qz, .inl (cz, 1, .inl (upd (fun _ => 0) (0) (0)))), (qk1, .inl (ck1, 32, .inl (id_ck L xs))), (qd2, .inr (0, [.ref qk2, .ref qb2, .ref qo2])), (qk2, .inl (ck2, 32, .inl (id_ck L xs))), (qb2, .inl (cb2, 8, .inl (id_cb L xs))), (qo2, .inl (co2, 8, .inl (u2))), (qd1, .inr (0, [.ref qk1, .ref qb1, .ref qo1])), (qb1, .inl (cb1, 8, .inl (v1))), (qo1, .inl (co1, 8, .inl (u1)))] H := hP
      have hD : va_D (fun q : Nat => s.heap.size ≤ q) [(qz, .inl (cz, 1, .inl (upd (fun _ => 0) (0) (0)))), (qk1, .inl (ck1, 32, .inl (id_ck L xs))), (qd2, .inr (0, [.ref qk2, .ref qb2, .ref qo2])), (qk2, .inl (ck2, 32, .inl (id_ck L xs))), (qb2, .inl (cb2, 8, .inl (id_cb L xs))), (qo2, .inl (co2, 8, .inl (u2))), (qd1, .inr (0, [.ref qk1, .ref qb1, .ref qo1])), (qb1, .inl (cb1, 8, .inl (v1))), (qo1, .inl (co1, 8, .inl (u1)))] := hD
      refine W.widen (k := 43) (n := 777) (Nat.le_of_ble_eq_true rfl) (Nat.le_of_ble_eq_true rfl) ?_
      refine lv_aload hx hb dL_law_67 (lv_at hl 1 rfl) ?_
      refine lv_iload hx hb dL_law_69 (lv_at hl 2 rfl) ?_
      have hPc := hP.sub (ws' := [(qd1, .inr (0, [.ref qk1, .ref qb1, .ref qo1])), (qk1, .inl (ck1, 32, .inl (id_ck L xs))), (qb1, .inl (cb1, 8, .inl (v1))), (qo1, .inl (co1, 8, .inl (u1)))]) [6, 1, 7, 8] rfl
      have hDc := hD.sub (ws' := [(qd1, .inr (0, [.ref qk1, .ref qb1, .ref qo1])), (qk1, .inl (ck1, 32, .inl (id_ck L xs))), (qb1, .inl (cb1, 8, .inl (v1))), (qo1, .inl (co1, 8, .inl (u1)))]) [6, 1, 7, 8] (by decide) rfl
      have hKc := hK.sub (tys' := [(ck1, .byte), (cb1, .byte), (co1, .byte)]) [1, 2, 3] rfl
      have hFc := va_free (wc := [(qd1, .inr (0, [.ref qk1, .ref qb1, .ref qo1])), (qk1, .inl (ck1, 32, .inl (id_ck L xs))), (qb1, .inl (cb1, 8, .inl (v1))), (qo1, .inl (co1, 8, .inl (u1)))]) hD hS hA [6, 1, 7, 8] rfl
      refine va_callv (va_runV (As := [.int kd]) (rest := []) ⟨hx, hb, hml, hown, hts⟩ (met_unlock l dC dI qd1 qk1 qb1 qo1 H.size ck1 cb1 co1 (id_ck L xs) (v1) (u1) (kd)) (cwV 1 hts (lw_V q256 q257 q258 q11 q259) rfl rfl rfl (by decide +kernel) ⟨Nat.le_of_ble_eq_true rfl, Nat.le_of_ble_eq_true rfl⟩) ⟨fun a U g mk q => by obtain ⟨q0, q1, qP, qK, qD, qE⟩ := q; exact ⟨q0, q1, qP, va_K.moved (u := U) (U := U.calling g mk a) (Vm.Alike.refl U.vm) qK, qD, id_env.moved (Vm.Alike.refl U.vm) qE⟩, va_recv hKc hPc (ci := 0) (q0 := 0) rfl rfl, fun U hU hW => ⟨rfl, by rw [hU], by rw [hU]; exact hPc, va_K.moved hW.alike hKc, hDc.weaken (fun _ _ _ _ => trivial), id_env.moved hW.alike hE⟩⟩ rfl rfl hl.1 rfl (lv_room (Nat.le_of_ble_eq_true rfl)) dL_law_71 ⟨Nat.le_of_ble_eq_true rfl, Nat.le_of_ble_eq_true rfl⟩) hS (fun q _ h => hFc q h) hFc (fun u t H1 locs ht hvm hw hB hz1 hk1 hS => ?_)
      obtain ⟨u3, rfl⟩ : ∃ z, z = u := ⟨_, rfl⟩
      have hw_u3 := hw
      obtain ⟨hP1, hK1, hD1⟩ := hB
      rw [ht] at hP1
      have hK1 := va_K.moved hvm.symm hK1
      obtain ⟨hP, hD⟩ := va_join (wr := [(qz, .inl (cz, 1, .inl (upd (fun _ => 0) (0) (0)))), (qd2, .inr (0, [.ref qk2, .ref qb2, .ref qo2])), (qk2, .inl (ck2, 32, .inl (id_ck L xs))), (qb2, .inl (cb2, 8, .inl (id_cb L xs))), (qo2, .inl (co2, 8, .inl (u2)))]) (w1 := [(qd1, .inr (0, [.ref qk1, .ref qb1, .ref qo1])), (qk1, .inl (ck1, 32, .inl (id_ck L xs))), (qb1, .inl (cb1, 8, .inl (v1))), (qo1, .inl (co1, 8, .inl (u3)))]) hP hD [6, 1, 7, 8] [0, 2, 3, 4, 5] rfl rfl (by decide) (by decide) hk1 hFc hP1 hD1
      generalize H1 = H at hP hS ⊢
      have hP : va_P (dC, dI) vwCl [(qz, .inl (cz, 1, .inl (upd (fun _ => 0) (0) (0)))), (qd2, .inr (0, [.ref qk2, .ref qb2, .ref qo2])), (qk2, .inl (ck2, 32, .inl (id_ck L xs))), (qb2, .inl (cb2, 8, .inl (id_cb L xs))), (qo2, .inl (co2, 8, .inl (u2))), (qd1, .inr (0, [.ref qk1, .ref qb1, .ref qo1])), (qk1, .inl (ck1, 32, .inl (id_ck L xs))), (qb1, .inl (cb1, 8, .inl (v1))), (qo1, .inl (co1, 8, .inl (u3)))] H := hP
      have hD : va_D (fun q : Nat => s.heap.size ≤ q) [(qz, .inl (cz, 1, .inl (upd (fun _ => 0) (0) (0)))), (qd2, .inr (0, [.ref qk2, .ref qb2, .ref qo2])), (qk2, .inl (ck2, 32, .inl (id_ck L xs))), (qb2, .inl (cb2, 8, .inl (id_cb L xs))), (qo2, .inl (co2, 8, .inl (u2))), (qd1, .inr (0, [.ref qk1, .ref qb1, .ref qo1])), (qk1, .inl (ck1, 32, .inl (id_ck L xs))), (qb1, .inl (cb1, 8, .inl (v1))), (qo1, .inl (co1, 8, .inl (u3)))] := hD
      refine W.widen (k := 49) (n := 916) (Nat.le_of_ble_eq_true rfl) (Nat.le_of_ble_eq_true rfl) ?_
      refine lv_aload hx hb dL_law_74 (lv_at hl 0 rfl) ?_
      have hPc := hP.sub (ws' := [(qd2, .inr (0, [.ref qk2, .ref qb2, .ref qo2])), (qb2, .inl (cb2, 8, .inl (id_cb L xs))), (qo2, .inl (co2, 8, .inl (u2)))]) [1, 3, 4] rfl
      have hDc := hD.sub (ws' := [(qd2, .inr (0, [.ref qk2, .ref qb2, .ref qo2])), (qb2, .inl (cb2, 8, .inl (id_cb L xs))), (qo2, .inl (co2, 8, .inl (u2)))]) [1, 3, 4] (by decide) rfl
      have hKc := hK.sub (tys' := [(cb2, .byte), (co2, .byte)]) [5, 6] rfl
      have hFc := va_free (wc := [(qd2, .inr (0, [.ref qk2, .ref qb2, .ref qo2])), (qb2, .inl (cb2, 8, .inl (id_cb L xs))), (qo2, .inl (co2, 8, .inl (u2)))]) hD hS hA [1, 3, 4] rfl
      refine va_callv (va_runV (As := []) (rest := []) ⟨hx, hb, hml, hown, hts⟩ (met_again l dC dI qd2 qk2 qb2 qo2 H.size cb2 co2 (id_cb L xs) (u2)) (cwV 0 hts (lw_V q260 q261 q262 q11 q263) rfl rfl rfl (by decide +kernel) ⟨Nat.le_of_ble_eq_true rfl, Nat.le_of_ble_eq_true rfl⟩) ⟨fun a U g mk q => by obtain ⟨q0, q1, qP, qK, qD⟩ := q; exact ⟨q0, q1, qP, va_K.moved (u := U) (U := U.calling g mk a) (Vm.Alike.refl U.vm) qK, qD⟩, va_recv hKc hPc (ci := 0) (q0 := 0) rfl rfl, fun U hU hW => ⟨rfl, by rw [hU], by rw [hU]; exact hPc, va_K.moved hW.alike hKc, hDc.weaken (fun _ _ _ _ => trivial)⟩⟩ rfl rfl hl.1 rfl (lv_room (Nat.le_of_ble_eq_true rfl)) dL_law_76 ⟨Nat.le_of_ble_eq_true rfl, Nat.le_of_ble_eq_true rfl⟩) hS (fun q _ h => hFc q h) hFc (fun u t H1 locs ht hvm hw hB hz1 hk1 hS => ?_)
      obtain ⟨v2, rfl⟩ : ∃ z, z = u := ⟨_, rfl⟩
      have hw_v2 := hw
      obtain ⟨hP1, hK1, hD1⟩ := hB
      rw [ht] at hP1
      have hK1 := va_K.moved hvm.symm hK1
      obtain ⟨hP, hD⟩ := va_join (wr := [(qz, .inl (cz, 1, .inl (upd (fun _ => 0) (0) (0)))), (qk2, .inl (ck2, 32, .inl (id_ck L xs))), (qd1, .inr (0, [.ref qk1, .ref qb1, .ref qo1])), (qk1, .inl (ck1, 32, .inl (id_ck L xs))), (qb1, .inl (cb1, 8, .inl (v1))), (qo1, .inl (co1, 8, .inl (u3)))]) (w1 := [(qd2, .inr (0, [.ref qk2, .ref qb2, .ref qo2])), (qb2, .inl (cb2, 8, .inl (v2))), (qo2, .inl (co2, 8, .inl (u2)))]) hP hD [1, 3, 4] [0, 2, 5, 6, 7, 8] rfl rfl (by decide) (by decide) hk1 hFc hP1 hD1
      generalize H1 = H at hP hS ⊢
      have hP : va_P (dC, dI) vwCl [(qz, .inl (cz, 1, .inl (upd (fun _ => 0) (0) (0)))), (qk2, .inl (ck2, 32, .inl (id_ck L xs))), (qd1, .inr (0, [.ref qk1, .ref qb1, .ref qo1])), (qk1, .inl (ck1, 32, .inl (id_ck L xs))), (qb1, .inl (cb1, 8, .inl (v1))), (qo1, .inl (co1, 8, .inl (u3))), (qd2, .inr (0, [.ref qk2, .ref qb2, .ref qo2])), (qb2, .inl (cb2, 8, .inl (v2))), (qo2, .inl (co2, 8, .inl (u2)))] H := hP
      have hD : va_D (fun q : Nat => s.heap.size ≤ q) [(qz, .inl (cz, 1, .inl (upd (fun _ => 0) (0) (0)))), (qk2, .inl (ck2, 32, .inl (id_ck L xs))), (qd1, .inr (0, [.ref qk1, .ref qb1, .ref qo1])), (qk1, .inl (ck1, 32, .inl (id_ck L xs))), (qb1, .inl (cb1, 8, .inl (v1))), (qo1, .inl (co1, 8, .inl (u3))), (qd2, .inr (0, [.ref qk2, .ref qb2, .ref qo2])), (qb2, .inl (cb2, 8, .inl (v2))), (qo2, .inl (co2, 8, .inl (u2)))] := hD
      refine W.widen (k := 49) (n := 916) (Nat.le_of_ble_eq_true rfl) (Nat.le_of_ble_eq_true rfl) ?_
      refine lv_aload hx hb dL_law_79 (lv_at hl 0 rfl) ?_
      refine lv_iload hx hb dL_law_81 (lv_at hl 2 rfl) ?_
      have hPc := hP.sub (ws' := [(qd2, .inr (0, [.ref qk2, .ref qb2, .ref qo2])), (qk2, .inl (ck2, 32, .inl (id_ck L xs))), (qb2, .inl (cb2, 8, .inl (v2))), (qo2, .inl (co2, 8, .inl (u2)))]) [6, 1, 7, 8] rfl
      have hDc := hD.sub (ws' := [(qd2, .inr (0, [.ref qk2, .ref qb2, .ref qo2])), (qk2, .inl (ck2, 32, .inl (id_ck L xs))), (qb2, .inl (cb2, 8, .inl (v2))), (qo2, .inl (co2, 8, .inl (u2)))]) [6, 1, 7, 8] (by decide) rfl
      have hKc := hK.sub (tys' := [(ck2, .byte), (cb2, .byte), (co2, .byte)]) [4, 5, 6] rfl
      have hFc := va_free (wc := [(qd2, .inr (0, [.ref qk2, .ref qb2, .ref qo2])), (qk2, .inl (ck2, 32, .inl (id_ck L xs))), (qb2, .inl (cb2, 8, .inl (v2))), (qo2, .inl (co2, 8, .inl (u2)))]) hD hS hA [6, 1, 7, 8] rfl
      refine va_callv (va_runV (As := [.int kd]) (rest := []) ⟨hx, hb, hml, hown, hts⟩ (met_lock l dC dI qd2 qk2 qb2 qo2 H.size ck2 cb2 co2 (id_ck L xs) (v2) (u2) (kd)) (cwV 1 hts (lw_V q23 q24 q25 q11 q26) rfl rfl rfl (by decide +kernel) ⟨Nat.le_of_ble_eq_true rfl, Nat.le_of_ble_eq_true rfl⟩) ⟨fun a U g mk q => by obtain ⟨q0, q1, qP, qK, qD, qE⟩ := q; exact ⟨q0, q1, qP, va_K.moved (u := U) (U := U.calling g mk a) (Vm.Alike.refl U.vm) qK, qD, id_env.moved (Vm.Alike.refl U.vm) qE⟩, va_recv hKc hPc (ci := 0) (q0 := 0) rfl rfl, fun U hU hW => ⟨rfl, by rw [hU], by rw [hU]; exact hPc, va_K.moved hW.alike hKc, hDc.weaken (fun _ _ _ _ => trivial), id_env.moved hW.alike hE⟩⟩ rfl rfl hl.1 rfl (lv_room (Nat.le_of_ble_eq_true rfl)) dL_law_83 ⟨Nat.le_of_ble_eq_true rfl, Nat.le_of_ble_eq_true rfl⟩) hS (fun q _ h => hFc q h) hFc (fun u t H1 locs ht hvm hw hB hz1 hk1 hS => ?_)
      obtain ⟨u4, rfl⟩ : ∃ z, z = u := ⟨_, rfl⟩
      have hw_u4 := hw
      obtain ⟨hP1, hK1, hD1⟩ := hB
      rw [ht] at hP1
      have hK1 := va_K.moved hvm.symm hK1
      obtain ⟨hP, hD⟩ := va_join (wr := [(qz, .inl (cz, 1, .inl (upd (fun _ => 0) (0) (0)))), (qd1, .inr (0, [.ref qk1, .ref qb1, .ref qo1])), (qk1, .inl (ck1, 32, .inl (id_ck L xs))), (qb1, .inl (cb1, 8, .inl (v1))), (qo1, .inl (co1, 8, .inl (u3)))]) (w1 := [(qd2, .inr (0, [.ref qk2, .ref qb2, .ref qo2])), (qk2, .inl (ck2, 32, .inl (id_ck L xs))), (qb2, .inl (cb2, 8, .inl (v2))), (qo2, .inl (co2, 8, .inl (u4)))]) hP hD [6, 1, 7, 8] [0, 2, 3, 4, 5] rfl rfl (by decide) (by decide) hk1 hFc hP1 hD1
      generalize H1 = H at hP hS ⊢
      have hP : va_P (dC, dI) vwCl [(qz, .inl (cz, 1, .inl (upd (fun _ => 0) (0) (0)))), (qd1, .inr (0, [.ref qk1, .ref qb1, .ref qo1])), (qk1, .inl (ck1, 32, .inl (id_ck L xs))), (qb1, .inl (cb1, 8, .inl (v1))), (qo1, .inl (co1, 8, .inl (u3))), (qd2, .inr (0, [.ref qk2, .ref qb2, .ref qo2])), (qk2, .inl (ck2, 32, .inl (id_ck L xs))), (qb2, .inl (cb2, 8, .inl (v2))), (qo2, .inl (co2, 8, .inl (u4)))] H := hP
      have hD : va_D (fun q : Nat => s.heap.size ≤ q) [(qz, .inl (cz, 1, .inl (upd (fun _ => 0) (0) (0)))), (qd1, .inr (0, [.ref qk1, .ref qb1, .ref qo1])), (qk1, .inl (ck1, 32, .inl (id_ck L xs))), (qb1, .inl (cb1, 8, .inl (v1))), (qo1, .inl (co1, 8, .inl (u3))), (qd2, .inr (0, [.ref qk2, .ref qb2, .ref qo2])), (qk2, .inl (ck2, 32, .inl (id_ck L xs))), (qb2, .inl (cb2, 8, .inl (v2))), (qo2, .inl (co2, 8, .inl (u4)))] := hD
      refine W.widen (k := 55) (n := 1055) (Nat.le_of_ble_eq_true rfl) (Nat.le_of_ble_eq_true rfl) ?_
      refine lv_aload hx hb dL_law_86 (lv_at hl 1 rfl) ?_
      refine lv_aload_n hx hb dL_law_88 rfl (lv_at hl 7 rfl) ?_
      refine vp_callSi (W.runS (As := [.ref qd1, .ref sc]) (rest := []) ⟨hx, hb, hml, hown, hts⟩ (met_same l dC dI qd1 qk1 qb1 qo1 sc L co1 (u3) xs hL (id_both (b := 1) (c := 0) (Or.inl ⟨rfl, rfl⟩) hw_u1 hw_v1 hw_u3)) (va_cwS 2 hts (lw_S q296 q297 q10 q298) rfl rfl rfl (by decide +kernel) ⟨Nat.le_of_ble_eq_true rfl, Nat.le_of_ble_eq_true rfl⟩) ⟨fun a U g mk q => by obtain ⟨q0, qP, qK, qX⟩ := q; exact ⟨q0, qP, va_K.moved (u := U) (U := U.calling g mk a) (Vm.Alike.refl U.vm) qK, va_X.moved (u := U) (U := U.calling g mk a) (Vm.Alike.refl U.vm) qX⟩, fun U hU hW => ⟨rfl, by rw [hU]; exact hP.sub (ws' := [(qd1, .inr (0, [.ref qk1, .ref qb1, .ref qo1])), (qo1, .inl (co1, 8, .inl (u3)))]) [1, 4] rfl, va_K.moved hW.alike (hK.sub (tys' := [(co1, .byte)]) [3] rfl), by rw [hU]; exact va_X.moved hW.alike (hX.kept (hS.2.1 sc hbl hbA))⟩⟩ rfl rfl hl.1 rfl (lv_room (Nat.le_of_ble_eq_true rfl)) dL_law_89 ⟨Nat.le_of_ble_eq_true rfl, Nat.le_of_ble_eq_true rfl⟩) (fun z ez => ?_)
      refine id_is (y := 1) (ez) ?_
      refine lv_if_eq (tgt := 104) hx hb dL_law_92 (by decide) (fun c92 => ?_) (fun c92 => ?_)
      · exact absurd c92 (by decide)
      · refine lv_aload hx hb dL_law_95 (lv_at hl 0 rfl) ?_
        refine lv_aload_n hx hb dL_law_97 rfl (lv_at hl 7 rfl) ?_
        refine vp_callSi (W.runS (As := [.ref qd2, .ref sc]) (rest := []) ⟨hx, hb, hml, hown, hts⟩ (met_same l dC dI qd2 qk2 qb2 qo2 sc L co2 (u4) xs hL (id_both (b := 0) (c := 1) (Or.inr ⟨rfl, rfl⟩) hw_u2 hw_v2 hw_u4)) (va_cwS 2 hts (lw_S q296 q297 q10 q298) rfl rfl rfl (by decide +kernel) ⟨Nat.le_of_ble_eq_true rfl, Nat.le_of_ble_eq_true rfl⟩) ⟨fun a U g mk q => by obtain ⟨q0, qP, qK, qX⟩ := q; exact ⟨q0, qP, va_K.moved (u := U) (U := U.calling g mk a) (Vm.Alike.refl U.vm) qK, va_X.moved (u := U) (U := U.calling g mk a) (Vm.Alike.refl U.vm) qX⟩, fun U hU hW => ⟨rfl, by rw [hU]; exact hP.sub (ws' := [(qd2, .inr (0, [.ref qk2, .ref qb2, .ref qo2])), (qo2, .inl (co2, 8, .inl (u4)))]) [5, 8] rfl, va_K.moved hW.alike (hK.sub (tys' := [(co2, .byte)]) [6] rfl), by rw [hU]; exact va_X.moved hW.alike (hX.kept (hS.2.1 sc hbl hbA))⟩⟩ rfl rfl hl.1 rfl (lv_room (Nat.le_of_ble_eq_true rfl)) dL_law_98 ⟨Nat.le_of_ble_eq_true rfl, Nat.le_of_ble_eq_true rfl⟩) (fun z ez => ?_)
        refine id_is (y := 1) (ez) ?_
        refine lv_if_ne (tgt := 106) hx hb dL_law_101 (by decide) (fun c101 => ?_) (fun c101 => ?_)
        · refine lv_iinc (v := nI (1)) (lv' := [(4, .int (nI (1))), (7, .ref qd2), (6, .ref qd1), (5, .int kd), (3, .int (nI 1)), (2, .ref qz), (1, .ref qz), (0, .ref sc)]) hx hb dL_law_106 hl (k := 3) rfl (id_inc (by omega)) (by decide) rfl (fun ls hl => ?_)
          refine lv_goto (tgt := 24) hx hb dL_law_109 (by decide) ?_
          refine lv_iload hx hb dL_law_24 (lv_at hl 0 rfl) ?_
          refine lv_iload_n hx hb dL_law_26 rfl (lv_at hl 4 rfl) ?_
          refine lv_icmp_ge (tgt := 112) hx hb dL_law_27 (by decide) (fun c27 => ?_) (fun c27 => ?_)
          · refine lv_iconst (v := 1) hx hb dL_law_112 (by decide +kernel) ?_
            refine va_forget (fun q hq => hS.2.2 q hq) ?_
            refine W.widen (k := 600020) (n := 7302070) (Nat.le_of_ble_eq_true rfl) (Nat.le_of_ble_eq_true rfl) ?_
            exact lw_ret hx hb hr hlocks dL_law_113
          · exact absurd (nI_le (Nat.le_refl 1) (by decide)) c27
        · exact absurd c101 (by decide)
  · exact absurd ((show r0 = 1 from hw).symm.trans c3) (by decide)
end
section
set_option maxRecDepth 100000
/-- YOUR PART: from the entry, for every script of at most 10 ints, the law comes to its end with true ('hflags': the launch's flags, for a law that throws: no stack traces) -/
theorem whole_start {p : Program} {e : Env} {s : State} {m : MethodId} {below : List Frame} {meth : Method} {c : Code} (l : Launch) (hflags : l.flags = flags0) {b L : Nat} {xs : Nat → Int32} (hL : L ≤ 10) (C0 : lw_At p s m meth c b L xs) : W p l e room_1 s m #[Value.ref b] below meth c s.heap [] 0 0 (lw_Z below #[Value.ref b] s) (entryFrame m ([Value.ref b] : List Value).toArray 8) := by
  exact id_whole l hL C0
set_option maxHeartbeats 4000000 in
theorem lw_walk (l : Launch) (hflags : l.flags = flags0) (b : Addr) (xs : List Int32) : MetFree l x (headSpec (Jvm.Cond.code x code maxLocals ret :: tables_1) room_1) (lw_P b xs) (fun _ _ _ _ _ => True) lw_Q := by
  refine MetFree.of_bodyS (code := code) (maxLocals := maxLocals) (ret := ret) (by decide) ?_ ?_
  · intro args s m h hn
    obtain ⟨meth, c, h1, h2, h3, h4, h5, h6, -, -⟩ := Cond.code_spec hn (atoms_spec (ws := Jvm.Cond.code x code maxLocals ret :: tables_1) h _ List.mem_cons_self)
    exact ⟨meth, c, h1, h2, h3, h4, h5, h6⟩
  · intro p e s m args below meth c s₁ B hml0 hP _
    obtain ⟨rfl, hx, hbd, hgv⟩ := hP
    obtain ⟨scr, harrAt, hlist, hof, hsmall⟩ := hx
    obtain ⟨hcb, hkn, -, -⟩ := State.arrayAt?_spec harrAt
    have hown : s.vm.findClass R_law = some m.cls := findClass_of_methodNamed B.named
    have hts0 : ∀ c ∈ (Jvm.Cond.code x code maxLocals ret :: tables_1), c.before #[Value.ref b] s = true := atoms_spec (ws := Jvm.Cond.code x code maxLocals ret :: tables_1) B.pre
    have hts : ∀ w ∈ lw_tbl, w.before #[Value.ref b] s = true := k2_hts_sels lw_privs (fun w hw => hts0 w (List.mem_cons_of_mem _ hw)) lw_privs_ok
    have hml : c.maxLocals = 8 := B.maxLocals_eq (hts0 _ List.mem_cons_self)
    have X₀ : Stand p l e room_1 s m #[Value.ref b] below meth c s₁ [] 0 0 := Stand.of_body B
    have hh0 : s₁.heap = s.heap := by rw [B.state]; rfl
    have hsz : scr.slots.size = xs.length := by rw [← Array.length_toList, hlist, List.length_map]
    have hval : ∀ j : Nat, j < xs.length → scr.slots[j]? = some (.int (xs.getD j 0)) := fun j hj => by
      rw [← Array.getElem?_toList, hlist]
      simp [hj]
    have hbl : b < s.heap.size := (Array.getElem?_eq_some_iff.mp hcb).1
    have hX : va_X b xs.length (fun j => xs.getD j 0) s s.heap := ⟨scr, hcb, hof, hkn, hsz, hval⟩
    have K : W p l e room_1 s m #[Value.ref b] below meth c s₁.heap [] 0 0 (lw_Z below #[Value.ref b] s) (entryFrame m ([Value.ref b] : List Value).toArray 8) := by
      rw [hh0]
      exact whole_start l hflags hbd ⟨B.exec, B.bytes, B.returns, hml, hown, hts, hX, hbl, B.notSynchronized, hgv⟩
    obtain ⟨t, a1, o, b1, b2, b3⟩ := K s₁ rfl X₀
    exact ⟨t, o, a1, b1, b2, b3⟩
theorem lw_pre_spec {args : Array Value} {s : State} (h : (Jvm.Cond.and given_1 narrow_1).before args s = true) (hr : rest_1_c.before args s = true) : ∃ (b : Addr) (xs : List Int32), lw_P b xs args s := by
  have hs := flat_of_before _ h
  have hq := flat_of_before _ hr
  have hc : (Cond.count 1).before args s = true := hs _ (by decide +kernel)
  have harr : (Cond.arrayOf (.arg 0) .int).before args s = true := hs _ (by decide +kernel)
  have hle : (Cond.le (.length (.arg 0)) (.int 10)).before args s = true := hs _ (by decide +kernel)
  have hlen : (Cond.isInt (.length (.arg 0))).before args s = true := hq _ (by decide +kernel)
  have hall : (Cond.all (.arg 0) (.isInt (.elem (.arg 0) (.index 0)))).before args s = true := hq _ (by decide +kernel)
  obtain ⟨b, xs, hb, hx⟩ := State.ints_of_pre rfl harr hlen hall
  have hsm : xs.length < 2 ^ 31 := hx.choose_spec.2.2.2
  have hev : (Term.length (.arg 0)).eval args s none [] s = some (.int xs.length.toInt32) := hx.length_eval hb
  have hv := Cond.le_ints hev (show (Term.int 10).eval args s none [] s = some (.int 10) from rfl)
  have hd : xs.length.toInt32 ≤ 10 := by
    simpa [Cond.before, Cond.holds, hv] using hle
  have hN : xs.length ≤ 10 := (Int32.ofNat_le_ofNat hsm (by decide)).mp (show Int32.ofNat xs.length ≤ Int32.ofNat 10 from hd)
  exact ⟨b, xs, Cond.one_arg hc (show args[0]? = some (.ref b) from hb), hx, hN, h⟩
theorem lw_comes (l : Launch) (hflags : l.flags = flags0) : Comes l x (Jvm.Cond.code x code maxLocals ret :: tables_1) room_1 (fun tb e args s => Calls_1 tb e args s ∧ rest_1 tb e args s ∧ Pre_1 tb e args s)
    (fun _ _ args s o t => lw_Q args s o t) := by
  intro p e ha hc hk s m args below hf hfit hheap happ hpre
  obtain ⟨b, xs, hP⟩ := lw_pre_spec hpre.2.2 hpre.2.1
  obtain ⟨k, o, h1, h2, h3, hQ⟩ := lw_walk l hflags b xs p e ha hc hk s m args below hf ((Spec.applies_iff_loose hf).mp happ).1 hP trivial
  exact ⟨k, o, h1, h2, h3, hQ⟩
theorem lw_frame {s t : State} {o : Outcome} {args : Array Value} (h : Framed s o t [] 600020 7302070) :
    Framed s o t (fieldLocs frame_1_writes args s ++ arrayLocs frame_1_arrays args s ++ staticLocs frame_1_statics s) 600020 7302070 := h
theorem lw_limb (L : Cond) (hL : ∀ (args : Array Value) (s t : State), L.after args s (.returned (some (.int 1))) t = true) :
    ArmFor flags0 classFile x code maxLocals ret World_1 tables_1 room_1 Calls_1 rest_1 Pre_1
      (fun tb e a s o t => postC L tb e a s o t ∧ Framed s o t (fieldLocs frame_1_writes a s ++ arrayLocs frame_1_arrays a s ++ staticLocs frame_1_statics s) 600020 7302070) := by
  intro l hflags _ _ p e ha hc hk s m args below hf hfit hheap happ hpre
  obtain ⟨k, o, h1, h2, h3, rfl, hF⟩ := lw_comes l hflags p e ha hc hk s m args below hf hfit hheap happ hpre
  exact ⟨k, _, h1, h2, h3, hL args s _, lw_frame hF⟩
theorem i_vc : Claimed_1_1 ∧ Claimed_1_2 := ⟨lw_limb limb_1_1 (fun args s t => by simp [limb_1_1, Cond.after, Cond.holds, Cond.value]), lw_limb limb_1_2 (fun args s t => Cond.after_iff.mpr (by
  first | (rw [show limb_1_2 = Cond.eq .result (.int 1) from rfl, Cond.eq_ints (x := 1) (y := 1) rfl rfl]; simp; done) | (simp [limb_1_2, Cond.value, Term.eval]; done)))⟩
end
