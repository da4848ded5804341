section
-- ===== PART A: goes FIRST, ahead of the names: the tables' words, and 'selects' of the private methods out of them =====
/-- a private method of a class that the tables say can be made, by its rows of tables_1 -/
def lw_okq (q : MethodName × Nat) : Prop := (q.1.cls ≠ "java/lang/invoke/MethodHandle" ∧ q.1.cls ≠ "java/lang/invoke/VarHandle") ∧ Cond.instantiable q.1.cls q.2 ∈ tables_1 ∧ Cond.privateMethod q.1 ∈ tables_1 ∧ Cond.instanceMethod q.1 ∈ tables_1
set_option maxRecDepth 100000
theorem lw_t1 {w : Cond} (h : w ∈ tables_1_1) : w ∈ tables_1 := List.mem_append_left _ h
theorem lw_t2 {w : Cond} (h : w ∈ tables_1_2) : w ∈ tables_1 := List.mem_append_right _ h
theorem lw_p0 : lw_okq (⟨"RcFiveDesk", "run", "(ZI)V"⟩, 3) := ⟨⟨by decide +kernel, by decide +kernel⟩, lw_t1 (List.mem_of_getElem? (i := 16) rfl), lw_t1 (List.mem_of_getElem? (i := 14) rfl), lw_t1 (List.mem_of_getElem? (i := 15) rfl)⟩
theorem lw_p1 : lw_okq (⟨"RC532Engine", "setKey", "([B)V"⟩, 3) := ⟨⟨by decide +kernel, by decide +kernel⟩, lw_t1 (List.mem_of_getElem? (i := 22) rfl), lw_t1 (List.mem_of_getElem? (i := 79) rfl), lw_t1 (List.mem_of_getElem? (i := 80) rfl)⟩
theorem lw_p2 : lw_okq (⟨"RC532Engine", "rotateLeft", "(II)I"⟩, 3) := ⟨⟨by decide +kernel, by decide +kernel⟩, lw_t1 (List.mem_of_getElem? (i := 22) rfl), lw_t1 (List.mem_of_getElem? (i := 85) rfl), lw_t1 (List.mem_of_getElem? (i := 86) rfl)⟩
theorem lw_p3 : lw_okq (⟨"java/lang/Throwable", "fillInStackTrace", "(I)Ljava/lang/Throwable;"⟩, 6) := ⟨⟨by decide +kernel, by decide +kernel⟩, lw_t1 (List.mem_of_getElem? (i := 130) rfl), lw_t1 (List.mem_of_getElem? (i := 128) rfl), lw_t1 (List.mem_of_getElem? (i := 129) rfl)⟩
theorem lw_p4 : lw_okq (⟨"RC532Engine", "encryptBlock", "([BI[BI)I"⟩, 3) := ⟨⟨by decide +kernel, by decide +kernel⟩, lw_t1 (List.mem_of_getElem? (i := 22) rfl), lw_t1 (List.mem_of_getElem? (i := 169) rfl), lw_t1 (List.mem_of_getElem? (i := 170) rfl)⟩
theorem lw_p5 : lw_okq (⟨"RC532Engine", "bytesToWord", "([BI)I"⟩, 3) := ⟨⟨by decide +kernel, by decide +kernel⟩, lw_t1 (List.mem_of_getElem? (i := 22) rfl), lw_t1 (List.mem_of_getElem? (i := 173) rfl), lw_t1 (List.mem_of_getElem? (i := 174) rfl)⟩
theorem lw_p6 : lw_okq (⟨"RC532Engine", "wordToBytes", "(I[BI)V"⟩, 3) := ⟨⟨by decide +kernel, by decide +kernel⟩, lw_t1 (List.mem_of_getElem? (i := 22) rfl), lw_t1 (List.mem_of_getElem? (i := 177) rfl), lw_t1 (List.mem_of_getElem? (i := 178) rfl)⟩
theorem lw_p7 : lw_okq (⟨"RC532Engine", "decryptBlock", "([BI[BI)I"⟩, 3) := ⟨⟨by decide +kernel, by decide +kernel⟩, lw_t1 (List.mem_of_getElem? (i := 22) rfl), lw_t1 (List.mem_of_getElem? (i := 181) rfl), lw_t1 (List.mem_of_getElem? (i := 182) rfl)⟩
theorem lw_p8 : lw_okq (⟨"RC532Engine", "rotateRight", "(II)I"⟩, 3) := ⟨⟨by decide +kernel, by decide +kernel⟩, lw_t1 (List.mem_of_getElem? (i := 22) rfl), lw_t1 (List.mem_of_getElem? (i := 185) rfl), lw_t1 (List.mem_of_getElem? (i := 186) rfl)⟩
def lw_privs_1 : List (MethodName × Nat) := [(⟨"RcFiveDesk", "run", "(ZI)V"⟩, 3), (⟨"RC532Engine", "setKey", "([B)V"⟩, 3), (⟨"RC532Engine", "rotateLeft", "(II)I"⟩, 3), (⟨"java/lang/Throwable", "fillInStackTrace", "(I)Ljava/lang/Throwable;"⟩, 6), (⟨"RC532Engine", "encryptBlock", "([BI[BI)I"⟩, 3), (⟨"RC532Engine", "bytesToWord", "([BI)I"⟩, 3), (⟨"RC532Engine", "wordToBytes", "(I[BI)V"⟩, 3), (⟨"RC532Engine", "decryptBlock", "([BI[BI)I"⟩, 3), (⟨"RC532Engine", "rotateRight", "(II)I"⟩, 3)]
theorem lw_r1 : ∀ q ∈ lw_privs_1, lw_okq q := List.forall_mem_cons.mpr ⟨lw_p0, List.forall_mem_cons.mpr ⟨lw_p1, List.forall_mem_cons.mpr ⟨lw_p2, List.forall_mem_cons.mpr ⟨lw_p3, List.forall_mem_cons.mpr ⟨lw_p4, List.forall_mem_cons.mpr ⟨lw_p5, List.forall_mem_cons.mpr ⟨lw_p6, List.forall_mem_cons.mpr ⟨lw_p7, List.forall_mem_cons.mpr ⟨lw_p8, fun _ h => absurd h List.not_mem_nil⟩⟩⟩⟩⟩⟩⟩⟩⟩
def lw_privs : List (MethodName × Nat) := lw_privs_1
def lw_tbl : List Cond := k2_sels lw_privs ++ tables_1
theorem lw_privs_ok : ∀ q ∈ lw_privs, lw_okq q := lw_r1
-- ===== ONE list of words for every method: the tables' words that hold all through a run =====
def lw_all : List Cond := lw_tbl.filter goodWord
/-- a word of the tables by its place: claim/WORDS.tsv -/
theorem lw_w {w : Cond} (i : Nat) (h : lw_tbl[i]? = some w) (g : goodWord w = true) : w ∈ lw_all := List.mem_filter.mpr ⟨List.mem_of_getElem? h, g⟩
theorem lw_all_tbl {w : Cond} (h : w ∈ lw_all) : w ∈ lw_tbl := (List.mem_filter.mp h).1
theorem lw_self : GoodIn lw_all lw_all := fun w h => ⟨h, good_of_word (List.mem_filter.mp h).2⟩
/-- a class's field words, by their places -/
theorem lw_in (ws : List Cond) (ps : List Nat) (hp : ws = ps.filterMap (fun i => lw_tbl[i]?)) (hg : ws.all goodWord = true) : ∀ w ∈ ws, w ∈ lw_all := by
  intro w h
  have h1 := List.all_eq_true.mp hg w h
  rw [hp] at h
  obtain ⟨i, -, hi⟩ := List.mem_filterMap.mp h
  exact lw_w i hi h1
/-- the words of a contract for the method y with code b, L locals, answer r -/
abbrev ws_ (y : MethodName) (b : ByteArray) (L : Nat) (r : Option FieldType) : List Cond := Cond.code y b L r :: lw_all
theorem lw_meth {y : MethodName} {b : ByteArray} {L : Nat} {r : Option FieldType} (h : Cond.code y b L r ∈ lw_all) : GoodIn lw_all (ws_ y b L r) := by
  intro w hw
  rcases List.mem_cons.mp hw with e | e
  · rw [e]
    exact lw_self _ h
  · exact lw_self _ e
theorem lw_app {a c : List Cond} (ha : ∀ w ∈ a, w ∈ lw_all) (hc : GoodIn lw_all c) : GoodIn lw_all (a ++ c) := by
  intro w hw
  rcases List.mem_append.mp hw with e | e
  · exact lw_self w (ha w e)
  · exact hc w e
/-- what a call through an object asks: cwV n hts (lw_V ..) -/
theorem lw_V {own : String} {idx : Nat} {C : String} {y : MethodName} {b : ByteArray} {L : Nat} {r : Option FieldType} (h1 : Cond.methodLink own idx y ∈ lw_all) (h2 : Cond.instanceMethod y ∈ lw_all) (h3 : Cond.selects C y y ∈ lw_all) (h4 : Cond.initialized C ∈ lw_all) (h5 : Cond.code y b L r ∈ lw_all) : GoodIn lw_all (wsV own idx C y (ws_ y b L r)) := by
  refine lw_app ?_ (lw_meth h5)
  intro w hw
  simp only [List.mem_cons, List.not_mem_nil, or_false] at hw
  rcases hw with e | e | e | e
  · rw [e]; exact h1
  · rw [e]; exact h2
  · rw [e]; exact h3
  · rw [e]; exact h4
/-- what a static call asks: va_cwS n hts (lw_S ..) -/
theorem lw_S {own : String} {idx : Nat} {y : MethodName} {b : ByteArray} {L : Nat} {r : Option FieldType} (h1 : Cond.methodLink own idx y ∈ lw_all) (h2 : Cond.static y ∈ lw_all) (h3 : Cond.initialized y.cls ∈ lw_all) (h4 : Cond.code y b L r ∈ lw_all) : GoodIn lw_all (va_wsS own idx y (ws_ y b L r)) := by
  refine lw_app ?_ (lw_meth h4)
  intro w hw
  simp only [List.mem_cons, List.not_mem_nil, or_false] at hw
  rcases hw with e | e | e
  · rw [e]; exact h1
  · rw [e]; exact h2
  · rw [e]; exact h3
/-- the words of a contract for a method WITH HANDLERS (hh: its table) -/
abbrev wsW_ (y : MethodName) (b : ByteArray) (L : Nat) (r : Option FieldType) (hh : List (Nat × Nat × Nat × Nat)) : List Cond := Cond.codeWith y b L r hh :: lw_all
theorem lw_methW {y : MethodName} {b : ByteArray} {L : Nat} {r : Option FieldType} {hh : List (Nat × Nat × Nat × Nat)} (h : Cond.codeWith y b L r hh ∈ lw_all) : GoodIn lw_all (wsW_ y b L r hh) := by
  intro w hw
  rcases List.mem_cons.mp hw with e | e
  · rw [e]
    exact lw_self _ h
  · exact lw_self _ e
/-- any list of words by their places (lw_in), good -/
theorem lw_good {ws : List Cond} (h : ∀ w ∈ ws, w ∈ lw_all) : GoodIn lw_all ws := fun w hw => lw_self w (h w hw)
/-- what a call of a method with handlers asks: vx_cwVW n hts (lw_VW ..), vx_cwSW n hts (lw_SW ..) -/
theorem lw_VW {own : String} {idx : Nat} {C : String} {y : MethodName} {b : ByteArray} {L : Nat} {r : Option FieldType} {hh : List (Nat × Nat × Nat × Nat)} (h1 : Cond.methodLink own idx y ∈ lw_all) (h2 : Cond.instanceMethod y ∈ lw_all) (h3 : Cond.selects C y y ∈ lw_all) (h4 : Cond.initialized C ∈ lw_all) (h5 : Cond.codeWith y b L r hh ∈ lw_all) : GoodIn lw_all (wsV own idx C y (wsW_ y b L r hh)) := by
  refine lw_app ?_ (lw_methW h5)
  intro w hw
  simp only [List.mem_cons, List.not_mem_nil, or_false] at hw
  rcases hw with e | e | e | e
  · rw [e]; exact h1
  · rw [e]; exact h2
  · rw [e]; exact h3
  · rw [e]; exact h4
theorem lw_SW {own : String} {idx : Nat} {y : MethodName} {b : ByteArray} {L : Nat} {r : Option FieldType} {hh : List (Nat × Nat × Nat × Nat)} (h1 : Cond.methodLink own idx y ∈ lw_all) (h2 : Cond.static y ∈ lw_all) (h3 : Cond.initialized y.cls ∈ lw_all) (h4 : Cond.codeWith y b L r hh ∈ lw_all) : GoodIn lw_all (va_wsS own idx y (wsW_ y b L r hh)) := by
  refine lw_app ?_ (lw_methW h4)
  intro w hw
  simp only [List.mem_cons, List.not_mem_nil, or_false] at hw
  rcases hw with e | e | e
  · rw [e]; exact h1
  · rw [e]; exact h2
  · rw [e]; exact h3
/-- a word by its place in its run of the tables -/
theorem lw_at {r : List Cond} (hr : ∀ w ∈ r, w ∈ lw_tbl) {w : Cond} (i : Nat) (h : r[i]? = some w) : w ∈ lw_tbl := hr w (List.mem_of_getElem? h)
theorem lw_g {w : Cond} (h : w ∈ lw_tbl) (g : goodWord w = true) : w ∈ lw_all := List.mem_filter.mpr ⟨h, g⟩
theorem lw_ms : ∀ w ∈ k2_sels lw_privs, w ∈ lw_tbl := fun w h => show w ∈ k2_sels lw_privs ++ tables_1 from List.mem_append_left _ h
theorem lw_m1 : ∀ w ∈ tables_1_1, w ∈ lw_tbl := fun w h => show w ∈ k2_sels lw_privs ++ tables_1 from List.mem_append_right (k2_sels lw_privs) (show w ∈ tables_1 from List.mem_append_left _ h)
theorem lw_m2 : ∀ w ∈ tables_1_2, w ∈ lw_tbl := fun w h => show w ∈ k2_sels lw_privs ++ tables_1 from List.mem_append_right (k2_sels lw_privs) (show w ∈ tables_1 from List.mem_append_right _ h)
theorem qs0 : (Cond.selects "RcFiveDesk" ⟨"RcFiveDesk", "run", "(ZI)V"⟩ ⟨"RcFiveDesk", "run", "(ZI)V"⟩) ∈ lw_all := lw_g (lw_at lw_ms 0 rfl) rfl
theorem qs1 : (Cond.selects "RC532Engine" ⟨"RC532Engine", "setKey", "([B)V"⟩ ⟨"RC532Engine", "setKey", "([B)V"⟩) ∈ lw_all := lw_g (lw_at lw_ms 1 rfl) rfl
theorem qs2 : (Cond.selects "RC532Engine" ⟨"RC532Engine", "rotateLeft", "(II)I"⟩ ⟨"RC532Engine", "rotateLeft", "(II)I"⟩) ∈ lw_all := lw_g (lw_at lw_ms 2 rfl) rfl
theorem qs3 : (Cond.selects "java/lang/Throwable" ⟨"java/lang/Throwable", "fillInStackTrace", "(I)Ljava/lang/Throwable;"⟩ ⟨"java/lang/Throwable", "fillInStackTrace", "(I)Ljava/lang/Throwable;"⟩) ∈ lw_all := lw_g (lw_at lw_ms 3 rfl) rfl
theorem qs4 : (Cond.selects "RC532Engine" ⟨"RC532Engine", "encryptBlock", "([BI[BI)I"⟩ ⟨"RC532Engine", "encryptBlock", "([BI[BI)I"⟩) ∈ lw_all := lw_g (lw_at lw_ms 4 rfl) rfl
theorem qs5 : (Cond.selects "RC532Engine" ⟨"RC532Engine", "bytesToWord", "([BI)I"⟩ ⟨"RC532Engine", "bytesToWord", "([BI)I"⟩) ∈ lw_all := lw_g (lw_at lw_ms 5 rfl) rfl
theorem qs6 : (Cond.selects "RC532Engine" ⟨"RC532Engine", "wordToBytes", "(I[BI)V"⟩ ⟨"RC532Engine", "wordToBytes", "(I[BI)V"⟩) ∈ lw_all := lw_g (lw_at lw_ms 6 rfl) rfl
theorem qs7 : (Cond.selects "RC532Engine" ⟨"RC532Engine", "decryptBlock", "([BI[BI)I"⟩ ⟨"RC532Engine", "decryptBlock", "([BI[BI)I"⟩) ∈ lw_all := lw_g (lw_at lw_ms 7 rfl) rfl
theorem qs8 : (Cond.selects "RC532Engine" ⟨"RC532Engine", "rotateRight", "(II)I"⟩ ⟨"RC532Engine", "rotateRight", "(II)I"⟩) ∈ lw_all := lw_g (lw_at lw_ms 8 rfl) rfl
end
section
/-! DECODE ROWS BY BYTES: one lemma an opcode; a method's code is cut into short pieces once, and a row reads its own piece alone. -/
set_option maxRecDepth 100000
/-- the code has just these bytes from pc on -/
def DkAt (code : ByteArray) (pc : Nat) (bs : List UInt8) : Prop := ∀ (j : Nat) (b : UInt8), bs[j]? = some b → code.data.toList[pc + j]? = some b
/-- the piece W has the bytes bs from its place j on -/
def dkIn (W : List UInt8) (j : Nat) (bs : List UInt8) : Bool := decide ((W.drop j).take bs.length = bs)
theorem dk_seg {l W T : List UInt8} {o o2 : Nat} (h : l.drop o = W ++ T) (n : Nat) (hn : W.length = n) (ho : o + n = o2) : l.drop o2 = T := by
  subst ho
  rw [← List.drop_drop, h, List.drop_left' hn]
theorem dk_at {code : ByteArray} {W T bs : List UInt8} {o pc : Nat} (h : code.data.toList.drop o = W ++ T) (j : Nat) (hp : o + j = pc) (hw : dkIn W j bs = true) : DkAt code pc bs := by
  subst hp
  intro i b e
  have h1 := of_decide_eq_true hw
  have h2 : i < bs.length := (List.getElem?_eq_some_iff.mp e).1
  have h3 : W[j + i]? = some b := by
    rw [← h1, List.getElem?_take, if_pos h2, List.getElem?_drop] at e
    exact e
  have h4 : j + i < W.length := (List.getElem?_eq_some_iff.mp h3).1
  have h5 : (code.data.toList.drop o)[j + i]? = some b := by
    rw [h, List.getElem?_append_left h4]
    exact h3
  rw [List.getElem?_drop, ← Nat.add_assoc] at h5
  exact h5
theorem dk_u1 {A : ByteArray} {p : Nat} {b : UInt8} (h : A.data.toList[p]? = some b) : (Reader.u1 : Reader DecodeError Nat) A p = .ok (b.toNat, p + 1) := by
  obtain ⟨h1, h2⟩ := List.getElem?_eq_some_iff.mp h
  have h3 : p < A.size := by simpa using h1
  have h4 : A[p]'h3 = b := h2
  have e : (Reader.u1 : Reader DecodeError Nat) A p = (if h : p < A.size then .ok (A[p].toNat, p + 1) else .error (HasTruncated.truncated p)) := by
    show (do if h : p < A.size then do set (p + 1); Pure.pure A[p].toNat else MonadExcept.throw (HasTruncated.truncated p) : Reader DecodeError Nat) A p = _
    by_cases hi : p < A.size
    · rw [dif_pos hi, dif_pos hi]; rfl
    · rw [dif_neg hi, dif_neg hi]; rfl
  rw [e, dif_pos h3, h4]
theorem dk_bind {α β : Type} {r : Reader DecodeError α} {f : α → Reader DecodeError β} {A : ByteArray} {p s : Nat} {a : α} (h : r A p = .ok (a, s)) : (r >>= f) A p = f a A s := by
  show (do let (a, s) ← r A p; f a A s : Except DecodeError (β × Nat)) = _
  rw [h]
  rfl
theorem dk_map {α β : Type} {r : Reader DecodeError α} {g : α → β} {A : ByteArray} {p s : Nat} {a : α} (h : r A p = .ok (a, s)) : (g <$> r) A p = .ok (g a, s) := by
  show (do let (a, s) ← r A p; .ok (g a, s) : Except DecodeError (β × Nat)) = _
  rw [h]
  rfl
theorem dk_u2 {A : ByteArray} {p : Nat} {a b : UInt8} (h : A.data.toList[p]? = some a) (h2 : A.data.toList[p + 1]? = some b) : (Reader.u2 : Reader DecodeError Nat) A p = .ok (a.toNat * 256 + b.toNat, p + 2) := by
  show (Reader.u1 >>= fun hi => Reader.u1 >>= fun lo => Pure.pure (hi * 256 + lo) : Reader DecodeError Nat) A p = _
  rw [dk_bind (dk_u1 h), dk_bind (dk_u1 h2)]
  rfl
theorem dk_of {code : ByteArray} {pc n : Nat} {i : Instr} (h : Decoder.instr pc code pc = .ok (i, pc + n)) : decode code pc = .ok (i, n) := by
  have e : decode code pc = (match Decoder.instr pc code pc with | .error x => .error x | .ok (j, s) => .ok (j, s - pc)) := by
    show (do let (j, s) ← Decoder.instr pc code pc; Pure.pure (j, s - pc) : Except DecodeError (Instr × Nat)) = _
    cases Decoder.instr pc code pc <;> rfl
  rw [e, h]
  show Except.ok (i, pc + n - pc) = _
  rw [Nat.add_sub_cancel_left]
theorem dk_1 {code : ByteArray} {pc : Nat} (h : DkAt code pc [1]) : decode code pc = .ok (.aconst_null, 1) := dk_of ((dk_bind (dk_u1 (h 0 _ rfl))).trans rfl)
theorem dk_3 {code : ByteArray} {pc : Nat} (h : DkAt code pc [3]) : decode code pc = .ok (.iconst 0, 1) := dk_of ((dk_bind (dk_u1 (h 0 _ rfl))).trans rfl)
theorem dk_4 {code : ByteArray} {pc : Nat} (h : DkAt code pc [4]) : decode code pc = .ok (.iconst 1, 1) := dk_of ((dk_bind (dk_u1 (h 0 _ rfl))).trans rfl)
theorem dk_5 {code : ByteArray} {pc : Nat} (h : DkAt code pc [5]) : decode code pc = .ok (.iconst 2, 1) := dk_of ((dk_bind (dk_u1 (h 0 _ rfl))).trans rfl)
theorem dk_6 {code : ByteArray} {pc : Nat} (h : DkAt code pc [6]) : decode code pc = .ok (.iconst 3, 1) := dk_of ((dk_bind (dk_u1 (h 0 _ rfl))).trans rfl)
theorem dk_7 {code : ByteArray} {pc : Nat} (h : DkAt code pc [7]) : decode code pc = .ok (.iconst 4, 1) := dk_of ((dk_bind (dk_u1 (h 0 _ rfl))).trans rfl)
theorem dk_8 {code : ByteArray} {pc : Nat} (h : DkAt code pc [8]) : decode code pc = .ok (.iconst 5, 1) := dk_of ((dk_bind (dk_u1 (h 0 _ rfl))).trans rfl)
theorem dk_16 {code : ByteArray} {pc : Nat} (a : UInt8) (h : DkAt code pc [16, a]) : decode code pc = .ok (.bipush (Reader.signed 8 a.toNat), 2) := dk_of ((dk_bind (dk_u1 (h 0 _ rfl))).trans ((dk_bind (dk_map (dk_u1 (h 1 _ rfl)))).trans rfl))
theorem dk_17 {code : ByteArray} {pc : Nat} (a b : UInt8) (h : DkAt code pc [17, a, b]) : decode code pc = .ok (.sipush (Reader.signed 16 (a.toNat * 256 + b.toNat)), 3) := dk_of ((dk_bind (dk_u1 (h 0 _ rfl))).trans ((dk_bind (dk_map (dk_u2 (h 1 _ rfl) (h 2 _ rfl)))).trans rfl))
theorem dk_18 {code : ByteArray} {pc : Nat} (a : UInt8) (h : DkAt code pc [18, a]) : decode code pc = .ok (.ldc a.toNat, 2) := dk_of ((dk_bind (dk_u1 (h 0 _ rfl))).trans ((dk_bind (dk_u1 (h 1 _ rfl))).trans rfl))
theorem dk_21 {code : ByteArray} {pc : Nat} (a : UInt8) (h : DkAt code pc [21, a]) : decode code pc = .ok (.iload a.toNat, 2) := dk_of ((dk_bind (dk_u1 (h 0 _ rfl))).trans ((dk_bind (dk_u1 (h 1 _ rfl))).trans rfl))
theorem dk_25 {code : ByteArray} {pc : Nat} (a : UInt8) (h : DkAt code pc [25, a]) : decode code pc = .ok (.aload a.toNat, 2) := dk_of ((dk_bind (dk_u1 (h 0 _ rfl))).trans ((dk_bind (dk_u1 (h 1 _ rfl))).trans rfl))
theorem dk_27 {code : ByteArray} {pc : Nat} (h : DkAt code pc [27]) : decode code pc = .ok (.iload_n 1, 1) := dk_of ((dk_bind (dk_u1 (h 0 _ rfl))).trans rfl)
theorem dk_28 {code : ByteArray} {pc : Nat} (h : DkAt code pc [28]) : decode code pc = .ok (.iload_n 2, 1) := dk_of ((dk_bind (dk_u1 (h 0 _ rfl))).trans rfl)
theorem dk_29 {code : ByteArray} {pc : Nat} (h : DkAt code pc [29]) : decode code pc = .ok (.iload_n 3, 1) := dk_of ((dk_bind (dk_u1 (h 0 _ rfl))).trans rfl)
theorem dk_42 {code : ByteArray} {pc : Nat} (h : DkAt code pc [42]) : decode code pc = .ok (.aload_n 0, 1) := dk_of ((dk_bind (dk_u1 (h 0 _ rfl))).trans rfl)
theorem dk_43 {code : ByteArray} {pc : Nat} (h : DkAt code pc [43]) : decode code pc = .ok (.aload_n 1, 1) := dk_of ((dk_bind (dk_u1 (h 0 _ rfl))).trans rfl)
theorem dk_44 {code : ByteArray} {pc : Nat} (h : DkAt code pc [44]) : decode code pc = .ok (.aload_n 2, 1) := dk_of ((dk_bind (dk_u1 (h 0 _ rfl))).trans rfl)
theorem dk_45 {code : ByteArray} {pc : Nat} (h : DkAt code pc [45]) : decode code pc = .ok (.aload_n 3, 1) := dk_of ((dk_bind (dk_u1 (h 0 _ rfl))).trans rfl)
theorem dk_46 {code : ByteArray} {pc : Nat} (h : DkAt code pc [46]) : decode code pc = .ok (.iaload, 1) := dk_of ((dk_bind (dk_u1 (h 0 _ rfl))).trans rfl)
theorem dk_51 {code : ByteArray} {pc : Nat} (h : DkAt code pc [51]) : decode code pc = .ok (.baload, 1) := dk_of ((dk_bind (dk_u1 (h 0 _ rfl))).trans rfl)
theorem dk_54 {code : ByteArray} {pc : Nat} (a : UInt8) (h : DkAt code pc [54, a]) : decode code pc = .ok (.istore a.toNat, 2) := dk_of ((dk_bind (dk_u1 (h 0 _ rfl))).trans ((dk_bind (dk_u1 (h 1 _ rfl))).trans rfl))
theorem dk_58 {code : ByteArray} {pc : Nat} (a : UInt8) (h : DkAt code pc [58, a]) : decode code pc = .ok (.astore a.toNat, 2) := dk_of ((dk_bind (dk_u1 (h 0 _ rfl))).trans ((dk_bind (dk_u1 (h 1 _ rfl))).trans rfl))
theorem dk_60 {code : ByteArray} {pc : Nat} (h : DkAt code pc [60]) : decode code pc = .ok (.istore_n 1, 1) := dk_of ((dk_bind (dk_u1 (h 0 _ rfl))).trans rfl)
theorem dk_61 {code : ByteArray} {pc : Nat} (h : DkAt code pc [61]) : decode code pc = .ok (.istore_n 2, 1) := dk_of ((dk_bind (dk_u1 (h 0 _ rfl))).trans rfl)
theorem dk_62 {code : ByteArray} {pc : Nat} (h : DkAt code pc [62]) : decode code pc = .ok (.istore_n 3, 1) := dk_of ((dk_bind (dk_u1 (h 0 _ rfl))).trans rfl)
theorem dk_75 {code : ByteArray} {pc : Nat} (h : DkAt code pc [75]) : decode code pc = .ok (.astore_n 0, 1) := dk_of ((dk_bind (dk_u1 (h 0 _ rfl))).trans rfl)
theorem dk_76 {code : ByteArray} {pc : Nat} (h : DkAt code pc [76]) : decode code pc = .ok (.astore_n 1, 1) := dk_of ((dk_bind (dk_u1 (h 0 _ rfl))).trans rfl)
theorem dk_77 {code : ByteArray} {pc : Nat} (h : DkAt code pc [77]) : decode code pc = .ok (.astore_n 2, 1) := dk_of ((dk_bind (dk_u1 (h 0 _ rfl))).trans rfl)
theorem dk_78 {code : ByteArray} {pc : Nat} (h : DkAt code pc [78]) : decode code pc = .ok (.astore_n 3, 1) := dk_of ((dk_bind (dk_u1 (h 0 _ rfl))).trans rfl)
theorem dk_79 {code : ByteArray} {pc : Nat} (h : DkAt code pc [79]) : decode code pc = .ok (.iastore, 1) := dk_of ((dk_bind (dk_u1 (h 0 _ rfl))).trans rfl)
theorem dk_84 {code : ByteArray} {pc : Nat} (h : DkAt code pc [84]) : decode code pc = .ok (.bastore, 1) := dk_of ((dk_bind (dk_u1 (h 0 _ rfl))).trans rfl)
theorem dk_87 {code : ByteArray} {pc : Nat} (h : DkAt code pc [87]) : decode code pc = .ok (.pop, 1) := dk_of ((dk_bind (dk_u1 (h 0 _ rfl))).trans rfl)
theorem dk_89 {code : ByteArray} {pc : Nat} (h : DkAt code pc [89]) : decode code pc = .ok (.dup, 1) := dk_of ((dk_bind (dk_u1 (h 0 _ rfl))).trans rfl)
theorem dk_91 {code : ByteArray} {pc : Nat} (h : DkAt code pc [91]) : decode code pc = .ok (.dup_x2, 1) := dk_of ((dk_bind (dk_u1 (h 0 _ rfl))).trans rfl)
theorem dk_92 {code : ByteArray} {pc : Nat} (h : DkAt code pc [92]) : decode code pc = .ok (.dup2, 1) := dk_of ((dk_bind (dk_u1 (h 0 _ rfl))).trans rfl)
theorem dk_96 {code : ByteArray} {pc : Nat} (h : DkAt code pc [96]) : decode code pc = .ok (.iadd, 1) := dk_of ((dk_bind (dk_u1 (h 0 _ rfl))).trans rfl)
theorem dk_100 {code : ByteArray} {pc : Nat} (h : DkAt code pc [100]) : decode code pc = .ok (.isub, 1) := dk_of ((dk_bind (dk_u1 (h 0 _ rfl))).trans rfl)
theorem dk_104 {code : ByteArray} {pc : Nat} (h : DkAt code pc [104]) : decode code pc = .ok (.imul, 1) := dk_of ((dk_bind (dk_u1 (h 0 _ rfl))).trans rfl)
theorem dk_108 {code : ByteArray} {pc : Nat} (h : DkAt code pc [108]) : decode code pc = .ok (.idiv, 1) := dk_of ((dk_bind (dk_u1 (h 0 _ rfl))).trans rfl)
theorem dk_112 {code : ByteArray} {pc : Nat} (h : DkAt code pc [112]) : decode code pc = .ok (.irem, 1) := dk_of ((dk_bind (dk_u1 (h 0 _ rfl))).trans rfl)
theorem dk_120 {code : ByteArray} {pc : Nat} (h : DkAt code pc [120]) : decode code pc = .ok (.ishl, 1) := dk_of ((dk_bind (dk_u1 (h 0 _ rfl))).trans rfl)
theorem dk_122 {code : ByteArray} {pc : Nat} (h : DkAt code pc [122]) : decode code pc = .ok (.ishr, 1) := dk_of ((dk_bind (dk_u1 (h 0 _ rfl))).trans rfl)
theorem dk_124 {code : ByteArray} {pc : Nat} (h : DkAt code pc [124]) : decode code pc = .ok (.iushr, 1) := dk_of ((dk_bind (dk_u1 (h 0 _ rfl))).trans rfl)
theorem dk_126 {code : ByteArray} {pc : Nat} (h : DkAt code pc [126]) : decode code pc = .ok (.iand, 1) := dk_of ((dk_bind (dk_u1 (h 0 _ rfl))).trans rfl)
theorem dk_128 {code : ByteArray} {pc : Nat} (h : DkAt code pc [128]) : decode code pc = .ok (.ior, 1) := dk_of ((dk_bind (dk_u1 (h 0 _ rfl))).trans rfl)
theorem dk_130 {code : ByteArray} {pc : Nat} (h : DkAt code pc [130]) : decode code pc = .ok (.ixor, 1) := dk_of ((dk_bind (dk_u1 (h 0 _ rfl))).trans rfl)
theorem dk_132 {code : ByteArray} {pc : Nat} (a b : UInt8) (h : DkAt code pc [132, a, b]) : decode code pc = .ok (.iinc a.toNat (Reader.signed 8 b.toNat), 3) := dk_of ((dk_bind (dk_u1 (h 0 _ rfl))).trans ((dk_bind (dk_u1 (h 1 _ rfl))).trans ((dk_bind (dk_map (dk_u1 (h 2 _ rfl)))).trans rfl)))
theorem dk_145 {code : ByteArray} {pc : Nat} (h : DkAt code pc [145]) : decode code pc = .ok (.i2b, 1) := dk_of ((dk_bind (dk_u1 (h 0 _ rfl))).trans rfl)
theorem dk_153 {code : ByteArray} {pc : Nat} (a b : UInt8) (h : DkAt code pc [153, a, b]) : decode code pc = .ok (.ifCond .eq (Reader.signed 16 (a.toNat * 256 + b.toNat)), 3) := dk_of ((dk_bind (dk_u1 (h 0 _ rfl))).trans ((dk_bind (dk_map (dk_u2 (h 1 _ rfl) (h 2 _ rfl)))).trans rfl))
theorem dk_154 {code : ByteArray} {pc : Nat} (a b : UInt8) (h : DkAt code pc [154, a, b]) : decode code pc = .ok (.ifCond .ne (Reader.signed 16 (a.toNat * 256 + b.toNat)), 3) := dk_of ((dk_bind (dk_u1 (h 0 _ rfl))).trans ((dk_bind (dk_map (dk_u2 (h 1 _ rfl) (h 2 _ rfl)))).trans rfl))
theorem dk_159 {code : ByteArray} {pc : Nat} (a b : UInt8) (h : DkAt code pc [159, a, b]) : decode code pc = .ok (.if_icmp .eq (Reader.signed 16 (a.toNat * 256 + b.toNat)), 3) := dk_of ((dk_bind (dk_u1 (h 0 _ rfl))).trans ((dk_bind (dk_map (dk_u2 (h 1 _ rfl) (h 2 _ rfl)))).trans rfl))
theorem dk_161 {code : ByteArray} {pc : Nat} (a b : UInt8) (h : DkAt code pc [161, a, b]) : decode code pc = .ok (.if_icmp .lt (Reader.signed 16 (a.toNat * 256 + b.toNat)), 3) := dk_of ((dk_bind (dk_u1 (h 0 _ rfl))).trans ((dk_bind (dk_map (dk_u2 (h 1 _ rfl) (h 2 _ rfl)))).trans rfl))
theorem dk_162 {code : ByteArray} {pc : Nat} (a b : UInt8) (h : DkAt code pc [162, a, b]) : decode code pc = .ok (.if_icmp .ge (Reader.signed 16 (a.toNat * 256 + b.toNat)), 3) := dk_of ((dk_bind (dk_u1 (h 0 _ rfl))).trans ((dk_bind (dk_map (dk_u2 (h 1 _ rfl) (h 2 _ rfl)))).trans rfl))
theorem dk_163 {code : ByteArray} {pc : Nat} (a b : UInt8) (h : DkAt code pc [163, a, b]) : decode code pc = .ok (.if_icmp .gt (Reader.signed 16 (a.toNat * 256 + b.toNat)), 3) := dk_of ((dk_bind (dk_u1 (h 0 _ rfl))).trans ((dk_bind (dk_map (dk_u2 (h 1 _ rfl) (h 2 _ rfl)))).trans rfl))
theorem dk_164 {code : ByteArray} {pc : Nat} (a b : UInt8) (h : DkAt code pc [164, a, b]) : decode code pc = .ok (.if_icmp .le (Reader.signed 16 (a.toNat * 256 + b.toNat)), 3) := dk_of ((dk_bind (dk_u1 (h 0 _ rfl))).trans ((dk_bind (dk_map (dk_u2 (h 1 _ rfl) (h 2 _ rfl)))).trans rfl))
theorem dk_167 {code : ByteArray} {pc : Nat} (a b : UInt8) (h : DkAt code pc [167, a, b]) : decode code pc = .ok (.goto (Reader.signed 16 (a.toNat * 256 + b.toNat)), 3) := dk_of ((dk_bind (dk_u1 (h 0 _ rfl))).trans ((dk_bind (dk_map (dk_u2 (h 1 _ rfl) (h 2 _ rfl)))).trans rfl))
theorem dk_172 {code : ByteArray} {pc : Nat} (h : DkAt code pc [172]) : decode code pc = .ok (.ireturn, 1) := dk_of ((dk_bind (dk_u1 (h 0 _ rfl))).trans rfl)
theorem dk_176 {code : ByteArray} {pc : Nat} (h : DkAt code pc [176]) : decode code pc = .ok (.areturn, 1) := dk_of ((dk_bind (dk_u1 (h 0 _ rfl))).trans rfl)
theorem dk_177 {code : ByteArray} {pc : Nat} (h : DkAt code pc [177]) : decode code pc = .ok (.return_, 1) := dk_of ((dk_bind (dk_u1 (h 0 _ rfl))).trans rfl)
theorem dk_178 {code : ByteArray} {pc : Nat} (a b : UInt8) (h : DkAt code pc [178, a, b]) : decode code pc = .ok (.getstatic (a.toNat * 256 + b.toNat), 3) := dk_of ((dk_bind (dk_u1 (h 0 _ rfl))).trans ((dk_bind (dk_u2 (h 1 _ rfl) (h 2 _ rfl))).trans rfl))
theorem dk_180 {code : ByteArray} {pc : Nat} (a b : UInt8) (h : DkAt code pc [180, a, b]) : decode code pc = .ok (.getfield (a.toNat * 256 + b.toNat), 3) := dk_of ((dk_bind (dk_u1 (h 0 _ rfl))).trans ((dk_bind (dk_u2 (h 1 _ rfl) (h 2 _ rfl))).trans rfl))
theorem dk_181 {code : ByteArray} {pc : Nat} (a b : UInt8) (h : DkAt code pc [181, a, b]) : decode code pc = .ok (.putfield (a.toNat * 256 + b.toNat), 3) := dk_of ((dk_bind (dk_u1 (h 0 _ rfl))).trans ((dk_bind (dk_u2 (h 1 _ rfl) (h 2 _ rfl))).trans rfl))
theorem dk_182 {code : ByteArray} {pc : Nat} (a b : UInt8) (h : DkAt code pc [182, a, b]) : decode code pc = .ok (.invokevirtual (a.toNat * 256 + b.toNat), 3) := dk_of ((dk_bind (dk_u1 (h 0 _ rfl))).trans ((dk_bind (dk_u2 (h 1 _ rfl) (h 2 _ rfl))).trans rfl))
theorem dk_183 {code : ByteArray} {pc : Nat} (a b : UInt8) (h : DkAt code pc [183, a, b]) : decode code pc = .ok (.invokespecial (a.toNat * 256 + b.toNat), 3) := dk_of ((dk_bind (dk_u1 (h 0 _ rfl))).trans ((dk_bind (dk_u2 (h 1 _ rfl) (h 2 _ rfl))).trans rfl))
theorem dk_184 {code : ByteArray} {pc : Nat} (a b : UInt8) (h : DkAt code pc [184, a, b]) : decode code pc = .ok (.invokestatic (a.toNat * 256 + b.toNat), 3) := dk_of ((dk_bind (dk_u1 (h 0 _ rfl))).trans ((dk_bind (dk_u2 (h 1 _ rfl) (h 2 _ rfl))).trans rfl))
theorem dk_187 {code : ByteArray} {pc : Nat} (a b : UInt8) (h : DkAt code pc [187, a, b]) : decode code pc = .ok (.new (a.toNat * 256 + b.toNat), 3) := dk_of ((dk_bind (dk_u1 (h 0 _ rfl))).trans ((dk_bind (dk_u2 (h 1 _ rfl) (h 2 _ rfl))).trans rfl))
theorem dk_188_8 {code : ByteArray} {pc : Nat} (h : DkAt code pc [188, 8]) : decode code pc = .ok (.newarray .byte, 2) := dk_of ((dk_bind (dk_u1 (h 0 _ rfl))).trans ((dk_bind (dk_u1 (h 1 _ rfl))).trans rfl))
theorem dk_188_10 {code : ByteArray} {pc : Nat} (h : DkAt code pc [188, 10]) : decode code pc = .ok (.newarray .int, 2) := dk_of ((dk_bind (dk_u1 (h 0 _ rfl))).trans ((dk_bind (dk_u1 (h 1 _ rfl))).trans rfl))
theorem dk_190 {code : ByteArray} {pc : Nat} (h : DkAt code pc [190]) : decode code pc = .ok (.arraylength, 1) := dk_of ((dk_bind (dk_u1 (h 0 _ rfl))).trans rfl)
theorem dk_191 {code : ByteArray} {pc : Nat} (h : DkAt code pc [191]) : decode code pc = .ok (.athrow, 1) := dk_of ((dk_bind (dk_u1 (h 0 _ rfl))).trans rfl)
theorem dk_192 {code : ByteArray} {pc : Nat} (a b : UInt8) (h : DkAt code pc [192, a, b]) : decode code pc = .ok (.checkcast (a.toNat * 256 + b.toNat), 3) := dk_of ((dk_bind (dk_u1 (h 0 _ rfl))).trans ((dk_bind (dk_u2 (h 1 _ rfl) (h 2 _ rfl))).trans rfl))
theorem dk_193 {code : ByteArray} {pc : Nat} (a b : UInt8) (h : DkAt code pc [193, a, b]) : decode code pc = .ok (.instanceof (a.toNat * 256 + b.toNat), 3) := dk_of ((dk_bind (dk_u1 (h 0 _ rfl))).trans ((dk_bind (dk_u2 (h 1 _ rfl) (h 2 _ rfl))).trans rfl))
/-! java/lang/Object -/
set_option maxRecDepth 100000
def RJ4 : String := "java/lang/Object"
abbrev cJ4_init : ByteArray := object_method_1_code
def yJ4_init : MethodName := ⟨RJ4, "<init>", "()V"⟩
theorem dJ4_init_0 : decode cJ4_init 0 = .ok (.return_, 1) := by decide +kernel
theorem q36 : (Jvm.Cond.instanceMethod ({ cls := "java/lang/Object", name := "<init>", desc := "()V" } : Jvm.MethodName)) ∈ lw_all := lw_g (lw_at lw_m1 27 rfl) rfl
theorem q37 : (Jvm.Cond.code ({ cls := "java/lang/Object", name := "<init>", desc := "()V" } : Jvm.MethodName) object_method_1_code (1 : Nat) (Option.none : Option Jvm.ClassFile.FieldType)) ∈ lw_all := lw_g (lw_at lw_m1 28 rfl) rfl
theorem q48 : (Jvm.Cond.arrayClass Jvm.ClassFile.FieldType.byte) ∈ lw_all := lw_g (lw_at lw_m1 39 rfl) rfl
set_option maxRecDepth 100000
theorem q167 : (Jvm.Cond.arrayClass Jvm.ClassFile.FieldType.int) ∈ lw_all := lw_g (lw_at lw_m1 158 rfl) rfl
theorem q13 : (Jvm.Cond.initialized "java/lang/System") ∈ lw_all := lw_g (lw_at lw_m1 4 rfl) rfl
set_option maxRecDepth 100000
theorem q66 : (Jvm.Cond.static ({ cls := "java/lang/System", name := "arraycopy", desc := "(Ljava/lang/Object;ILjava/lang/Object;II)V" } : Jvm.MethodName)) ∈ lw_all := lw_g (lw_at lw_m1 57 rfl) rfl
theorem q67 : (Jvm.Cond.native ({ cls := "java/lang/System", name := "arraycopy", desc := "(Ljava/lang/Object;ILjava/lang/Object;II)V" } : Jvm.MethodName)) ∈ lw_all := lw_g (lw_at lw_m1 58 rfl) rfl
theorem q70 : (Jvm.Cond.interfaceMethod "BlockCipher" "BlockCipher" "init" "(ZLCipherParameters;)V") ∈ lw_tbl := lw_at lw_m1 61 rfl
set_option maxRecDepth 100000
theorem q71 : (Jvm.Cond.declares ({ cls := "BlockCipher", name := "init", desc := "(ZLCipherParameters;)V" } : Jvm.MethodName)) ∈ lw_tbl := lw_at lw_m1 62 rfl
theorem q170 : (Jvm.Cond.interfaceMethod "BlockCipher" "BlockCipher" "processBlock" "([BI[BI)I") ∈ lw_tbl := lw_at lw_m1 161 rfl
theorem q171 : (Jvm.Cond.declares ({ cls := "BlockCipher", name := "processBlock", desc := "([BI[BI)I" } : Jvm.MethodName)) ∈ lw_tbl := lw_at lw_m1 162 rfl
/-! KeyParameter -/
set_option maxRecDepth 100000
def RX3 : String := "KeyParameter"
def TX3 : u_T := fun k => match k with
  | _ => ("KeyParameter", "key", "[B", false)
def tyX3 : Nat → FieldType := fun k => match k with
  | _ => .array .byte
abbrev wsX30 : List Cond := u_ws RX3 TX3 1
theorem nmX3 : ∀ a, a < 1 → ∀ b, b < 1 → a ≠ b → (TX3 a).2.1 ≠ (TX3 b).2.1 := by decide +kernel
theorem tyX3_ok : ∀ k, k < 1 → parseFieldDescriptor (TX3 k).2.2.1 = some (tyX3 k) := by decide +kernel
abbrev cX3_init : ByteArray := prog_4_method_1_code
def yX3_init : MethodName := ⟨RX3, "<init>", "([B)V"⟩
def dkwX3_init_0 : List UInt8 := [42, 43, 3, 43, 190, 183, 0, 1, 177]
abbrev dktX3_init_0 : List UInt8 := dkwX3_init_0 ++ []
theorem dksX3_init_0 : cX3_init.data.toList.drop 0 = dktX3_init_0 := by decide +kernel
theorem dX3_init_0 : decode cX3_init 0 = .ok (.aload_n 0, 1) := dk_42 (dk_at dksX3_init_0 0 rfl rfl)
theorem dX3_init_1 : decode cX3_init 1 = .ok (.aload_n 1, 1) := dk_43 (dk_at dksX3_init_0 1 rfl rfl)
theorem dX3_init_2 : decode cX3_init 2 = .ok (.iconst 0, 1) := dk_3 (dk_at dksX3_init_0 2 rfl rfl)
theorem dX3_init_3 : decode cX3_init 3 = .ok (.aload_n 1, 1) := dk_43 (dk_at dksX3_init_0 3 rfl rfl)
theorem dX3_init_4 : decode cX3_init 4 = .ok (.arraylength, 1) := dk_190 (dk_at dksX3_init_0 4 rfl rfl)
theorem dX3_init_5 : decode cX3_init 5 = .ok (.invokespecial 1, 3) := dk_183 0 1 (dk_at dksX3_init_0 5 rfl rfl)
theorem dX3_init_8 : decode cX3_init 8 = .ok (.return_, 1) := dk_177 (dk_at dksX3_init_0 8 rfl rfl)
abbrev cX3_init_2 : ByteArray := prog_4_method_2_code
def yX3_init_2 : MethodName := ⟨RX3, "<init>", "([BII)V"⟩
def dkwX3_init_2_0 : List UInt8 := [42, 29, 183, 0, 7, 43, 28, 42, 180, 0, 10, 3, 29, 184, 0, 14, 177]
abbrev dktX3_init_2_0 : List UInt8 := dkwX3_init_2_0 ++ []
theorem dksX3_init_2_0 : cX3_init_2.data.toList.drop 0 = dktX3_init_2_0 := by decide +kernel
theorem dX3_init_2_0 : decode cX3_init_2 0 = .ok (.aload_n 0, 1) := dk_42 (dk_at dksX3_init_2_0 0 rfl rfl)
theorem dX3_init_2_1 : decode cX3_init_2 1 = .ok (.iload_n 3, 1) := dk_29 (dk_at dksX3_init_2_0 1 rfl rfl)
theorem dX3_init_2_2 : decode cX3_init_2 2 = .ok (.invokespecial 7, 3) := dk_183 0 7 (dk_at dksX3_init_2_0 2 rfl rfl)
theorem dX3_init_2_5 : decode cX3_init_2 5 = .ok (.aload_n 1, 1) := dk_43 (dk_at dksX3_init_2_0 5 rfl rfl)
theorem dX3_init_2_6 : decode cX3_init_2 6 = .ok (.iload_n 2, 1) := dk_28 (dk_at dksX3_init_2_0 6 rfl rfl)
theorem dX3_init_2_7 : decode cX3_init_2 7 = .ok (.aload_n 0, 1) := dk_42 (dk_at dksX3_init_2_0 7 rfl rfl)
theorem dX3_init_2_8 : decode cX3_init_2 8 = .ok (.getfield 10, 3) := dk_180 0 10 (dk_at dksX3_init_2_0 8 rfl rfl)
theorem dX3_init_2_11 : decode cX3_init_2 11 = .ok (.iconst 0, 1) := dk_3 (dk_at dksX3_init_2_0 11 rfl rfl)
theorem dX3_init_2_12 : decode cX3_init_2 12 = .ok (.iload_n 3, 1) := dk_29 (dk_at dksX3_init_2_0 12 rfl rfl)
theorem dX3_init_2_13 : decode cX3_init_2 13 = .ok (.invokestatic 14, 3) := dk_184 0 14 (dk_at dksX3_init_2_0 13 rfl rfl)
theorem dX3_init_2_16 : decode cX3_init_2 16 = .ok (.return_, 1) := dk_177 (dk_at dksX3_init_2_0 16 rfl rfl)
abbrev cX3_init_3 : ByteArray := prog_4_method_3_code
def yX3_init_3 : MethodName := ⟨RX3, "<init>", "(I)V"⟩
def dkwX3_init_3_0 : List UInt8 := [42, 183, 0, 20, 42, 27, 188, 8, 181, 0, 10, 177]
abbrev dktX3_init_3_0 : List UInt8 := dkwX3_init_3_0 ++ []
theorem dksX3_init_3_0 : cX3_init_3.data.toList.drop 0 = dktX3_init_3_0 := by decide +kernel
theorem dX3_init_3_0 : decode cX3_init_3 0 = .ok (.aload_n 0, 1) := dk_42 (dk_at dksX3_init_3_0 0 rfl rfl)
theorem dX3_init_3_1 : decode cX3_init_3 1 = .ok (.invokespecial 20, 3) := dk_183 0 20 (dk_at dksX3_init_3_0 1 rfl rfl)
theorem dX3_init_3_4 : decode cX3_init_3 4 = .ok (.aload_n 0, 1) := dk_42 (dk_at dksX3_init_3_0 4 rfl rfl)
theorem dX3_init_3_5 : decode cX3_init_3 5 = .ok (.iload_n 1, 1) := dk_27 (dk_at dksX3_init_3_0 5 rfl rfl)
theorem dX3_init_3_6 : decode cX3_init_3 6 = .ok (.newarray .byte, 2) := dk_188_8 (dk_at dksX3_init_3_0 6 rfl rfl)
theorem dX3_init_3_8 : decode cX3_init_3 8 = .ok (.putfield 10, 3) := dk_181 0 10 (dk_at dksX3_init_3_0 8 rfl rfl)
theorem dX3_init_3_11 : decode cX3_init_3 11 = .ok (.return_, 1) := dk_177 (dk_at dksX3_init_3_0 11 rfl rfl)
abbrev cX3_getKey : ByteArray := prog_4_method_4_code
def yX3_getKey : MethodName := ⟨RX3, "getKey", "()[B"⟩
theorem dX3_getKey_0 : decode cX3_getKey 0 = .ok (.aload_n 0, 1) := by decide +kernel
theorem dX3_getKey_1 : decode cX3_getKey 1 = .ok (.getfield 10, 3) := by decide +kernel
theorem dX3_getKey_4 : decode cX3_getKey 4 = .ok (.areturn, 1) := by decide +kernel
theorem q12 : (Jvm.Cond.initialized "KeyParameter") ∈ lw_all := lw_g (lw_at lw_m1 3 rfl) rfl
theorem q50 : (Jvm.Cond.instantiable "KeyParameter" (1 : Nat)) ∈ lw_all := lw_g (lw_at lw_m1 41 rfl) rfl
theorem q52 : (Jvm.Cond.instanceMethod ({ cls := "KeyParameter", name := "<init>", desc := "([B)V" } : Jvm.MethodName)) ∈ lw_all := lw_g (lw_at lw_m1 43 rfl) rfl
theorem q53 : (Jvm.Cond.code ({ cls := "KeyParameter", name := "<init>", desc := "([B)V" } : Jvm.MethodName) prog_4_method_1_code (2 : Nat) (Option.none : Option Jvm.ClassFile.FieldType)) ∈ lw_all := lw_g (lw_at lw_m1 44 rfl) rfl
theorem q54 : (Jvm.Cond.methodLink "KeyParameter" (1 : Nat) ({ cls := "KeyParameter", name := "<init>", desc := "([BII)V" } : Jvm.MethodName)) ∈ lw_all := lw_g (lw_at lw_m1 45 rfl) rfl
theorem q55 : (Jvm.Cond.instanceMethod ({ cls := "KeyParameter", name := "<init>", desc := "([BII)V" } : Jvm.MethodName)) ∈ lw_all := lw_g (lw_at lw_m1 46 rfl) rfl
theorem q56 : (Jvm.Cond.code ({ cls := "KeyParameter", name := "<init>", desc := "([BII)V" } : Jvm.MethodName) prog_4_method_2_code (4 : Nat) (Option.none : Option Jvm.ClassFile.FieldType)) ∈ lw_all := lw_g (lw_at lw_m1 47 rfl) rfl
theorem q57 : (Jvm.Cond.methodLink "KeyParameter" (7 : Nat) ({ cls := "KeyParameter", name := "<init>", desc := "(I)V" } : Jvm.MethodName)) ∈ lw_all := lw_g (lw_at lw_m1 48 rfl) rfl
theorem q58 : (Jvm.Cond.instanceMethod ({ cls := "KeyParameter", name := "<init>", desc := "(I)V" } : Jvm.MethodName)) ∈ lw_all := lw_g (lw_at lw_m1 49 rfl) rfl
theorem q59 : (Jvm.Cond.code ({ cls := "KeyParameter", name := "<init>", desc := "(I)V" } : Jvm.MethodName) prog_4_method_3_code (2 : Nat) (Option.none : Option Jvm.ClassFile.FieldType)) ∈ lw_all := lw_g (lw_at lw_m1 50 rfl) rfl
theorem q60 : (Jvm.Cond.methodLink "KeyParameter" (20 : Nat) ({ cls := "java/lang/Object", name := "<init>", desc := "()V" } : Jvm.MethodName)) ∈ lw_all := lw_g (lw_at lw_m1 51 rfl) rfl
theorem q61 : (Jvm.Cond.fieldLink "KeyParameter" (10 : Nat) "KeyParameter" "key" "[B") ∈ lw_all := lw_g (lw_at lw_m1 52 rfl) rfl
theorem q62 : (Jvm.Cond.lays "KeyParameter" "KeyParameter" "key" "[B") ∈ lw_all := lw_g (lw_at lw_m1 53 rfl) rfl
theorem q63 : (Jvm.Cond.soleField "KeyParameter" "key") ∈ lw_all := lw_g (lw_at lw_m1 54 rfl) rfl
theorem q64 : (Jvm.Cond.superclass "KeyParameter" "java/lang/Object") ∈ lw_all := lw_g (lw_at lw_m1 55 rfl) rfl
theorem q65 : (Jvm.Cond.methodLink "KeyParameter" (14 : Nat) ({ cls := "java/lang/System", name := "arraycopy", desc := "(Ljava/lang/Object;ILjava/lang/Object;II)V" } : Jvm.MethodName)) ∈ lw_all := lw_g (lw_at lw_m1 56 rfl) rfl
theorem q99 : (Jvm.Cond.instanceMethod ({ cls := "KeyParameter", name := "getKey", desc := "()[B" } : Jvm.MethodName)) ∈ lw_all := lw_g (lw_at lw_m1 90 rfl) rfl
theorem q100 : (Jvm.Cond.selects "KeyParameter" ({ cls := "KeyParameter", name := "getKey", desc := "()[B" } : Jvm.MethodName) ({ cls := "KeyParameter", name := "getKey", desc := "()[B" } : Jvm.MethodName)) ∈ lw_all := lw_g (lw_at lw_m1 91 rfl) rfl
theorem q101 : (Jvm.Cond.code ({ cls := "KeyParameter", name := "getKey", desc := "()[B" } : Jvm.MethodName) prog_4_method_4_code (1 : Nat) (Option.some (Jvm.ClassFile.FieldType.array Jvm.ClassFile.FieldType.byte))) ∈ lw_all := lw_g (lw_at lw_m1 92 rfl) rfl
theorem in_X3 : ∀ w ∈ wsX30, w ∈ lw_all := lw_in wsX30 [62] (by decide +kernel) (by decide +kernel)
/-! RC5Parameters -/
set_option maxRecDepth 100000
def RX4 : String := "RC5Parameters"
abbrev cX4_getRounds : ByteArray := prog_6_method_3_code
def yX4_getRounds : MethodName := ⟨RX4, "getRounds", "()I"⟩
theorem dX4_getRounds_0 : decode cX4_getRounds 0 = .ok (.aload_n 0, 1) := by decide +kernel
theorem dX4_getRounds_1 : decode cX4_getRounds 1 = .ok (.getfield 13, 3) := by decide +kernel
theorem dX4_getRounds_4 : decode cX4_getRounds 4 = .ok (.ireturn, 1) := by decide +kernel
abbrev cX4_getKey : ByteArray := prog_6_method_2_code
def yX4_getKey : MethodName := ⟨RX4, "getKey", "()[B"⟩
theorem dX4_getKey_0 : decode cX4_getKey 0 = .ok (.aload_n 0, 1) := by decide +kernel
theorem dX4_getKey_1 : decode cX4_getKey 1 = .ok (.getfield 7, 3) := by decide +kernel
theorem dX4_getKey_4 : decode cX4_getKey 4 = .ok (.areturn, 1) := by decide +kernel
theorem q80 : (Jvm.Cond.instanceMethod ({ cls := "RC5Parameters", name := "getRounds", desc := "()I" } : Jvm.MethodName)) ∈ lw_all := lw_g (lw_at lw_m1 71 rfl) rfl
theorem q81 : (Jvm.Cond.selects "RC5Parameters" ({ cls := "RC5Parameters", name := "getRounds", desc := "()I" } : Jvm.MethodName) ({ cls := "RC5Parameters", name := "getRounds", desc := "()I" } : Jvm.MethodName)) ∈ lw_all := lw_g (lw_at lw_m1 72 rfl) rfl
theorem q82 : (Jvm.Cond.code ({ cls := "RC5Parameters", name := "getRounds", desc := "()I" } : Jvm.MethodName) prog_6_method_3_code (1 : Nat) (Option.some Jvm.ClassFile.FieldType.int)) ∈ lw_all := lw_g (lw_at lw_m1 73 rfl) rfl
theorem q84 : (Jvm.Cond.instanceMethod ({ cls := "RC5Parameters", name := "getKey", desc := "()[B" } : Jvm.MethodName)) ∈ lw_all := lw_g (lw_at lw_m1 75 rfl) rfl
theorem q85 : (Jvm.Cond.selects "RC5Parameters" ({ cls := "RC5Parameters", name := "getKey", desc := "()[B" } : Jvm.MethodName) ({ cls := "RC5Parameters", name := "getKey", desc := "()[B" } : Jvm.MethodName)) ∈ lw_all := lw_g (lw_at lw_m1 76 rfl) rfl
theorem q86 : (Jvm.Cond.code ({ cls := "RC5Parameters", name := "getKey", desc := "()[B" } : Jvm.MethodName) prog_6_method_2_code (1 : Nat) (Option.some (Jvm.ClassFile.FieldType.array Jvm.ClassFile.FieldType.byte))) ∈ lw_all := lw_g (lw_at lw_m1 77 rfl) rfl
theorem q254 : (Jvm.Cond.fieldLink "RC5Parameters" (13 : Nat) "RC5Parameters" "rounds" "I") ∈ lw_all := lw_g (lw_at lw_m2 5 rfl) rfl
theorem q255 : (Jvm.Cond.fieldLink "RC5Parameters" (7 : Nat) "RC5Parameters" "key" "[B") ∈ lw_all := lw_g (lw_at lw_m2 6 rfl) rfl
/-! RcFiveDesk -/
set_option maxRecDepth 100000
def RX1 : String := "RcFiveDesk"
def TX1 : u_T := fun k => match k with
  | 0 => ("RcFiveDesk", "key", "[B", true)
  | 1 => ("RcFiveDesk", "block", "[B", true)
  | _ => ("RcFiveDesk", "out", "[B", true)
def tyX1 : Nat → FieldType := fun k => match k with
  | 0 => .array .byte
  | 1 => .array .byte
  | _ => .array .byte
abbrev wsX10 : List Cond := u_ws RX1 TX1 3
theorem nmX1 : ∀ a, a < 3 → ∀ b, b < 3 → a ≠ b → (TX1 a).2.1 ≠ (TX1 b).2.1 := by decide +kernel
theorem tyX1_ok : ∀ k, k < 3 → parseFieldDescriptor (TX1 k).2.2.1 = some (tyX1 k) := by decide +kernel
abbrev cX1_lock : ByteArray := prog_7_method_7_code
def yX1_lock : MethodName := ⟨RX1, "lock", "(I)V"⟩
def dkwX1_lock_0 : List UInt8 := [42, 4, 27, 182, 0, 45, 177]
abbrev dktX1_lock_0 : List UInt8 := dkwX1_lock_0 ++ []
theorem dksX1_lock_0 : cX1_lock.data.toList.drop 0 = dktX1_lock_0 := by decide +kernel
theorem dX1_lock_0 : decode cX1_lock 0 = .ok (.aload_n 0, 1) := dk_42 (dk_at dksX1_lock_0 0 rfl rfl)
theorem dX1_lock_1 : decode cX1_lock 1 = .ok (.iconst 1, 1) := dk_4 (dk_at dksX1_lock_0 1 rfl rfl)
theorem dX1_lock_2 : decode cX1_lock 2 = .ok (.iload_n 1, 1) := dk_27 (dk_at dksX1_lock_0 2 rfl rfl)
theorem dX1_lock_3 : decode cX1_lock 3 = .ok (.invokevirtual 45, 3) := dk_182 0 45 (dk_at dksX1_lock_0 3 rfl rfl)
theorem dX1_lock_6 : decode cX1_lock 6 = .ok (.return_, 1) := dk_177 (dk_at dksX1_lock_0 6 rfl rfl)
abbrev cX1_run : ByteArray := prog_7_method_5_code
def yX1_run : MethodName := ⟨RX1, "run", "(ZI)V"⟩
def dkwX1_run_3 : List UInt8 := [180, 0, 13, 3, 42, 180, 0, 16, 3, 185, 0, 41, 5, 0, 87, 177]
abbrev dktX1_run_3 : List UInt8 := dkwX1_run_3 ++ []
def dkwX1_run_2 : List UInt8 := [58, 5, 25, 5, 27, 187, 0, 30, 89, 25, 4, 183, 0, 32, 185, 0, 35, 3, 0, 25, 5, 42]
abbrev dktX1_run_2 : List UInt8 := dkwX1_run_2 ++ dktX1_run_3
def dkwX1_run_1 : List UInt8 := [21, 5, 42, 180, 0, 7, 21, 5, 51, 84, 132, 5, 1, 167, 255, 235, 187, 0, 27, 89, 183, 0, 29]
abbrev dktX1_run_1 : List UInt8 := dkwX1_run_1 ++ dktX1_run_2
def dkwX1_run_0 : List UInt8 := [28, 6, 126, 184, 0, 23, 62, 29, 188, 8, 58, 4, 3, 54, 5, 21, 5, 29, 162, 0, 21, 25, 4]
abbrev dktX1_run_0 : List UInt8 := dkwX1_run_0 ++ dktX1_run_1
theorem dksX1_run_0 : cX1_run.data.toList.drop 0 = dktX1_run_0 := by decide +kernel
theorem dksX1_run_1 : cX1_run.data.toList.drop 23 = dktX1_run_1 := dk_seg dksX1_run_0 23 rfl rfl
theorem dksX1_run_2 : cX1_run.data.toList.drop 46 = dktX1_run_2 := dk_seg dksX1_run_1 23 rfl rfl
theorem dksX1_run_3 : cX1_run.data.toList.drop 68 = dktX1_run_3 := dk_seg dksX1_run_2 22 rfl rfl
theorem dX1_run_0 : decode cX1_run 0 = .ok (.iload_n 2, 1) := dk_28 (dk_at dksX1_run_0 0 rfl rfl)
theorem dX1_run_1 : decode cX1_run 1 = .ok (.iconst 3, 1) := dk_6 (dk_at dksX1_run_0 1 rfl rfl)
theorem dX1_run_2 : decode cX1_run 2 = .ok (.iand, 1) := dk_126 (dk_at dksX1_run_0 2 rfl rfl)
theorem dX1_run_3 : decode cX1_run 3 = .ok (.invokestatic 23, 3) := dk_184 0 23 (dk_at dksX1_run_0 3 rfl rfl)
theorem dX1_run_6 : decode cX1_run 6 = .ok (.istore_n 3, 1) := dk_62 (dk_at dksX1_run_0 6 rfl rfl)
theorem dX1_run_7 : decode cX1_run 7 = .ok (.iload_n 3, 1) := dk_29 (dk_at dksX1_run_0 7 rfl rfl)
theorem dX1_run_8 : decode cX1_run 8 = .ok (.newarray .byte, 2) := dk_188_8 (dk_at dksX1_run_0 8 rfl rfl)
theorem dX1_run_10 : decode cX1_run 10 = .ok (.astore 4, 2) := dk_58 4 (dk_at dksX1_run_0 10 rfl rfl)
theorem dX1_run_12 : decode cX1_run 12 = .ok (.iconst 0, 1) := dk_3 (dk_at dksX1_run_0 12 rfl rfl)
theorem dX1_run_13 : decode cX1_run 13 = .ok (.istore 5, 2) := dk_54 5 (dk_at dksX1_run_0 13 rfl rfl)
theorem dX1_run_15 : decode cX1_run 15 = .ok (.iload 5, 2) := dk_21 5 (dk_at dksX1_run_0 15 rfl rfl)
theorem dX1_run_17 : decode cX1_run 17 = .ok (.iload_n 3, 1) := dk_29 (dk_at dksX1_run_0 17 rfl rfl)
theorem dX1_run_18 : decode cX1_run 18 = .ok (.if_icmp .ge 21, 3) := dk_162 0 21 (dk_at dksX1_run_0 18 rfl rfl)
theorem dX1_run_21 : decode cX1_run 21 = .ok (.aload 4, 2) := dk_25 4 (dk_at dksX1_run_0 21 rfl rfl)
theorem dX1_run_23 : decode cX1_run 23 = .ok (.iload 5, 2) := dk_21 5 (dk_at dksX1_run_1 0 rfl rfl)
theorem dX1_run_25 : decode cX1_run 25 = .ok (.aload_n 0, 1) := dk_42 (dk_at dksX1_run_1 2 rfl rfl)
theorem dX1_run_26 : decode cX1_run 26 = .ok (.getfield 7, 3) := dk_180 0 7 (dk_at dksX1_run_1 3 rfl rfl)
theorem dX1_run_29 : decode cX1_run 29 = .ok (.iload 5, 2) := dk_21 5 (dk_at dksX1_run_1 6 rfl rfl)
theorem dX1_run_31 : decode cX1_run 31 = .ok (.baload, 1) := dk_51 (dk_at dksX1_run_1 8 rfl rfl)
theorem dX1_run_32 : decode cX1_run 32 = .ok (.bastore, 1) := dk_84 (dk_at dksX1_run_1 9 rfl rfl)
theorem dX1_run_33 : decode cX1_run 33 = .ok (.iinc 5 1, 3) := dk_132 5 1 (dk_at dksX1_run_1 10 rfl rfl)
theorem dX1_run_36 : decode cX1_run 36 = .ok (.goto (-21), 3) := dk_167 255 235 (dk_at dksX1_run_1 13 rfl rfl)
theorem dX1_run_39 : decode cX1_run 39 = .ok (.new 27, 3) := dk_187 0 27 (dk_at dksX1_run_1 16 rfl rfl)
theorem dX1_run_42 : decode cX1_run 42 = .ok (.dup, 1) := dk_89 (dk_at dksX1_run_1 19 rfl rfl)
theorem dX1_run_43 : decode cX1_run 43 = .ok (.invokespecial 29, 3) := dk_183 0 29 (dk_at dksX1_run_1 20 rfl rfl)
theorem dX1_run_46 : decode cX1_run 46 = .ok (.astore 5, 2) := dk_58 5 (dk_at dksX1_run_2 0 rfl rfl)
theorem dX1_run_48 : decode cX1_run 48 = .ok (.aload 5, 2) := dk_25 5 (dk_at dksX1_run_2 2 rfl rfl)
theorem dX1_run_50 : decode cX1_run 50 = .ok (.iload_n 1, 1) := dk_27 (dk_at dksX1_run_2 4 rfl rfl)
theorem dX1_run_51 : decode cX1_run 51 = .ok (.new 30, 3) := dk_187 0 30 (dk_at dksX1_run_2 5 rfl rfl)
theorem dX1_run_54 : decode cX1_run 54 = .ok (.dup, 1) := dk_89 (dk_at dksX1_run_2 8 rfl rfl)
theorem dX1_run_55 : decode cX1_run 55 = .ok (.aload 4, 2) := dk_25 4 (dk_at dksX1_run_2 9 rfl rfl)
theorem dX1_run_57 : decode cX1_run 57 = .ok (.invokespecial 32, 3) := dk_183 0 32 (dk_at dksX1_run_2 11 rfl rfl)
theorem dX1_run_60 : decode cX1_run 60 = .ok (.invokeinterface 35 3, 5) := by decide +kernel
theorem dX1_run_65 : decode cX1_run 65 = .ok (.aload 5, 2) := dk_25 5 (dk_at dksX1_run_2 19 rfl rfl)
theorem dX1_run_67 : decode cX1_run 67 = .ok (.aload_n 0, 1) := dk_42 (dk_at dksX1_run_2 21 rfl rfl)
theorem dX1_run_68 : decode cX1_run 68 = .ok (.getfield 13, 3) := dk_180 0 13 (dk_at dksX1_run_3 0 rfl rfl)
theorem dX1_run_71 : decode cX1_run 71 = .ok (.iconst 0, 1) := dk_3 (dk_at dksX1_run_3 3 rfl rfl)
theorem dX1_run_72 : decode cX1_run 72 = .ok (.aload_n 0, 1) := dk_42 (dk_at dksX1_run_3 4 rfl rfl)
theorem dX1_run_73 : decode cX1_run 73 = .ok (.getfield 16, 3) := dk_180 0 16 (dk_at dksX1_run_3 5 rfl rfl)
theorem dX1_run_76 : decode cX1_run 76 = .ok (.iconst 0, 1) := dk_3 (dk_at dksX1_run_3 8 rfl rfl)
theorem dX1_run_77 : decode cX1_run 77 = .ok (.invokeinterface 41 5, 5) := by decide +kernel
theorem dX1_run_82 : decode cX1_run 82 = .ok (.pop, 1) := dk_87 (dk_at dksX1_run_3 14 rfl rfl)
theorem dX1_run_83 : decode cX1_run 83 = .ok (.return_, 1) := dk_177 (dk_at dksX1_run_3 15 rfl rfl)
abbrev cX1_size : ByteArray := prog_7_method_6_code
def yX1_size : MethodName := ⟨RX1, "size", "(I)I"⟩
theorem dX1_size_0 : decode cX1_size 0 = .ok (.bipush 16, 2) := by decide +kernel
theorem dX1_size_2 : decode cX1_size 2 = .ok (.ireturn, 1) := by decide +kernel
abbrev cX1_open : ByteArray := prog_7_method_8_code
def yX1_open : MethodName := ⟨RX1, "open", "(I)V"⟩
def dkwX1_open_0 : List UInt8 := [42, 3, 27, 182, 0, 45, 177]
abbrev dktX1_open_0 : List UInt8 := dkwX1_open_0 ++ []
theorem dksX1_open_0 : cX1_open.data.toList.drop 0 = dktX1_open_0 := by decide +kernel
theorem dX1_open_0 : decode cX1_open 0 = .ok (.aload_n 0, 1) := dk_42 (dk_at dksX1_open_0 0 rfl rfl)
theorem dX1_open_1 : decode cX1_open 1 = .ok (.iconst 0, 1) := dk_3 (dk_at dksX1_open_0 1 rfl rfl)
theorem dX1_open_2 : decode cX1_open 2 = .ok (.iload_n 1, 1) := dk_27 (dk_at dksX1_open_0 2 rfl rfl)
theorem dX1_open_3 : decode cX1_open 3 = .ok (.invokevirtual 45, 3) := dk_182 0 45 (dk_at dksX1_open_0 3 rfl rfl)
theorem dX1_open_6 : decode cX1_open 6 = .ok (.return_, 1) := dk_177 (dk_at dksX1_open_0 6 rfl rfl)
abbrev cX1_again : ByteArray := prog_7_method_9_code
def yX1_again : MethodName := ⟨RX1, "again", "()V"⟩
def dkwX1_again_1 : List UInt8 := [167, 255, 235, 177]
abbrev dktX1_again_1 : List UInt8 := dkwX1_again_1 ++ []
def dkwX1_again_0 : List UInt8 := [3, 60, 27, 16, 8, 162, 0, 21, 42, 180, 0, 13, 27, 42, 180, 0, 16, 27, 51, 84, 132, 1, 1]
abbrev dktX1_again_0 : List UInt8 := dkwX1_again_0 ++ dktX1_again_1
theorem dksX1_again_0 : cX1_again.data.toList.drop 0 = dktX1_again_0 := by decide +kernel
theorem dksX1_again_1 : cX1_again.data.toList.drop 23 = dktX1_again_1 := dk_seg dksX1_again_0 23 rfl rfl
theorem dX1_again_0 : decode cX1_again 0 = .ok (.iconst 0, 1) := dk_3 (dk_at dksX1_again_0 0 rfl rfl)
theorem dX1_again_1 : decode cX1_again 1 = .ok (.istore_n 1, 1) := dk_60 (dk_at dksX1_again_0 1 rfl rfl)
theorem dX1_again_2 : decode cX1_again 2 = .ok (.iload_n 1, 1) := dk_27 (dk_at dksX1_again_0 2 rfl rfl)
theorem dX1_again_3 : decode cX1_again 3 = .ok (.bipush 8, 2) := dk_16 8 (dk_at dksX1_again_0 3 rfl rfl)
theorem dX1_again_5 : decode cX1_again 5 = .ok (.if_icmp .ge 21, 3) := dk_162 0 21 (dk_at dksX1_again_0 5 rfl rfl)
theorem dX1_again_8 : decode cX1_again 8 = .ok (.aload_n 0, 1) := dk_42 (dk_at dksX1_again_0 8 rfl rfl)
theorem dX1_again_9 : decode cX1_again 9 = .ok (.getfield 13, 3) := dk_180 0 13 (dk_at dksX1_again_0 9 rfl rfl)
theorem dX1_again_12 : decode cX1_again 12 = .ok (.iload_n 1, 1) := dk_27 (dk_at dksX1_again_0 12 rfl rfl)
theorem dX1_again_13 : decode cX1_again 13 = .ok (.aload_n 0, 1) := dk_42 (dk_at dksX1_again_0 13 rfl rfl)
theorem dX1_again_14 : decode cX1_again 14 = .ok (.getfield 16, 3) := dk_180 0 16 (dk_at dksX1_again_0 14 rfl rfl)
theorem dX1_again_17 : decode cX1_again 17 = .ok (.iload_n 1, 1) := dk_27 (dk_at dksX1_again_0 17 rfl rfl)
theorem dX1_again_18 : decode cX1_again 18 = .ok (.baload, 1) := dk_51 (dk_at dksX1_again_0 18 rfl rfl)
theorem dX1_again_19 : decode cX1_again 19 = .ok (.bastore, 1) := dk_84 (dk_at dksX1_again_0 19 rfl rfl)
theorem dX1_again_20 : decode cX1_again 20 = .ok (.iinc 1 1, 3) := dk_132 1 1 (dk_at dksX1_again_0 20 rfl rfl)
theorem dX1_again_23 : decode cX1_again 23 = .ok (.goto (-21), 3) := dk_167 255 235 (dk_at dksX1_again_1 0 rfl rfl)
theorem dX1_again_26 : decode cX1_again 26 = .ok (.return_, 1) := dk_177 (dk_at dksX1_again_1 3 rfl rfl)
abbrev cX1_init : ByteArray := prog_7_method_1_code
def yX1_init : MethodName := ⟨RX1, "<init>", "()V"⟩
def dkwX1_init_1 : List UInt8 := [188, 8, 181, 0, 16, 177]
abbrev dktX1_init_1 : List UInt8 := dkwX1_init_1 ++ []
def dkwX1_init_0 : List UInt8 := [42, 183, 0, 1, 42, 16, 32, 188, 8, 181, 0, 7, 42, 16, 8, 188, 8, 181, 0, 13, 42, 16, 8]
abbrev dktX1_init_0 : List UInt8 := dkwX1_init_0 ++ dktX1_init_1
theorem dksX1_init_0 : cX1_init.data.toList.drop 0 = dktX1_init_0 := by decide +kernel
theorem dksX1_init_1 : cX1_init.data.toList.drop 23 = dktX1_init_1 := dk_seg dksX1_init_0 23 rfl rfl
theorem dX1_init_0 : decode cX1_init 0 = .ok (.aload_n 0, 1) := dk_42 (dk_at dksX1_init_0 0 rfl rfl)
theorem dX1_init_1 : decode cX1_init 1 = .ok (.invokespecial 1, 3) := dk_183 0 1 (dk_at dksX1_init_0 1 rfl rfl)
theorem dX1_init_4 : decode cX1_init 4 = .ok (.aload_n 0, 1) := dk_42 (dk_at dksX1_init_0 4 rfl rfl)
theorem dX1_init_5 : decode cX1_init 5 = .ok (.bipush 32, 2) := dk_16 32 (dk_at dksX1_init_0 5 rfl rfl)
theorem dX1_init_7 : decode cX1_init 7 = .ok (.newarray .byte, 2) := dk_188_8 (dk_at dksX1_init_0 7 rfl rfl)
theorem dX1_init_9 : decode cX1_init 9 = .ok (.putfield 7, 3) := dk_181 0 7 (dk_at dksX1_init_0 9 rfl rfl)
theorem dX1_init_12 : decode cX1_init 12 = .ok (.aload_n 0, 1) := dk_42 (dk_at dksX1_init_0 12 rfl rfl)
theorem dX1_init_13 : decode cX1_init 13 = .ok (.bipush 8, 2) := dk_16 8 (dk_at dksX1_init_0 13 rfl rfl)
theorem dX1_init_15 : decode cX1_init 15 = .ok (.newarray .byte, 2) := dk_188_8 (dk_at dksX1_init_0 15 rfl rfl)
theorem dX1_init_17 : decode cX1_init 17 = .ok (.putfield 13, 3) := dk_181 0 13 (dk_at dksX1_init_0 17 rfl rfl)
theorem dX1_init_20 : decode cX1_init 20 = .ok (.aload_n 0, 1) := dk_42 (dk_at dksX1_init_0 20 rfl rfl)
theorem dX1_init_21 : decode cX1_init 21 = .ok (.bipush 8, 2) := dk_16 8 (dk_at dksX1_init_0 21 rfl rfl)
theorem dX1_init_23 : decode cX1_init 23 = .ok (.newarray .byte, 2) := dk_188_8 (dk_at dksX1_init_1 0 rfl rfl)
theorem dX1_init_25 : decode cX1_init 25 = .ok (.putfield 16, 3) := dk_181 0 16 (dk_at dksX1_init_1 2 rfl rfl)
theorem dX1_init_28 : decode cX1_init 28 = .ok (.return_, 1) := dk_177 (dk_at dksX1_init_1 5 rfl rfl)
abbrev cX1_key : ByteArray := prog_7_method_3_code
def yX1_key : MethodName := ⟨RX1, "key", "(IIIII)V"⟩
def dkwX1_key_2 : List UInt8 := [21, 6, 16, 12, 96, 21, 5, 184, 0, 19, 177]
abbrev dktX1_key_2 : List UInt8 := dkwX1_key_2 ++ []
def dkwX1_key_1 : List UInt8 := [96, 29, 184, 0, 19, 42, 180, 0, 7, 21, 6, 16, 8, 96, 21, 4, 184, 0, 19, 42, 180, 0, 7]
abbrev dktX1_key_1 : List UInt8 := dkwX1_key_1 ++ dktX1_key_2
def dkwX1_key_0 : List UInt8 := [27, 4, 126, 7, 120, 54, 6, 42, 180, 0, 7, 21, 6, 28, 184, 0, 19, 42, 180, 0, 7, 21, 6, 7]
abbrev dktX1_key_0 : List UInt8 := dkwX1_key_0 ++ dktX1_key_1
theorem dksX1_key_0 : cX1_key.data.toList.drop 0 = dktX1_key_0 := by decide +kernel
theorem dksX1_key_1 : cX1_key.data.toList.drop 24 = dktX1_key_1 := dk_seg dksX1_key_0 24 rfl rfl
theorem dksX1_key_2 : cX1_key.data.toList.drop 47 = dktX1_key_2 := dk_seg dksX1_key_1 23 rfl rfl
theorem dX1_key_0 : decode cX1_key 0 = .ok (.iload_n 1, 1) := dk_27 (dk_at dksX1_key_0 0 rfl rfl)
theorem dX1_key_1 : decode cX1_key 1 = .ok (.iconst 1, 1) := dk_4 (dk_at dksX1_key_0 1 rfl rfl)
theorem dX1_key_2 : decode cX1_key 2 = .ok (.iand, 1) := dk_126 (dk_at dksX1_key_0 2 rfl rfl)
theorem dX1_key_3 : decode cX1_key 3 = .ok (.iconst 4, 1) := dk_7 (dk_at dksX1_key_0 3 rfl rfl)
theorem dX1_key_4 : decode cX1_key 4 = .ok (.ishl, 1) := dk_120 (dk_at dksX1_key_0 4 rfl rfl)
theorem dX1_key_5 : decode cX1_key 5 = .ok (.istore 6, 2) := dk_54 6 (dk_at dksX1_key_0 5 rfl rfl)
theorem dX1_key_7 : decode cX1_key 7 = .ok (.aload_n 0, 1) := dk_42 (dk_at dksX1_key_0 7 rfl rfl)
theorem dX1_key_8 : decode cX1_key 8 = .ok (.getfield 7, 3) := dk_180 0 7 (dk_at dksX1_key_0 8 rfl rfl)
theorem dX1_key_11 : decode cX1_key 11 = .ok (.iload 6, 2) := dk_21 6 (dk_at dksX1_key_0 11 rfl rfl)
theorem dX1_key_13 : decode cX1_key 13 = .ok (.iload_n 2, 1) := dk_28 (dk_at dksX1_key_0 13 rfl rfl)
theorem dX1_key_14 : decode cX1_key 14 = .ok (.invokestatic 19, 3) := dk_184 0 19 (dk_at dksX1_key_0 14 rfl rfl)
theorem dX1_key_17 : decode cX1_key 17 = .ok (.aload_n 0, 1) := dk_42 (dk_at dksX1_key_0 17 rfl rfl)
theorem dX1_key_18 : decode cX1_key 18 = .ok (.getfield 7, 3) := dk_180 0 7 (dk_at dksX1_key_0 18 rfl rfl)
theorem dX1_key_21 : decode cX1_key 21 = .ok (.iload 6, 2) := dk_21 6 (dk_at dksX1_key_0 21 rfl rfl)
theorem dX1_key_23 : decode cX1_key 23 = .ok (.iconst 4, 1) := dk_7 (dk_at dksX1_key_0 23 rfl rfl)
theorem dX1_key_24 : decode cX1_key 24 = .ok (.iadd, 1) := dk_96 (dk_at dksX1_key_1 0 rfl rfl)
theorem dX1_key_25 : decode cX1_key 25 = .ok (.iload_n 3, 1) := dk_29 (dk_at dksX1_key_1 1 rfl rfl)
theorem dX1_key_26 : decode cX1_key 26 = .ok (.invokestatic 19, 3) := dk_184 0 19 (dk_at dksX1_key_1 2 rfl rfl)
theorem dX1_key_29 : decode cX1_key 29 = .ok (.aload_n 0, 1) := dk_42 (dk_at dksX1_key_1 5 rfl rfl)
theorem dX1_key_30 : decode cX1_key 30 = .ok (.getfield 7, 3) := dk_180 0 7 (dk_at dksX1_key_1 6 rfl rfl)
theorem dX1_key_33 : decode cX1_key 33 = .ok (.iload 6, 2) := dk_21 6 (dk_at dksX1_key_1 9 rfl rfl)
theorem dX1_key_35 : decode cX1_key 35 = .ok (.bipush 8, 2) := dk_16 8 (dk_at dksX1_key_1 11 rfl rfl)
theorem dX1_key_37 : decode cX1_key 37 = .ok (.iadd, 1) := dk_96 (dk_at dksX1_key_1 13 rfl rfl)
theorem dX1_key_38 : decode cX1_key 38 = .ok (.iload 4, 2) := dk_21 4 (dk_at dksX1_key_1 14 rfl rfl)
theorem dX1_key_40 : decode cX1_key 40 = .ok (.invokestatic 19, 3) := dk_184 0 19 (dk_at dksX1_key_1 16 rfl rfl)
theorem dX1_key_43 : decode cX1_key 43 = .ok (.aload_n 0, 1) := dk_42 (dk_at dksX1_key_1 19 rfl rfl)
theorem dX1_key_44 : decode cX1_key 44 = .ok (.getfield 7, 3) := dk_180 0 7 (dk_at dksX1_key_1 20 rfl rfl)
theorem dX1_key_47 : decode cX1_key 47 = .ok (.iload 6, 2) := dk_21 6 (dk_at dksX1_key_2 0 rfl rfl)
theorem dX1_key_49 : decode cX1_key 49 = .ok (.bipush 12, 2) := dk_16 12 (dk_at dksX1_key_2 2 rfl rfl)
theorem dX1_key_51 : decode cX1_key 51 = .ok (.iadd, 1) := dk_96 (dk_at dksX1_key_2 4 rfl rfl)
theorem dX1_key_52 : decode cX1_key 52 = .ok (.iload 5, 2) := dk_21 5 (dk_at dksX1_key_2 5 rfl rfl)
theorem dX1_key_54 : decode cX1_key 54 = .ok (.invokestatic 19, 3) := dk_184 0 19 (dk_at dksX1_key_2 7 rfl rfl)
theorem dX1_key_57 : decode cX1_key 57 = .ok (.return_, 1) := dk_177 (dk_at dksX1_key_2 10 rfl rfl)
abbrev cX1_word : ByteArray := prog_7_method_2_code
def yX1_word : MethodName := ⟨RX1, "word", "([BII)V"⟩
def dkwX1_word_1 : List UInt8 := [16, 8, 122, 145, 84, 42, 27, 6, 96, 28, 145, 84, 177]
abbrev dktX1_word_1 : List UInt8 := dkwX1_word_1 ++ []
def dkwX1_word_0 : List UInt8 := [42, 27, 28, 16, 24, 122, 145, 84, 42, 27, 4, 96, 28, 16, 16, 122, 145, 84, 42, 27, 5, 96, 28]
abbrev dktX1_word_0 : List UInt8 := dkwX1_word_0 ++ dktX1_word_1
theorem dksX1_word_0 : cX1_word.data.toList.drop 0 = dktX1_word_0 := by decide +kernel
theorem dksX1_word_1 : cX1_word.data.toList.drop 23 = dktX1_word_1 := dk_seg dksX1_word_0 23 rfl rfl
theorem dX1_word_0 : decode cX1_word 0 = .ok (.aload_n 0, 1) := dk_42 (dk_at dksX1_word_0 0 rfl rfl)
theorem dX1_word_1 : decode cX1_word 1 = .ok (.iload_n 1, 1) := dk_27 (dk_at dksX1_word_0 1 rfl rfl)
theorem dX1_word_2 : decode cX1_word 2 = .ok (.iload_n 2, 1) := dk_28 (dk_at dksX1_word_0 2 rfl rfl)
theorem dX1_word_3 : decode cX1_word 3 = .ok (.bipush 24, 2) := dk_16 24 (dk_at dksX1_word_0 3 rfl rfl)
theorem dX1_word_5 : decode cX1_word 5 = .ok (.ishr, 1) := dk_122 (dk_at dksX1_word_0 5 rfl rfl)
theorem dX1_word_6 : decode cX1_word 6 = .ok (.i2b, 1) := dk_145 (dk_at dksX1_word_0 6 rfl rfl)
theorem dX1_word_7 : decode cX1_word 7 = .ok (.bastore, 1) := dk_84 (dk_at dksX1_word_0 7 rfl rfl)
theorem dX1_word_8 : decode cX1_word 8 = .ok (.aload_n 0, 1) := dk_42 (dk_at dksX1_word_0 8 rfl rfl)
theorem dX1_word_9 : decode cX1_word 9 = .ok (.iload_n 1, 1) := dk_27 (dk_at dksX1_word_0 9 rfl rfl)
theorem dX1_word_10 : decode cX1_word 10 = .ok (.iconst 1, 1) := dk_4 (dk_at dksX1_word_0 10 rfl rfl)
theorem dX1_word_11 : decode cX1_word 11 = .ok (.iadd, 1) := dk_96 (dk_at dksX1_word_0 11 rfl rfl)
theorem dX1_word_12 : decode cX1_word 12 = .ok (.iload_n 2, 1) := dk_28 (dk_at dksX1_word_0 12 rfl rfl)
theorem dX1_word_13 : decode cX1_word 13 = .ok (.bipush 16, 2) := dk_16 16 (dk_at dksX1_word_0 13 rfl rfl)
theorem dX1_word_15 : decode cX1_word 15 = .ok (.ishr, 1) := dk_122 (dk_at dksX1_word_0 15 rfl rfl)
theorem dX1_word_16 : decode cX1_word 16 = .ok (.i2b, 1) := dk_145 (dk_at dksX1_word_0 16 rfl rfl)
theorem dX1_word_17 : decode cX1_word 17 = .ok (.bastore, 1) := dk_84 (dk_at dksX1_word_0 17 rfl rfl)
theorem dX1_word_18 : decode cX1_word 18 = .ok (.aload_n 0, 1) := dk_42 (dk_at dksX1_word_0 18 rfl rfl)
theorem dX1_word_19 : decode cX1_word 19 = .ok (.iload_n 1, 1) := dk_27 (dk_at dksX1_word_0 19 rfl rfl)
theorem dX1_word_20 : decode cX1_word 20 = .ok (.iconst 2, 1) := dk_5 (dk_at dksX1_word_0 20 rfl rfl)
theorem dX1_word_21 : decode cX1_word 21 = .ok (.iadd, 1) := dk_96 (dk_at dksX1_word_0 21 rfl rfl)
theorem dX1_word_22 : decode cX1_word 22 = .ok (.iload_n 2, 1) := dk_28 (dk_at dksX1_word_0 22 rfl rfl)
theorem dX1_word_23 : decode cX1_word 23 = .ok (.bipush 8, 2) := dk_16 8 (dk_at dksX1_word_1 0 rfl rfl)
theorem dX1_word_25 : decode cX1_word 25 = .ok (.ishr, 1) := dk_122 (dk_at dksX1_word_1 2 rfl rfl)
theorem dX1_word_26 : decode cX1_word 26 = .ok (.i2b, 1) := dk_145 (dk_at dksX1_word_1 3 rfl rfl)
theorem dX1_word_27 : decode cX1_word 27 = .ok (.bastore, 1) := dk_84 (dk_at dksX1_word_1 4 rfl rfl)
theorem dX1_word_28 : decode cX1_word 28 = .ok (.aload_n 0, 1) := dk_42 (dk_at dksX1_word_1 5 rfl rfl)
theorem dX1_word_29 : decode cX1_word 29 = .ok (.iload_n 1, 1) := dk_27 (dk_at dksX1_word_1 6 rfl rfl)
theorem dX1_word_30 : decode cX1_word 30 = .ok (.iconst 3, 1) := dk_6 (dk_at dksX1_word_1 7 rfl rfl)
theorem dX1_word_31 : decode cX1_word 31 = .ok (.iadd, 1) := dk_96 (dk_at dksX1_word_1 8 rfl rfl)
theorem dX1_word_32 : decode cX1_word 32 = .ok (.iload_n 2, 1) := dk_28 (dk_at dksX1_word_1 9 rfl rfl)
theorem dX1_word_33 : decode cX1_word 33 = .ok (.i2b, 1) := dk_145 (dk_at dksX1_word_1 10 rfl rfl)
theorem dX1_word_34 : decode cX1_word 34 = .ok (.bastore, 1) := dk_84 (dk_at dksX1_word_1 11 rfl rfl)
theorem dX1_word_35 : decode cX1_word 35 = .ok (.return_, 1) := dk_177 (dk_at dksX1_word_1 12 rfl rfl)
abbrev cX1_block : ByteArray := prog_7_method_4_code
def yX1_block : MethodName := ⟨RX1, "block", "(II)V"⟩
def dkwX1_block_0 : List UInt8 := [42, 180, 0, 13, 3, 27, 184, 0, 19, 42, 180, 0, 13, 7, 28, 184, 0, 19, 177]
abbrev dktX1_block_0 : List UInt8 := dkwX1_block_0 ++ []
theorem dksX1_block_0 : cX1_block.data.toList.drop 0 = dktX1_block_0 := by decide +kernel
theorem dX1_block_0 : decode cX1_block 0 = .ok (.aload_n 0, 1) := dk_42 (dk_at dksX1_block_0 0 rfl rfl)
theorem dX1_block_1 : decode cX1_block 1 = .ok (.getfield 13, 3) := dk_180 0 13 (dk_at dksX1_block_0 1 rfl rfl)
theorem dX1_block_4 : decode cX1_block 4 = .ok (.iconst 0, 1) := dk_3 (dk_at dksX1_block_0 4 rfl rfl)
theorem dX1_block_5 : decode cX1_block 5 = .ok (.iload_n 1, 1) := dk_27 (dk_at dksX1_block_0 5 rfl rfl)
theorem dX1_block_6 : decode cX1_block 6 = .ok (.invokestatic 19, 3) := dk_184 0 19 (dk_at dksX1_block_0 6 rfl rfl)
theorem dX1_block_9 : decode cX1_block 9 = .ok (.aload_n 0, 1) := dk_42 (dk_at dksX1_block_0 9 rfl rfl)
theorem dX1_block_10 : decode cX1_block 10 = .ok (.getfield 13, 3) := dk_180 0 13 (dk_at dksX1_block_0 10 rfl rfl)
theorem dX1_block_13 : decode cX1_block 13 = .ok (.iconst 4, 1) := dk_7 (dk_at dksX1_block_0 13 rfl rfl)
theorem dX1_block_14 : decode cX1_block 14 = .ok (.iload_n 2, 1) := dk_28 (dk_at dksX1_block_0 14 rfl rfl)
theorem dX1_block_15 : decode cX1_block 15 = .ok (.invokestatic 19, 3) := dk_184 0 19 (dk_at dksX1_block_0 15 rfl rfl)
theorem dX1_block_18 : decode cX1_block 18 = .ok (.return_, 1) := dk_177 (dk_at dksX1_block_0 18 rfl rfl)
abbrev cX1_out : ByteArray := prog_7_method_10_code
def yX1_out : MethodName := ⟨RX1, "out", "(I)I"⟩
def dkwX1_out_0 : List UInt8 := [42, 180, 0, 16, 27, 16, 7, 126, 51, 17, 0, 255, 126, 172]
abbrev dktX1_out_0 : List UInt8 := dkwX1_out_0 ++ []
theorem dksX1_out_0 : cX1_out.data.toList.drop 0 = dktX1_out_0 := by decide +kernel
theorem dX1_out_0 : decode cX1_out 0 = .ok (.aload_n 0, 1) := dk_42 (dk_at dksX1_out_0 0 rfl rfl)
theorem dX1_out_1 : decode cX1_out 1 = .ok (.getfield 16, 3) := dk_180 0 16 (dk_at dksX1_out_0 1 rfl rfl)
theorem dX1_out_4 : decode cX1_out 4 = .ok (.iload_n 1, 1) := dk_27 (dk_at dksX1_out_0 4 rfl rfl)
theorem dX1_out_5 : decode cX1_out 5 = .ok (.bipush 7, 2) := dk_16 7 (dk_at dksX1_out_0 5 rfl rfl)
theorem dX1_out_7 : decode cX1_out 7 = .ok (.iand, 1) := dk_126 (dk_at dksX1_out_0 7 rfl rfl)
theorem dX1_out_8 : decode cX1_out 8 = .ok (.baload, 1) := dk_51 (dk_at dksX1_out_0 8 rfl rfl)
theorem dX1_out_9 : decode cX1_out 9 = .ok (.sipush 255, 3) := dk_17 0 255 (dk_at dksX1_out_0 9 rfl rfl)
theorem dX1_out_12 : decode cX1_out 12 = .ok (.iand, 1) := dk_126 (dk_at dksX1_out_0 12 rfl rfl)
theorem dX1_out_13 : decode cX1_out 13 = .ok (.ireturn, 1) := dk_172 (dk_at dksX1_out_0 13 rfl rfl)
theorem q10 : (Jvm.Cond.initialized "RcFiveDesk") ∈ lw_all := lw_g (lw_at lw_m1 1 rfl) rfl
theorem q19 : (Jvm.Cond.instanceMethod ({ cls := "RcFiveDesk", name := "lock", desc := "(I)V" } : Jvm.MethodName)) ∈ lw_all := lw_g (lw_at lw_m1 10 rfl) rfl
theorem q20 : (Jvm.Cond.selects "RcFiveDesk" ({ cls := "RcFiveDesk", name := "lock", desc := "(I)V" } : Jvm.MethodName) ({ cls := "RcFiveDesk", name := "lock", desc := "(I)V" } : Jvm.MethodName)) ∈ lw_all := lw_g (lw_at lw_m1 11 rfl) rfl
theorem q21 : (Jvm.Cond.code ({ cls := "RcFiveDesk", name := "lock", desc := "(I)V" } : Jvm.MethodName) prog_7_method_7_code (2 : Nat) (Option.none : Option Jvm.ClassFile.FieldType)) ∈ lw_all := lw_g (lw_at lw_m1 12 rfl) rfl
theorem q22 : (Jvm.Cond.methodLink "RcFiveDesk" (45 : Nat) ({ cls := "RcFiveDesk", name := "run", desc := "(ZI)V" } : Jvm.MethodName)) ∈ lw_all := lw_g (lw_at lw_m1 13 rfl) rfl
theorem q23 : (Jvm.Cond.privateMethod ({ cls := "RcFiveDesk", name := "run", desc := "(ZI)V" } : Jvm.MethodName)) ∈ lw_tbl := lw_at lw_m1 14 rfl
theorem q24 : (Jvm.Cond.instanceMethod ({ cls := "RcFiveDesk", name := "run", desc := "(ZI)V" } : Jvm.MethodName)) ∈ lw_all := lw_g (lw_at lw_m1 15 rfl) rfl
theorem q25 : (Jvm.Cond.instantiable "RcFiveDesk" (3 : Nat)) ∈ lw_all := lw_g (lw_at lw_m1 16 rfl) rfl
theorem q26 : (Jvm.Cond.code ({ cls := "RcFiveDesk", name := "run", desc := "(ZI)V" } : Jvm.MethodName) prog_7_method_5_code (6 : Nat) (Option.none : Option Jvm.ClassFile.FieldType)) ∈ lw_all := lw_g (lw_at lw_m1 17 rfl) rfl
theorem q27 : (Jvm.Cond.methodLink "RcFiveDesk" (23 : Nat) ({ cls := "RcFiveDesk", name := "size", desc := "(I)I" } : Jvm.MethodName)) ∈ lw_all := lw_g (lw_at lw_m1 18 rfl) rfl
theorem q28 : (Jvm.Cond.static ({ cls := "RcFiveDesk", name := "size", desc := "(I)I" } : Jvm.MethodName)) ∈ lw_all := lw_g (lw_at lw_m1 19 rfl) rfl
theorem q29 : (Jvm.Cond.code ({ cls := "RcFiveDesk", name := "size", desc := "(I)I" } : Jvm.MethodName) prog_7_method_6_code (1 : Nat) (Option.some Jvm.ClassFile.FieldType.int)) ∈ lw_all := lw_g (lw_at lw_m1 20 rfl) rfl
theorem q30 : (Jvm.Cond.classLink "RcFiveDesk" (27 : Nat) "RC532Engine") ∈ lw_all := lw_g (lw_at lw_m1 21 rfl) rfl
theorem q32 : (Jvm.Cond.methodLink "RcFiveDesk" (29 : Nat) ({ cls := "RC532Engine", name := "<init>", desc := "()V" } : Jvm.MethodName)) ∈ lw_all := lw_g (lw_at lw_m1 23 rfl) rfl
theorem q49 : (Jvm.Cond.classLink "RcFiveDesk" (30 : Nat) "KeyParameter") ∈ lw_all := lw_g (lw_at lw_m1 40 rfl) rfl
theorem q51 : (Jvm.Cond.methodLink "RcFiveDesk" (32 : Nat) ({ cls := "KeyParameter", name := "<init>", desc := "([B)V" } : Jvm.MethodName)) ∈ lw_all := lw_g (lw_at lw_m1 42 rfl) rfl
theorem q68 : (Jvm.Cond.interfaceEntry "RcFiveDesk" (35 : Nat)) ∈ lw_tbl := lw_at lw_m1 59 rfl
theorem q69 : (Jvm.Cond.methodLink "RcFiveDesk" (35 : Nat) ({ cls := "BlockCipher", name := "init", desc := "(ZLCipherParameters;)V" } : Jvm.MethodName)) ∈ lw_all := lw_g (lw_at lw_m1 60 rfl) rfl
theorem q168 : (Jvm.Cond.interfaceEntry "RcFiveDesk" (41 : Nat)) ∈ lw_tbl := lw_at lw_m1 159 rfl
theorem q169 : (Jvm.Cond.methodLink "RcFiveDesk" (41 : Nat) ({ cls := "BlockCipher", name := "processBlock", desc := "([BI[BI)I" } : Jvm.MethodName)) ∈ lw_all := lw_g (lw_at lw_m1 160 rfl) rfl
theorem q198 : (Jvm.Cond.instanceMethod ({ cls := "RcFiveDesk", name := "open", desc := "(I)V" } : Jvm.MethodName)) ∈ lw_all := lw_g (lw_at lw_m1 189 rfl) rfl
theorem q199 : (Jvm.Cond.selects "RcFiveDesk" ({ cls := "RcFiveDesk", name := "open", desc := "(I)V" } : Jvm.MethodName) ({ cls := "RcFiveDesk", name := "open", desc := "(I)V" } : Jvm.MethodName)) ∈ lw_all := lw_g (lw_at lw_m1 190 rfl) rfl
theorem q200 : (Jvm.Cond.code ({ cls := "RcFiveDesk", name := "open", desc := "(I)V" } : Jvm.MethodName) prog_7_method_8_code (2 : Nat) (Option.none : Option Jvm.ClassFile.FieldType)) ∈ lw_all := lw_g (lw_at lw_m1 191 rfl) rfl
theorem q202 : (Jvm.Cond.instanceMethod ({ cls := "RcFiveDesk", name := "again", desc := "()V" } : Jvm.MethodName)) ∈ lw_all := lw_g (lw_at lw_m1 193 rfl) rfl
theorem q203 : (Jvm.Cond.selects "RcFiveDesk" ({ cls := "RcFiveDesk", name := "again", desc := "()V" } : Jvm.MethodName) ({ cls := "RcFiveDesk", name := "again", desc := "()V" } : Jvm.MethodName)) ∈ lw_all := lw_g (lw_at lw_m1 194 rfl) rfl
theorem q204 : (Jvm.Cond.code ({ cls := "RcFiveDesk", name := "again", desc := "()V" } : Jvm.MethodName) prog_7_method_9_code (2 : Nat) (Option.none : Option Jvm.ClassFile.FieldType)) ∈ lw_all := lw_g (lw_at lw_m1 195 rfl) rfl
theorem q210 : (Jvm.Cond.instanceMethod ({ cls := "RcFiveDesk", name := "<init>", desc := "()V" } : Jvm.MethodName)) ∈ lw_all := lw_g (lw_at lw_m1 201 rfl) rfl
theorem q211 : (Jvm.Cond.code ({ cls := "RcFiveDesk", name := "<init>", desc := "()V" } : Jvm.MethodName) prog_7_method_1_code (1 : Nat) (Option.none : Option Jvm.ClassFile.FieldType)) ∈ lw_all := lw_g (lw_at lw_m1 202 rfl) rfl
theorem q212 : (Jvm.Cond.methodLink "RcFiveDesk" (1 : Nat) ({ cls := "java/lang/Object", name := "<init>", desc := "()V" } : Jvm.MethodName)) ∈ lw_all := lw_g (lw_at lw_m1 203 rfl) rfl
theorem q213 : (Jvm.Cond.fieldLink "RcFiveDesk" (7 : Nat) "RcFiveDesk" "key" "[B") ∈ lw_all := lw_g (lw_at lw_m1 204 rfl) rfl
theorem q214 : (Jvm.Cond.fieldLink "RcFiveDesk" (13 : Nat) "RcFiveDesk" "block" "[B") ∈ lw_all := lw_g (lw_at lw_m1 205 rfl) rfl
theorem q215 : (Jvm.Cond.fieldLink "RcFiveDesk" (16 : Nat) "RcFiveDesk" "out" "[B") ∈ lw_all := lw_g (lw_at lw_m1 206 rfl) rfl
theorem q216 : (Jvm.Cond.laysFinal "RcFiveDesk" "RcFiveDesk" "key" "[B") ∈ lw_all := lw_g (lw_at lw_m1 207 rfl) rfl
theorem q217 : (Jvm.Cond.soleField "RcFiveDesk" "key") ∈ lw_all := lw_g (lw_at lw_m1 208 rfl) rfl
theorem q218 : (Jvm.Cond.laysFinal "RcFiveDesk" "RcFiveDesk" "block" "[B") ∈ lw_all := lw_g (lw_at lw_m1 209 rfl) rfl
theorem q219 : (Jvm.Cond.soleField "RcFiveDesk" "block") ∈ lw_all := lw_g (lw_at lw_m1 210 rfl) rfl
theorem q220 : (Jvm.Cond.laysFinal "RcFiveDesk" "RcFiveDesk" "out" "[B") ∈ lw_all := lw_g (lw_at lw_m1 211 rfl) rfl
theorem q221 : (Jvm.Cond.soleField "RcFiveDesk" "out") ∈ lw_all := lw_g (lw_at lw_m1 212 rfl) rfl
theorem q222 : (Jvm.Cond.superclass "RcFiveDesk" "java/lang/Object") ∈ lw_all := lw_g (lw_at lw_m1 213 rfl) rfl
theorem q227 : (Jvm.Cond.instanceMethod ({ cls := "RcFiveDesk", name := "key", desc := "(IIIII)V" } : Jvm.MethodName)) ∈ lw_all := lw_g (lw_at lw_m1 218 rfl) rfl
theorem q228 : (Jvm.Cond.selects "RcFiveDesk" ({ cls := "RcFiveDesk", name := "key", desc := "(IIIII)V" } : Jvm.MethodName) ({ cls := "RcFiveDesk", name := "key", desc := "(IIIII)V" } : Jvm.MethodName)) ∈ lw_all := lw_g (lw_at lw_m1 219 rfl) rfl
theorem q229 : (Jvm.Cond.code ({ cls := "RcFiveDesk", name := "key", desc := "(IIIII)V" } : Jvm.MethodName) prog_7_method_3_code (7 : Nat) (Option.none : Option Jvm.ClassFile.FieldType)) ∈ lw_all := lw_g (lw_at lw_m1 220 rfl) rfl
theorem q230 : (Jvm.Cond.methodLink "RcFiveDesk" (19 : Nat) ({ cls := "RcFiveDesk", name := "word", desc := "([BII)V" } : Jvm.MethodName)) ∈ lw_all := lw_g (lw_at lw_m1 221 rfl) rfl
theorem q231 : (Jvm.Cond.static ({ cls := "RcFiveDesk", name := "word", desc := "([BII)V" } : Jvm.MethodName)) ∈ lw_all := lw_g (lw_at lw_m1 222 rfl) rfl
theorem q232 : (Jvm.Cond.code ({ cls := "RcFiveDesk", name := "word", desc := "([BII)V" } : Jvm.MethodName) prog_7_method_2_code (3 : Nat) (Option.none : Option Jvm.ClassFile.FieldType)) ∈ lw_all := lw_g (lw_at lw_m1 223 rfl) rfl
theorem q234 : (Jvm.Cond.instanceMethod ({ cls := "RcFiveDesk", name := "block", desc := "(II)V" } : Jvm.MethodName)) ∈ lw_all := lw_g (lw_at lw_m1 225 rfl) rfl
theorem q235 : (Jvm.Cond.selects "RcFiveDesk" ({ cls := "RcFiveDesk", name := "block", desc := "(II)V" } : Jvm.MethodName) ({ cls := "RcFiveDesk", name := "block", desc := "(II)V" } : Jvm.MethodName)) ∈ lw_all := lw_g (lw_at lw_m1 226 rfl) rfl
theorem q236 : (Jvm.Cond.code ({ cls := "RcFiveDesk", name := "block", desc := "(II)V" } : Jvm.MethodName) prog_7_method_4_code (3 : Nat) (Option.none : Option Jvm.ClassFile.FieldType)) ∈ lw_all := lw_g (lw_at lw_m1 227 rfl) rfl
theorem q241 : (Jvm.Cond.instanceMethod ({ cls := "RcFiveDesk", name := "out", desc := "(I)I" } : Jvm.MethodName)) ∈ lw_all := lw_g (lw_at lw_m1 232 rfl) rfl
theorem q242 : (Jvm.Cond.selects "RcFiveDesk" ({ cls := "RcFiveDesk", name := "out", desc := "(I)I" } : Jvm.MethodName) ({ cls := "RcFiveDesk", name := "out", desc := "(I)I" } : Jvm.MethodName)) ∈ lw_all := lw_g (lw_at lw_m1 233 rfl) rfl
theorem q243 : (Jvm.Cond.code ({ cls := "RcFiveDesk", name := "out", desc := "(I)I" } : Jvm.MethodName) prog_7_method_10_code (2 : Nat) (Option.some Jvm.ClassFile.FieldType.int)) ∈ lw_all := lw_g (lw_at lw_m1 234 rfl) rfl
theorem in_X1 : ∀ w ∈ wsX10, w ∈ lw_all := lw_in wsX10 [216, 218, 220] (by decide +kernel) (by decide +kernel)
end
section
/-! RC532Engine -/
set_option maxRecDepth 100000
def RX2 : String := "RC532Engine"
def TX2 : u_T := fun k => match k with
  | 0 => ("RC532Engine", "_noRounds", "I", false)
  | 1 => ("RC532Engine", "_S", "[I", false)
  | _ => ("RC532Engine", "forEncryption", "Z", false)
def tyX2 : Nat → FieldType := fun k => match k with
  | 0 => .int
  | 1 => .array .int
  | _ => .boolean
abbrev wsX20 : List Cond := u_ws RX2 TX2 3
theorem nmX2 : ∀ a, a < 3 → ∀ b, b < 3 → a ≠ b → (TX2 a).2.1 ≠ (TX2 b).2.1 := by decide +kernel
theorem tyX2_ok : ∀ k, k < 3 → parseFieldDescriptor (TX2 k).2.2.1 = some (tyX2 k) := by decide +kernel
abbrev cX2_init : ByteArray := prog_5_method_1_code
def yX2_init : MethodName := ⟨RX2, "<init>", "()V"⟩
def dkwX2_init_0 : List UInt8 := [42, 183, 0, 1, 42, 16, 12, 181, 0, 7, 42, 1, 181, 0, 13, 177]
abbrev dktX2_init_0 : List UInt8 := dkwX2_init_0 ++ []
theorem dksX2_init_0 : cX2_init.data.toList.drop 0 = dktX2_init_0 := by decide +kernel
theorem dX2_init_0 : decode cX2_init 0 = .ok (.aload_n 0, 1) := dk_42 (dk_at dksX2_init_0 0 rfl rfl)
theorem dX2_init_1 : decode cX2_init 1 = .ok (.invokespecial 1, 3) := dk_183 0 1 (dk_at dksX2_init_0 1 rfl rfl)
theorem dX2_init_4 : decode cX2_init 4 = .ok (.aload_n 0, 1) := dk_42 (dk_at dksX2_init_0 4 rfl rfl)
theorem dX2_init_5 : decode cX2_init 5 = .ok (.bipush 12, 2) := dk_16 12 (dk_at dksX2_init_0 5 rfl rfl)
theorem dX2_init_7 : decode cX2_init 7 = .ok (.putfield 7, 3) := dk_181 0 7 (dk_at dksX2_init_0 7 rfl rfl)
theorem dX2_init_10 : decode cX2_init 10 = .ok (.aload_n 0, 1) := dk_42 (dk_at dksX2_init_0 10 rfl rfl)
theorem dX2_init_11 : decode cX2_init 11 = .ok (.aconst_null, 1) := dk_1 (dk_at dksX2_init_0 11 rfl rfl)
theorem dX2_init_12 : decode cX2_init 12 = .ok (.putfield 13, 3) := dk_181 0 13 (dk_at dksX2_init_0 12 rfl rfl)
theorem dX2_init_15 : decode cX2_init 15 = .ok (.return_, 1) := dk_177 (dk_at dksX2_init_0 15 rfl rfl)
abbrev cX2_init_2 : ByteArray := prog_5_method_2_code
def yX2_init_2 : MethodName := ⟨RX2, "init", "(ZLCipherParameters;)V"⟩
def dkwX2_init_2_3 : List UInt8 := [183, 0, 38, 191, 42, 27, 181, 0, 41, 177]
abbrev dktX2_init_2_3 : List UInt8 := dkwX2_init_2_3 ++ []
def dkwX2_init_2_2 : List UInt8 := [58, 4, 25, 4, 182, 0, 33, 78, 42, 45, 182, 0, 27, 167, 0, 13, 187, 0, 34, 89, 18, 36]
abbrev dktX2_init_2_2 : List UInt8 := dkwX2_init_2_2 ++ dktX2_init_2_3
def dkwX2_init_2_1 : List UInt8 := [182, 0, 23, 78, 42, 45, 182, 0, 27, 167, 0, 40, 44, 193, 0, 31, 153, 0, 23, 44, 192, 0, 31]
abbrev dktX2_init_2_1 : List UInt8 := dkwX2_init_2_1 ++ dktX2_init_2_2
def dkwX2_init_2_0 : List UInt8 := [44, 193, 0, 17, 153, 0, 32, 44, 192, 0, 17, 58, 4, 42, 25, 4, 182, 0, 19, 181, 0, 7, 25, 4]
abbrev dktX2_init_2_0 : List UInt8 := dkwX2_init_2_0 ++ dktX2_init_2_1
theorem dksX2_init_2_0 : cX2_init_2.data.toList.drop 0 = dktX2_init_2_0 := by decide +kernel
theorem dksX2_init_2_1 : cX2_init_2.data.toList.drop 24 = dktX2_init_2_1 := dk_seg dksX2_init_2_0 24 rfl rfl
theorem dksX2_init_2_2 : cX2_init_2.data.toList.drop 47 = dktX2_init_2_2 := dk_seg dksX2_init_2_1 23 rfl rfl
theorem dksX2_init_2_3 : cX2_init_2.data.toList.drop 69 = dktX2_init_2_3 := dk_seg dksX2_init_2_2 22 rfl rfl
theorem dX2_init_2_0 : decode cX2_init_2 0 = .ok (.aload_n 2, 1) := dk_44 (dk_at dksX2_init_2_0 0 rfl rfl)
theorem dX2_init_2_1 : decode cX2_init_2 1 = .ok (.instanceof 17, 3) := dk_193 0 17 (dk_at dksX2_init_2_0 1 rfl rfl)
theorem dX2_init_2_4 : decode cX2_init_2 4 = .ok (.ifCond .eq 32, 3) := dk_153 0 32 (dk_at dksX2_init_2_0 4 rfl rfl)
theorem dX2_init_2_7 : decode cX2_init_2 7 = .ok (.aload_n 2, 1) := dk_44 (dk_at dksX2_init_2_0 7 rfl rfl)
theorem dX2_init_2_8 : decode cX2_init_2 8 = .ok (.checkcast 17, 3) := dk_192 0 17 (dk_at dksX2_init_2_0 8 rfl rfl)
theorem dX2_init_2_11 : decode cX2_init_2 11 = .ok (.astore 4, 2) := dk_58 4 (dk_at dksX2_init_2_0 11 rfl rfl)
theorem dX2_init_2_13 : decode cX2_init_2 13 = .ok (.aload_n 0, 1) := dk_42 (dk_at dksX2_init_2_0 13 rfl rfl)
theorem dX2_init_2_14 : decode cX2_init_2 14 = .ok (.aload 4, 2) := dk_25 4 (dk_at dksX2_init_2_0 14 rfl rfl)
theorem dX2_init_2_16 : decode cX2_init_2 16 = .ok (.invokevirtual 19, 3) := dk_182 0 19 (dk_at dksX2_init_2_0 16 rfl rfl)
theorem dX2_init_2_19 : decode cX2_init_2 19 = .ok (.putfield 7, 3) := dk_181 0 7 (dk_at dksX2_init_2_0 19 rfl rfl)
theorem dX2_init_2_22 : decode cX2_init_2 22 = .ok (.aload 4, 2) := dk_25 4 (dk_at dksX2_init_2_0 22 rfl rfl)
theorem dX2_init_2_24 : decode cX2_init_2 24 = .ok (.invokevirtual 23, 3) := dk_182 0 23 (dk_at dksX2_init_2_1 0 rfl rfl)
theorem dX2_init_2_27 : decode cX2_init_2 27 = .ok (.astore_n 3, 1) := dk_78 (dk_at dksX2_init_2_1 3 rfl rfl)
theorem dX2_init_2_28 : decode cX2_init_2 28 = .ok (.aload_n 0, 1) := dk_42 (dk_at dksX2_init_2_1 4 rfl rfl)
theorem dX2_init_2_29 : decode cX2_init_2 29 = .ok (.aload_n 3, 1) := dk_45 (dk_at dksX2_init_2_1 5 rfl rfl)
theorem dX2_init_2_30 : decode cX2_init_2 30 = .ok (.invokevirtual 27, 3) := dk_182 0 27 (dk_at dksX2_init_2_1 6 rfl rfl)
theorem dX2_init_2_33 : decode cX2_init_2 33 = .ok (.goto 40, 3) := dk_167 0 40 (dk_at dksX2_init_2_1 9 rfl rfl)
theorem dX2_init_2_36 : decode cX2_init_2 36 = .ok (.aload_n 2, 1) := dk_44 (dk_at dksX2_init_2_1 12 rfl rfl)
theorem dX2_init_2_37 : decode cX2_init_2 37 = .ok (.instanceof 31, 3) := dk_193 0 31 (dk_at dksX2_init_2_1 13 rfl rfl)
theorem dX2_init_2_40 : decode cX2_init_2 40 = .ok (.ifCond .eq 23, 3) := dk_153 0 23 (dk_at dksX2_init_2_1 16 rfl rfl)
theorem dX2_init_2_43 : decode cX2_init_2 43 = .ok (.aload_n 2, 1) := dk_44 (dk_at dksX2_init_2_1 19 rfl rfl)
theorem dX2_init_2_44 : decode cX2_init_2 44 = .ok (.checkcast 31, 3) := dk_192 0 31 (dk_at dksX2_init_2_1 20 rfl rfl)
theorem dX2_init_2_47 : decode cX2_init_2 47 = .ok (.astore 4, 2) := dk_58 4 (dk_at dksX2_init_2_2 0 rfl rfl)
theorem dX2_init_2_49 : decode cX2_init_2 49 = .ok (.aload 4, 2) := dk_25 4 (dk_at dksX2_init_2_2 2 rfl rfl)
theorem dX2_init_2_51 : decode cX2_init_2 51 = .ok (.invokevirtual 33, 3) := dk_182 0 33 (dk_at dksX2_init_2_2 4 rfl rfl)
theorem dX2_init_2_54 : decode cX2_init_2 54 = .ok (.astore_n 3, 1) := dk_78 (dk_at dksX2_init_2_2 7 rfl rfl)
theorem dX2_init_2_55 : decode cX2_init_2 55 = .ok (.aload_n 0, 1) := dk_42 (dk_at dksX2_init_2_2 8 rfl rfl)
theorem dX2_init_2_56 : decode cX2_init_2 56 = .ok (.aload_n 3, 1) := dk_45 (dk_at dksX2_init_2_2 9 rfl rfl)
theorem dX2_init_2_57 : decode cX2_init_2 57 = .ok (.invokevirtual 27, 3) := dk_182 0 27 (dk_at dksX2_init_2_2 10 rfl rfl)
theorem dX2_init_2_60 : decode cX2_init_2 60 = .ok (.goto 13, 3) := dk_167 0 13 (dk_at dksX2_init_2_2 13 rfl rfl)
theorem dX2_init_2_63 : decode cX2_init_2 63 = .ok (.new 34, 3) := dk_187 0 34 (dk_at dksX2_init_2_2 16 rfl rfl)
theorem dX2_init_2_66 : decode cX2_init_2 66 = .ok (.dup, 1) := dk_89 (dk_at dksX2_init_2_2 19 rfl rfl)
theorem dX2_init_2_67 : decode cX2_init_2 67 = .ok (.ldc 36, 2) := dk_18 36 (dk_at dksX2_init_2_2 20 rfl rfl)
theorem dX2_init_2_69 : decode cX2_init_2 69 = .ok (.invokespecial 38, 3) := dk_183 0 38 (dk_at dksX2_init_2_3 0 rfl rfl)
theorem dX2_init_2_72 : decode cX2_init_2 72 = .ok (.athrow, 1) := dk_191 (dk_at dksX2_init_2_3 3 rfl rfl)
theorem dX2_init_2_73 : decode cX2_init_2 73 = .ok (.aload_n 0, 1) := dk_42 (dk_at dksX2_init_2_3 4 rfl rfl)
theorem dX2_init_2_74 : decode cX2_init_2 74 = .ok (.iload_n 1, 1) := dk_27 (dk_at dksX2_init_2_3 5 rfl rfl)
theorem dX2_init_2_75 : decode cX2_init_2 75 = .ok (.putfield 41, 3) := dk_181 0 41 (dk_at dksX2_init_2_3 6 rfl rfl)
theorem dX2_init_2_78 : decode cX2_init_2 78 = .ok (.return_, 1) := dk_177 (dk_at dksX2_init_2_3 9 rfl rfl)
abbrev cX2_setKey : ByteArray := prog_5_method_4_code
def yX2_setKey : MethodName := ⟨RX2, "setKey", "([B)V"⟩
def dkwX2_setKey_9 : List UInt8 := [54, 6, 21, 7, 4, 96, 44, 190, 112, 54, 7, 132, 8, 1, 167, 255, 172, 177]
abbrev dktX2_setKey_9 : List UInt8 := dkwX2_setKey_9 ++ []
def dkwX2_setKey_8 : List UInt8 := [96, 21, 4, 21, 5, 96, 182, 0, 54, 91, 79, 54, 5, 21, 6, 4, 96, 42, 180, 0, 13, 190, 112]
abbrev dktX2_setKey_8 : List UInt8 := dkwX2_setKey_8 ++ dktX2_setKey_9
def dkwX2_setKey_7 : List UInt8 := [21, 5, 96, 6, 182, 0, 54, 91, 79, 54, 4, 44, 21, 7, 42, 44, 21, 7, 46, 21, 4, 96, 21, 5]
abbrev dktX2_setKey_7 : List UInt8 := dkwX2_setKey_7 ++ dktX2_setKey_8
def dkwX2_setKey_6 : List UInt8 := [21, 8, 29, 162, 0, 84, 42, 180, 0, 13, 21, 6, 42, 42, 180, 0, 13, 21, 6, 46, 21, 4, 96]
abbrev dktX2_setKey_6 : List UInt8 := dkwX2_setKey_6 ++ dktX2_setKey_7
def dkwX2_setKey_5 : List UInt8 := [6, 42, 180, 0, 13, 190, 104, 62, 3, 54, 4, 3, 54, 5, 3, 54, 6, 3, 54, 7, 3, 54, 8]
abbrev dktX2_setKey_5 : List UInt8 := dkwX2_setKey_5 ++ dktX2_setKey_6
def dkwX2_setKey_4 : List UInt8 := [132, 3, 1, 167, 255, 227, 44, 190, 42, 180, 0, 13, 190, 164, 0, 11, 6, 44, 190, 104, 62, 167, 0, 11]
abbrev dktX2_setKey_4 : List UInt8 := dkwX2_setKey_4 ++ dktX2_setKey_5
def dkwX2_setKey_3 : List UInt8 := [180, 0, 13, 190, 162, 0, 26, 42, 180, 0, 13, 29, 42, 180, 0, 13, 29, 4, 100, 46, 18, 53, 96, 79]
abbrev dktX2_setKey_3 : List UInt8 := dkwX2_setKey_3 ++ dktX2_setKey_4
def dkwX2_setKey_2 : List UInt8 := [180, 0, 7, 4, 96, 104, 188, 10, 181, 0, 13, 42, 180, 0, 13, 3, 18, 52, 79, 4, 62, 29, 42]
abbrev dktX2_setKey_2 : List UInt8 := dkwX2_setKey_2 ++ dktX2_setKey_3
def dkwX2_setKey_1 : List UInt8 := [29, 51, 17, 0, 255, 126, 16, 8, 29, 7, 112, 104, 120, 96, 79, 132, 3, 1, 167, 255, 225, 42, 5, 42]
abbrev dktX2_setKey_1 : List UInt8 := dkwX2_setKey_1 ++ dktX2_setKey_2
def dkwX2_setKey_0 : List UInt8 := [43, 190, 6, 96, 7, 108, 188, 10, 77, 3, 62, 29, 43, 190, 159, 0, 31, 44, 29, 7, 108, 92, 46, 43]
abbrev dktX2_setKey_0 : List UInt8 := dkwX2_setKey_0 ++ dktX2_setKey_1
theorem dksX2_setKey_0 : cX2_setKey.data.toList.drop 0 = dktX2_setKey_0 := by decide +kernel
theorem dksX2_setKey_1 : cX2_setKey.data.toList.drop 24 = dktX2_setKey_1 := dk_seg dksX2_setKey_0 24 rfl rfl
theorem dksX2_setKey_2 : cX2_setKey.data.toList.drop 48 = dktX2_setKey_2 := dk_seg dksX2_setKey_1 24 rfl rfl
theorem dksX2_setKey_3 : cX2_setKey.data.toList.drop 71 = dktX2_setKey_3 := dk_seg dksX2_setKey_2 23 rfl rfl
theorem dksX2_setKey_4 : cX2_setKey.data.toList.drop 95 = dktX2_setKey_4 := dk_seg dksX2_setKey_3 24 rfl rfl
theorem dksX2_setKey_5 : cX2_setKey.data.toList.drop 119 = dktX2_setKey_5 := dk_seg dksX2_setKey_4 24 rfl rfl
theorem dksX2_setKey_6 : cX2_setKey.data.toList.drop 142 = dktX2_setKey_6 := dk_seg dksX2_setKey_5 23 rfl rfl
theorem dksX2_setKey_7 : cX2_setKey.data.toList.drop 165 = dktX2_setKey_7 := dk_seg dksX2_setKey_6 23 rfl rfl
theorem dksX2_setKey_8 : cX2_setKey.data.toList.drop 189 = dktX2_setKey_8 := dk_seg dksX2_setKey_7 24 rfl rfl
theorem dksX2_setKey_9 : cX2_setKey.data.toList.drop 212 = dktX2_setKey_9 := dk_seg dksX2_setKey_8 23 rfl rfl
theorem dX2_setKey_0 : decode cX2_setKey 0 = .ok (.aload_n 1, 1) := dk_43 (dk_at dksX2_setKey_0 0 rfl rfl)
theorem dX2_setKey_1 : decode cX2_setKey 1 = .ok (.arraylength, 1) := dk_190 (dk_at dksX2_setKey_0 1 rfl rfl)
theorem dX2_setKey_2 : decode cX2_setKey 2 = .ok (.iconst 3, 1) := dk_6 (dk_at dksX2_setKey_0 2 rfl rfl)
theorem dX2_setKey_3 : decode cX2_setKey 3 = .ok (.iadd, 1) := dk_96 (dk_at dksX2_setKey_0 3 rfl rfl)
theorem dX2_setKey_4 : decode cX2_setKey 4 = .ok (.iconst 4, 1) := dk_7 (dk_at dksX2_setKey_0 4 rfl rfl)
theorem dX2_setKey_5 : decode cX2_setKey 5 = .ok (.idiv, 1) := dk_108 (dk_at dksX2_setKey_0 5 rfl rfl)
theorem dX2_setKey_6 : decode cX2_setKey 6 = .ok (.newarray .int, 2) := dk_188_10 (dk_at dksX2_setKey_0 6 rfl rfl)
theorem dX2_setKey_8 : decode cX2_setKey 8 = .ok (.astore_n 2, 1) := dk_77 (dk_at dksX2_setKey_0 8 rfl rfl)
theorem dX2_setKey_9 : decode cX2_setKey 9 = .ok (.iconst 0, 1) := dk_3 (dk_at dksX2_setKey_0 9 rfl rfl)
theorem dX2_setKey_10 : decode cX2_setKey 10 = .ok (.istore_n 3, 1) := dk_62 (dk_at dksX2_setKey_0 10 rfl rfl)
theorem dX2_setKey_11 : decode cX2_setKey 11 = .ok (.iload_n 3, 1) := dk_29 (dk_at dksX2_setKey_0 11 rfl rfl)
theorem dX2_setKey_12 : decode cX2_setKey 12 = .ok (.aload_n 1, 1) := dk_43 (dk_at dksX2_setKey_0 12 rfl rfl)
theorem dX2_setKey_13 : decode cX2_setKey 13 = .ok (.arraylength, 1) := dk_190 (dk_at dksX2_setKey_0 13 rfl rfl)
theorem dX2_setKey_14 : decode cX2_setKey 14 = .ok (.if_icmp .eq 31, 3) := dk_159 0 31 (dk_at dksX2_setKey_0 14 rfl rfl)
theorem dX2_setKey_17 : decode cX2_setKey 17 = .ok (.aload_n 2, 1) := dk_44 (dk_at dksX2_setKey_0 17 rfl rfl)
theorem dX2_setKey_18 : decode cX2_setKey 18 = .ok (.iload_n 3, 1) := dk_29 (dk_at dksX2_setKey_0 18 rfl rfl)
theorem dX2_setKey_19 : decode cX2_setKey 19 = .ok (.iconst 4, 1) := dk_7 (dk_at dksX2_setKey_0 19 rfl rfl)
theorem dX2_setKey_20 : decode cX2_setKey 20 = .ok (.idiv, 1) := dk_108 (dk_at dksX2_setKey_0 20 rfl rfl)
theorem dX2_setKey_21 : decode cX2_setKey 21 = .ok (.dup2, 1) := dk_92 (dk_at dksX2_setKey_0 21 rfl rfl)
theorem dX2_setKey_22 : decode cX2_setKey 22 = .ok (.iaload, 1) := dk_46 (dk_at dksX2_setKey_0 22 rfl rfl)
theorem dX2_setKey_23 : decode cX2_setKey 23 = .ok (.aload_n 1, 1) := dk_43 (dk_at dksX2_setKey_0 23 rfl rfl)
theorem dX2_setKey_24 : decode cX2_setKey 24 = .ok (.iload_n 3, 1) := dk_29 (dk_at dksX2_setKey_1 0 rfl rfl)
theorem dX2_setKey_25 : decode cX2_setKey 25 = .ok (.baload, 1) := dk_51 (dk_at dksX2_setKey_1 1 rfl rfl)
theorem dX2_setKey_26 : decode cX2_setKey 26 = .ok (.sipush 255, 3) := dk_17 0 255 (dk_at dksX2_setKey_1 2 rfl rfl)
theorem dX2_setKey_29 : decode cX2_setKey 29 = .ok (.iand, 1) := dk_126 (dk_at dksX2_setKey_1 5 rfl rfl)
theorem dX2_setKey_30 : decode cX2_setKey 30 = .ok (.bipush 8, 2) := dk_16 8 (dk_at dksX2_setKey_1 6 rfl rfl)
theorem dX2_setKey_32 : decode cX2_setKey 32 = .ok (.iload_n 3, 1) := dk_29 (dk_at dksX2_setKey_1 8 rfl rfl)
theorem dX2_setKey_33 : decode cX2_setKey 33 = .ok (.iconst 4, 1) := dk_7 (dk_at dksX2_setKey_1 9 rfl rfl)
theorem dX2_setKey_34 : decode cX2_setKey 34 = .ok (.irem, 1) := dk_112 (dk_at dksX2_setKey_1 10 rfl rfl)
theorem dX2_setKey_35 : decode cX2_setKey 35 = .ok (.imul, 1) := dk_104 (dk_at dksX2_setKey_1 11 rfl rfl)
theorem dX2_setKey_36 : decode cX2_setKey 36 = .ok (.ishl, 1) := dk_120 (dk_at dksX2_setKey_1 12 rfl rfl)
theorem dX2_setKey_37 : decode cX2_setKey 37 = .ok (.iadd, 1) := dk_96 (dk_at dksX2_setKey_1 13 rfl rfl)
theorem dX2_setKey_38 : decode cX2_setKey 38 = .ok (.iastore, 1) := dk_79 (dk_at dksX2_setKey_1 14 rfl rfl)
theorem dX2_setKey_39 : decode cX2_setKey 39 = .ok (.iinc 3 1, 3) := dk_132 3 1 (dk_at dksX2_setKey_1 15 rfl rfl)
theorem dX2_setKey_42 : decode cX2_setKey 42 = .ok (.goto (-31), 3) := dk_167 255 225 (dk_at dksX2_setKey_1 18 rfl rfl)
theorem dX2_setKey_45 : decode cX2_setKey 45 = .ok (.aload_n 0, 1) := dk_42 (dk_at dksX2_setKey_1 21 rfl rfl)
theorem dX2_setKey_46 : decode cX2_setKey 46 = .ok (.iconst 2, 1) := dk_5 (dk_at dksX2_setKey_1 22 rfl rfl)
theorem dX2_setKey_47 : decode cX2_setKey 47 = .ok (.aload_n 0, 1) := dk_42 (dk_at dksX2_setKey_1 23 rfl rfl)
theorem dX2_setKey_48 : decode cX2_setKey 48 = .ok (.getfield 7, 3) := dk_180 0 7 (dk_at dksX2_setKey_2 0 rfl rfl)
theorem dX2_setKey_51 : decode cX2_setKey 51 = .ok (.iconst 1, 1) := dk_4 (dk_at dksX2_setKey_2 3 rfl rfl)
theorem dX2_setKey_52 : decode cX2_setKey 52 = .ok (.iadd, 1) := dk_96 (dk_at dksX2_setKey_2 4 rfl rfl)
theorem dX2_setKey_53 : decode cX2_setKey 53 = .ok (.imul, 1) := dk_104 (dk_at dksX2_setKey_2 5 rfl rfl)
theorem dX2_setKey_54 : decode cX2_setKey 54 = .ok (.newarray .int, 2) := dk_188_10 (dk_at dksX2_setKey_2 6 rfl rfl)
theorem dX2_setKey_56 : decode cX2_setKey 56 = .ok (.putfield 13, 3) := dk_181 0 13 (dk_at dksX2_setKey_2 8 rfl rfl)
theorem dX2_setKey_59 : decode cX2_setKey 59 = .ok (.aload_n 0, 1) := dk_42 (dk_at dksX2_setKey_2 11 rfl rfl)
theorem dX2_setKey_60 : decode cX2_setKey 60 = .ok (.getfield 13, 3) := dk_180 0 13 (dk_at dksX2_setKey_2 12 rfl rfl)
theorem dX2_setKey_63 : decode cX2_setKey 63 = .ok (.iconst 0, 1) := dk_3 (dk_at dksX2_setKey_2 15 rfl rfl)
theorem dX2_setKey_64 : decode cX2_setKey 64 = .ok (.ldc 52, 2) := dk_18 52 (dk_at dksX2_setKey_2 16 rfl rfl)
theorem dX2_setKey_66 : decode cX2_setKey 66 = .ok (.iastore, 1) := dk_79 (dk_at dksX2_setKey_2 18 rfl rfl)
theorem dX2_setKey_67 : decode cX2_setKey 67 = .ok (.iconst 1, 1) := dk_4 (dk_at dksX2_setKey_2 19 rfl rfl)
theorem dX2_setKey_68 : decode cX2_setKey 68 = .ok (.istore_n 3, 1) := dk_62 (dk_at dksX2_setKey_2 20 rfl rfl)
theorem dX2_setKey_69 : decode cX2_setKey 69 = .ok (.iload_n 3, 1) := dk_29 (dk_at dksX2_setKey_2 21 rfl rfl)
theorem dX2_setKey_70 : decode cX2_setKey 70 = .ok (.aload_n 0, 1) := dk_42 (dk_at dksX2_setKey_2 22 rfl rfl)
theorem dX2_setKey_71 : decode cX2_setKey 71 = .ok (.getfield 13, 3) := dk_180 0 13 (dk_at dksX2_setKey_3 0 rfl rfl)
theorem dX2_setKey_74 : decode cX2_setKey 74 = .ok (.arraylength, 1) := dk_190 (dk_at dksX2_setKey_3 3 rfl rfl)
theorem dX2_setKey_75 : decode cX2_setKey 75 = .ok (.if_icmp .ge 26, 3) := dk_162 0 26 (dk_at dksX2_setKey_3 4 rfl rfl)
theorem dX2_setKey_78 : decode cX2_setKey 78 = .ok (.aload_n 0, 1) := dk_42 (dk_at dksX2_setKey_3 7 rfl rfl)
theorem dX2_setKey_79 : decode cX2_setKey 79 = .ok (.getfield 13, 3) := dk_180 0 13 (dk_at dksX2_setKey_3 8 rfl rfl)
theorem dX2_setKey_82 : decode cX2_setKey 82 = .ok (.iload_n 3, 1) := dk_29 (dk_at dksX2_setKey_3 11 rfl rfl)
theorem dX2_setKey_83 : decode cX2_setKey 83 = .ok (.aload_n 0, 1) := dk_42 (dk_at dksX2_setKey_3 12 rfl rfl)
theorem dX2_setKey_84 : decode cX2_setKey 84 = .ok (.getfield 13, 3) := dk_180 0 13 (dk_at dksX2_setKey_3 13 rfl rfl)
theorem dX2_setKey_87 : decode cX2_setKey 87 = .ok (.iload_n 3, 1) := dk_29 (dk_at dksX2_setKey_3 16 rfl rfl)
theorem dX2_setKey_88 : decode cX2_setKey 88 = .ok (.iconst 1, 1) := dk_4 (dk_at dksX2_setKey_3 17 rfl rfl)
theorem dX2_setKey_89 : decode cX2_setKey 89 = .ok (.isub, 1) := dk_100 (dk_at dksX2_setKey_3 18 rfl rfl)
theorem dX2_setKey_90 : decode cX2_setKey 90 = .ok (.iaload, 1) := dk_46 (dk_at dksX2_setKey_3 19 rfl rfl)
theorem dX2_setKey_91 : decode cX2_setKey 91 = .ok (.ldc 53, 2) := dk_18 53 (dk_at dksX2_setKey_3 20 rfl rfl)
theorem dX2_setKey_93 : decode cX2_setKey 93 = .ok (.iadd, 1) := dk_96 (dk_at dksX2_setKey_3 22 rfl rfl)
theorem dX2_setKey_94 : decode cX2_setKey 94 = .ok (.iastore, 1) := dk_79 (dk_at dksX2_setKey_3 23 rfl rfl)
theorem dX2_setKey_95 : decode cX2_setKey 95 = .ok (.iinc 3 1, 3) := dk_132 3 1 (dk_at dksX2_setKey_4 0 rfl rfl)
theorem dX2_setKey_98 : decode cX2_setKey 98 = .ok (.goto (-29), 3) := dk_167 255 227 (dk_at dksX2_setKey_4 3 rfl rfl)
theorem dX2_setKey_101 : decode cX2_setKey 101 = .ok (.aload_n 2, 1) := dk_44 (dk_at dksX2_setKey_4 6 rfl rfl)
theorem dX2_setKey_102 : decode cX2_setKey 102 = .ok (.arraylength, 1) := dk_190 (dk_at dksX2_setKey_4 7 rfl rfl)
theorem dX2_setKey_103 : decode cX2_setKey 103 = .ok (.aload_n 0, 1) := dk_42 (dk_at dksX2_setKey_4 8 rfl rfl)
theorem dX2_setKey_104 : decode cX2_setKey 104 = .ok (.getfield 13, 3) := dk_180 0 13 (dk_at dksX2_setKey_4 9 rfl rfl)
theorem dX2_setKey_107 : decode cX2_setKey 107 = .ok (.arraylength, 1) := dk_190 (dk_at dksX2_setKey_4 12 rfl rfl)
theorem dX2_setKey_108 : decode cX2_setKey 108 = .ok (.if_icmp .le 11, 3) := dk_164 0 11 (dk_at dksX2_setKey_4 13 rfl rfl)
theorem dX2_setKey_111 : decode cX2_setKey 111 = .ok (.iconst 3, 1) := dk_6 (dk_at dksX2_setKey_4 16 rfl rfl)
theorem dX2_setKey_112 : decode cX2_setKey 112 = .ok (.aload_n 2, 1) := dk_44 (dk_at dksX2_setKey_4 17 rfl rfl)
theorem dX2_setKey_113 : decode cX2_setKey 113 = .ok (.arraylength, 1) := dk_190 (dk_at dksX2_setKey_4 18 rfl rfl)
theorem dX2_setKey_114 : decode cX2_setKey 114 = .ok (.imul, 1) := dk_104 (dk_at dksX2_setKey_4 19 rfl rfl)
theorem dX2_setKey_115 : decode cX2_setKey 115 = .ok (.istore_n 3, 1) := dk_62 (dk_at dksX2_setKey_4 20 rfl rfl)
theorem dX2_setKey_116 : decode cX2_setKey 116 = .ok (.goto 11, 3) := dk_167 0 11 (dk_at dksX2_setKey_4 21 rfl rfl)
theorem dX2_setKey_119 : decode cX2_setKey 119 = .ok (.iconst 3, 1) := dk_6 (dk_at dksX2_setKey_5 0 rfl rfl)
theorem dX2_setKey_120 : decode cX2_setKey 120 = .ok (.aload_n 0, 1) := dk_42 (dk_at dksX2_setKey_5 1 rfl rfl)
theorem dX2_setKey_121 : decode cX2_setKey 121 = .ok (.getfield 13, 3) := dk_180 0 13 (dk_at dksX2_setKey_5 2 rfl rfl)
theorem dX2_setKey_124 : decode cX2_setKey 124 = .ok (.arraylength, 1) := dk_190 (dk_at dksX2_setKey_5 5 rfl rfl)
theorem dX2_setKey_125 : decode cX2_setKey 125 = .ok (.imul, 1) := dk_104 (dk_at dksX2_setKey_5 6 rfl rfl)
theorem dX2_setKey_126 : decode cX2_setKey 126 = .ok (.istore_n 3, 1) := dk_62 (dk_at dksX2_setKey_5 7 rfl rfl)
theorem dX2_setKey_127 : decode cX2_setKey 127 = .ok (.iconst 0, 1) := dk_3 (dk_at dksX2_setKey_5 8 rfl rfl)
theorem dX2_setKey_128 : decode cX2_setKey 128 = .ok (.istore 4, 2) := dk_54 4 (dk_at dksX2_setKey_5 9 rfl rfl)
theorem dX2_setKey_130 : decode cX2_setKey 130 = .ok (.iconst 0, 1) := dk_3 (dk_at dksX2_setKey_5 11 rfl rfl)
theorem dX2_setKey_131 : decode cX2_setKey 131 = .ok (.istore 5, 2) := dk_54 5 (dk_at dksX2_setKey_5 12 rfl rfl)
theorem dX2_setKey_133 : decode cX2_setKey 133 = .ok (.iconst 0, 1) := dk_3 (dk_at dksX2_setKey_5 14 rfl rfl)
theorem dX2_setKey_134 : decode cX2_setKey 134 = .ok (.istore 6, 2) := dk_54 6 (dk_at dksX2_setKey_5 15 rfl rfl)
theorem dX2_setKey_136 : decode cX2_setKey 136 = .ok (.iconst 0, 1) := dk_3 (dk_at dksX2_setKey_5 17 rfl rfl)
theorem dX2_setKey_137 : decode cX2_setKey 137 = .ok (.istore 7, 2) := dk_54 7 (dk_at dksX2_setKey_5 18 rfl rfl)
theorem dX2_setKey_139 : decode cX2_setKey 139 = .ok (.iconst 0, 1) := dk_3 (dk_at dksX2_setKey_5 20 rfl rfl)
theorem dX2_setKey_140 : decode cX2_setKey 140 = .ok (.istore 8, 2) := dk_54 8 (dk_at dksX2_setKey_5 21 rfl rfl)
theorem dX2_setKey_142 : decode cX2_setKey 142 = .ok (.iload 8, 2) := dk_21 8 (dk_at dksX2_setKey_6 0 rfl rfl)
theorem dX2_setKey_144 : decode cX2_setKey 144 = .ok (.iload_n 3, 1) := dk_29 (dk_at dksX2_setKey_6 2 rfl rfl)
theorem dX2_setKey_145 : decode cX2_setKey 145 = .ok (.if_icmp .ge 84, 3) := dk_162 0 84 (dk_at dksX2_setKey_6 3 rfl rfl)
theorem dX2_setKey_148 : decode cX2_setKey 148 = .ok (.aload_n 0, 1) := dk_42 (dk_at dksX2_setKey_6 6 rfl rfl)
theorem dX2_setKey_149 : decode cX2_setKey 149 = .ok (.getfield 13, 3) := dk_180 0 13 (dk_at dksX2_setKey_6 7 rfl rfl)
theorem dX2_setKey_152 : decode cX2_setKey 152 = .ok (.iload 6, 2) := dk_21 6 (dk_at dksX2_setKey_6 10 rfl rfl)
theorem dX2_setKey_154 : decode cX2_setKey 154 = .ok (.aload_n 0, 1) := dk_42 (dk_at dksX2_setKey_6 12 rfl rfl)
theorem dX2_setKey_155 : decode cX2_setKey 155 = .ok (.aload_n 0, 1) := dk_42 (dk_at dksX2_setKey_6 13 rfl rfl)
theorem dX2_setKey_156 : decode cX2_setKey 156 = .ok (.getfield 13, 3) := dk_180 0 13 (dk_at dksX2_setKey_6 14 rfl rfl)
theorem dX2_setKey_159 : decode cX2_setKey 159 = .ok (.iload 6, 2) := dk_21 6 (dk_at dksX2_setKey_6 17 rfl rfl)
theorem dX2_setKey_161 : decode cX2_setKey 161 = .ok (.iaload, 1) := dk_46 (dk_at dksX2_setKey_6 19 rfl rfl)
theorem dX2_setKey_162 : decode cX2_setKey 162 = .ok (.iload 4, 2) := dk_21 4 (dk_at dksX2_setKey_6 20 rfl rfl)
theorem dX2_setKey_164 : decode cX2_setKey 164 = .ok (.iadd, 1) := dk_96 (dk_at dksX2_setKey_6 22 rfl rfl)
theorem dX2_setKey_165 : decode cX2_setKey 165 = .ok (.iload 5, 2) := dk_21 5 (dk_at dksX2_setKey_7 0 rfl rfl)
theorem dX2_setKey_167 : decode cX2_setKey 167 = .ok (.iadd, 1) := dk_96 (dk_at dksX2_setKey_7 2 rfl rfl)
theorem dX2_setKey_168 : decode cX2_setKey 168 = .ok (.iconst 3, 1) := dk_6 (dk_at dksX2_setKey_7 3 rfl rfl)
theorem dX2_setKey_169 : decode cX2_setKey 169 = .ok (.invokevirtual 54, 3) := dk_182 0 54 (dk_at dksX2_setKey_7 4 rfl rfl)
theorem dX2_setKey_172 : decode cX2_setKey 172 = .ok (.dup_x2, 1) := dk_91 (dk_at dksX2_setKey_7 7 rfl rfl)
theorem dX2_setKey_173 : decode cX2_setKey 173 = .ok (.iastore, 1) := dk_79 (dk_at dksX2_setKey_7 8 rfl rfl)
theorem dX2_setKey_174 : decode cX2_setKey 174 = .ok (.istore 4, 2) := dk_54 4 (dk_at dksX2_setKey_7 9 rfl rfl)
theorem dX2_setKey_176 : decode cX2_setKey 176 = .ok (.aload_n 2, 1) := dk_44 (dk_at dksX2_setKey_7 11 rfl rfl)
theorem dX2_setKey_177 : decode cX2_setKey 177 = .ok (.iload 7, 2) := dk_21 7 (dk_at dksX2_setKey_7 12 rfl rfl)
theorem dX2_setKey_179 : decode cX2_setKey 179 = .ok (.aload_n 0, 1) := dk_42 (dk_at dksX2_setKey_7 14 rfl rfl)
theorem dX2_setKey_180 : decode cX2_setKey 180 = .ok (.aload_n 2, 1) := dk_44 (dk_at dksX2_setKey_7 15 rfl rfl)
theorem dX2_setKey_181 : decode cX2_setKey 181 = .ok (.iload 7, 2) := dk_21 7 (dk_at dksX2_setKey_7 16 rfl rfl)
theorem dX2_setKey_183 : decode cX2_setKey 183 = .ok (.iaload, 1) := dk_46 (dk_at dksX2_setKey_7 18 rfl rfl)
theorem dX2_setKey_184 : decode cX2_setKey 184 = .ok (.iload 4, 2) := dk_21 4 (dk_at dksX2_setKey_7 19 rfl rfl)
theorem dX2_setKey_186 : decode cX2_setKey 186 = .ok (.iadd, 1) := dk_96 (dk_at dksX2_setKey_7 21 rfl rfl)
theorem dX2_setKey_187 : decode cX2_setKey 187 = .ok (.iload 5, 2) := dk_21 5 (dk_at dksX2_setKey_7 22 rfl rfl)
theorem dX2_setKey_189 : decode cX2_setKey 189 = .ok (.iadd, 1) := dk_96 (dk_at dksX2_setKey_8 0 rfl rfl)
theorem dX2_setKey_190 : decode cX2_setKey 190 = .ok (.iload 4, 2) := dk_21 4 (dk_at dksX2_setKey_8 1 rfl rfl)
theorem dX2_setKey_192 : decode cX2_setKey 192 = .ok (.iload 5, 2) := dk_21 5 (dk_at dksX2_setKey_8 3 rfl rfl)
theorem dX2_setKey_194 : decode cX2_setKey 194 = .ok (.iadd, 1) := dk_96 (dk_at dksX2_setKey_8 5 rfl rfl)
theorem dX2_setKey_195 : decode cX2_setKey 195 = .ok (.invokevirtual 54, 3) := dk_182 0 54 (dk_at dksX2_setKey_8 6 rfl rfl)
theorem dX2_setKey_198 : decode cX2_setKey 198 = .ok (.dup_x2, 1) := dk_91 (dk_at dksX2_setKey_8 9 rfl rfl)
theorem dX2_setKey_199 : decode cX2_setKey 199 = .ok (.iastore, 1) := dk_79 (dk_at dksX2_setKey_8 10 rfl rfl)
theorem dX2_setKey_200 : decode cX2_setKey 200 = .ok (.istore 5, 2) := dk_54 5 (dk_at dksX2_setKey_8 11 rfl rfl)
theorem dX2_setKey_202 : decode cX2_setKey 202 = .ok (.iload 6, 2) := dk_21 6 (dk_at dksX2_setKey_8 13 rfl rfl)
theorem dX2_setKey_204 : decode cX2_setKey 204 = .ok (.iconst 1, 1) := dk_4 (dk_at dksX2_setKey_8 15 rfl rfl)
theorem dX2_setKey_205 : decode cX2_setKey 205 = .ok (.iadd, 1) := dk_96 (dk_at dksX2_setKey_8 16 rfl rfl)
theorem dX2_setKey_206 : decode cX2_setKey 206 = .ok (.aload_n 0, 1) := dk_42 (dk_at dksX2_setKey_8 17 rfl rfl)
theorem dX2_setKey_207 : decode cX2_setKey 207 = .ok (.getfield 13, 3) := dk_180 0 13 (dk_at dksX2_setKey_8 18 rfl rfl)
theorem dX2_setKey_210 : decode cX2_setKey 210 = .ok (.arraylength, 1) := dk_190 (dk_at dksX2_setKey_8 21 rfl rfl)
theorem dX2_setKey_211 : decode cX2_setKey 211 = .ok (.irem, 1) := dk_112 (dk_at dksX2_setKey_8 22 rfl rfl)
theorem dX2_setKey_212 : decode cX2_setKey 212 = .ok (.istore 6, 2) := dk_54 6 (dk_at dksX2_setKey_9 0 rfl rfl)
theorem dX2_setKey_214 : decode cX2_setKey 214 = .ok (.iload 7, 2) := dk_21 7 (dk_at dksX2_setKey_9 2 rfl rfl)
theorem dX2_setKey_216 : decode cX2_setKey 216 = .ok (.iconst 1, 1) := dk_4 (dk_at dksX2_setKey_9 4 rfl rfl)
theorem dX2_setKey_217 : decode cX2_setKey 217 = .ok (.iadd, 1) := dk_96 (dk_at dksX2_setKey_9 5 rfl rfl)
theorem dX2_setKey_218 : decode cX2_setKey 218 = .ok (.aload_n 2, 1) := dk_44 (dk_at dksX2_setKey_9 6 rfl rfl)
theorem dX2_setKey_219 : decode cX2_setKey 219 = .ok (.arraylength, 1) := dk_190 (dk_at dksX2_setKey_9 7 rfl rfl)
theorem dX2_setKey_220 : decode cX2_setKey 220 = .ok (.irem, 1) := dk_112 (dk_at dksX2_setKey_9 8 rfl rfl)
theorem dX2_setKey_221 : decode cX2_setKey 221 = .ok (.istore 7, 2) := dk_54 7 (dk_at dksX2_setKey_9 9 rfl rfl)
theorem dX2_setKey_223 : decode cX2_setKey 223 = .ok (.iinc 8 1, 3) := dk_132 8 1 (dk_at dksX2_setKey_9 11 rfl rfl)
theorem dX2_setKey_226 : decode cX2_setKey 226 = .ok (.goto (-84), 3) := dk_167 255 172 (dk_at dksX2_setKey_9 14 rfl rfl)
theorem dX2_setKey_229 : decode cX2_setKey 229 = .ok (.return_, 1) := dk_177 (dk_at dksX2_setKey_9 17 rfl rfl)
abbrev cX2_rotateLeft : ByteArray := prog_5_method_7_code
def yX2_rotateLeft : MethodName := ⟨RX2, "rotateLeft", "(II)I"⟩
def dkwX2_rotateLeft_0 : List UInt8 := [27, 28, 16, 31, 126, 120, 27, 16, 32, 28, 16, 31, 126, 100, 124, 128, 172]
abbrev dktX2_rotateLeft_0 : List UInt8 := dkwX2_rotateLeft_0 ++ []
theorem dksX2_rotateLeft_0 : cX2_rotateLeft.data.toList.drop 0 = dktX2_rotateLeft_0 := by decide +kernel
theorem dX2_rotateLeft_0 : decode cX2_rotateLeft 0 = .ok (.iload_n 1, 1) := dk_27 (dk_at dksX2_rotateLeft_0 0 rfl rfl)
theorem dX2_rotateLeft_1 : decode cX2_rotateLeft 1 = .ok (.iload_n 2, 1) := dk_28 (dk_at dksX2_rotateLeft_0 1 rfl rfl)
theorem dX2_rotateLeft_2 : decode cX2_rotateLeft 2 = .ok (.bipush 31, 2) := dk_16 31 (dk_at dksX2_rotateLeft_0 2 rfl rfl)
theorem dX2_rotateLeft_4 : decode cX2_rotateLeft 4 = .ok (.iand, 1) := dk_126 (dk_at dksX2_rotateLeft_0 4 rfl rfl)
theorem dX2_rotateLeft_5 : decode cX2_rotateLeft 5 = .ok (.ishl, 1) := dk_120 (dk_at dksX2_rotateLeft_0 5 rfl rfl)
theorem dX2_rotateLeft_6 : decode cX2_rotateLeft 6 = .ok (.iload_n 1, 1) := dk_27 (dk_at dksX2_rotateLeft_0 6 rfl rfl)
theorem dX2_rotateLeft_7 : decode cX2_rotateLeft 7 = .ok (.bipush 32, 2) := dk_16 32 (dk_at dksX2_rotateLeft_0 7 rfl rfl)
theorem dX2_rotateLeft_9 : decode cX2_rotateLeft 9 = .ok (.iload_n 2, 1) := dk_28 (dk_at dksX2_rotateLeft_0 9 rfl rfl)
theorem dX2_rotateLeft_10 : decode cX2_rotateLeft 10 = .ok (.bipush 31, 2) := dk_16 31 (dk_at dksX2_rotateLeft_0 10 rfl rfl)
theorem dX2_rotateLeft_12 : decode cX2_rotateLeft 12 = .ok (.iand, 1) := dk_126 (dk_at dksX2_rotateLeft_0 12 rfl rfl)
theorem dX2_rotateLeft_13 : decode cX2_rotateLeft 13 = .ok (.isub, 1) := dk_100 (dk_at dksX2_rotateLeft_0 13 rfl rfl)
theorem dX2_rotateLeft_14 : decode cX2_rotateLeft 14 = .ok (.iushr, 1) := dk_124 (dk_at dksX2_rotateLeft_0 14 rfl rfl)
theorem dX2_rotateLeft_15 : decode cX2_rotateLeft 15 = .ok (.ior, 1) := dk_128 (dk_at dksX2_rotateLeft_0 15 rfl rfl)
theorem dX2_rotateLeft_16 : decode cX2_rotateLeft 16 = .ok (.ireturn, 1) := dk_172 (dk_at dksX2_rotateLeft_0 16 rfl rfl)
abbrev cX2_processBlock : ByteArray := prog_5_method_3_code
def yX2_processBlock : MethodName := ⟨RX2, "processBlock", "([BI[BI)I"⟩
def dkwX2_processBlock_1 : List UInt8 := [21, 4, 182, 0, 49, 172]
abbrev dktX2_processBlock_1 : List UInt8 := dkwX2_processBlock_1 ++ []
def dkwX2_processBlock_0 : List UInt8 := [42, 180, 0, 41, 153, 0, 15, 42, 43, 28, 45, 21, 4, 182, 0, 45, 167, 0, 12, 42, 43, 28, 45]
abbrev dktX2_processBlock_0 : List UInt8 := dkwX2_processBlock_0 ++ dktX2_processBlock_1
theorem dksX2_processBlock_0 : cX2_processBlock.data.toList.drop 0 = dktX2_processBlock_0 := by decide +kernel
theorem dksX2_processBlock_1 : cX2_processBlock.data.toList.drop 23 = dktX2_processBlock_1 := dk_seg dksX2_processBlock_0 23 rfl rfl
theorem dX2_processBlock_0 : decode cX2_processBlock 0 = .ok (.aload_n 0, 1) := dk_42 (dk_at dksX2_processBlock_0 0 rfl rfl)
theorem dX2_processBlock_1 : decode cX2_processBlock 1 = .ok (.getfield 41, 3) := dk_180 0 41 (dk_at dksX2_processBlock_0 1 rfl rfl)
theorem dX2_processBlock_4 : decode cX2_processBlock 4 = .ok (.ifCond .eq 15, 3) := dk_153 0 15 (dk_at dksX2_processBlock_0 4 rfl rfl)
theorem dX2_processBlock_7 : decode cX2_processBlock 7 = .ok (.aload_n 0, 1) := dk_42 (dk_at dksX2_processBlock_0 7 rfl rfl)
theorem dX2_processBlock_8 : decode cX2_processBlock 8 = .ok (.aload_n 1, 1) := dk_43 (dk_at dksX2_processBlock_0 8 rfl rfl)
theorem dX2_processBlock_9 : decode cX2_processBlock 9 = .ok (.iload_n 2, 1) := dk_28 (dk_at dksX2_processBlock_0 9 rfl rfl)
theorem dX2_processBlock_10 : decode cX2_processBlock 10 = .ok (.aload_n 3, 1) := dk_45 (dk_at dksX2_processBlock_0 10 rfl rfl)
theorem dX2_processBlock_11 : decode cX2_processBlock 11 = .ok (.iload 4, 2) := dk_21 4 (dk_at dksX2_processBlock_0 11 rfl rfl)
theorem dX2_processBlock_13 : decode cX2_processBlock 13 = .ok (.invokevirtual 45, 3) := dk_182 0 45 (dk_at dksX2_processBlock_0 13 rfl rfl)
theorem dX2_processBlock_16 : decode cX2_processBlock 16 = .ok (.goto 12, 3) := dk_167 0 12 (dk_at dksX2_processBlock_0 16 rfl rfl)
theorem dX2_processBlock_19 : decode cX2_processBlock 19 = .ok (.aload_n 0, 1) := dk_42 (dk_at dksX2_processBlock_0 19 rfl rfl)
theorem dX2_processBlock_20 : decode cX2_processBlock 20 = .ok (.aload_n 1, 1) := dk_43 (dk_at dksX2_processBlock_0 20 rfl rfl)
theorem dX2_processBlock_21 : decode cX2_processBlock 21 = .ok (.iload_n 2, 1) := dk_28 (dk_at dksX2_processBlock_0 21 rfl rfl)
theorem dX2_processBlock_22 : decode cX2_processBlock 22 = .ok (.aload_n 3, 1) := dk_45 (dk_at dksX2_processBlock_0 22 rfl rfl)
theorem dX2_processBlock_23 : decode cX2_processBlock 23 = .ok (.iload 4, 2) := dk_21 4 (dk_at dksX2_processBlock_1 0 rfl rfl)
theorem dX2_processBlock_25 : decode cX2_processBlock 25 = .ok (.invokevirtual 49, 3) := dk_182 0 49 (dk_at dksX2_processBlock_1 2 rfl rfl)
theorem dX2_processBlock_28 : decode cX2_processBlock 28 = .ok (.ireturn, 1) := dk_172 (dk_at dksX2_processBlock_1 5 rfl rfl)
abbrev cX2_encryptBlock : ByteArray := prog_5_method_5_code
def yX2_encryptBlock : MethodName := ⟨RX2, "encryptBlock", "([BI[BI)I"⟩
def dkwX2_encryptBlock_5 : List UInt8 := [182, 0, 62, 16, 8, 172]
abbrev dktX2_encryptBlock_5 : List UInt8 := dkwX2_encryptBlock_5 ++ []
def dkwX2_encryptBlock_4 : List UInt8 := [132, 7, 1, 167, 255, 196, 42, 21, 5, 45, 21, 4, 182, 0, 62, 42, 21, 6, 45, 21, 4, 7, 96]
abbrev dktX2_encryptBlock_4 : List UInt8 := dkwX2_encryptBlock_4 ++ dktX2_encryptBlock_5
def dkwX2_encryptBlock_3 : List UInt8 := [21, 5, 130, 21, 5, 182, 0, 54, 42, 180, 0, 13, 5, 21, 7, 104, 4, 96, 46, 96, 54, 6]
abbrev dktX2_encryptBlock_3 : List UInt8 := dkwX2_encryptBlock_3 ++ dktX2_encryptBlock_4
def dkwX2_encryptBlock_2 : List UInt8 := [21, 6, 130, 21, 6, 182, 0, 54, 42, 180, 0, 13, 5, 21, 7, 104, 46, 96, 54, 5, 42, 21, 6]
abbrev dktX2_encryptBlock_2 : List UInt8 := dkwX2_encryptBlock_2 ++ dktX2_encryptBlock_3
def dkwX2_encryptBlock_1 : List UInt8 := [180, 0, 13, 4, 46, 96, 54, 6, 4, 54, 7, 21, 7, 42, 180, 0, 7, 163, 0, 57, 42, 21, 5]
abbrev dktX2_encryptBlock_1 : List UInt8 := dkwX2_encryptBlock_1 ++ dktX2_encryptBlock_2
def dkwX2_encryptBlock_0 : List UInt8 := [42, 43, 28, 182, 0, 58, 42, 180, 0, 13, 3, 46, 96, 54, 5, 42, 43, 28, 7, 96, 182, 0, 58, 42]
abbrev dktX2_encryptBlock_0 : List UInt8 := dkwX2_encryptBlock_0 ++ dktX2_encryptBlock_1
theorem dksX2_encryptBlock_0 : cX2_encryptBlock.data.toList.drop 0 = dktX2_encryptBlock_0 := by decide +kernel
theorem dksX2_encryptBlock_1 : cX2_encryptBlock.data.toList.drop 24 = dktX2_encryptBlock_1 := dk_seg dksX2_encryptBlock_0 24 rfl rfl
theorem dksX2_encryptBlock_2 : cX2_encryptBlock.data.toList.drop 47 = dktX2_encryptBlock_2 := dk_seg dksX2_encryptBlock_1 23 rfl rfl
theorem dksX2_encryptBlock_3 : cX2_encryptBlock.data.toList.drop 70 = dktX2_encryptBlock_3 := dk_seg dksX2_encryptBlock_2 23 rfl rfl
theorem dksX2_encryptBlock_4 : cX2_encryptBlock.data.toList.drop 92 = dktX2_encryptBlock_4 := dk_seg dksX2_encryptBlock_3 22 rfl rfl
theorem dksX2_encryptBlock_5 : cX2_encryptBlock.data.toList.drop 115 = dktX2_encryptBlock_5 := dk_seg dksX2_encryptBlock_4 23 rfl rfl
theorem dX2_encryptBlock_0 : decode cX2_encryptBlock 0 = .ok (.aload_n 0, 1) := dk_42 (dk_at dksX2_encryptBlock_0 0 rfl rfl)
theorem dX2_encryptBlock_1 : decode cX2_encryptBlock 1 = .ok (.aload_n 1, 1) := dk_43 (dk_at dksX2_encryptBlock_0 1 rfl rfl)
theorem dX2_encryptBlock_2 : decode cX2_encryptBlock 2 = .ok (.iload_n 2, 1) := dk_28 (dk_at dksX2_encryptBlock_0 2 rfl rfl)
theorem dX2_encryptBlock_3 : decode cX2_encryptBlock 3 = .ok (.invokevirtual 58, 3) := dk_182 0 58 (dk_at dksX2_encryptBlock_0 3 rfl rfl)
theorem dX2_encryptBlock_6 : decode cX2_encryptBlock 6 = .ok (.aload_n 0, 1) := dk_42 (dk_at dksX2_encryptBlock_0 6 rfl rfl)
theorem dX2_encryptBlock_7 : decode cX2_encryptBlock 7 = .ok (.getfield 13, 3) := dk_180 0 13 (dk_at dksX2_encryptBlock_0 7 rfl rfl)
theorem dX2_encryptBlock_10 : decode cX2_encryptBlock 10 = .ok (.iconst 0, 1) := dk_3 (dk_at dksX2_encryptBlock_0 10 rfl rfl)
theorem dX2_encryptBlock_11 : decode cX2_encryptBlock 11 = .ok (.iaload, 1) := dk_46 (dk_at dksX2_encryptBlock_0 11 rfl rfl)
theorem dX2_encryptBlock_12 : decode cX2_encryptBlock 12 = .ok (.iadd, 1) := dk_96 (dk_at dksX2_encryptBlock_0 12 rfl rfl)
theorem dX2_encryptBlock_13 : decode cX2_encryptBlock 13 = .ok (.istore 5, 2) := dk_54 5 (dk_at dksX2_encryptBlock_0 13 rfl rfl)
theorem dX2_encryptBlock_15 : decode cX2_encryptBlock 15 = .ok (.aload_n 0, 1) := dk_42 (dk_at dksX2_encryptBlock_0 15 rfl rfl)
theorem dX2_encryptBlock_16 : decode cX2_encryptBlock 16 = .ok (.aload_n 1, 1) := dk_43 (dk_at dksX2_encryptBlock_0 16 rfl rfl)
theorem dX2_encryptBlock_17 : decode cX2_encryptBlock 17 = .ok (.iload_n 2, 1) := dk_28 (dk_at dksX2_encryptBlock_0 17 rfl rfl)
theorem dX2_encryptBlock_18 : decode cX2_encryptBlock 18 = .ok (.iconst 4, 1) := dk_7 (dk_at dksX2_encryptBlock_0 18 rfl rfl)
theorem dX2_encryptBlock_19 : decode cX2_encryptBlock 19 = .ok (.iadd, 1) := dk_96 (dk_at dksX2_encryptBlock_0 19 rfl rfl)
theorem dX2_encryptBlock_20 : decode cX2_encryptBlock 20 = .ok (.invokevirtual 58, 3) := dk_182 0 58 (dk_at dksX2_encryptBlock_0 20 rfl rfl)
theorem dX2_encryptBlock_23 : decode cX2_encryptBlock 23 = .ok (.aload_n 0, 1) := dk_42 (dk_at dksX2_encryptBlock_0 23 rfl rfl)
theorem dX2_encryptBlock_24 : decode cX2_encryptBlock 24 = .ok (.getfield 13, 3) := dk_180 0 13 (dk_at dksX2_encryptBlock_1 0 rfl rfl)
theorem dX2_encryptBlock_27 : decode cX2_encryptBlock 27 = .ok (.iconst 1, 1) := dk_4 (dk_at dksX2_encryptBlock_1 3 rfl rfl)
theorem dX2_encryptBlock_28 : decode cX2_encryptBlock 28 = .ok (.iaload, 1) := dk_46 (dk_at dksX2_encryptBlock_1 4 rfl rfl)
theorem dX2_encryptBlock_29 : decode cX2_encryptBlock 29 = .ok (.iadd, 1) := dk_96 (dk_at dksX2_encryptBlock_1 5 rfl rfl)
theorem dX2_encryptBlock_30 : decode cX2_encryptBlock 30 = .ok (.istore 6, 2) := dk_54 6 (dk_at dksX2_encryptBlock_1 6 rfl rfl)
theorem dX2_encryptBlock_32 : decode cX2_encryptBlock 32 = .ok (.iconst 1, 1) := dk_4 (dk_at dksX2_encryptBlock_1 8 rfl rfl)
theorem dX2_encryptBlock_33 : decode cX2_encryptBlock 33 = .ok (.istore 7, 2) := dk_54 7 (dk_at dksX2_encryptBlock_1 9 rfl rfl)
theorem dX2_encryptBlock_35 : decode cX2_encryptBlock 35 = .ok (.iload 7, 2) := dk_21 7 (dk_at dksX2_encryptBlock_1 11 rfl rfl)
theorem dX2_encryptBlock_37 : decode cX2_encryptBlock 37 = .ok (.aload_n 0, 1) := dk_42 (dk_at dksX2_encryptBlock_1 13 rfl rfl)
theorem dX2_encryptBlock_38 : decode cX2_encryptBlock 38 = .ok (.getfield 7, 3) := dk_180 0 7 (dk_at dksX2_encryptBlock_1 14 rfl rfl)
theorem dX2_encryptBlock_41 : decode cX2_encryptBlock 41 = .ok (.if_icmp .gt 57, 3) := dk_163 0 57 (dk_at dksX2_encryptBlock_1 17 rfl rfl)
theorem dX2_encryptBlock_44 : decode cX2_encryptBlock 44 = .ok (.aload_n 0, 1) := dk_42 (dk_at dksX2_encryptBlock_1 20 rfl rfl)
theorem dX2_encryptBlock_45 : decode cX2_encryptBlock 45 = .ok (.iload 5, 2) := dk_21 5 (dk_at dksX2_encryptBlock_1 21 rfl rfl)
theorem dX2_encryptBlock_47 : decode cX2_encryptBlock 47 = .ok (.iload 6, 2) := dk_21 6 (dk_at dksX2_encryptBlock_2 0 rfl rfl)
theorem dX2_encryptBlock_49 : decode cX2_encryptBlock 49 = .ok (.ixor, 1) := dk_130 (dk_at dksX2_encryptBlock_2 2 rfl rfl)
theorem dX2_encryptBlock_50 : decode cX2_encryptBlock 50 = .ok (.iload 6, 2) := dk_21 6 (dk_at dksX2_encryptBlock_2 3 rfl rfl)
theorem dX2_encryptBlock_52 : decode cX2_encryptBlock 52 = .ok (.invokevirtual 54, 3) := dk_182 0 54 (dk_at dksX2_encryptBlock_2 5 rfl rfl)
theorem dX2_encryptBlock_55 : decode cX2_encryptBlock 55 = .ok (.aload_n 0, 1) := dk_42 (dk_at dksX2_encryptBlock_2 8 rfl rfl)
theorem dX2_encryptBlock_56 : decode cX2_encryptBlock 56 = .ok (.getfield 13, 3) := dk_180 0 13 (dk_at dksX2_encryptBlock_2 9 rfl rfl)
theorem dX2_encryptBlock_59 : decode cX2_encryptBlock 59 = .ok (.iconst 2, 1) := dk_5 (dk_at dksX2_encryptBlock_2 12 rfl rfl)
theorem dX2_encryptBlock_60 : decode cX2_encryptBlock 60 = .ok (.iload 7, 2) := dk_21 7 (dk_at dksX2_encryptBlock_2 13 rfl rfl)
theorem dX2_encryptBlock_62 : decode cX2_encryptBlock 62 = .ok (.imul, 1) := dk_104 (dk_at dksX2_encryptBlock_2 15 rfl rfl)
theorem dX2_encryptBlock_63 : decode cX2_encryptBlock 63 = .ok (.iaload, 1) := dk_46 (dk_at dksX2_encryptBlock_2 16 rfl rfl)
theorem dX2_encryptBlock_64 : decode cX2_encryptBlock 64 = .ok (.iadd, 1) := dk_96 (dk_at dksX2_encryptBlock_2 17 rfl rfl)
theorem dX2_encryptBlock_65 : decode cX2_encryptBlock 65 = .ok (.istore 5, 2) := dk_54 5 (dk_at dksX2_encryptBlock_2 18 rfl rfl)
theorem dX2_encryptBlock_67 : decode cX2_encryptBlock 67 = .ok (.aload_n 0, 1) := dk_42 (dk_at dksX2_encryptBlock_2 20 rfl rfl)
theorem dX2_encryptBlock_68 : decode cX2_encryptBlock 68 = .ok (.iload 6, 2) := dk_21 6 (dk_at dksX2_encryptBlock_2 21 rfl rfl)
theorem dX2_encryptBlock_70 : decode cX2_encryptBlock 70 = .ok (.iload 5, 2) := dk_21 5 (dk_at dksX2_encryptBlock_3 0 rfl rfl)
theorem dX2_encryptBlock_72 : decode cX2_encryptBlock 72 = .ok (.ixor, 1) := dk_130 (dk_at dksX2_encryptBlock_3 2 rfl rfl)
theorem dX2_encryptBlock_73 : decode cX2_encryptBlock 73 = .ok (.iload 5, 2) := dk_21 5 (dk_at dksX2_encryptBlock_3 3 rfl rfl)
theorem dX2_encryptBlock_75 : decode cX2_encryptBlock 75 = .ok (.invokevirtual 54, 3) := dk_182 0 54 (dk_at dksX2_encryptBlock_3 5 rfl rfl)
theorem dX2_encryptBlock_78 : decode cX2_encryptBlock 78 = .ok (.aload_n 0, 1) := dk_42 (dk_at dksX2_encryptBlock_3 8 rfl rfl)
theorem dX2_encryptBlock_79 : decode cX2_encryptBlock 79 = .ok (.getfield 13, 3) := dk_180 0 13 (dk_at dksX2_encryptBlock_3 9 rfl rfl)
theorem dX2_encryptBlock_82 : decode cX2_encryptBlock 82 = .ok (.iconst 2, 1) := dk_5 (dk_at dksX2_encryptBlock_3 12 rfl rfl)
theorem dX2_encryptBlock_83 : decode cX2_encryptBlock 83 = .ok (.iload 7, 2) := dk_21 7 (dk_at dksX2_encryptBlock_3 13 rfl rfl)
theorem dX2_encryptBlock_85 : decode cX2_encryptBlock 85 = .ok (.imul, 1) := dk_104 (dk_at dksX2_encryptBlock_3 15 rfl rfl)
theorem dX2_encryptBlock_86 : decode cX2_encryptBlock 86 = .ok (.iconst 1, 1) := dk_4 (dk_at dksX2_encryptBlock_3 16 rfl rfl)
theorem dX2_encryptBlock_87 : decode cX2_encryptBlock 87 = .ok (.iadd, 1) := dk_96 (dk_at dksX2_encryptBlock_3 17 rfl rfl)
theorem dX2_encryptBlock_88 : decode cX2_encryptBlock 88 = .ok (.iaload, 1) := dk_46 (dk_at dksX2_encryptBlock_3 18 rfl rfl)
theorem dX2_encryptBlock_89 : decode cX2_encryptBlock 89 = .ok (.iadd, 1) := dk_96 (dk_at dksX2_encryptBlock_3 19 rfl rfl)
theorem dX2_encryptBlock_90 : decode cX2_encryptBlock 90 = .ok (.istore 6, 2) := dk_54 6 (dk_at dksX2_encryptBlock_3 20 rfl rfl)
theorem dX2_encryptBlock_92 : decode cX2_encryptBlock 92 = .ok (.iinc 7 1, 3) := dk_132 7 1 (dk_at dksX2_encryptBlock_4 0 rfl rfl)
theorem dX2_encryptBlock_95 : decode cX2_encryptBlock 95 = .ok (.goto (-60), 3) := dk_167 255 196 (dk_at dksX2_encryptBlock_4 3 rfl rfl)
theorem dX2_encryptBlock_98 : decode cX2_encryptBlock 98 = .ok (.aload_n 0, 1) := dk_42 (dk_at dksX2_encryptBlock_4 6 rfl rfl)
theorem dX2_encryptBlock_99 : decode cX2_encryptBlock 99 = .ok (.iload 5, 2) := dk_21 5 (dk_at dksX2_encryptBlock_4 7 rfl rfl)
theorem dX2_encryptBlock_101 : decode cX2_encryptBlock 101 = .ok (.aload_n 3, 1) := dk_45 (dk_at dksX2_encryptBlock_4 9 rfl rfl)
theorem dX2_encryptBlock_102 : decode cX2_encryptBlock 102 = .ok (.iload 4, 2) := dk_21 4 (dk_at dksX2_encryptBlock_4 10 rfl rfl)
theorem dX2_encryptBlock_104 : decode cX2_encryptBlock 104 = .ok (.invokevirtual 62, 3) := dk_182 0 62 (dk_at dksX2_encryptBlock_4 12 rfl rfl)
theorem dX2_encryptBlock_107 : decode cX2_encryptBlock 107 = .ok (.aload_n 0, 1) := dk_42 (dk_at dksX2_encryptBlock_4 15 rfl rfl)
theorem dX2_encryptBlock_108 : decode cX2_encryptBlock 108 = .ok (.iload 6, 2) := dk_21 6 (dk_at dksX2_encryptBlock_4 16 rfl rfl)
theorem dX2_encryptBlock_110 : decode cX2_encryptBlock 110 = .ok (.aload_n 3, 1) := dk_45 (dk_at dksX2_encryptBlock_4 18 rfl rfl)
theorem dX2_encryptBlock_111 : decode cX2_encryptBlock 111 = .ok (.iload 4, 2) := dk_21 4 (dk_at dksX2_encryptBlock_4 19 rfl rfl)
theorem dX2_encryptBlock_113 : decode cX2_encryptBlock 113 = .ok (.iconst 4, 1) := dk_7 (dk_at dksX2_encryptBlock_4 21 rfl rfl)
theorem dX2_encryptBlock_114 : decode cX2_encryptBlock 114 = .ok (.iadd, 1) := dk_96 (dk_at dksX2_encryptBlock_4 22 rfl rfl)
theorem dX2_encryptBlock_115 : decode cX2_encryptBlock 115 = .ok (.invokevirtual 62, 3) := dk_182 0 62 (dk_at dksX2_encryptBlock_5 0 rfl rfl)
theorem dX2_encryptBlock_118 : decode cX2_encryptBlock 118 = .ok (.bipush 8, 2) := dk_16 8 (dk_at dksX2_encryptBlock_5 3 rfl rfl)
theorem dX2_encryptBlock_120 : decode cX2_encryptBlock 120 = .ok (.ireturn, 1) := dk_172 (dk_at dksX2_encryptBlock_5 5 rfl rfl)
abbrev cX2_bytesToWord : ByteArray := prog_5_method_9_code
def yX2_bytesToWord : MethodName := ⟨RX2, "bytesToWord", "([BI)I"⟩
def dkwX2_bytesToWord_1 : List UInt8 := [51, 17, 0, 255, 126, 16, 16, 120, 128, 43, 28, 6, 96, 51, 17, 0, 255, 126, 16, 24, 120, 128, 172]
abbrev dktX2_bytesToWord_1 : List UInt8 := dkwX2_bytesToWord_1 ++ []
def dkwX2_bytesToWord_0 : List UInt8 := [43, 28, 51, 17, 0, 255, 126, 43, 28, 4, 96, 51, 17, 0, 255, 126, 16, 8, 120, 128, 43, 28, 5, 96]
abbrev dktX2_bytesToWord_0 : List UInt8 := dkwX2_bytesToWord_0 ++ dktX2_bytesToWord_1
theorem dksX2_bytesToWord_0 : cX2_bytesToWord.data.toList.drop 0 = dktX2_bytesToWord_0 := by decide +kernel
theorem dksX2_bytesToWord_1 : cX2_bytesToWord.data.toList.drop 24 = dktX2_bytesToWord_1 := dk_seg dksX2_bytesToWord_0 24 rfl rfl
theorem dX2_bytesToWord_0 : decode cX2_bytesToWord 0 = .ok (.aload_n 1, 1) := dk_43 (dk_at dksX2_bytesToWord_0 0 rfl rfl)
theorem dX2_bytesToWord_1 : decode cX2_bytesToWord 1 = .ok (.iload_n 2, 1) := dk_28 (dk_at dksX2_bytesToWord_0 1 rfl rfl)
theorem dX2_bytesToWord_2 : decode cX2_bytesToWord 2 = .ok (.baload, 1) := dk_51 (dk_at dksX2_bytesToWord_0 2 rfl rfl)
theorem dX2_bytesToWord_3 : decode cX2_bytesToWord 3 = .ok (.sipush 255, 3) := dk_17 0 255 (dk_at dksX2_bytesToWord_0 3 rfl rfl)
theorem dX2_bytesToWord_6 : decode cX2_bytesToWord 6 = .ok (.iand, 1) := dk_126 (dk_at dksX2_bytesToWord_0 6 rfl rfl)
theorem dX2_bytesToWord_7 : decode cX2_bytesToWord 7 = .ok (.aload_n 1, 1) := dk_43 (dk_at dksX2_bytesToWord_0 7 rfl rfl)
theorem dX2_bytesToWord_8 : decode cX2_bytesToWord 8 = .ok (.iload_n 2, 1) := dk_28 (dk_at dksX2_bytesToWord_0 8 rfl rfl)
theorem dX2_bytesToWord_9 : decode cX2_bytesToWord 9 = .ok (.iconst 1, 1) := dk_4 (dk_at dksX2_bytesToWord_0 9 rfl rfl)
theorem dX2_bytesToWord_10 : decode cX2_bytesToWord 10 = .ok (.iadd, 1) := dk_96 (dk_at dksX2_bytesToWord_0 10 rfl rfl)
theorem dX2_bytesToWord_11 : decode cX2_bytesToWord 11 = .ok (.baload, 1) := dk_51 (dk_at dksX2_bytesToWord_0 11 rfl rfl)
theorem dX2_bytesToWord_12 : decode cX2_bytesToWord 12 = .ok (.sipush 255, 3) := dk_17 0 255 (dk_at dksX2_bytesToWord_0 12 rfl rfl)
theorem dX2_bytesToWord_15 : decode cX2_bytesToWord 15 = .ok (.iand, 1) := dk_126 (dk_at dksX2_bytesToWord_0 15 rfl rfl)
theorem dX2_bytesToWord_16 : decode cX2_bytesToWord 16 = .ok (.bipush 8, 2) := dk_16 8 (dk_at dksX2_bytesToWord_0 16 rfl rfl)
theorem dX2_bytesToWord_18 : decode cX2_bytesToWord 18 = .ok (.ishl, 1) := dk_120 (dk_at dksX2_bytesToWord_0 18 rfl rfl)
theorem dX2_bytesToWord_19 : decode cX2_bytesToWord 19 = .ok (.ior, 1) := dk_128 (dk_at dksX2_bytesToWord_0 19 rfl rfl)
theorem dX2_bytesToWord_20 : decode cX2_bytesToWord 20 = .ok (.aload_n 1, 1) := dk_43 (dk_at dksX2_bytesToWord_0 20 rfl rfl)
theorem dX2_bytesToWord_21 : decode cX2_bytesToWord 21 = .ok (.iload_n 2, 1) := dk_28 (dk_at dksX2_bytesToWord_0 21 rfl rfl)
theorem dX2_bytesToWord_22 : decode cX2_bytesToWord 22 = .ok (.iconst 2, 1) := dk_5 (dk_at dksX2_bytesToWord_0 22 rfl rfl)
theorem dX2_bytesToWord_23 : decode cX2_bytesToWord 23 = .ok (.iadd, 1) := dk_96 (dk_at dksX2_bytesToWord_0 23 rfl rfl)
theorem dX2_bytesToWord_24 : decode cX2_bytesToWord 24 = .ok (.baload, 1) := dk_51 (dk_at dksX2_bytesToWord_1 0 rfl rfl)
theorem dX2_bytesToWord_25 : decode cX2_bytesToWord 25 = .ok (.sipush 255, 3) := dk_17 0 255 (dk_at dksX2_bytesToWord_1 1 rfl rfl)
theorem dX2_bytesToWord_28 : decode cX2_bytesToWord 28 = .ok (.iand, 1) := dk_126 (dk_at dksX2_bytesToWord_1 4 rfl rfl)
theorem dX2_bytesToWord_29 : decode cX2_bytesToWord 29 = .ok (.bipush 16, 2) := dk_16 16 (dk_at dksX2_bytesToWord_1 5 rfl rfl)
theorem dX2_bytesToWord_31 : decode cX2_bytesToWord 31 = .ok (.ishl, 1) := dk_120 (dk_at dksX2_bytesToWord_1 7 rfl rfl)
theorem dX2_bytesToWord_32 : decode cX2_bytesToWord 32 = .ok (.ior, 1) := dk_128 (dk_at dksX2_bytesToWord_1 8 rfl rfl)
theorem dX2_bytesToWord_33 : decode cX2_bytesToWord 33 = .ok (.aload_n 1, 1) := dk_43 (dk_at dksX2_bytesToWord_1 9 rfl rfl)
theorem dX2_bytesToWord_34 : decode cX2_bytesToWord 34 = .ok (.iload_n 2, 1) := dk_28 (dk_at dksX2_bytesToWord_1 10 rfl rfl)
theorem dX2_bytesToWord_35 : decode cX2_bytesToWord 35 = .ok (.iconst 3, 1) := dk_6 (dk_at dksX2_bytesToWord_1 11 rfl rfl)
theorem dX2_bytesToWord_36 : decode cX2_bytesToWord 36 = .ok (.iadd, 1) := dk_96 (dk_at dksX2_bytesToWord_1 12 rfl rfl)
theorem dX2_bytesToWord_37 : decode cX2_bytesToWord 37 = .ok (.baload, 1) := dk_51 (dk_at dksX2_bytesToWord_1 13 rfl rfl)
theorem dX2_bytesToWord_38 : decode cX2_bytesToWord 38 = .ok (.sipush 255, 3) := dk_17 0 255 (dk_at dksX2_bytesToWord_1 14 rfl rfl)
theorem dX2_bytesToWord_41 : decode cX2_bytesToWord 41 = .ok (.iand, 1) := dk_126 (dk_at dksX2_bytesToWord_1 17 rfl rfl)
theorem dX2_bytesToWord_42 : decode cX2_bytesToWord 42 = .ok (.bipush 24, 2) := dk_16 24 (dk_at dksX2_bytesToWord_1 18 rfl rfl)
theorem dX2_bytesToWord_44 : decode cX2_bytesToWord 44 = .ok (.ishl, 1) := dk_120 (dk_at dksX2_bytesToWord_1 20 rfl rfl)
theorem dX2_bytesToWord_45 : decode cX2_bytesToWord 45 = .ok (.ior, 1) := dk_128 (dk_at dksX2_bytesToWord_1 21 rfl rfl)
theorem dX2_bytesToWord_46 : decode cX2_bytesToWord 46 = .ok (.ireturn, 1) := dk_172 (dk_at dksX2_bytesToWord_1 22 rfl rfl)
abbrev cX2_wordToBytes : ByteArray := prog_5_method_10_code
def yX2_wordToBytes : MethodName := ⟨RX2, "wordToBytes", "(I[BI)V"⟩
def dkwX2_wordToBytes_1 : List UInt8 := [84, 44, 29, 6, 96, 27, 16, 24, 122, 145, 84, 177]
abbrev dktX2_wordToBytes_1 : List UInt8 := dkwX2_wordToBytes_1 ++ []
def dkwX2_wordToBytes_0 : List UInt8 := [44, 29, 27, 145, 84, 44, 29, 4, 96, 27, 16, 8, 122, 145, 84, 44, 29, 5, 96, 27, 16, 16, 122, 145]
abbrev dktX2_wordToBytes_0 : List UInt8 := dkwX2_wordToBytes_0 ++ dktX2_wordToBytes_1
theorem dksX2_wordToBytes_0 : cX2_wordToBytes.data.toList.drop 0 = dktX2_wordToBytes_0 := by decide +kernel
theorem dksX2_wordToBytes_1 : cX2_wordToBytes.data.toList.drop 24 = dktX2_wordToBytes_1 := dk_seg dksX2_wordToBytes_0 24 rfl rfl
theorem dX2_wordToBytes_0 : decode cX2_wordToBytes 0 = .ok (.aload_n 2, 1) := dk_44 (dk_at dksX2_wordToBytes_0 0 rfl rfl)
theorem dX2_wordToBytes_1 : decode cX2_wordToBytes 1 = .ok (.iload_n 3, 1) := dk_29 (dk_at dksX2_wordToBytes_0 1 rfl rfl)
theorem dX2_wordToBytes_2 : decode cX2_wordToBytes 2 = .ok (.iload_n 1, 1) := dk_27 (dk_at dksX2_wordToBytes_0 2 rfl rfl)
theorem dX2_wordToBytes_3 : decode cX2_wordToBytes 3 = .ok (.i2b, 1) := dk_145 (dk_at dksX2_wordToBytes_0 3 rfl rfl)
theorem dX2_wordToBytes_4 : decode cX2_wordToBytes 4 = .ok (.bastore, 1) := dk_84 (dk_at dksX2_wordToBytes_0 4 rfl rfl)
theorem dX2_wordToBytes_5 : decode cX2_wordToBytes 5 = .ok (.aload_n 2, 1) := dk_44 (dk_at dksX2_wordToBytes_0 5 rfl rfl)
theorem dX2_wordToBytes_6 : decode cX2_wordToBytes 6 = .ok (.iload_n 3, 1) := dk_29 (dk_at dksX2_wordToBytes_0 6 rfl rfl)
theorem dX2_wordToBytes_7 : decode cX2_wordToBytes 7 = .ok (.iconst 1, 1) := dk_4 (dk_at dksX2_wordToBytes_0 7 rfl rfl)
theorem dX2_wordToBytes_8 : decode cX2_wordToBytes 8 = .ok (.iadd, 1) := dk_96 (dk_at dksX2_wordToBytes_0 8 rfl rfl)
theorem dX2_wordToBytes_9 : decode cX2_wordToBytes 9 = .ok (.iload_n 1, 1) := dk_27 (dk_at dksX2_wordToBytes_0 9 rfl rfl)
theorem dX2_wordToBytes_10 : decode cX2_wordToBytes 10 = .ok (.bipush 8, 2) := dk_16 8 (dk_at dksX2_wordToBytes_0 10 rfl rfl)
theorem dX2_wordToBytes_12 : decode cX2_wordToBytes 12 = .ok (.ishr, 1) := dk_122 (dk_at dksX2_wordToBytes_0 12 rfl rfl)
theorem dX2_wordToBytes_13 : decode cX2_wordToBytes 13 = .ok (.i2b, 1) := dk_145 (dk_at dksX2_wordToBytes_0 13 rfl rfl)
theorem dX2_wordToBytes_14 : decode cX2_wordToBytes 14 = .ok (.bastore, 1) := dk_84 (dk_at dksX2_wordToBytes_0 14 rfl rfl)
theorem dX2_wordToBytes_15 : decode cX2_wordToBytes 15 = .ok (.aload_n 2, 1) := dk_44 (dk_at dksX2_wordToBytes_0 15 rfl rfl)
theorem dX2_wordToBytes_16 : decode cX2_wordToBytes 16 = .ok (.iload_n 3, 1) := dk_29 (dk_at dksX2_wordToBytes_0 16 rfl rfl)
theorem dX2_wordToBytes_17 : decode cX2_wordToBytes 17 = .ok (.iconst 2, 1) := dk_5 (dk_at dksX2_wordToBytes_0 17 rfl rfl)
theorem dX2_wordToBytes_18 : decode cX2_wordToBytes 18 = .ok (.iadd, 1) := dk_96 (dk_at dksX2_wordToBytes_0 18 rfl rfl)
theorem dX2_wordToBytes_19 : decode cX2_wordToBytes 19 = .ok (.iload_n 1, 1) := dk_27 (dk_at dksX2_wordToBytes_0 19 rfl rfl)
theorem dX2_wordToBytes_20 : decode cX2_wordToBytes 20 = .ok (.bipush 16, 2) := dk_16 16 (dk_at dksX2_wordToBytes_0 20 rfl rfl)
theorem dX2_wordToBytes_22 : decode cX2_wordToBytes 22 = .ok (.ishr, 1) := dk_122 (dk_at dksX2_wordToBytes_0 22 rfl rfl)
theorem dX2_wordToBytes_23 : decode cX2_wordToBytes 23 = .ok (.i2b, 1) := dk_145 (dk_at dksX2_wordToBytes_0 23 rfl rfl)
theorem dX2_wordToBytes_24 : decode cX2_wordToBytes 24 = .ok (.bastore, 1) := dk_84 (dk_at dksX2_wordToBytes_1 0 rfl rfl)
theorem dX2_wordToBytes_25 : decode cX2_wordToBytes 25 = .ok (.aload_n 2, 1) := dk_44 (dk_at dksX2_wordToBytes_1 1 rfl rfl)
theorem dX2_wordToBytes_26 : decode cX2_wordToBytes 26 = .ok (.iload_n 3, 1) := dk_29 (dk_at dksX2_wordToBytes_1 2 rfl rfl)
theorem dX2_wordToBytes_27 : decode cX2_wordToBytes 27 = .ok (.iconst 3, 1) := dk_6 (dk_at dksX2_wordToBytes_1 3 rfl rfl)
theorem dX2_wordToBytes_28 : decode cX2_wordToBytes 28 = .ok (.iadd, 1) := dk_96 (dk_at dksX2_wordToBytes_1 4 rfl rfl)
theorem dX2_wordToBytes_29 : decode cX2_wordToBytes 29 = .ok (.iload_n 1, 1) := dk_27 (dk_at dksX2_wordToBytes_1 5 rfl rfl)
theorem dX2_wordToBytes_30 : decode cX2_wordToBytes 30 = .ok (.bipush 24, 2) := dk_16 24 (dk_at dksX2_wordToBytes_1 6 rfl rfl)
theorem dX2_wordToBytes_32 : decode cX2_wordToBytes 32 = .ok (.ishr, 1) := dk_122 (dk_at dksX2_wordToBytes_1 8 rfl rfl)
theorem dX2_wordToBytes_33 : decode cX2_wordToBytes 33 = .ok (.i2b, 1) := dk_145 (dk_at dksX2_wordToBytes_1 9 rfl rfl)
theorem dX2_wordToBytes_34 : decode cX2_wordToBytes 34 = .ok (.bastore, 1) := dk_84 (dk_at dksX2_wordToBytes_1 10 rfl rfl)
theorem dX2_wordToBytes_35 : decode cX2_wordToBytes 35 = .ok (.return_, 1) := dk_177 (dk_at dksX2_wordToBytes_1 11 rfl rfl)
abbrev cX2_decryptBlock : ByteArray := prog_5_method_6_code
def yX2_decryptBlock : MethodName := ⟨RX2, "decryptBlock", "([BI[BI)I"⟩
def dkwX2_decryptBlock_5 : List UInt8 := [16, 8, 172]
abbrev dktX2_decryptBlock_5 : List UInt8 := dkwX2_decryptBlock_5 ++ []
def dkwX2_decryptBlock_4 : List UInt8 := [45, 21, 4, 182, 0, 62, 42, 21, 6, 42, 180, 0, 13, 4, 46, 100, 45, 21, 4, 7, 96, 182, 0, 62]
abbrev dktX2_decryptBlock_4 : List UInt8 := dkwX2_decryptBlock_4 ++ dktX2_decryptBlock_5
def dkwX2_decryptBlock_3 : List UInt8 := [182, 0, 66, 21, 6, 130, 54, 5, 132, 7, 255, 167, 255, 199, 42, 21, 5, 42, 180, 0, 13, 3, 46, 100]
abbrev dktX2_decryptBlock_3 : List UInt8 := dkwX2_decryptBlock_3 ++ dktX2_decryptBlock_4
def dkwX2_decryptBlock_2 : List UInt8 := [182, 0, 66, 21, 5, 130, 54, 6, 42, 21, 5, 42, 180, 0, 13, 5, 21, 7, 104, 46, 100, 21, 6]
abbrev dktX2_decryptBlock_2 : List UInt8 := dkwX2_decryptBlock_2 ++ dktX2_decryptBlock_3
def dkwX2_decryptBlock_1 : List UInt8 := [21, 7, 4, 161, 0, 57, 42, 21, 6, 42, 180, 0, 13, 5, 21, 7, 104, 4, 96, 46, 100, 21, 5]
abbrev dktX2_decryptBlock_1 : List UInt8 := dkwX2_decryptBlock_1 ++ dktX2_decryptBlock_2
def dkwX2_decryptBlock_0 : List UInt8 := [42, 43, 28, 182, 0, 58, 54, 5, 42, 43, 28, 7, 96, 182, 0, 58, 54, 6, 42, 180, 0, 7, 54, 7]
abbrev dktX2_decryptBlock_0 : List UInt8 := dkwX2_decryptBlock_0 ++ dktX2_decryptBlock_1
theorem dksX2_decryptBlock_0 : cX2_decryptBlock.data.toList.drop 0 = dktX2_decryptBlock_0 := by decide +kernel
theorem dksX2_decryptBlock_1 : cX2_decryptBlock.data.toList.drop 24 = dktX2_decryptBlock_1 := dk_seg dksX2_decryptBlock_0 24 rfl rfl
theorem dksX2_decryptBlock_2 : cX2_decryptBlock.data.toList.drop 47 = dktX2_decryptBlock_2 := dk_seg dksX2_decryptBlock_1 23 rfl rfl
theorem dksX2_decryptBlock_3 : cX2_decryptBlock.data.toList.drop 70 = dktX2_decryptBlock_3 := dk_seg dksX2_decryptBlock_2 23 rfl rfl
theorem dksX2_decryptBlock_4 : cX2_decryptBlock.data.toList.drop 94 = dktX2_decryptBlock_4 := dk_seg dksX2_decryptBlock_3 24 rfl rfl
theorem dksX2_decryptBlock_5 : cX2_decryptBlock.data.toList.drop 118 = dktX2_decryptBlock_5 := dk_seg dksX2_decryptBlock_4 24 rfl rfl
theorem dX2_decryptBlock_0 : decode cX2_decryptBlock 0 = .ok (.aload_n 0, 1) := dk_42 (dk_at dksX2_decryptBlock_0 0 rfl rfl)
theorem dX2_decryptBlock_1 : decode cX2_decryptBlock 1 = .ok (.aload_n 1, 1) := dk_43 (dk_at dksX2_decryptBlock_0 1 rfl rfl)
theorem dX2_decryptBlock_2 : decode cX2_decryptBlock 2 = .ok (.iload_n 2, 1) := dk_28 (dk_at dksX2_decryptBlock_0 2 rfl rfl)
theorem dX2_decryptBlock_3 : decode cX2_decryptBlock 3 = .ok (.invokevirtual 58, 3) := dk_182 0 58 (dk_at dksX2_decryptBlock_0 3 rfl rfl)
theorem dX2_decryptBlock_6 : decode cX2_decryptBlock 6 = .ok (.istore 5, 2) := dk_54 5 (dk_at dksX2_decryptBlock_0 6 rfl rfl)
theorem dX2_decryptBlock_8 : decode cX2_decryptBlock 8 = .ok (.aload_n 0, 1) := dk_42 (dk_at dksX2_decryptBlock_0 8 rfl rfl)
theorem dX2_decryptBlock_9 : decode cX2_decryptBlock 9 = .ok (.aload_n 1, 1) := dk_43 (dk_at dksX2_decryptBlock_0 9 rfl rfl)
theorem dX2_decryptBlock_10 : decode cX2_decryptBlock 10 = .ok (.iload_n 2, 1) := dk_28 (dk_at dksX2_decryptBlock_0 10 rfl rfl)
theorem dX2_decryptBlock_11 : decode cX2_decryptBlock 11 = .ok (.iconst 4, 1) := dk_7 (dk_at dksX2_decryptBlock_0 11 rfl rfl)
theorem dX2_decryptBlock_12 : decode cX2_decryptBlock 12 = .ok (.iadd, 1) := dk_96 (dk_at dksX2_decryptBlock_0 12 rfl rfl)
theorem dX2_decryptBlock_13 : decode cX2_decryptBlock 13 = .ok (.invokevirtual 58, 3) := dk_182 0 58 (dk_at dksX2_decryptBlock_0 13 rfl rfl)
theorem dX2_decryptBlock_16 : decode cX2_decryptBlock 16 = .ok (.istore 6, 2) := dk_54 6 (dk_at dksX2_decryptBlock_0 16 rfl rfl)
theorem dX2_decryptBlock_18 : decode cX2_decryptBlock 18 = .ok (.aload_n 0, 1) := dk_42 (dk_at dksX2_decryptBlock_0 18 rfl rfl)
theorem dX2_decryptBlock_19 : decode cX2_decryptBlock 19 = .ok (.getfield 7, 3) := dk_180 0 7 (dk_at dksX2_decryptBlock_0 19 rfl rfl)
theorem dX2_decryptBlock_22 : decode cX2_decryptBlock 22 = .ok (.istore 7, 2) := dk_54 7 (dk_at dksX2_decryptBlock_0 22 rfl rfl)
theorem dX2_decryptBlock_24 : decode cX2_decryptBlock 24 = .ok (.iload 7, 2) := dk_21 7 (dk_at dksX2_decryptBlock_1 0 rfl rfl)
theorem dX2_decryptBlock_26 : decode cX2_decryptBlock 26 = .ok (.iconst 1, 1) := dk_4 (dk_at dksX2_decryptBlock_1 2 rfl rfl)
theorem dX2_decryptBlock_27 : decode cX2_decryptBlock 27 = .ok (.if_icmp .lt 57, 3) := dk_161 0 57 (dk_at dksX2_decryptBlock_1 3 rfl rfl)
theorem dX2_decryptBlock_30 : decode cX2_decryptBlock 30 = .ok (.aload_n 0, 1) := dk_42 (dk_at dksX2_decryptBlock_1 6 rfl rfl)
theorem dX2_decryptBlock_31 : decode cX2_decryptBlock 31 = .ok (.iload 6, 2) := dk_21 6 (dk_at dksX2_decryptBlock_1 7 rfl rfl)
theorem dX2_decryptBlock_33 : decode cX2_decryptBlock 33 = .ok (.aload_n 0, 1) := dk_42 (dk_at dksX2_decryptBlock_1 9 rfl rfl)
theorem dX2_decryptBlock_34 : decode cX2_decryptBlock 34 = .ok (.getfield 13, 3) := dk_180 0 13 (dk_at dksX2_decryptBlock_1 10 rfl rfl)
theorem dX2_decryptBlock_37 : decode cX2_decryptBlock 37 = .ok (.iconst 2, 1) := dk_5 (dk_at dksX2_decryptBlock_1 13 rfl rfl)
theorem dX2_decryptBlock_38 : decode cX2_decryptBlock 38 = .ok (.iload 7, 2) := dk_21 7 (dk_at dksX2_decryptBlock_1 14 rfl rfl)
theorem dX2_decryptBlock_40 : decode cX2_decryptBlock 40 = .ok (.imul, 1) := dk_104 (dk_at dksX2_decryptBlock_1 16 rfl rfl)
theorem dX2_decryptBlock_41 : decode cX2_decryptBlock 41 = .ok (.iconst 1, 1) := dk_4 (dk_at dksX2_decryptBlock_1 17 rfl rfl)
theorem dX2_decryptBlock_42 : decode cX2_decryptBlock 42 = .ok (.iadd, 1) := dk_96 (dk_at dksX2_decryptBlock_1 18 rfl rfl)
theorem dX2_decryptBlock_43 : decode cX2_decryptBlock 43 = .ok (.iaload, 1) := dk_46 (dk_at dksX2_decryptBlock_1 19 rfl rfl)
theorem dX2_decryptBlock_44 : decode cX2_decryptBlock 44 = .ok (.isub, 1) := dk_100 (dk_at dksX2_decryptBlock_1 20 rfl rfl)
theorem dX2_decryptBlock_45 : decode cX2_decryptBlock 45 = .ok (.iload 5, 2) := dk_21 5 (dk_at dksX2_decryptBlock_1 21 rfl rfl)
theorem dX2_decryptBlock_47 : decode cX2_decryptBlock 47 = .ok (.invokevirtual 66, 3) := dk_182 0 66 (dk_at dksX2_decryptBlock_2 0 rfl rfl)
theorem dX2_decryptBlock_50 : decode cX2_decryptBlock 50 = .ok (.iload 5, 2) := dk_21 5 (dk_at dksX2_decryptBlock_2 3 rfl rfl)
theorem dX2_decryptBlock_52 : decode cX2_decryptBlock 52 = .ok (.ixor, 1) := dk_130 (dk_at dksX2_decryptBlock_2 5 rfl rfl)
theorem dX2_decryptBlock_53 : decode cX2_decryptBlock 53 = .ok (.istore 6, 2) := dk_54 6 (dk_at dksX2_decryptBlock_2 6 rfl rfl)
theorem dX2_decryptBlock_55 : decode cX2_decryptBlock 55 = .ok (.aload_n 0, 1) := dk_42 (dk_at dksX2_decryptBlock_2 8 rfl rfl)
theorem dX2_decryptBlock_56 : decode cX2_decryptBlock 56 = .ok (.iload 5, 2) := dk_21 5 (dk_at dksX2_decryptBlock_2 9 rfl rfl)
theorem dX2_decryptBlock_58 : decode cX2_decryptBlock 58 = .ok (.aload_n 0, 1) := dk_42 (dk_at dksX2_decryptBlock_2 11 rfl rfl)
theorem dX2_decryptBlock_59 : decode cX2_decryptBlock 59 = .ok (.getfield 13, 3) := dk_180 0 13 (dk_at dksX2_decryptBlock_2 12 rfl rfl)
theorem dX2_decryptBlock_62 : decode cX2_decryptBlock 62 = .ok (.iconst 2, 1) := dk_5 (dk_at dksX2_decryptBlock_2 15 rfl rfl)
theorem dX2_decryptBlock_63 : decode cX2_decryptBlock 63 = .ok (.iload 7, 2) := dk_21 7 (dk_at dksX2_decryptBlock_2 16 rfl rfl)
theorem dX2_decryptBlock_65 : decode cX2_decryptBlock 65 = .ok (.imul, 1) := dk_104 (dk_at dksX2_decryptBlock_2 18 rfl rfl)
theorem dX2_decryptBlock_66 : decode cX2_decryptBlock 66 = .ok (.iaload, 1) := dk_46 (dk_at dksX2_decryptBlock_2 19 rfl rfl)
theorem dX2_decryptBlock_67 : decode cX2_decryptBlock 67 = .ok (.isub, 1) := dk_100 (dk_at dksX2_decryptBlock_2 20 rfl rfl)
theorem dX2_decryptBlock_68 : decode cX2_decryptBlock 68 = .ok (.iload 6, 2) := dk_21 6 (dk_at dksX2_decryptBlock_2 21 rfl rfl)
theorem dX2_decryptBlock_70 : decode cX2_decryptBlock 70 = .ok (.invokevirtual 66, 3) := dk_182 0 66 (dk_at dksX2_decryptBlock_3 0 rfl rfl)
theorem dX2_decryptBlock_73 : decode cX2_decryptBlock 73 = .ok (.iload 6, 2) := dk_21 6 (dk_at dksX2_decryptBlock_3 3 rfl rfl)
theorem dX2_decryptBlock_75 : decode cX2_decryptBlock 75 = .ok (.ixor, 1) := dk_130 (dk_at dksX2_decryptBlock_3 5 rfl rfl)
theorem dX2_decryptBlock_76 : decode cX2_decryptBlock 76 = .ok (.istore 5, 2) := dk_54 5 (dk_at dksX2_decryptBlock_3 6 rfl rfl)
theorem dX2_decryptBlock_78 : decode cX2_decryptBlock 78 = .ok (.iinc 7 (-1), 3) := dk_132 7 255 (dk_at dksX2_decryptBlock_3 8 rfl rfl)
theorem dX2_decryptBlock_81 : decode cX2_decryptBlock 81 = .ok (.goto (-57), 3) := dk_167 255 199 (dk_at dksX2_decryptBlock_3 11 rfl rfl)
theorem dX2_decryptBlock_84 : decode cX2_decryptBlock 84 = .ok (.aload_n 0, 1) := dk_42 (dk_at dksX2_decryptBlock_3 14 rfl rfl)
theorem dX2_decryptBlock_85 : decode cX2_decryptBlock 85 = .ok (.iload 5, 2) := dk_21 5 (dk_at dksX2_decryptBlock_3 15 rfl rfl)
theorem dX2_decryptBlock_87 : decode cX2_decryptBlock 87 = .ok (.aload_n 0, 1) := dk_42 (dk_at dksX2_decryptBlock_3 17 rfl rfl)
theorem dX2_decryptBlock_88 : decode cX2_decryptBlock 88 = .ok (.getfield 13, 3) := dk_180 0 13 (dk_at dksX2_decryptBlock_3 18 rfl rfl)
theorem dX2_decryptBlock_91 : decode cX2_decryptBlock 91 = .ok (.iconst 0, 1) := dk_3 (dk_at dksX2_decryptBlock_3 21 rfl rfl)
theorem dX2_decryptBlock_92 : decode cX2_decryptBlock 92 = .ok (.iaload, 1) := dk_46 (dk_at dksX2_decryptBlock_3 22 rfl rfl)
theorem dX2_decryptBlock_93 : decode cX2_decryptBlock 93 = .ok (.isub, 1) := dk_100 (dk_at dksX2_decryptBlock_3 23 rfl rfl)
theorem dX2_decryptBlock_94 : decode cX2_decryptBlock 94 = .ok (.aload_n 3, 1) := dk_45 (dk_at dksX2_decryptBlock_4 0 rfl rfl)
theorem dX2_decryptBlock_95 : decode cX2_decryptBlock 95 = .ok (.iload 4, 2) := dk_21 4 (dk_at dksX2_decryptBlock_4 1 rfl rfl)
theorem dX2_decryptBlock_97 : decode cX2_decryptBlock 97 = .ok (.invokevirtual 62, 3) := dk_182 0 62 (dk_at dksX2_decryptBlock_4 3 rfl rfl)
theorem dX2_decryptBlock_100 : decode cX2_decryptBlock 100 = .ok (.aload_n 0, 1) := dk_42 (dk_at dksX2_decryptBlock_4 6 rfl rfl)
theorem dX2_decryptBlock_101 : decode cX2_decryptBlock 101 = .ok (.iload 6, 2) := dk_21 6 (dk_at dksX2_decryptBlock_4 7 rfl rfl)
theorem dX2_decryptBlock_103 : decode cX2_decryptBlock 103 = .ok (.aload_n 0, 1) := dk_42 (dk_at dksX2_decryptBlock_4 9 rfl rfl)
theorem dX2_decryptBlock_104 : decode cX2_decryptBlock 104 = .ok (.getfield 13, 3) := dk_180 0 13 (dk_at dksX2_decryptBlock_4 10 rfl rfl)
theorem dX2_decryptBlock_107 : decode cX2_decryptBlock 107 = .ok (.iconst 1, 1) := dk_4 (dk_at dksX2_decryptBlock_4 13 rfl rfl)
theorem dX2_decryptBlock_108 : decode cX2_decryptBlock 108 = .ok (.iaload, 1) := dk_46 (dk_at dksX2_decryptBlock_4 14 rfl rfl)
theorem dX2_decryptBlock_109 : decode cX2_decryptBlock 109 = .ok (.isub, 1) := dk_100 (dk_at dksX2_decryptBlock_4 15 rfl rfl)
theorem dX2_decryptBlock_110 : decode cX2_decryptBlock 110 = .ok (.aload_n 3, 1) := dk_45 (dk_at dksX2_decryptBlock_4 16 rfl rfl)
theorem dX2_decryptBlock_111 : decode cX2_decryptBlock 111 = .ok (.iload 4, 2) := dk_21 4 (dk_at dksX2_decryptBlock_4 17 rfl rfl)
theorem dX2_decryptBlock_113 : decode cX2_decryptBlock 113 = .ok (.iconst 4, 1) := dk_7 (dk_at dksX2_decryptBlock_4 19 rfl rfl)
theorem dX2_decryptBlock_114 : decode cX2_decryptBlock 114 = .ok (.iadd, 1) := dk_96 (dk_at dksX2_decryptBlock_4 20 rfl rfl)
theorem dX2_decryptBlock_115 : decode cX2_decryptBlock 115 = .ok (.invokevirtual 62, 3) := dk_182 0 62 (dk_at dksX2_decryptBlock_4 21 rfl rfl)
theorem dX2_decryptBlock_118 : decode cX2_decryptBlock 118 = .ok (.bipush 8, 2) := dk_16 8 (dk_at dksX2_decryptBlock_5 0 rfl rfl)
theorem dX2_decryptBlock_120 : decode cX2_decryptBlock 120 = .ok (.ireturn, 1) := dk_172 (dk_at dksX2_decryptBlock_5 2 rfl rfl)
abbrev cX2_rotateRight : ByteArray := prog_5_method_8_code
def yX2_rotateRight : MethodName := ⟨RX2, "rotateRight", "(II)I"⟩
def dkwX2_rotateRight_0 : List UInt8 := [27, 28, 16, 31, 126, 124, 27, 16, 32, 28, 16, 31, 126, 100, 120, 128, 172]
abbrev dktX2_rotateRight_0 : List UInt8 := dkwX2_rotateRight_0 ++ []
theorem dksX2_rotateRight_0 : cX2_rotateRight.data.toList.drop 0 = dktX2_rotateRight_0 := by decide +kernel
theorem dX2_rotateRight_0 : decode cX2_rotateRight 0 = .ok (.iload_n 1, 1) := dk_27 (dk_at dksX2_rotateRight_0 0 rfl rfl)
theorem dX2_rotateRight_1 : decode cX2_rotateRight 1 = .ok (.iload_n 2, 1) := dk_28 (dk_at dksX2_rotateRight_0 1 rfl rfl)
theorem dX2_rotateRight_2 : decode cX2_rotateRight 2 = .ok (.bipush 31, 2) := dk_16 31 (dk_at dksX2_rotateRight_0 2 rfl rfl)
theorem dX2_rotateRight_4 : decode cX2_rotateRight 4 = .ok (.iand, 1) := dk_126 (dk_at dksX2_rotateRight_0 4 rfl rfl)
theorem dX2_rotateRight_5 : decode cX2_rotateRight 5 = .ok (.iushr, 1) := dk_124 (dk_at dksX2_rotateRight_0 5 rfl rfl)
theorem dX2_rotateRight_6 : decode cX2_rotateRight 6 = .ok (.iload_n 1, 1) := dk_27 (dk_at dksX2_rotateRight_0 6 rfl rfl)
theorem dX2_rotateRight_7 : decode cX2_rotateRight 7 = .ok (.bipush 32, 2) := dk_16 32 (dk_at dksX2_rotateRight_0 7 rfl rfl)
theorem dX2_rotateRight_9 : decode cX2_rotateRight 9 = .ok (.iload_n 2, 1) := dk_28 (dk_at dksX2_rotateRight_0 9 rfl rfl)
theorem dX2_rotateRight_10 : decode cX2_rotateRight 10 = .ok (.bipush 31, 2) := dk_16 31 (dk_at dksX2_rotateRight_0 10 rfl rfl)
theorem dX2_rotateRight_12 : decode cX2_rotateRight 12 = .ok (.iand, 1) := dk_126 (dk_at dksX2_rotateRight_0 12 rfl rfl)
theorem dX2_rotateRight_13 : decode cX2_rotateRight 13 = .ok (.isub, 1) := dk_100 (dk_at dksX2_rotateRight_0 13 rfl rfl)
theorem dX2_rotateRight_14 : decode cX2_rotateRight 14 = .ok (.ishl, 1) := dk_120 (dk_at dksX2_rotateRight_0 14 rfl rfl)
theorem dX2_rotateRight_15 : decode cX2_rotateRight 15 = .ok (.ior, 1) := dk_128 (dk_at dksX2_rotateRight_0 15 rfl rfl)
theorem dX2_rotateRight_16 : decode cX2_rotateRight 16 = .ok (.ireturn, 1) := dk_172 (dk_at dksX2_rotateRight_0 16 rfl rfl)
theorem q11 : (Jvm.Cond.initialized "RC532Engine") ∈ lw_all := lw_g (lw_at lw_m1 2 rfl) rfl
theorem q31 : (Jvm.Cond.instantiable "RC532Engine" (3 : Nat)) ∈ lw_all := lw_g (lw_at lw_m1 22 rfl) rfl
theorem q33 : (Jvm.Cond.instanceMethod ({ cls := "RC532Engine", name := "<init>", desc := "()V" } : Jvm.MethodName)) ∈ lw_all := lw_g (lw_at lw_m1 24 rfl) rfl
theorem q34 : (Jvm.Cond.code ({ cls := "RC532Engine", name := "<init>", desc := "()V" } : Jvm.MethodName) prog_5_method_1_code (1 : Nat) (Option.none : Option Jvm.ClassFile.FieldType)) ∈ lw_all := lw_g (lw_at lw_m1 25 rfl) rfl
theorem q35 : (Jvm.Cond.methodLink "RC532Engine" (1 : Nat) ({ cls := "java/lang/Object", name := "<init>", desc := "()V" } : Jvm.MethodName)) ∈ lw_all := lw_g (lw_at lw_m1 26 rfl) rfl
theorem q38 : (Jvm.Cond.fieldLink "RC532Engine" (7 : Nat) "RC532Engine" "_noRounds" "I") ∈ lw_all := lw_g (lw_at lw_m1 29 rfl) rfl
theorem q39 : (Jvm.Cond.fieldLink "RC532Engine" (13 : Nat) "RC532Engine" "_S" "[I") ∈ lw_all := lw_g (lw_at lw_m1 30 rfl) rfl
theorem q40 : (Jvm.Cond.fieldLink "RC532Engine" (41 : Nat) "RC532Engine" "forEncryption" "Z") ∈ lw_all := lw_g (lw_at lw_m1 31 rfl) rfl
theorem q41 : (Jvm.Cond.lays "RC532Engine" "RC532Engine" "_noRounds" "I") ∈ lw_all := lw_g (lw_at lw_m1 32 rfl) rfl
theorem q42 : (Jvm.Cond.soleField "RC532Engine" "_noRounds") ∈ lw_all := lw_g (lw_at lw_m1 33 rfl) rfl
theorem q43 : (Jvm.Cond.lays "RC532Engine" "RC532Engine" "_S" "[I") ∈ lw_all := lw_g (lw_at lw_m1 34 rfl) rfl
theorem q44 : (Jvm.Cond.soleField "RC532Engine" "_S") ∈ lw_all := lw_g (lw_at lw_m1 35 rfl) rfl
theorem q45 : (Jvm.Cond.lays "RC532Engine" "RC532Engine" "forEncryption" "Z") ∈ lw_all := lw_g (lw_at lw_m1 36 rfl) rfl
theorem q46 : (Jvm.Cond.soleField "RC532Engine" "forEncryption") ∈ lw_all := lw_g (lw_at lw_m1 37 rfl) rfl
theorem q47 : (Jvm.Cond.superclass "RC532Engine" "java/lang/Object") ∈ lw_all := lw_g (lw_at lw_m1 38 rfl) rfl
theorem q72 : (Jvm.Cond.castable "RC532Engine" "BlockCipher") ∈ lw_tbl := lw_at lw_m1 63 rfl
theorem q73 : (Jvm.Cond.selects "RC532Engine" ({ cls := "BlockCipher", name := "init", desc := "(ZLCipherParameters;)V" } : Jvm.MethodName) ({ cls := "RC532Engine", name := "init", desc := "(ZLCipherParameters;)V" } : Jvm.MethodName)) ∈ lw_all := lw_g (lw_at lw_m1 64 rfl) rfl
theorem q74 : (Jvm.Cond.unhidden "RC532Engine" "init" "(ZLCipherParameters;)V") ∈ lw_tbl := lw_at lw_m1 65 rfl
theorem q75 : (Jvm.Cond.instanceMethod ({ cls := "RC532Engine", name := "init", desc := "(ZLCipherParameters;)V" } : Jvm.MethodName)) ∈ lw_all := lw_g (lw_at lw_m1 66 rfl) rfl
theorem q76 : (Jvm.Cond.publicMethod ({ cls := "RC532Engine", name := "init", desc := "(ZLCipherParameters;)V" } : Jvm.MethodName)) ∈ lw_tbl := lw_at lw_m1 67 rfl
theorem q77 : (Jvm.Cond.code ({ cls := "RC532Engine", name := "init", desc := "(ZLCipherParameters;)V" } : Jvm.MethodName) prog_5_method_2_code (5 : Nat) (Option.none : Option Jvm.ClassFile.FieldType)) ∈ lw_all := lw_g (lw_at lw_m1 68 rfl) rfl
theorem q78 : (Jvm.Cond.classLink "RC532Engine" (17 : Nat) "RC5Parameters") ∈ lw_all := lw_g (lw_at lw_m1 69 rfl) rfl
theorem q79 : (Jvm.Cond.methodLink "RC532Engine" (19 : Nat) ({ cls := "RC5Parameters", name := "getRounds", desc := "()I" } : Jvm.MethodName)) ∈ lw_all := lw_g (lw_at lw_m1 70 rfl) rfl
theorem q83 : (Jvm.Cond.methodLink "RC532Engine" (23 : Nat) ({ cls := "RC5Parameters", name := "getKey", desc := "()[B" } : Jvm.MethodName)) ∈ lw_all := lw_g (lw_at lw_m1 74 rfl) rfl
theorem q87 : (Jvm.Cond.methodLink "RC532Engine" (27 : Nat) ({ cls := "RC532Engine", name := "setKey", desc := "([B)V" } : Jvm.MethodName)) ∈ lw_all := lw_g (lw_at lw_m1 78 rfl) rfl
theorem q88 : (Jvm.Cond.privateMethod ({ cls := "RC532Engine", name := "setKey", desc := "([B)V" } : Jvm.MethodName)) ∈ lw_tbl := lw_at lw_m1 79 rfl
theorem q89 : (Jvm.Cond.instanceMethod ({ cls := "RC532Engine", name := "setKey", desc := "([B)V" } : Jvm.MethodName)) ∈ lw_all := lw_g (lw_at lw_m1 80 rfl) rfl
theorem q90 : (Jvm.Cond.code ({ cls := "RC532Engine", name := "setKey", desc := "([B)V" } : Jvm.MethodName) prog_5_method_4_code (9 : Nat) (Option.none : Option Jvm.ClassFile.FieldType)) ∈ lw_all := lw_g (lw_at lw_m1 81 rfl) rfl
theorem q91 : (Jvm.Cond.constant "RC532Engine" (52 : Nat) (-1209970333 : Int32)) ∈ lw_all := lw_g (lw_at lw_m1 82 rfl) rfl
theorem q92 : (Jvm.Cond.constant "RC532Engine" (53 : Nat) (-1640531527 : Int32)) ∈ lw_all := lw_g (lw_at lw_m1 83 rfl) rfl
theorem q93 : (Jvm.Cond.methodLink "RC532Engine" (54 : Nat) ({ cls := "RC532Engine", name := "rotateLeft", desc := "(II)I" } : Jvm.MethodName)) ∈ lw_all := lw_g (lw_at lw_m1 84 rfl) rfl
theorem q94 : (Jvm.Cond.privateMethod ({ cls := "RC532Engine", name := "rotateLeft", desc := "(II)I" } : Jvm.MethodName)) ∈ lw_tbl := lw_at lw_m1 85 rfl
theorem q95 : (Jvm.Cond.instanceMethod ({ cls := "RC532Engine", name := "rotateLeft", desc := "(II)I" } : Jvm.MethodName)) ∈ lw_all := lw_g (lw_at lw_m1 86 rfl) rfl
theorem q96 : (Jvm.Cond.code ({ cls := "RC532Engine", name := "rotateLeft", desc := "(II)I" } : Jvm.MethodName) prog_5_method_7_code (3 : Nat) (Option.some Jvm.ClassFile.FieldType.int)) ∈ lw_all := lw_g (lw_at lw_m1 87 rfl) rfl
theorem q97 : (Jvm.Cond.classLink "RC532Engine" (31 : Nat) "KeyParameter") ∈ lw_all := lw_g (lw_at lw_m1 88 rfl) rfl
theorem q98 : (Jvm.Cond.methodLink "RC532Engine" (33 : Nat) ({ cls := "KeyParameter", name := "getKey", desc := "()[B" } : Jvm.MethodName)) ∈ lw_all := lw_g (lw_at lw_m1 89 rfl) rfl
theorem q102 : (Jvm.Cond.classLink "RC532Engine" (34 : Nat) "java/lang/IllegalArgumentException") ∈ lw_all := lw_g (lw_at lw_m1 93 rfl) rfl
theorem q141 : (Jvm.Cond.stringRef "RC532Engine" (36 : Nat) "left out") ∈ lw_tbl := lw_at lw_m1 132 rfl
theorem q142 : (Jvm.Cond.methodLink "RC532Engine" (38 : Nat) ({ cls := "java/lang/IllegalArgumentException", name := "<init>", desc := "(Ljava/lang/String;)V" } : Jvm.MethodName)) ∈ lw_all := lw_g (lw_at lw_m1 133 rfl) rfl
theorem q172 : (Jvm.Cond.selects "RC532Engine" ({ cls := "BlockCipher", name := "processBlock", desc := "([BI[BI)I" } : Jvm.MethodName) ({ cls := "RC532Engine", name := "processBlock", desc := "([BI[BI)I" } : Jvm.MethodName)) ∈ lw_all := lw_g (lw_at lw_m1 163 rfl) rfl
theorem q173 : (Jvm.Cond.unhidden "RC532Engine" "processBlock" "([BI[BI)I") ∈ lw_tbl := lw_at lw_m1 164 rfl
theorem q174 : (Jvm.Cond.instanceMethod ({ cls := "RC532Engine", name := "processBlock", desc := "([BI[BI)I" } : Jvm.MethodName)) ∈ lw_all := lw_g (lw_at lw_m1 165 rfl) rfl
theorem q175 : (Jvm.Cond.publicMethod ({ cls := "RC532Engine", name := "processBlock", desc := "([BI[BI)I" } : Jvm.MethodName)) ∈ lw_tbl := lw_at lw_m1 166 rfl
theorem q176 : (Jvm.Cond.code ({ cls := "RC532Engine", name := "processBlock", desc := "([BI[BI)I" } : Jvm.MethodName) prog_5_method_3_code (5 : Nat) (Option.some Jvm.ClassFile.FieldType.int)) ∈ lw_all := lw_g (lw_at lw_m1 167 rfl) rfl
theorem q177 : (Jvm.Cond.methodLink "RC532Engine" (45 : Nat) ({ cls := "RC532Engine", name := "encryptBlock", desc := "([BI[BI)I" } : Jvm.MethodName)) ∈ lw_all := lw_g (lw_at lw_m1 168 rfl) rfl
theorem q178 : (Jvm.Cond.privateMethod ({ cls := "RC532Engine", name := "encryptBlock", desc := "([BI[BI)I" } : Jvm.MethodName)) ∈ lw_tbl := lw_at lw_m1 169 rfl
theorem q179 : (Jvm.Cond.instanceMethod ({ cls := "RC532Engine", name := "encryptBlock", desc := "([BI[BI)I" } : Jvm.MethodName)) ∈ lw_all := lw_g (lw_at lw_m1 170 rfl) rfl
theorem q180 : (Jvm.Cond.code ({ cls := "RC532Engine", name := "encryptBlock", desc := "([BI[BI)I" } : Jvm.MethodName) prog_5_method_5_code (8 : Nat) (Option.some Jvm.ClassFile.FieldType.int)) ∈ lw_all := lw_g (lw_at lw_m1 171 rfl) rfl
theorem q181 : (Jvm.Cond.methodLink "RC532Engine" (58 : Nat) ({ cls := "RC532Engine", name := "bytesToWord", desc := "([BI)I" } : Jvm.MethodName)) ∈ lw_all := lw_g (lw_at lw_m1 172 rfl) rfl
theorem q182 : (Jvm.Cond.privateMethod ({ cls := "RC532Engine", name := "bytesToWord", desc := "([BI)I" } : Jvm.MethodName)) ∈ lw_tbl := lw_at lw_m1 173 rfl
theorem q183 : (Jvm.Cond.instanceMethod ({ cls := "RC532Engine", name := "bytesToWord", desc := "([BI)I" } : Jvm.MethodName)) ∈ lw_all := lw_g (lw_at lw_m1 174 rfl) rfl
theorem q184 : (Jvm.Cond.code ({ cls := "RC532Engine", name := "bytesToWord", desc := "([BI)I" } : Jvm.MethodName) prog_5_method_9_code (3 : Nat) (Option.some Jvm.ClassFile.FieldType.int)) ∈ lw_all := lw_g (lw_at lw_m1 175 rfl) rfl
theorem q185 : (Jvm.Cond.methodLink "RC532Engine" (62 : Nat) ({ cls := "RC532Engine", name := "wordToBytes", desc := "(I[BI)V" } : Jvm.MethodName)) ∈ lw_all := lw_g (lw_at lw_m1 176 rfl) rfl
theorem q186 : (Jvm.Cond.privateMethod ({ cls := "RC532Engine", name := "wordToBytes", desc := "(I[BI)V" } : Jvm.MethodName)) ∈ lw_tbl := lw_at lw_m1 177 rfl
theorem q187 : (Jvm.Cond.instanceMethod ({ cls := "RC532Engine", name := "wordToBytes", desc := "(I[BI)V" } : Jvm.MethodName)) ∈ lw_all := lw_g (lw_at lw_m1 178 rfl) rfl
theorem q188 : (Jvm.Cond.code ({ cls := "RC532Engine", name := "wordToBytes", desc := "(I[BI)V" } : Jvm.MethodName) prog_5_method_10_code (4 : Nat) (Option.none : Option Jvm.ClassFile.FieldType)) ∈ lw_all := lw_g (lw_at lw_m1 179 rfl) rfl
theorem q189 : (Jvm.Cond.methodLink "RC532Engine" (49 : Nat) ({ cls := "RC532Engine", name := "decryptBlock", desc := "([BI[BI)I" } : Jvm.MethodName)) ∈ lw_all := lw_g (lw_at lw_m1 180 rfl) rfl
theorem q190 : (Jvm.Cond.privateMethod ({ cls := "RC532Engine", name := "decryptBlock", desc := "([BI[BI)I" } : Jvm.MethodName)) ∈ lw_tbl := lw_at lw_m1 181 rfl
theorem q191 : (Jvm.Cond.instanceMethod ({ cls := "RC532Engine", name := "decryptBlock", desc := "([BI[BI)I" } : Jvm.MethodName)) ∈ lw_all := lw_g (lw_at lw_m1 182 rfl) rfl
theorem q192 : (Jvm.Cond.code ({ cls := "RC532Engine", name := "decryptBlock", desc := "([BI[BI)I" } : Jvm.MethodName) prog_5_method_6_code (8 : Nat) (Option.some Jvm.ClassFile.FieldType.int)) ∈ lw_all := lw_g (lw_at lw_m1 183 rfl) rfl
theorem q193 : (Jvm.Cond.methodLink "RC532Engine" (66 : Nat) ({ cls := "RC532Engine", name := "rotateRight", desc := "(II)I" } : Jvm.MethodName)) ∈ lw_all := lw_g (lw_at lw_m1 184 rfl) rfl
theorem q194 : (Jvm.Cond.privateMethod ({ cls := "RC532Engine", name := "rotateRight", desc := "(II)I" } : Jvm.MethodName)) ∈ lw_tbl := lw_at lw_m1 185 rfl
theorem q195 : (Jvm.Cond.instanceMethod ({ cls := "RC532Engine", name := "rotateRight", desc := "(II)I" } : Jvm.MethodName)) ∈ lw_all := lw_g (lw_at lw_m1 186 rfl) rfl
theorem q196 : (Jvm.Cond.code ({ cls := "RC532Engine", name := "rotateRight", desc := "(II)I" } : Jvm.MethodName) prog_5_method_8_code (3 : Nat) (Option.some Jvm.ClassFile.FieldType.int)) ∈ lw_all := lw_g (lw_at lw_m1 187 rfl) rfl
theorem in_X2 : ∀ w ∈ wsX20, w ∈ lw_all := lw_in wsX20 [41, 43, 45] (by decide +kernel) (by decide +kernel)
end
section
/-! RcFiveDeskLaw -/
set_option maxRecDepth 100000
def RX0 : String := "RcFiveDeskLaw"
abbrev cX0_with : ByteArray := method_3_code
def yX0_with : MethodName := ⟨RX0, "with", "([I)LRcFiveDesk;"⟩
def dkwX0_with_3 : List UInt8 := [184, 0, 10, 182, 0, 20, 43, 176]
abbrev dktX0_with_3 : List UInt8 := dkwX0_with_3 ++ []
def dkwX0_with_2 : List UInt8 := [16, 6, 184, 0, 10, 42, 16, 7, 184, 0, 10, 182, 0, 16, 43, 42, 16, 8, 184, 0, 10, 42, 16, 9]
abbrev dktX0_with_2 : List UInt8 := dkwX0_with_2 ++ dktX0_with_3
def dkwX0_with_1 : List UInt8 := [184, 0, 10, 42, 6, 184, 0, 10, 182, 0, 16, 43, 4, 42, 7, 184, 0, 10, 42, 8, 184, 0, 10, 42]
abbrev dktX0_with_1 : List UInt8 := dkwX0_with_1 ++ dktX0_with_2
def dkwX0_with_0 : List UInt8 := [187, 0, 7, 89, 183, 0, 9, 76, 43, 3, 42, 3, 184, 0, 10, 42, 4, 184, 0, 10, 42, 5]
abbrev dktX0_with_0 : List UInt8 := dkwX0_with_0 ++ dktX0_with_1
theorem dksX0_with_0 : cX0_with.data.toList.drop 0 = dktX0_with_0 := by decide +kernel
theorem dksX0_with_1 : cX0_with.data.toList.drop 22 = dktX0_with_1 := dk_seg dksX0_with_0 22 rfl rfl
theorem dksX0_with_2 : cX0_with.data.toList.drop 46 = dktX0_with_2 := dk_seg dksX0_with_1 24 rfl rfl
theorem dksX0_with_3 : cX0_with.data.toList.drop 70 = dktX0_with_3 := dk_seg dksX0_with_2 24 rfl rfl
theorem dX0_with_0 : decode cX0_with 0 = .ok (.new 7, 3) := dk_187 0 7 (dk_at dksX0_with_0 0 rfl rfl)
theorem dX0_with_3 : decode cX0_with 3 = .ok (.dup, 1) := dk_89 (dk_at dksX0_with_0 3 rfl rfl)
theorem dX0_with_4 : decode cX0_with 4 = .ok (.invokespecial 9, 3) := dk_183 0 9 (dk_at dksX0_with_0 4 rfl rfl)
theorem dX0_with_7 : decode cX0_with 7 = .ok (.astore_n 1, 1) := dk_76 (dk_at dksX0_with_0 7 rfl rfl)
theorem dX0_with_8 : decode cX0_with 8 = .ok (.aload_n 1, 1) := dk_43 (dk_at dksX0_with_0 8 rfl rfl)
theorem dX0_with_9 : decode cX0_with 9 = .ok (.iconst 0, 1) := dk_3 (dk_at dksX0_with_0 9 rfl rfl)
theorem dX0_with_10 : decode cX0_with 10 = .ok (.aload_n 0, 1) := dk_42 (dk_at dksX0_with_0 10 rfl rfl)
theorem dX0_with_11 : decode cX0_with 11 = .ok (.iconst 0, 1) := dk_3 (dk_at dksX0_with_0 11 rfl rfl)
theorem dX0_with_12 : decode cX0_with 12 = .ok (.invokestatic 10, 3) := dk_184 0 10 (dk_at dksX0_with_0 12 rfl rfl)
theorem dX0_with_15 : decode cX0_with 15 = .ok (.aload_n 0, 1) := dk_42 (dk_at dksX0_with_0 15 rfl rfl)
theorem dX0_with_16 : decode cX0_with 16 = .ok (.iconst 1, 1) := dk_4 (dk_at dksX0_with_0 16 rfl rfl)
theorem dX0_with_17 : decode cX0_with 17 = .ok (.invokestatic 10, 3) := dk_184 0 10 (dk_at dksX0_with_0 17 rfl rfl)
theorem dX0_with_20 : decode cX0_with 20 = .ok (.aload_n 0, 1) := dk_42 (dk_at dksX0_with_0 20 rfl rfl)
theorem dX0_with_21 : decode cX0_with 21 = .ok (.iconst 2, 1) := dk_5 (dk_at dksX0_with_0 21 rfl rfl)
theorem dX0_with_22 : decode cX0_with 22 = .ok (.invokestatic 10, 3) := dk_184 0 10 (dk_at dksX0_with_1 0 rfl rfl)
theorem dX0_with_25 : decode cX0_with 25 = .ok (.aload_n 0, 1) := dk_42 (dk_at dksX0_with_1 3 rfl rfl)
theorem dX0_with_26 : decode cX0_with 26 = .ok (.iconst 3, 1) := dk_6 (dk_at dksX0_with_1 4 rfl rfl)
theorem dX0_with_27 : decode cX0_with 27 = .ok (.invokestatic 10, 3) := dk_184 0 10 (dk_at dksX0_with_1 5 rfl rfl)
theorem dX0_with_30 : decode cX0_with 30 = .ok (.invokevirtual 16, 3) := dk_182 0 16 (dk_at dksX0_with_1 8 rfl rfl)
theorem dX0_with_33 : decode cX0_with 33 = .ok (.aload_n 1, 1) := dk_43 (dk_at dksX0_with_1 11 rfl rfl)
theorem dX0_with_34 : decode cX0_with 34 = .ok (.iconst 1, 1) := dk_4 (dk_at dksX0_with_1 12 rfl rfl)
theorem dX0_with_35 : decode cX0_with 35 = .ok (.aload_n 0, 1) := dk_42 (dk_at dksX0_with_1 13 rfl rfl)
theorem dX0_with_36 : decode cX0_with 36 = .ok (.iconst 4, 1) := dk_7 (dk_at dksX0_with_1 14 rfl rfl)
theorem dX0_with_37 : decode cX0_with 37 = .ok (.invokestatic 10, 3) := dk_184 0 10 (dk_at dksX0_with_1 15 rfl rfl)
theorem dX0_with_40 : decode cX0_with 40 = .ok (.aload_n 0, 1) := dk_42 (dk_at dksX0_with_1 18 rfl rfl)
theorem dX0_with_41 : decode cX0_with 41 = .ok (.iconst 5, 1) := dk_8 (dk_at dksX0_with_1 19 rfl rfl)
theorem dX0_with_42 : decode cX0_with 42 = .ok (.invokestatic 10, 3) := dk_184 0 10 (dk_at dksX0_with_1 20 rfl rfl)
theorem dX0_with_45 : decode cX0_with 45 = .ok (.aload_n 0, 1) := dk_42 (dk_at dksX0_with_1 23 rfl rfl)
theorem dX0_with_46 : decode cX0_with 46 = .ok (.bipush 6, 2) := dk_16 6 (dk_at dksX0_with_2 0 rfl rfl)
theorem dX0_with_48 : decode cX0_with 48 = .ok (.invokestatic 10, 3) := dk_184 0 10 (dk_at dksX0_with_2 2 rfl rfl)
theorem dX0_with_51 : decode cX0_with 51 = .ok (.aload_n 0, 1) := dk_42 (dk_at dksX0_with_2 5 rfl rfl)
theorem dX0_with_52 : decode cX0_with 52 = .ok (.bipush 7, 2) := dk_16 7 (dk_at dksX0_with_2 6 rfl rfl)
theorem dX0_with_54 : decode cX0_with 54 = .ok (.invokestatic 10, 3) := dk_184 0 10 (dk_at dksX0_with_2 8 rfl rfl)
theorem dX0_with_57 : decode cX0_with 57 = .ok (.invokevirtual 16, 3) := dk_182 0 16 (dk_at dksX0_with_2 11 rfl rfl)
theorem dX0_with_60 : decode cX0_with 60 = .ok (.aload_n 1, 1) := dk_43 (dk_at dksX0_with_2 14 rfl rfl)
theorem dX0_with_61 : decode cX0_with 61 = .ok (.aload_n 0, 1) := dk_42 (dk_at dksX0_with_2 15 rfl rfl)
theorem dX0_with_62 : decode cX0_with 62 = .ok (.bipush 8, 2) := dk_16 8 (dk_at dksX0_with_2 16 rfl rfl)
theorem dX0_with_64 : decode cX0_with 64 = .ok (.invokestatic 10, 3) := dk_184 0 10 (dk_at dksX0_with_2 18 rfl rfl)
theorem dX0_with_67 : decode cX0_with 67 = .ok (.aload_n 0, 1) := dk_42 (dk_at dksX0_with_2 21 rfl rfl)
theorem dX0_with_68 : decode cX0_with 68 = .ok (.bipush 9, 2) := dk_16 9 (dk_at dksX0_with_2 22 rfl rfl)
theorem dX0_with_70 : decode cX0_with 70 = .ok (.invokestatic 10, 3) := dk_184 0 10 (dk_at dksX0_with_3 0 rfl rfl)
theorem dX0_with_73 : decode cX0_with 73 = .ok (.invokevirtual 20, 3) := dk_182 0 20 (dk_at dksX0_with_3 3 rfl rfl)
theorem dX0_with_76 : decode cX0_with 76 = .ok (.aload_n 1, 1) := dk_43 (dk_at dksX0_with_3 6 rfl rfl)
theorem dX0_with_77 : decode cX0_with 77 = .ok (.areturn, 1) := dk_176 (dk_at dksX0_with_3 7 rfl rfl)
abbrev cX0_cell : ByteArray := method_2_code
def yX0_cell : MethodName := ⟨RX0, "cell", "([II)I"⟩
def dkwX0_cell_0 : List UInt8 := [27, 42, 190, 162, 0, 9, 42, 27, 46, 167, 0, 4, 3, 172]
abbrev dktX0_cell_0 : List UInt8 := dkwX0_cell_0 ++ []
theorem dksX0_cell_0 : cX0_cell.data.toList.drop 0 = dktX0_cell_0 := by decide +kernel
theorem dX0_cell_0 : decode cX0_cell 0 = .ok (.iload_n 1, 1) := dk_27 (dk_at dksX0_cell_0 0 rfl rfl)
theorem dX0_cell_1 : decode cX0_cell 1 = .ok (.aload_n 0, 1) := dk_42 (dk_at dksX0_cell_0 1 rfl rfl)
theorem dX0_cell_2 : decode cX0_cell 2 = .ok (.arraylength, 1) := dk_190 (dk_at dksX0_cell_0 2 rfl rfl)
theorem dX0_cell_3 : decode cX0_cell 3 = .ok (.if_icmp .ge 9, 3) := dk_162 0 9 (dk_at dksX0_cell_0 3 rfl rfl)
theorem dX0_cell_6 : decode cX0_cell 6 = .ok (.aload_n 0, 1) := dk_42 (dk_at dksX0_cell_0 6 rfl rfl)
theorem dX0_cell_7 : decode cX0_cell 7 = .ok (.iload_n 1, 1) := dk_27 (dk_at dksX0_cell_0 7 rfl rfl)
theorem dX0_cell_8 : decode cX0_cell 8 = .ok (.iaload, 1) := dk_46 (dk_at dksX0_cell_0 8 rfl rfl)
theorem dX0_cell_9 : decode cX0_cell 9 = .ok (.goto 4, 3) := dk_167 0 4 (dk_at dksX0_cell_0 9 rfl rfl)
theorem dX0_cell_12 : decode cX0_cell 12 = .ok (.iconst 0, 1) := dk_3 (dk_at dksX0_cell_0 12 rfl rfl)
theorem dX0_cell_13 : decode cX0_cell 13 = .ok (.ireturn, 1) := dk_172 (dk_at dksX0_cell_0 13 rfl rfl)
abbrev cX0_same : ByteArray := method_4_code
def yX0_same : MethodName := ⟨RX0, "same", "(LRcFiveDesk;[I)Z"⟩
def dkwX0_same_2 : List UInt8 := [167, 255, 213, 4, 172]
abbrev dktX0_same_2 : List UInt8 := dkwX0_same_2 ++ []
def dkwX0_same_1 : List UInt8 := [16, 24, 16, 8, 28, 7, 112, 104, 100, 124, 17, 0, 255, 126, 159, 0, 5, 3, 172, 132, 2, 1]
abbrev dktX0_same_1 : List UInt8 := dkwX0_same_1 ++ dktX0_same_2
def dkwX0_same_0 : List UInt8 := [3, 61, 28, 16, 8, 162, 0, 43, 42, 28, 182, 0, 24, 43, 16, 8, 28, 7, 108, 96, 184, 0, 10]
abbrev dktX0_same_0 : List UInt8 := dkwX0_same_0 ++ dktX0_same_1
theorem dksX0_same_0 : cX0_same.data.toList.drop 0 = dktX0_same_0 := by decide +kernel
theorem dksX0_same_1 : cX0_same.data.toList.drop 23 = dktX0_same_1 := dk_seg dksX0_same_0 23 rfl rfl
theorem dksX0_same_2 : cX0_same.data.toList.drop 45 = dktX0_same_2 := dk_seg dksX0_same_1 22 rfl rfl
theorem dX0_same_0 : decode cX0_same 0 = .ok (.iconst 0, 1) := dk_3 (dk_at dksX0_same_0 0 rfl rfl)
theorem dX0_same_1 : decode cX0_same 1 = .ok (.istore_n 2, 1) := dk_61 (dk_at dksX0_same_0 1 rfl rfl)
theorem dX0_same_2 : decode cX0_same 2 = .ok (.iload_n 2, 1) := dk_28 (dk_at dksX0_same_0 2 rfl rfl)
theorem dX0_same_3 : decode cX0_same 3 = .ok (.bipush 8, 2) := dk_16 8 (dk_at dksX0_same_0 3 rfl rfl)
theorem dX0_same_5 : decode cX0_same 5 = .ok (.if_icmp .ge 43, 3) := dk_162 0 43 (dk_at dksX0_same_0 5 rfl rfl)
theorem dX0_same_8 : decode cX0_same 8 = .ok (.aload_n 0, 1) := dk_42 (dk_at dksX0_same_0 8 rfl rfl)
theorem dX0_same_9 : decode cX0_same 9 = .ok (.iload_n 2, 1) := dk_28 (dk_at dksX0_same_0 9 rfl rfl)
theorem dX0_same_10 : decode cX0_same 10 = .ok (.invokevirtual 24, 3) := dk_182 0 24 (dk_at dksX0_same_0 10 rfl rfl)
theorem dX0_same_13 : decode cX0_same 13 = .ok (.aload_n 1, 1) := dk_43 (dk_at dksX0_same_0 13 rfl rfl)
theorem dX0_same_14 : decode cX0_same 14 = .ok (.bipush 8, 2) := dk_16 8 (dk_at dksX0_same_0 14 rfl rfl)
theorem dX0_same_16 : decode cX0_same 16 = .ok (.iload_n 2, 1) := dk_28 (dk_at dksX0_same_0 16 rfl rfl)
theorem dX0_same_17 : decode cX0_same 17 = .ok (.iconst 4, 1) := dk_7 (dk_at dksX0_same_0 17 rfl rfl)
theorem dX0_same_18 : decode cX0_same 18 = .ok (.idiv, 1) := dk_108 (dk_at dksX0_same_0 18 rfl rfl)
theorem dX0_same_19 : decode cX0_same 19 = .ok (.iadd, 1) := dk_96 (dk_at dksX0_same_0 19 rfl rfl)
theorem dX0_same_20 : decode cX0_same 20 = .ok (.invokestatic 10, 3) := dk_184 0 10 (dk_at dksX0_same_0 20 rfl rfl)
theorem dX0_same_23 : decode cX0_same 23 = .ok (.bipush 24, 2) := dk_16 24 (dk_at dksX0_same_1 0 rfl rfl)
theorem dX0_same_25 : decode cX0_same 25 = .ok (.bipush 8, 2) := dk_16 8 (dk_at dksX0_same_1 2 rfl rfl)
theorem dX0_same_27 : decode cX0_same 27 = .ok (.iload_n 2, 1) := dk_28 (dk_at dksX0_same_1 4 rfl rfl)
theorem dX0_same_28 : decode cX0_same 28 = .ok (.iconst 4, 1) := dk_7 (dk_at dksX0_same_1 5 rfl rfl)
theorem dX0_same_29 : decode cX0_same 29 = .ok (.irem, 1) := dk_112 (dk_at dksX0_same_1 6 rfl rfl)
theorem dX0_same_30 : decode cX0_same 30 = .ok (.imul, 1) := dk_104 (dk_at dksX0_same_1 7 rfl rfl)
theorem dX0_same_31 : decode cX0_same 31 = .ok (.isub, 1) := dk_100 (dk_at dksX0_same_1 8 rfl rfl)
theorem dX0_same_32 : decode cX0_same 32 = .ok (.iushr, 1) := dk_124 (dk_at dksX0_same_1 9 rfl rfl)
theorem dX0_same_33 : decode cX0_same 33 = .ok (.sipush 255, 3) := dk_17 0 255 (dk_at dksX0_same_1 10 rfl rfl)
theorem dX0_same_36 : decode cX0_same 36 = .ok (.iand, 1) := dk_126 (dk_at dksX0_same_1 13 rfl rfl)
theorem dX0_same_37 : decode cX0_same 37 = .ok (.if_icmp .eq 5, 3) := dk_159 0 5 (dk_at dksX0_same_1 14 rfl rfl)
theorem dX0_same_40 : decode cX0_same 40 = .ok (.iconst 0, 1) := dk_3 (dk_at dksX0_same_1 17 rfl rfl)
theorem dX0_same_41 : decode cX0_same 41 = .ok (.ireturn, 1) := dk_172 (dk_at dksX0_same_1 18 rfl rfl)
theorem dX0_same_42 : decode cX0_same 42 = .ok (.iinc 2 1, 3) := dk_132 2 1 (dk_at dksX0_same_1 19 rfl rfl)
theorem dX0_same_45 : decode cX0_same 45 = .ok (.goto (-43), 3) := dk_167 255 213 (dk_at dksX0_same_2 0 rfl rfl)
theorem dX0_same_48 : decode cX0_same 48 = .ok (.iconst 1, 1) := dk_4 (dk_at dksX0_same_2 3 rfl rfl)
theorem dX0_same_49 : decode cX0_same 49 = .ok (.ireturn, 1) := dk_172 (dk_at dksX0_same_2 4 rfl rfl)
abbrev cX0_known : ByteArray := method_5_code
def yX0_known : MethodName := ⟨RX0, "known", "()Z"⟩
def dkwX0_known_10 : List UInt8 := [132, 4, 1, 167, 255, 231, 4, 172]
abbrev dktX0_known_10 : List UInt8 := dkwX0_known_10 ++ []
def dkwX0_known_9 : List UInt8 := [54, 4, 21, 4, 16, 8, 162, 0, 24, 44, 21, 4, 182, 0, 24, 45, 21, 4, 46, 159, 0, 5, 3, 172]
abbrev dktX0_known_9 : List UInt8 := dkwX0_known_9 ++ dktX0_known_10
def dkwX0_known_8 : List UInt8 := [16, 91, 79, 89, 8, 16, 43, 79, 89, 16, 6, 17, 0, 137, 79, 89, 16, 7, 16, 82, 79, 78, 3]
abbrev dktX0_known_8 : List UInt8 := dkwX0_known_8 ++ dktX0_known_9
def dkwX0_known_7 : List UInt8 := [3, 17, 0, 247, 79, 89, 4, 17, 0, 192, 79, 89, 5, 16, 19, 79, 89, 6, 17, 0, 172, 79, 89, 7]
abbrev dktX0_known_7 : List UInt8 := dkwX0_known_7 ++ dktX0_known_8
def dkwX0_known_6 : List UInt8 := [3, 3, 3, 182, 0, 16, 44, 18, 36, 18, 37, 182, 0, 20, 44, 3, 182, 0, 28, 16, 8, 188, 10, 89]
abbrev dktX0_known_6 : List UInt8 := dkwX0_known_6 ++ dktX0_known_7
def dkwX0_known_5 : List UInt8 := [187, 0, 7, 89, 183, 0, 9, 77, 44, 3, 18, 32, 18, 33, 18, 34, 18, 35, 182, 0, 16, 44, 4, 3]
abbrev dktX0_known_5 : List UInt8 := dkwX0_known_5 ++ dktX0_known_6
def dkwX0_known_4 : List UInt8 := [162, 0, 22, 42, 28, 182, 0, 24, 43, 28, 46, 159, 0, 5, 3, 172, 132, 2, 1, 167, 255, 234]
abbrev dktX0_known_4 : List UInt8 := dkwX0_known_4 ++ dktX0_known_5
def dkwX0_known_3 : List UInt8 := [16, 75, 79, 89, 16, 6, 17, 0, 143, 79, 89, 16, 7, 16, 109, 79, 76, 3, 61, 28, 16, 8]
abbrev dktX0_known_3 : List UInt8 := dkwX0_known_3 ++ dktX0_known_4
def dkwX0_known_2 : List UInt8 := [4, 17, 0, 165, 79, 89, 5, 17, 0, 219, 79, 89, 6, 17, 0, 238, 79, 89, 7, 16, 21, 79, 89, 8]
abbrev dktX0_known_2 : List UInt8 := dkwX0_known_2 ++ dktX0_known_3
def dkwX0_known_1 : List UInt8 := [182, 0, 16, 42, 3, 3, 182, 0, 20, 42, 3, 182, 0, 28, 16, 8, 188, 10, 89, 3, 16, 33, 79, 89]
abbrev dktX0_known_1 : List UInt8 := dkwX0_known_1 ++ dktX0_known_2
def dkwX0_known_0 : List UInt8 := [187, 0, 7, 89, 183, 0, 9, 75, 42, 3, 3, 3, 3, 3, 182, 0, 16, 42, 4, 3, 3, 3, 3]
abbrev dktX0_known_0 : List UInt8 := dkwX0_known_0 ++ dktX0_known_1
theorem dksX0_known_0 : cX0_known.data.toList.drop 0 = dktX0_known_0 := by decide +kernel
theorem dksX0_known_1 : cX0_known.data.toList.drop 23 = dktX0_known_1 := dk_seg dksX0_known_0 23 rfl rfl
theorem dksX0_known_2 : cX0_known.data.toList.drop 47 = dktX0_known_2 := dk_seg dksX0_known_1 24 rfl rfl
theorem dksX0_known_3 : cX0_known.data.toList.drop 71 = dktX0_known_3 := dk_seg dksX0_known_2 24 rfl rfl
theorem dksX0_known_4 : cX0_known.data.toList.drop 93 = dktX0_known_4 := dk_seg dksX0_known_3 22 rfl rfl
theorem dksX0_known_5 : cX0_known.data.toList.drop 115 = dktX0_known_5 := dk_seg dksX0_known_4 22 rfl rfl
theorem dksX0_known_6 : cX0_known.data.toList.drop 139 = dktX0_known_6 := dk_seg dksX0_known_5 24 rfl rfl
theorem dksX0_known_7 : cX0_known.data.toList.drop 163 = dktX0_known_7 := dk_seg dksX0_known_6 24 rfl rfl
theorem dksX0_known_8 : cX0_known.data.toList.drop 187 = dktX0_known_8 := dk_seg dksX0_known_7 24 rfl rfl
theorem dksX0_known_9 : cX0_known.data.toList.drop 210 = dktX0_known_9 := dk_seg dksX0_known_8 23 rfl rfl
theorem dksX0_known_10 : cX0_known.data.toList.drop 234 = dktX0_known_10 := dk_seg dksX0_known_9 24 rfl rfl
theorem dX0_known_0 : decode cX0_known 0 = .ok (.new 7, 3) := dk_187 0 7 (dk_at dksX0_known_0 0 rfl rfl)
theorem dX0_known_3 : decode cX0_known 3 = .ok (.dup, 1) := dk_89 (dk_at dksX0_known_0 3 rfl rfl)
theorem dX0_known_4 : decode cX0_known 4 = .ok (.invokespecial 9, 3) := dk_183 0 9 (dk_at dksX0_known_0 4 rfl rfl)
theorem dX0_known_7 : decode cX0_known 7 = .ok (.astore_n 0, 1) := dk_75 (dk_at dksX0_known_0 7 rfl rfl)
theorem dX0_known_8 : decode cX0_known 8 = .ok (.aload_n 0, 1) := dk_42 (dk_at dksX0_known_0 8 rfl rfl)
theorem dX0_known_9 : decode cX0_known 9 = .ok (.iconst 0, 1) := dk_3 (dk_at dksX0_known_0 9 rfl rfl)
theorem dX0_known_10 : decode cX0_known 10 = .ok (.iconst 0, 1) := dk_3 (dk_at dksX0_known_0 10 rfl rfl)
theorem dX0_known_11 : decode cX0_known 11 = .ok (.iconst 0, 1) := dk_3 (dk_at dksX0_known_0 11 rfl rfl)
theorem dX0_known_12 : decode cX0_known 12 = .ok (.iconst 0, 1) := dk_3 (dk_at dksX0_known_0 12 rfl rfl)
theorem dX0_known_13 : decode cX0_known 13 = .ok (.iconst 0, 1) := dk_3 (dk_at dksX0_known_0 13 rfl rfl)
theorem dX0_known_14 : decode cX0_known 14 = .ok (.invokevirtual 16, 3) := dk_182 0 16 (dk_at dksX0_known_0 14 rfl rfl)
theorem dX0_known_17 : decode cX0_known 17 = .ok (.aload_n 0, 1) := dk_42 (dk_at dksX0_known_0 17 rfl rfl)
theorem dX0_known_18 : decode cX0_known 18 = .ok (.iconst 1, 1) := dk_4 (dk_at dksX0_known_0 18 rfl rfl)
theorem dX0_known_19 : decode cX0_known 19 = .ok (.iconst 0, 1) := dk_3 (dk_at dksX0_known_0 19 rfl rfl)
theorem dX0_known_20 : decode cX0_known 20 = .ok (.iconst 0, 1) := dk_3 (dk_at dksX0_known_0 20 rfl rfl)
theorem dX0_known_21 : decode cX0_known 21 = .ok (.iconst 0, 1) := dk_3 (dk_at dksX0_known_0 21 rfl rfl)
theorem dX0_known_22 : decode cX0_known 22 = .ok (.iconst 0, 1) := dk_3 (dk_at dksX0_known_0 22 rfl rfl)
theorem dX0_known_23 : decode cX0_known 23 = .ok (.invokevirtual 16, 3) := dk_182 0 16 (dk_at dksX0_known_1 0 rfl rfl)
theorem dX0_known_26 : decode cX0_known 26 = .ok (.aload_n 0, 1) := dk_42 (dk_at dksX0_known_1 3 rfl rfl)
theorem dX0_known_27 : decode cX0_known 27 = .ok (.iconst 0, 1) := dk_3 (dk_at dksX0_known_1 4 rfl rfl)
theorem dX0_known_28 : decode cX0_known 28 = .ok (.iconst 0, 1) := dk_3 (dk_at dksX0_known_1 5 rfl rfl)
theorem dX0_known_29 : decode cX0_known 29 = .ok (.invokevirtual 20, 3) := dk_182 0 20 (dk_at dksX0_known_1 6 rfl rfl)
theorem dX0_known_32 : decode cX0_known 32 = .ok (.aload_n 0, 1) := dk_42 (dk_at dksX0_known_1 9 rfl rfl)
theorem dX0_known_33 : decode cX0_known 33 = .ok (.iconst 0, 1) := dk_3 (dk_at dksX0_known_1 10 rfl rfl)
theorem dX0_known_34 : decode cX0_known 34 = .ok (.invokevirtual 28, 3) := dk_182 0 28 (dk_at dksX0_known_1 11 rfl rfl)
theorem dX0_known_37 : decode cX0_known 37 = .ok (.bipush 8, 2) := dk_16 8 (dk_at dksX0_known_1 14 rfl rfl)
theorem dX0_known_39 : decode cX0_known 39 = .ok (.newarray .int, 2) := dk_188_10 (dk_at dksX0_known_1 16 rfl rfl)
theorem dX0_known_41 : decode cX0_known 41 = .ok (.dup, 1) := dk_89 (dk_at dksX0_known_1 18 rfl rfl)
theorem dX0_known_42 : decode cX0_known 42 = .ok (.iconst 0, 1) := dk_3 (dk_at dksX0_known_1 19 rfl rfl)
theorem dX0_known_43 : decode cX0_known 43 = .ok (.bipush 33, 2) := dk_16 33 (dk_at dksX0_known_1 20 rfl rfl)
theorem dX0_known_45 : decode cX0_known 45 = .ok (.iastore, 1) := dk_79 (dk_at dksX0_known_1 22 rfl rfl)
theorem dX0_known_46 : decode cX0_known 46 = .ok (.dup, 1) := dk_89 (dk_at dksX0_known_1 23 rfl rfl)
theorem dX0_known_47 : decode cX0_known 47 = .ok (.iconst 1, 1) := dk_4 (dk_at dksX0_known_2 0 rfl rfl)
theorem dX0_known_48 : decode cX0_known 48 = .ok (.sipush 165, 3) := dk_17 0 165 (dk_at dksX0_known_2 1 rfl rfl)
theorem dX0_known_51 : decode cX0_known 51 = .ok (.iastore, 1) := dk_79 (dk_at dksX0_known_2 4 rfl rfl)
theorem dX0_known_52 : decode cX0_known 52 = .ok (.dup, 1) := dk_89 (dk_at dksX0_known_2 5 rfl rfl)
theorem dX0_known_53 : decode cX0_known 53 = .ok (.iconst 2, 1) := dk_5 (dk_at dksX0_known_2 6 rfl rfl)
theorem dX0_known_54 : decode cX0_known 54 = .ok (.sipush 219, 3) := dk_17 0 219 (dk_at dksX0_known_2 7 rfl rfl)
theorem dX0_known_57 : decode cX0_known 57 = .ok (.iastore, 1) := dk_79 (dk_at dksX0_known_2 10 rfl rfl)
theorem dX0_known_58 : decode cX0_known 58 = .ok (.dup, 1) := dk_89 (dk_at dksX0_known_2 11 rfl rfl)
theorem dX0_known_59 : decode cX0_known 59 = .ok (.iconst 3, 1) := dk_6 (dk_at dksX0_known_2 12 rfl rfl)
theorem dX0_known_60 : decode cX0_known 60 = .ok (.sipush 238, 3) := dk_17 0 238 (dk_at dksX0_known_2 13 rfl rfl)
theorem dX0_known_63 : decode cX0_known 63 = .ok (.iastore, 1) := dk_79 (dk_at dksX0_known_2 16 rfl rfl)
theorem dX0_known_64 : decode cX0_known 64 = .ok (.dup, 1) := dk_89 (dk_at dksX0_known_2 17 rfl rfl)
theorem dX0_known_65 : decode cX0_known 65 = .ok (.iconst 4, 1) := dk_7 (dk_at dksX0_known_2 18 rfl rfl)
theorem dX0_known_66 : decode cX0_known 66 = .ok (.bipush 21, 2) := dk_16 21 (dk_at dksX0_known_2 19 rfl rfl)
theorem dX0_known_68 : decode cX0_known 68 = .ok (.iastore, 1) := dk_79 (dk_at dksX0_known_2 21 rfl rfl)
theorem dX0_known_69 : decode cX0_known 69 = .ok (.dup, 1) := dk_89 (dk_at dksX0_known_2 22 rfl rfl)
theorem dX0_known_70 : decode cX0_known 70 = .ok (.iconst 5, 1) := dk_8 (dk_at dksX0_known_2 23 rfl rfl)
theorem dX0_known_71 : decode cX0_known 71 = .ok (.bipush 75, 2) := dk_16 75 (dk_at dksX0_known_3 0 rfl rfl)
theorem dX0_known_73 : decode cX0_known 73 = .ok (.iastore, 1) := dk_79 (dk_at dksX0_known_3 2 rfl rfl)
theorem dX0_known_74 : decode cX0_known 74 = .ok (.dup, 1) := dk_89 (dk_at dksX0_known_3 3 rfl rfl)
theorem dX0_known_75 : decode cX0_known 75 = .ok (.bipush 6, 2) := dk_16 6 (dk_at dksX0_known_3 4 rfl rfl)
theorem dX0_known_77 : decode cX0_known 77 = .ok (.sipush 143, 3) := dk_17 0 143 (dk_at dksX0_known_3 6 rfl rfl)
theorem dX0_known_80 : decode cX0_known 80 = .ok (.iastore, 1) := dk_79 (dk_at dksX0_known_3 9 rfl rfl)
theorem dX0_known_81 : decode cX0_known 81 = .ok (.dup, 1) := dk_89 (dk_at dksX0_known_3 10 rfl rfl)
theorem dX0_known_82 : decode cX0_known 82 = .ok (.bipush 7, 2) := dk_16 7 (dk_at dksX0_known_3 11 rfl rfl)
theorem dX0_known_84 : decode cX0_known 84 = .ok (.bipush 109, 2) := dk_16 109 (dk_at dksX0_known_3 13 rfl rfl)
theorem dX0_known_86 : decode cX0_known 86 = .ok (.iastore, 1) := dk_79 (dk_at dksX0_known_3 15 rfl rfl)
theorem dX0_known_87 : decode cX0_known 87 = .ok (.astore_n 1, 1) := dk_76 (dk_at dksX0_known_3 16 rfl rfl)
theorem dX0_known_88 : decode cX0_known 88 = .ok (.iconst 0, 1) := dk_3 (dk_at dksX0_known_3 17 rfl rfl)
theorem dX0_known_89 : decode cX0_known 89 = .ok (.istore_n 2, 1) := dk_61 (dk_at dksX0_known_3 18 rfl rfl)
theorem dX0_known_90 : decode cX0_known 90 = .ok (.iload_n 2, 1) := dk_28 (dk_at dksX0_known_3 19 rfl rfl)
theorem dX0_known_91 : decode cX0_known 91 = .ok (.bipush 8, 2) := dk_16 8 (dk_at dksX0_known_3 20 rfl rfl)
theorem dX0_known_93 : decode cX0_known 93 = .ok (.if_icmp .ge 22, 3) := dk_162 0 22 (dk_at dksX0_known_4 0 rfl rfl)
theorem dX0_known_96 : decode cX0_known 96 = .ok (.aload_n 0, 1) := dk_42 (dk_at dksX0_known_4 3 rfl rfl)
theorem dX0_known_97 : decode cX0_known 97 = .ok (.iload_n 2, 1) := dk_28 (dk_at dksX0_known_4 4 rfl rfl)
theorem dX0_known_98 : decode cX0_known 98 = .ok (.invokevirtual 24, 3) := dk_182 0 24 (dk_at dksX0_known_4 5 rfl rfl)
theorem dX0_known_101 : decode cX0_known 101 = .ok (.aload_n 1, 1) := dk_43 (dk_at dksX0_known_4 8 rfl rfl)
theorem dX0_known_102 : decode cX0_known 102 = .ok (.iload_n 2, 1) := dk_28 (dk_at dksX0_known_4 9 rfl rfl)
theorem dX0_known_103 : decode cX0_known 103 = .ok (.iaload, 1) := dk_46 (dk_at dksX0_known_4 10 rfl rfl)
theorem dX0_known_104 : decode cX0_known 104 = .ok (.if_icmp .eq 5, 3) := dk_159 0 5 (dk_at dksX0_known_4 11 rfl rfl)
theorem dX0_known_107 : decode cX0_known 107 = .ok (.iconst 0, 1) := dk_3 (dk_at dksX0_known_4 14 rfl rfl)
theorem dX0_known_108 : decode cX0_known 108 = .ok (.ireturn, 1) := dk_172 (dk_at dksX0_known_4 15 rfl rfl)
theorem dX0_known_109 : decode cX0_known 109 = .ok (.iinc 2 1, 3) := dk_132 2 1 (dk_at dksX0_known_4 16 rfl rfl)
theorem dX0_known_112 : decode cX0_known 112 = .ok (.goto (-22), 3) := dk_167 255 234 (dk_at dksX0_known_4 19 rfl rfl)
theorem dX0_known_115 : decode cX0_known 115 = .ok (.new 7, 3) := dk_187 0 7 (dk_at dksX0_known_5 0 rfl rfl)
theorem dX0_known_118 : decode cX0_known 118 = .ok (.dup, 1) := dk_89 (dk_at dksX0_known_5 3 rfl rfl)
theorem dX0_known_119 : decode cX0_known 119 = .ok (.invokespecial 9, 3) := dk_183 0 9 (dk_at dksX0_known_5 4 rfl rfl)
theorem dX0_known_122 : decode cX0_known 122 = .ok (.astore_n 2, 1) := dk_77 (dk_at dksX0_known_5 7 rfl rfl)
theorem dX0_known_123 : decode cX0_known 123 = .ok (.aload_n 2, 1) := dk_44 (dk_at dksX0_known_5 8 rfl rfl)
theorem dX0_known_124 : decode cX0_known 124 = .ok (.iconst 0, 1) := dk_3 (dk_at dksX0_known_5 9 rfl rfl)
theorem dX0_known_125 : decode cX0_known 125 = .ok (.ldc 32, 2) := dk_18 32 (dk_at dksX0_known_5 10 rfl rfl)
theorem dX0_known_127 : decode cX0_known 127 = .ok (.ldc 33, 2) := dk_18 33 (dk_at dksX0_known_5 12 rfl rfl)
theorem dX0_known_129 : decode cX0_known 129 = .ok (.ldc 34, 2) := dk_18 34 (dk_at dksX0_known_5 14 rfl rfl)
theorem dX0_known_131 : decode cX0_known 131 = .ok (.ldc 35, 2) := dk_18 35 (dk_at dksX0_known_5 16 rfl rfl)
theorem dX0_known_133 : decode cX0_known 133 = .ok (.invokevirtual 16, 3) := dk_182 0 16 (dk_at dksX0_known_5 18 rfl rfl)
theorem dX0_known_136 : decode cX0_known 136 = .ok (.aload_n 2, 1) := dk_44 (dk_at dksX0_known_5 21 rfl rfl)
theorem dX0_known_137 : decode cX0_known 137 = .ok (.iconst 1, 1) := dk_4 (dk_at dksX0_known_5 22 rfl rfl)
theorem dX0_known_138 : decode cX0_known 138 = .ok (.iconst 0, 1) := dk_3 (dk_at dksX0_known_5 23 rfl rfl)
theorem dX0_known_139 : decode cX0_known 139 = .ok (.iconst 0, 1) := dk_3 (dk_at dksX0_known_6 0 rfl rfl)
theorem dX0_known_140 : decode cX0_known 140 = .ok (.iconst 0, 1) := dk_3 (dk_at dksX0_known_6 1 rfl rfl)
theorem dX0_known_141 : decode cX0_known 141 = .ok (.iconst 0, 1) := dk_3 (dk_at dksX0_known_6 2 rfl rfl)
theorem dX0_known_142 : decode cX0_known 142 = .ok (.invokevirtual 16, 3) := dk_182 0 16 (dk_at dksX0_known_6 3 rfl rfl)
theorem dX0_known_145 : decode cX0_known 145 = .ok (.aload_n 2, 1) := dk_44 (dk_at dksX0_known_6 6 rfl rfl)
theorem dX0_known_146 : decode cX0_known 146 = .ok (.ldc 36, 2) := dk_18 36 (dk_at dksX0_known_6 7 rfl rfl)
theorem dX0_known_148 : decode cX0_known 148 = .ok (.ldc 37, 2) := dk_18 37 (dk_at dksX0_known_6 9 rfl rfl)
theorem dX0_known_150 : decode cX0_known 150 = .ok (.invokevirtual 20, 3) := dk_182 0 20 (dk_at dksX0_known_6 11 rfl rfl)
theorem dX0_known_153 : decode cX0_known 153 = .ok (.aload_n 2, 1) := dk_44 (dk_at dksX0_known_6 14 rfl rfl)
theorem dX0_known_154 : decode cX0_known 154 = .ok (.iconst 0, 1) := dk_3 (dk_at dksX0_known_6 15 rfl rfl)
theorem dX0_known_155 : decode cX0_known 155 = .ok (.invokevirtual 28, 3) := dk_182 0 28 (dk_at dksX0_known_6 16 rfl rfl)
theorem dX0_known_158 : decode cX0_known 158 = .ok (.bipush 8, 2) := dk_16 8 (dk_at dksX0_known_6 19 rfl rfl)
theorem dX0_known_160 : decode cX0_known 160 = .ok (.newarray .int, 2) := dk_188_10 (dk_at dksX0_known_6 21 rfl rfl)
theorem dX0_known_162 : decode cX0_known 162 = .ok (.dup, 1) := dk_89 (dk_at dksX0_known_6 23 rfl rfl)
theorem dX0_known_163 : decode cX0_known 163 = .ok (.iconst 0, 1) := dk_3 (dk_at dksX0_known_7 0 rfl rfl)
theorem dX0_known_164 : decode cX0_known 164 = .ok (.sipush 247, 3) := dk_17 0 247 (dk_at dksX0_known_7 1 rfl rfl)
theorem dX0_known_167 : decode cX0_known 167 = .ok (.iastore, 1) := dk_79 (dk_at dksX0_known_7 4 rfl rfl)
theorem dX0_known_168 : decode cX0_known 168 = .ok (.dup, 1) := dk_89 (dk_at dksX0_known_7 5 rfl rfl)
theorem dX0_known_169 : decode cX0_known 169 = .ok (.iconst 1, 1) := dk_4 (dk_at dksX0_known_7 6 rfl rfl)
theorem dX0_known_170 : decode cX0_known 170 = .ok (.sipush 192, 3) := dk_17 0 192 (dk_at dksX0_known_7 7 rfl rfl)
theorem dX0_known_173 : decode cX0_known 173 = .ok (.iastore, 1) := dk_79 (dk_at dksX0_known_7 10 rfl rfl)
theorem dX0_known_174 : decode cX0_known 174 = .ok (.dup, 1) := dk_89 (dk_at dksX0_known_7 11 rfl rfl)
theorem dX0_known_175 : decode cX0_known 175 = .ok (.iconst 2, 1) := dk_5 (dk_at dksX0_known_7 12 rfl rfl)
theorem dX0_known_176 : decode cX0_known 176 = .ok (.bipush 19, 2) := dk_16 19 (dk_at dksX0_known_7 13 rfl rfl)
theorem dX0_known_178 : decode cX0_known 178 = .ok (.iastore, 1) := dk_79 (dk_at dksX0_known_7 15 rfl rfl)
theorem dX0_known_179 : decode cX0_known 179 = .ok (.dup, 1) := dk_89 (dk_at dksX0_known_7 16 rfl rfl)
theorem dX0_known_180 : decode cX0_known 180 = .ok (.iconst 3, 1) := dk_6 (dk_at dksX0_known_7 17 rfl rfl)
theorem dX0_known_181 : decode cX0_known 181 = .ok (.sipush 172, 3) := dk_17 0 172 (dk_at dksX0_known_7 18 rfl rfl)
theorem dX0_known_184 : decode cX0_known 184 = .ok (.iastore, 1) := dk_79 (dk_at dksX0_known_7 21 rfl rfl)
theorem dX0_known_185 : decode cX0_known 185 = .ok (.dup, 1) := dk_89 (dk_at dksX0_known_7 22 rfl rfl)
theorem dX0_known_186 : decode cX0_known 186 = .ok (.iconst 4, 1) := dk_7 (dk_at dksX0_known_7 23 rfl rfl)
theorem dX0_known_187 : decode cX0_known 187 = .ok (.bipush 91, 2) := dk_16 91 (dk_at dksX0_known_8 0 rfl rfl)
theorem dX0_known_189 : decode cX0_known 189 = .ok (.iastore, 1) := dk_79 (dk_at dksX0_known_8 2 rfl rfl)
theorem dX0_known_190 : decode cX0_known 190 = .ok (.dup, 1) := dk_89 (dk_at dksX0_known_8 3 rfl rfl)
theorem dX0_known_191 : decode cX0_known 191 = .ok (.iconst 5, 1) := dk_8 (dk_at dksX0_known_8 4 rfl rfl)
theorem dX0_known_192 : decode cX0_known 192 = .ok (.bipush 43, 2) := dk_16 43 (dk_at dksX0_known_8 5 rfl rfl)
theorem dX0_known_194 : decode cX0_known 194 = .ok (.iastore, 1) := dk_79 (dk_at dksX0_known_8 7 rfl rfl)
theorem dX0_known_195 : decode cX0_known 195 = .ok (.dup, 1) := dk_89 (dk_at dksX0_known_8 8 rfl rfl)
theorem dX0_known_196 : decode cX0_known 196 = .ok (.bipush 6, 2) := dk_16 6 (dk_at dksX0_known_8 9 rfl rfl)
theorem dX0_known_198 : decode cX0_known 198 = .ok (.sipush 137, 3) := dk_17 0 137 (dk_at dksX0_known_8 11 rfl rfl)
theorem dX0_known_201 : decode cX0_known 201 = .ok (.iastore, 1) := dk_79 (dk_at dksX0_known_8 14 rfl rfl)
theorem dX0_known_202 : decode cX0_known 202 = .ok (.dup, 1) := dk_89 (dk_at dksX0_known_8 15 rfl rfl)
theorem dX0_known_203 : decode cX0_known 203 = .ok (.bipush 7, 2) := dk_16 7 (dk_at dksX0_known_8 16 rfl rfl)
theorem dX0_known_205 : decode cX0_known 205 = .ok (.bipush 82, 2) := dk_16 82 (dk_at dksX0_known_8 18 rfl rfl)
theorem dX0_known_207 : decode cX0_known 207 = .ok (.iastore, 1) := dk_79 (dk_at dksX0_known_8 20 rfl rfl)
theorem dX0_known_208 : decode cX0_known 208 = .ok (.astore_n 3, 1) := dk_78 (dk_at dksX0_known_8 21 rfl rfl)
theorem dX0_known_209 : decode cX0_known 209 = .ok (.iconst 0, 1) := dk_3 (dk_at dksX0_known_8 22 rfl rfl)
theorem dX0_known_210 : decode cX0_known 210 = .ok (.istore 4, 2) := dk_54 4 (dk_at dksX0_known_9 0 rfl rfl)
theorem dX0_known_212 : decode cX0_known 212 = .ok (.iload 4, 2) := dk_21 4 (dk_at dksX0_known_9 2 rfl rfl)
theorem dX0_known_214 : decode cX0_known 214 = .ok (.bipush 8, 2) := dk_16 8 (dk_at dksX0_known_9 4 rfl rfl)
theorem dX0_known_216 : decode cX0_known 216 = .ok (.if_icmp .ge 24, 3) := dk_162 0 24 (dk_at dksX0_known_9 6 rfl rfl)
theorem dX0_known_219 : decode cX0_known 219 = .ok (.aload_n 2, 1) := dk_44 (dk_at dksX0_known_9 9 rfl rfl)
theorem dX0_known_220 : decode cX0_known 220 = .ok (.iload 4, 2) := dk_21 4 (dk_at dksX0_known_9 10 rfl rfl)
theorem dX0_known_222 : decode cX0_known 222 = .ok (.invokevirtual 24, 3) := dk_182 0 24 (dk_at dksX0_known_9 12 rfl rfl)
theorem dX0_known_225 : decode cX0_known 225 = .ok (.aload_n 3, 1) := dk_45 (dk_at dksX0_known_9 15 rfl rfl)
theorem dX0_known_226 : decode cX0_known 226 = .ok (.iload 4, 2) := dk_21 4 (dk_at dksX0_known_9 16 rfl rfl)
theorem dX0_known_228 : decode cX0_known 228 = .ok (.iaload, 1) := dk_46 (dk_at dksX0_known_9 18 rfl rfl)
theorem dX0_known_229 : decode cX0_known 229 = .ok (.if_icmp .eq 5, 3) := dk_159 0 5 (dk_at dksX0_known_9 19 rfl rfl)
theorem dX0_known_232 : decode cX0_known 232 = .ok (.iconst 0, 1) := dk_3 (dk_at dksX0_known_9 22 rfl rfl)
theorem dX0_known_233 : decode cX0_known 233 = .ok (.ireturn, 1) := dk_172 (dk_at dksX0_known_9 23 rfl rfl)
theorem dX0_known_234 : decode cX0_known 234 = .ok (.iinc 4 1, 3) := dk_132 4 1 (dk_at dksX0_known_10 0 rfl rfl)
theorem dX0_known_237 : decode cX0_known 237 = .ok (.goto (-25), 3) := dk_167 255 231 (dk_at dksX0_known_10 3 rfl rfl)
theorem dX0_known_240 : decode cX0_known 240 = .ok (.iconst 1, 1) := dk_4 (dk_at dksX0_known_10 6 rfl rfl)
theorem dX0_known_241 : decode cX0_known 241 = .ok (.ireturn, 1) := dk_172 (dk_at dksX0_known_10 7 rfl rfl)
theorem q9 : (Jvm.Cond.initialized "RcFiveDeskLaw") ∈ lw_all := lw_g (lw_at lw_m1 0 rfl) rfl
theorem q18 : (Jvm.Cond.methodLink "RcFiveDeskLaw" (28 : Nat) ({ cls := "RcFiveDesk", name := "lock", desc := "(I)V" } : Jvm.MethodName)) ∈ lw_all := lw_g (lw_at lw_m1 9 rfl) rfl
theorem q197 : (Jvm.Cond.methodLink "RcFiveDeskLaw" (46 : Nat) ({ cls := "RcFiveDesk", name := "open", desc := "(I)V" } : Jvm.MethodName)) ∈ lw_all := lw_g (lw_at lw_m1 188 rfl) rfl
theorem q201 : (Jvm.Cond.methodLink "RcFiveDeskLaw" (49 : Nat) ({ cls := "RcFiveDesk", name := "again", desc := "()V" } : Jvm.MethodName)) ∈ lw_all := lw_g (lw_at lw_m1 192 rfl) rfl
theorem q205 : (Jvm.Cond.methodLink "RcFiveDeskLaw" (42 : Nat) ({ cls := "RcFiveDeskLaw", name := "with", desc := "([I)LRcFiveDesk;" } : Jvm.MethodName)) ∈ lw_all := lw_g (lw_at lw_m1 196 rfl) rfl
theorem q206 : (Jvm.Cond.static ({ cls := "RcFiveDeskLaw", name := "with", desc := "([I)LRcFiveDesk;" } : Jvm.MethodName)) ∈ lw_all := lw_g (lw_at lw_m1 197 rfl) rfl
theorem q207 : (Jvm.Cond.code ({ cls := "RcFiveDeskLaw", name := "with", desc := "([I)LRcFiveDesk;" } : Jvm.MethodName) method_3_code (2 : Nat) (Option.some (Jvm.ClassFile.FieldType.object "RcFiveDesk"))) ∈ lw_all := lw_g (lw_at lw_m1 198 rfl) rfl
theorem q208 : (Jvm.Cond.classLink "RcFiveDeskLaw" (7 : Nat) "RcFiveDesk") ∈ lw_all := lw_g (lw_at lw_m1 199 rfl) rfl
theorem q209 : (Jvm.Cond.methodLink "RcFiveDeskLaw" (9 : Nat) ({ cls := "RcFiveDesk", name := "<init>", desc := "()V" } : Jvm.MethodName)) ∈ lw_all := lw_g (lw_at lw_m1 200 rfl) rfl
theorem q223 : (Jvm.Cond.methodLink "RcFiveDeskLaw" (10 : Nat) ({ cls := "RcFiveDeskLaw", name := "cell", desc := "([II)I" } : Jvm.MethodName)) ∈ lw_all := lw_g (lw_at lw_m1 214 rfl) rfl
theorem q224 : (Jvm.Cond.static ({ cls := "RcFiveDeskLaw", name := "cell", desc := "([II)I" } : Jvm.MethodName)) ∈ lw_all := lw_g (lw_at lw_m1 215 rfl) rfl
theorem q225 : (Jvm.Cond.code ({ cls := "RcFiveDeskLaw", name := "cell", desc := "([II)I" } : Jvm.MethodName) method_2_code (2 : Nat) (Option.some Jvm.ClassFile.FieldType.int)) ∈ lw_all := lw_g (lw_at lw_m1 216 rfl) rfl
theorem q226 : (Jvm.Cond.methodLink "RcFiveDeskLaw" (16 : Nat) ({ cls := "RcFiveDesk", name := "key", desc := "(IIIII)V" } : Jvm.MethodName)) ∈ lw_all := lw_g (lw_at lw_m1 217 rfl) rfl
theorem q233 : (Jvm.Cond.methodLink "RcFiveDeskLaw" (20 : Nat) ({ cls := "RcFiveDesk", name := "block", desc := "(II)V" } : Jvm.MethodName)) ∈ lw_all := lw_g (lw_at lw_m1 224 rfl) rfl
theorem q237 : (Jvm.Cond.methodLink "RcFiveDeskLaw" (52 : Nat) ({ cls := "RcFiveDeskLaw", name := "same", desc := "(LRcFiveDesk;[I)Z" } : Jvm.MethodName)) ∈ lw_all := lw_g (lw_at lw_m1 228 rfl) rfl
theorem q238 : (Jvm.Cond.static ({ cls := "RcFiveDeskLaw", name := "same", desc := "(LRcFiveDesk;[I)Z" } : Jvm.MethodName)) ∈ lw_all := lw_g (lw_at lw_m1 229 rfl) rfl
theorem q239 : (Jvm.Cond.code ({ cls := "RcFiveDeskLaw", name := "same", desc := "(LRcFiveDesk;[I)Z" } : Jvm.MethodName) method_4_code (3 : Nat) (Option.some Jvm.ClassFile.FieldType.boolean)) ∈ lw_all := lw_g (lw_at lw_m1 230 rfl) rfl
theorem q240 : (Jvm.Cond.methodLink "RcFiveDeskLaw" (24 : Nat) ({ cls := "RcFiveDesk", name := "out", desc := "(I)I" } : Jvm.MethodName)) ∈ lw_all := lw_g (lw_at lw_m1 231 rfl) rfl
theorem q244 : (Jvm.Cond.methodLink "RcFiveDeskLaw" (38 : Nat) ({ cls := "RcFiveDeskLaw", name := "known", desc := "()Z" } : Jvm.MethodName)) ∈ lw_all := lw_g (lw_at lw_m1 235 rfl) rfl
theorem q245 : (Jvm.Cond.static ({ cls := "RcFiveDeskLaw", name := "known", desc := "()Z" } : Jvm.MethodName)) ∈ lw_all := lw_g (lw_at lw_m1 236 rfl) rfl
theorem q246 : (Jvm.Cond.code ({ cls := "RcFiveDeskLaw", name := "known", desc := "()Z" } : Jvm.MethodName) method_5_code (5 : Nat) (Option.some Jvm.ClassFile.FieldType.boolean)) ∈ lw_all := lw_g (lw_at lw_m1 237 rfl) rfl
theorem q247 : (Jvm.Cond.constant "RcFiveDeskLaw" (32 : Nat) (-1856027111 : Int32)) ∈ lw_all := lw_g (lw_at lw_m1 238 rfl) rfl
theorem q248 : (Jvm.Cond.constant "RcFiveDeskLaw" (33 : Nat) (-1102990767 : Int32)) ∈ lw_all := lw_g (lw_at lw_m1 239 rfl) rfl
theorem q249 : (Jvm.Cond.constant "RcFiveDeskLaw" (34 : Nat) (1666557185 : Int32)) ∈ lw_all := lw_g (lw_at lw_m2 0 rfl) rfl
theorem q250 : (Jvm.Cond.constant "RcFiveDeskLaw" (35 : Nat) (279563921 : Int32)) ∈ lw_all := lw_g (lw_at lw_m2 1 rfl) rfl
theorem q251 : (Jvm.Cond.constant "RcFiveDeskLaw" (36 : Nat) (564517870 : Int32)) ∈ lw_all := lw_g (lw_at lw_m2 2 rfl) rfl
theorem q252 : (Jvm.Cond.constant "RcFiveDeskLaw" (37 : Nat) (357273453 : Int32)) ∈ lw_all := lw_g (lw_at lw_m2 3 rfl) rfl
/-! the law's own entry -/
set_option maxRecDepth 100000
abbrev cL_law : ByteArray := code
def dkwL_law_4 : List UInt8 := [25, 7, 42, 184, 0, 52, 154, 0, 5, 3, 172, 132, 4, 1, 167, 255, 171, 4, 172]
abbrev dktL_law_4 : List UInt8 := dkwL_law_4 ++ []
def dkwL_law_3 : List UInt8 := [182, 0, 46, 25, 7, 182, 0, 49, 25, 7, 21, 5, 182, 0, 28, 25, 6, 42, 184, 0, 52, 153, 0, 12]
abbrev dktL_law_3 : List UInt8 := dkwL_law_3 ++ dktL_law_4
def dkwL_law_2 : List UInt8 := [25, 6, 21, 5, 182, 0, 28, 25, 7, 21, 5, 182, 0, 46, 25, 6, 182, 0, 49, 25, 6, 21, 5]
abbrev dktL_law_2 : List UInt8 := dkwL_law_2 ++ dktL_law_3
def dkwL_law_1 : List UInt8 := [21, 4, 29, 162, 0, 85, 44, 21, 4, 46, 54, 5, 42, 184, 0, 42, 58, 6, 42, 184, 0, 42, 58, 7]
abbrev dktL_law_1 : List UInt8 := dkwL_law_1 ++ dktL_law_2
def dkwL_law_0 : List UInt8 := [184, 0, 38, 154, 0, 5, 3, 172, 4, 188, 10, 89, 3, 3, 79, 76, 43, 77, 44, 190, 62, 3, 54, 4]
abbrev dktL_law_0 : List UInt8 := dkwL_law_0 ++ dktL_law_1
theorem dksL_law_0 : cL_law.data.toList.drop 0 = dktL_law_0 := by decide +kernel
theorem dksL_law_1 : cL_law.data.toList.drop 24 = dktL_law_1 := dk_seg dksL_law_0 24 rfl rfl
theorem dksL_law_2 : cL_law.data.toList.drop 48 = dktL_law_2 := dk_seg dksL_law_1 24 rfl rfl
theorem dksL_law_3 : cL_law.data.toList.drop 71 = dktL_law_3 := dk_seg dksL_law_2 23 rfl rfl
theorem dksL_law_4 : cL_law.data.toList.drop 95 = dktL_law_4 := dk_seg dksL_law_3 24 rfl rfl
theorem dL_law_0 : decode cL_law 0 = .ok (.invokestatic 38, 3) := dk_184 0 38 (dk_at dksL_law_0 0 rfl rfl)
theorem dL_law_3 : decode cL_law 3 = .ok (.ifCond .ne 5, 3) := dk_154 0 5 (dk_at dksL_law_0 3 rfl rfl)
theorem dL_law_6 : decode cL_law 6 = .ok (.iconst 0, 1) := dk_3 (dk_at dksL_law_0 6 rfl rfl)
theorem dL_law_7 : decode cL_law 7 = .ok (.ireturn, 1) := dk_172 (dk_at dksL_law_0 7 rfl rfl)
theorem dL_law_8 : decode cL_law 8 = .ok (.iconst 1, 1) := dk_4 (dk_at dksL_law_0 8 rfl rfl)
theorem dL_law_9 : decode cL_law 9 = .ok (.newarray .int, 2) := dk_188_10 (dk_at dksL_law_0 9 rfl rfl)
theorem dL_law_11 : decode cL_law 11 = .ok (.dup, 1) := dk_89 (dk_at dksL_law_0 11 rfl rfl)
theorem dL_law_12 : decode cL_law 12 = .ok (.iconst 0, 1) := dk_3 (dk_at dksL_law_0 12 rfl rfl)
theorem dL_law_13 : decode cL_law 13 = .ok (.iconst 0, 1) := dk_3 (dk_at dksL_law_0 13 rfl rfl)
theorem dL_law_14 : decode cL_law 14 = .ok (.iastore, 1) := dk_79 (dk_at dksL_law_0 14 rfl rfl)
theorem dL_law_15 : decode cL_law 15 = .ok (.astore_n 1, 1) := dk_76 (dk_at dksL_law_0 15 rfl rfl)
theorem dL_law_16 : decode cL_law 16 = .ok (.aload_n 1, 1) := dk_43 (dk_at dksL_law_0 16 rfl rfl)
theorem dL_law_17 : decode cL_law 17 = .ok (.astore_n 2, 1) := dk_77 (dk_at dksL_law_0 17 rfl rfl)
theorem dL_law_18 : decode cL_law 18 = .ok (.aload_n 2, 1) := dk_44 (dk_at dksL_law_0 18 rfl rfl)
theorem dL_law_19 : decode cL_law 19 = .ok (.arraylength, 1) := dk_190 (dk_at dksL_law_0 19 rfl rfl)
theorem dL_law_20 : decode cL_law 20 = .ok (.istore_n 3, 1) := dk_62 (dk_at dksL_law_0 20 rfl rfl)
theorem dL_law_21 : decode cL_law 21 = .ok (.iconst 0, 1) := dk_3 (dk_at dksL_law_0 21 rfl rfl)
theorem dL_law_22 : decode cL_law 22 = .ok (.istore 4, 2) := dk_54 4 (dk_at dksL_law_0 22 rfl rfl)
theorem dL_law_24 : decode cL_law 24 = .ok (.iload 4, 2) := dk_21 4 (dk_at dksL_law_1 0 rfl rfl)
theorem dL_law_26 : decode cL_law 26 = .ok (.iload_n 3, 1) := dk_29 (dk_at dksL_law_1 2 rfl rfl)
theorem dL_law_27 : decode cL_law 27 = .ok (.if_icmp .ge 85, 3) := dk_162 0 85 (dk_at dksL_law_1 3 rfl rfl)
theorem dL_law_30 : decode cL_law 30 = .ok (.aload_n 2, 1) := dk_44 (dk_at dksL_law_1 6 rfl rfl)
theorem dL_law_31 : decode cL_law 31 = .ok (.iload 4, 2) := dk_21 4 (dk_at dksL_law_1 7 rfl rfl)
theorem dL_law_33 : decode cL_law 33 = .ok (.iaload, 1) := dk_46 (dk_at dksL_law_1 9 rfl rfl)
theorem dL_law_34 : decode cL_law 34 = .ok (.istore 5, 2) := dk_54 5 (dk_at dksL_law_1 10 rfl rfl)
theorem dL_law_36 : decode cL_law 36 = .ok (.aload_n 0, 1) := dk_42 (dk_at dksL_law_1 12 rfl rfl)
theorem dL_law_37 : decode cL_law 37 = .ok (.invokestatic 42, 3) := dk_184 0 42 (dk_at dksL_law_1 13 rfl rfl)
theorem dL_law_40 : decode cL_law 40 = .ok (.astore 6, 2) := dk_58 6 (dk_at dksL_law_1 16 rfl rfl)
theorem dL_law_42 : decode cL_law 42 = .ok (.aload_n 0, 1) := dk_42 (dk_at dksL_law_1 18 rfl rfl)
theorem dL_law_43 : decode cL_law 43 = .ok (.invokestatic 42, 3) := dk_184 0 42 (dk_at dksL_law_1 19 rfl rfl)
theorem dL_law_46 : decode cL_law 46 = .ok (.astore 7, 2) := dk_58 7 (dk_at dksL_law_1 22 rfl rfl)
theorem dL_law_48 : decode cL_law 48 = .ok (.aload 6, 2) := dk_25 6 (dk_at dksL_law_2 0 rfl rfl)
theorem dL_law_50 : decode cL_law 50 = .ok (.iload 5, 2) := dk_21 5 (dk_at dksL_law_2 2 rfl rfl)
theorem dL_law_52 : decode cL_law 52 = .ok (.invokevirtual 28, 3) := dk_182 0 28 (dk_at dksL_law_2 4 rfl rfl)
theorem dL_law_55 : decode cL_law 55 = .ok (.aload 7, 2) := dk_25 7 (dk_at dksL_law_2 7 rfl rfl)
theorem dL_law_57 : decode cL_law 57 = .ok (.iload 5, 2) := dk_21 5 (dk_at dksL_law_2 9 rfl rfl)
theorem dL_law_59 : decode cL_law 59 = .ok (.invokevirtual 46, 3) := dk_182 0 46 (dk_at dksL_law_2 11 rfl rfl)
theorem dL_law_62 : decode cL_law 62 = .ok (.aload 6, 2) := dk_25 6 (dk_at dksL_law_2 14 rfl rfl)
theorem dL_law_64 : decode cL_law 64 = .ok (.invokevirtual 49, 3) := dk_182 0 49 (dk_at dksL_law_2 16 rfl rfl)
theorem dL_law_67 : decode cL_law 67 = .ok (.aload 6, 2) := dk_25 6 (dk_at dksL_law_2 19 rfl rfl)
theorem dL_law_69 : decode cL_law 69 = .ok (.iload 5, 2) := dk_21 5 (dk_at dksL_law_2 21 rfl rfl)
theorem dL_law_71 : decode cL_law 71 = .ok (.invokevirtual 46, 3) := dk_182 0 46 (dk_at dksL_law_3 0 rfl rfl)
theorem dL_law_74 : decode cL_law 74 = .ok (.aload 7, 2) := dk_25 7 (dk_at dksL_law_3 3 rfl rfl)
theorem dL_law_76 : decode cL_law 76 = .ok (.invokevirtual 49, 3) := dk_182 0 49 (dk_at dksL_law_3 5 rfl rfl)
theorem dL_law_79 : decode cL_law 79 = .ok (.aload 7, 2) := dk_25 7 (dk_at dksL_law_3 8 rfl rfl)
theorem dL_law_81 : decode cL_law 81 = .ok (.iload 5, 2) := dk_21 5 (dk_at dksL_law_3 10 rfl rfl)
theorem dL_law_83 : decode cL_law 83 = .ok (.invokevirtual 28, 3) := dk_182 0 28 (dk_at dksL_law_3 12 rfl rfl)
theorem dL_law_86 : decode cL_law 86 = .ok (.aload 6, 2) := dk_25 6 (dk_at dksL_law_3 15 rfl rfl)
theorem dL_law_88 : decode cL_law 88 = .ok (.aload_n 0, 1) := dk_42 (dk_at dksL_law_3 17 rfl rfl)
theorem dL_law_89 : decode cL_law 89 = .ok (.invokestatic 52, 3) := dk_184 0 52 (dk_at dksL_law_3 18 rfl rfl)
theorem dL_law_92 : decode cL_law 92 = .ok (.ifCond .eq 12, 3) := dk_153 0 12 (dk_at dksL_law_3 21 rfl rfl)
theorem dL_law_95 : decode cL_law 95 = .ok (.aload 7, 2) := dk_25 7 (dk_at dksL_law_4 0 rfl rfl)
theorem dL_law_97 : decode cL_law 97 = .ok (.aload_n 0, 1) := dk_42 (dk_at dksL_law_4 2 rfl rfl)
theorem dL_law_98 : decode cL_law 98 = .ok (.invokestatic 52, 3) := dk_184 0 52 (dk_at dksL_law_4 3 rfl rfl)
theorem dL_law_101 : decode cL_law 101 = .ok (.ifCond .ne 5, 3) := dk_154 0 5 (dk_at dksL_law_4 6 rfl rfl)
theorem dL_law_104 : decode cL_law 104 = .ok (.iconst 0, 1) := dk_3 (dk_at dksL_law_4 9 rfl rfl)
theorem dL_law_105 : decode cL_law 105 = .ok (.ireturn, 1) := dk_172 (dk_at dksL_law_4 10 rfl rfl)
theorem dL_law_106 : decode cL_law 106 = .ok (.iinc 4 1, 3) := dk_132 4 1 (dk_at dksL_law_4 11 rfl rfl)
theorem dL_law_109 : decode cL_law 109 = .ok (.goto (-85), 3) := dk_167 255 171 (dk_at dksL_law_4 14 rfl rfl)
theorem dL_law_112 : decode cL_law 112 = .ok (.iconst 1, 1) := dk_4 (dk_at dksL_law_4 17 rfl rfl)
theorem dL_law_113 : decode cL_law 113 = .ok (.ireturn, 1) := dk_172 (dk_at dksL_law_4 18 rfl rfl)
end
section
/-! ===== Int32 by its bits: bt x i ===== -/
def bt (x : Int32) (i : Nat) : Bool := x.toBitVec.getLsbD i
theorem b_ext {x y : Int32} (h : ∀ i, i < 32 → bt x i = bt y i) : x = y := Int32.toBitVec_inj.mp (BitVec.eq_of_getLsbD_eq (fun i hi => h i hi))
theorem b_or (x y : Int32) (i : Nat) : bt (x ||| y) i = (bt x i || bt y i) := by unfold bt; rw [Int32.toBitVec_or, BitVec.getLsbD_or]
theorem b_and (x y : Int32) (i : Nat) : bt (x &&& y) i = (bt x i && bt y i) := by unfold bt; rw [Int32.toBitVec_and, BitVec.getLsbD_and]
theorem b_xor (x y : Int32) (i : Nat) : bt (x ^^^ y) i = (bt x i ^^ bt y i) := by unfold bt; rw [Int32.toBitVec_xor, BitVec.getLsbD_xor]
theorem b_big {x : Int32} {i : Nat} (h : 32 ≤ i) : bt x i = false := BitVec.getLsbD_of_ge _ _ h
theorem b_255 (i : Nat) : bt 255 i = decide (i < 8) := by
  rcases Nat.lt_or_ge i 32 with h | h
  · exact (by decide +kernel : ∀ i, i < 32 → bt 255 i = decide (i < 8)) i h
  · rw [b_big h, decide_eq_false (by omega)]
theorem b_65535 (i : Nat) : bt 65535 i = decide (i < 16) := by
  rcases Nat.lt_or_ge i 32 with h | h
  · exact (by decide +kernel : ∀ i, i < 32 → bt 65535 i = decide (i < 16)) i h
  · rw [b_big h, decide_eq_false (by omega)]
theorem b_m1 : ∀ i, i < 32 → bt (-1) i = true := by decide +kernel
theorem b_0 (i : Nat) : bt 0 i = false := BitVec.getLsbD_zero
theorem s_l : ∀ n, n < 32 → ((nI n &&& 31).toBitVec.smod 32).toNat = n := by decide +kernel
theorem s_u : ∀ n, n < 32 → (((nI n).toUInt32 &&& Int32.toUInt32 31).toBitVec % 32).toNat = n := by decide +kernel
theorem b_shl (n : Nat) (hn : n < 32) (x : Int32) {i : Nat} (hi : i < 32) : bt (x <<< (nI n &&& 31)) i = (decide (n ≤ i) && bt x (i - n)) := by
  unfold bt
  rw [Int32.toBitVec_shiftLeft]
  show (x.toBitVec <<< ((nI n &&& 31).toBitVec.smod 32).toNat).getLsbD i = _
  rw [s_l n hn, BitVec.getLsbD_shiftLeft]
  rcases Nat.lt_or_ge i n with h | h
  · simp [h, Nat.not_le.mpr h]
  · simp [hi, h, Nat.not_lt.mpr h]
theorem b_ushr (n : Nat) (hn : n < 32) (x : Int32) (i : Nat) : bt ((x.toUInt32 >>> ((nI n).toUInt32 &&& Int32.toUInt32 31)).toInt32) i = bt x (n + i) := by
  show (x.toUInt32 >>> ((nI n).toUInt32 &&& Int32.toUInt32 31)).toBitVec.getLsbD i = x.toUInt32.toBitVec.getLsbD (n + i)
  rw [UInt32.toBitVec_shiftRight]
  show (x.toUInt32.toBitVec >>> (((nI n).toUInt32 &&& Int32.toUInt32 31).toBitVec % 32).toNat).getLsbD i = _
  rw [s_u n hn, BitVec.getLsbD_ushiftRight]
theorem b_sshr (n : Nat) (hn : n < 32) (x : Int32) {i : Nat} (hi : i < 32) : bt (x >>> (nI n &&& 31)) i = if n + i < 32 then bt x (n + i) else bt x 31 := by
  unfold bt
  rw [Int32.toBitVec_shiftRight]
  show (x.toBitVec.sshiftRight ((nI n &&& 31).toBitVec.smod 32).toNat).getLsbD i = _
  rw [s_l n hn, BitVec.getLsbD_sshiftRight, BitVec.msb_eq_getLsbD_last]
  simp [hi]
theorem b_shl8 (x : Int32) {i : Nat} (hi : i < 32) : bt (x <<< ((8 : Int32) &&& 31)) i = (decide (8 ≤ i) && bt x (i - 8)) := b_shl 8 (by omega) x hi
theorem b_shl16 (x : Int32) {i : Nat} (hi : i < 32) : bt (x <<< ((16 : Int32) &&& 31)) i = (decide (16 ≤ i) && bt x (i - 16)) := b_shl 16 (by omega) x hi
theorem b_shl24 (x : Int32) {i : Nat} (hi : i < 32) : bt (x <<< ((24 : Int32) &&& 31)) i = (decide (24 ≤ i) && bt x (i - 24)) := b_shl 24 (by omega) x hi
theorem b_sshr8 (x : Int32) {i : Nat} (hi : i < 32) : bt (x >>> ((8 : Int32) &&& 31)) i = if 8 + i < 32 then bt x (8 + i) else bt x 31 := b_sshr 8 (by omega) x hi
/-! ===== a byte read unsigned ===== -/
theorem bp_b (x : Int32) : x.toInt8.toInt32 &&& 255 = x &&& 255 := by
  apply Int32.toBitVec_inj.mp
  rw [Int32.toBitVec_and, Int32.toBitVec_and, Int8.toBitVec_toInt32, Int32.toBitVec_toInt8]
  apply BitVec.eq_of_getLsbD_eq
  intro i hi
  rw [BitVec.getLsbD_and, BitVec.getLsbD_and]
  have hm : ∀ i < 32, 8 ≤ i → (255 : Int32).toBitVec.getLsbD i = false := by decide
  rcases Nat.lt_or_ge i 8 with z | z
  · rw [BitVec.getLsbD_signExtend, BitVec.getLsbD_signExtend, if_pos z, if_pos hi]
    simp only [z, hi, decide_true, Bool.true_and]
  · rw [hm i hi z]; simp
/-! ===== PURE: the cipher as the bytecode computes it ===== -/
/-- one byte of a byte array set -/
def ub (g : Nat → Int8) (k : Nat) (x : Int8) : Nat → Int8 := fun j => if j = k then x else g j
/-- a byte array's contents, as the cells hold them -/
def b8 (g : Nat → Int8) : Nat → Int32 := fun j => (g j).toInt32
/-- an int array's contents out of a list -/
def lf (l : List Int32) : Nat → Int32 := fun j => l.getD j 0
def rl (x y : Int32) : Int32 := (x <<< ((y &&& 31) &&& 31)) ||| (x.toUInt32 >>> ((32 - (y &&& 31)).toUInt32 &&& Int32.toUInt32 31)).toInt32
def rr (x y : Int32) : Int32 := (x.toUInt32 >>> ((y &&& 31).toUInt32 &&& Int32.toUInt32 31)).toInt32 ||| (x <<< ((32 - (y &&& 31)) &&& 31))
def b2w (g : Nat → Int8) (o : Nat) : Int32 := ((((g o).toInt32 &&& 255) ||| (((g (o + 1)).toInt32 &&& 255) <<< ((8 : Int32) &&& 31))) ||| (((g (o + 2)).toInt32 &&& 255) <<< ((16 : Int32) &&& 31))) ||| (((g (o + 3)).toInt32 &&& 255) <<< ((24 : Int32) &&& 31))
/-- a word laid least byte first -/
def w2b (g : Nat → Int8) (o : Nat) (w : Int32) : Nat → Int8 := ub (ub (ub (ub g o w.toInt8) (o + 1) (w >>> ((8 : Int32) &&& 31)).toInt8) (o + 2) (w >>> ((16 : Int32) &&& 31)).toInt8) (o + 3) (w >>> ((24 : Int32) &&& 31)).toInt8
/-- a word laid greatest byte first -/
def wb (g : Nat → Int8) (o : Nat) (w : Int32) : Nat → Int8 := ub (ub (ub (ub g o (w >>> ((24 : Int32) &&& 31)).toInt8) (o + 1) (w >>> ((16 : Int32) &&& 31)).toInt8) (o + 2) (w >>> ((8 : Int32) &&& 31)).toInt8) (o + 3) w.toInt8
/-- the key's words: k bytes read -/
def kL (g : Nat → Int8) : Nat → List Int32
  | 0 => List.replicate 4 0
  | k + 1 => (kL g k).set (k / 4) ((kL g k).getD (k / 4) 0 + (((g k).toInt32 &&& 255) <<< ((nI 8 * nI (k % 4)) &&& 31)))
/-- the table's start: places 0 .. k laid -/
def sI : Nat → List Int32
  | 0 => (List.replicate 26 0).set 0 (-1209970333)
  | k + 1 => (sI k).set (k + 1) ((sI k).getD k 0 + (-1640531527))
def mxS (S L : List Int32) (A B : Int32) (k : Nat) : List Int32 × List Int32 × Int32 × Int32 :=
  (S.set (k % 26) (rl (S.getD (k % 26) 0 + A + B) 3), L.set (k % 4) (rl (L.getD (k % 4) 0 + rl (S.getD (k % 26) 0 + A + B) 3 + B) (rl (S.getD (k % 26) 0 + A + B) 3 + B)), rl (S.getD (k % 26) 0 + A + B) 3, rl (L.getD (k % 4) 0 + rl (S.getD (k % 26) 0 + A + B) 3 + B) (rl (S.getD (k % 26) 0 + A + B) 3 + B))
/-- the mixing: k rounds -/
def mx (S L : List Int32) : Nat → List Int32 × List Int32 × Int32 × Int32
  | 0 => (S, L, 0, 0)
  | k + 1 => mxS (mx S L k).1 (mx S L k).2.1 (mx S L k).2.2.1 (mx S L k).2.2.2 k
def sched (g : Nat → Int8) : List Int32 := (mx (sI 25) (kL g 16) 78).1
def eS (S : Nat → Int32) (k : Nat) (p : Int32 × Int32) : Int32 × Int32 :=
  (rl (p.1 ^^^ p.2) p.2 + S (2 * k), rl (p.2 ^^^ (rl (p.1 ^^^ p.2) p.2 + S (2 * k))) (rl (p.1 ^^^ p.2) p.2 + S (2 * k)) + S (2 * k + 1))
def eR (S : Nat → Int32) : Nat → Int32 × Int32 → Int32 × Int32
  | 0, p => p
  | k + 1, p => eS S (k + 1) (eR S k p)
def dS (S : Nat → Int32) (k : Nat) (p : Int32 × Int32) : Int32 × Int32 :=
  (rr (p.1 - S (2 * k)) (rr (p.2 - S (2 * k + 1)) p.1 ^^^ p.1) ^^^ (rr (p.2 - S (2 * k + 1)) p.1 ^^^ p.1), rr (p.2 - S (2 * k + 1)) p.1 ^^^ p.1)
def dR (S : Nat → Int32) : Nat → Int32 × Int32 → Int32 × Int32
  | 0, p => p
  | k + 1, p => dR S k (dS S (k + 1) p)
def enc (S : Nat → Int32) (P : Nat → Int8) : Int32 × Int32 := eR S 12 (b2w P 0 + S 0, b2w P 4 + S 1)
def dec (S : Nat → Int32) (P : Nat → Int8) : Int32 × Int32 := ((dR S 12 (b2w P 0, b2w P 4)).1 - S 0, (dR S 12 (b2w P 0, b2w P 4)).2 - S 1)
def crypt (lk : Bool) (S : Nat → Int32) (P O : Nat → Int8) : Nat → Int8 :=
  if lk then w2b (w2b O 0 (enc S P).1) 4 (enc S P).2 else w2b (w2b O 0 (dec S P).1) 4 (dec S P).2
/-! the bits of bytes -/
def bt8 (x : Int8) (i : Nat) : Bool := x.toBitVec.getLsbD i
theorem bt8_ext {x y : Int8} (h : ∀ i, i < 8 → bt8 x i = bt8 y i) : x = y := Int8.toBitVec_inj.mp (BitVec.eq_of_getLsbD_eq (fun i hi => h i hi))
theorem bt8_of (x : Int32) {i : Nat} (hi : i < 8) : bt8 x.toInt8 i = bt x i := by
  unfold bt8 bt
  rw [Int32.toBitVec_toInt8, BitVec.getLsbD_signExtend]
  simp [hi, show i < 32 by omega]
theorem bt_of8 (x : Int8) (i : Nat) : bt (x.toInt32 &&& 255) i = (decide (i < 8) && bt8 x i) := by
  rw [b_and, b_255]
  unfold bt8 bt
  rw [Int8.toBitVec_toInt32, BitVec.getLsbD_signExtend]
  by_cases h : i < 8
  · simp [h, show i < 32 by omega]
  · simp [h]
theorem b_sshr16 (x : Int32) {i : Nat} (hi : i < 32) : bt (x >>> ((16 : Int32) &&& 31)) i = if 16 + i < 32 then bt x (16 + i) else bt x 31 := b_sshr 16 (by omega) x hi
theorem b_sshr24 (x : Int32) {i : Nat} (hi : i < 32) : bt (x >>> ((24 : Int32) &&& 31)) i = if 24 + i < 32 then bt x (24 + i) else bt x 31 := b_sshr 24 (by omega) x hi
theorem b2w_bt (g : Nat → Int8) (o i : Nat) (hi : i < 32) : bt (b2w g o) i = bt8 (g (o + i / 8)) (i % 8) := by
  unfold b2w
  rw [b_or, b_or, b_or, b_shl8 _ hi, b_shl16 _ hi, b_shl24 _ hi, bt_of8, bt_of8, bt_of8, bt_of8]
  rcases (by omega : i < 8 ∨ (8 ≤ i ∧ i < 16) ∨ (16 ≤ i ∧ i < 24) ∨ (24 ≤ i ∧ i < 32)) with h | ⟨h, h2⟩ | ⟨h, h2⟩ | ⟨h, h2⟩
  · rw [show i / 8 = 0 by omega, show i % 8 = i by omega, decide_eq_true h, decide_eq_false (show ¬ 8 ≤ i by omega), decide_eq_false (show ¬ 16 ≤ i by omega), decide_eq_false (show ¬ 24 ≤ i by omega)]
    simp
  · rw [show i / 8 = 1 by omega, show i % 8 = i - 8 by omega, decide_eq_false (show ¬ i < 8 by omega), decide_eq_true h, decide_eq_true (show i - 8 < 8 by omega), decide_eq_false (show ¬ 16 ≤ i by omega), decide_eq_false (show ¬ 24 ≤ i by omega)]
    simp
  · rw [show i / 8 = 2 by omega, show i % 8 = i - 16 by omega, decide_eq_false (show ¬ i < 8 by omega), decide_eq_false (show ¬ i - 8 < 8 by omega), decide_eq_true h, decide_eq_true (show i - 16 < 8 by omega), decide_eq_false (show ¬ 24 ≤ i by omega)]
    simp
  · rw [show i / 8 = 3 by omega, show i % 8 = i - 24 by omega, decide_eq_false (show ¬ i < 8 by omega), decide_eq_false (show ¬ i - 8 < 8 by omega), decide_eq_false (show ¬ i - 16 < 8 by omega), decide_eq_true h, decide_eq_true (show i - 24 < 8 by omega)]
    simp
theorem by_bt (w : Int32) {i : Nat} (hi : i < 8) : bt8 w.toInt8 i = bt w i ∧ bt8 (w >>> ((8 : Int32) &&& 31)).toInt8 i = bt w (8 + i) ∧ bt8 (w >>> ((16 : Int32) &&& 31)).toInt8 i = bt w (16 + i) ∧ bt8 (w >>> ((24 : Int32) &&& 31)).toInt8 i = bt w (24 + i) := by
  refine ⟨bt8_of w hi, ?_, ?_, ?_⟩
  · rw [bt8_of _ hi, b_sshr8 _ (by omega), if_pos (by omega)]
  · rw [bt8_of _ hi, b_sshr16 _ (by omega), if_pos (by omega)]
  · rw [bt8_of _ hi, b_sshr24 _ (by omega), if_pos (by omega)]
/-- the bytes that w2b lays -/
theorem w2b_in (g : Nat → Int8) (o : Nat) (w : Int32) : w2b g o w o = w.toInt8 ∧ w2b g o w (o + 1) = (w >>> ((8 : Int32) &&& 31)).toInt8 ∧ w2b g o w (o + 2) = (w >>> ((16 : Int32) &&& 31)).toInt8 ∧ w2b g o w (o + 3) = (w >>> ((24 : Int32) &&& 31)).toInt8 := by
  refine ⟨?_, ?_, ?_, ?_⟩ <;> simp [w2b, ub]
theorem w2b_out (g : Nat → Int8) (o : Nat) (w : Int32) {j : Nat} (h : j < o ∨ o + 4 ≤ j) : w2b g o w j = g j := by
  simp only [w2b, ub]
  rw [if_neg (by omega), if_neg (by omega), if_neg (by omega), if_neg (by omega)]
/-- a word read where it was laid -/
theorem b2w_w2b (g : Nat → Int8) (o : Nat) (w : Int32) : b2w (w2b g o w) o = w := by
  apply b_ext
  intro i hi
  rw [b2w_bt _ _ _ hi]
  obtain ⟨h0, h1, h2, h3⟩ := w2b_in g o w
  obtain ⟨q0, q1, q2, q3⟩ := by_bt w (i := i % 8) (by omega)
  rcases (by omega : i / 8 = 0 ∨ i / 8 = 1 ∨ i / 8 = 2 ∨ i / 8 = 3) with h | h | h | h
  · rw [h, Nat.add_zero, h0, q0]; exact congrArg (bt w) (by omega)
  · rw [h, h1, q1]; exact congrArg (bt w) (by omega)
  · rw [h, h2, q2]; exact congrArg (bt w) (by omega)
  · rw [h, h3, q3]; exact congrArg (bt w) (by omega)
theorem b2w_ext {g h : Nat → Int8} {o : Nat} (e : ∀ j, j < 4 → g (o + j) = h (o + j)) : b2w g o = b2w h o := by
  have e0 : g o = h o := e 0 (by omega)
  simp only [b2w, e0, e 1 (by omega), e 2 (by omega), e 3 (by omega)]
/-- bytes laid where they were read -/
theorem w2b_b2w (g O : Nat → Int8) (o : Nat) {j : Nat} (h1 : o ≤ j) (h2 : j < o + 4) : w2b O o (b2w g o) j = g j := by
  obtain ⟨h0, h1', h2', h3⟩ := w2b_in O o (b2w g o)
  have key : ∀ (k i : Nat), k < 4 → i < 8 → bt (b2w g o) (8 * k + i) = bt8 (g (o + k)) i := by
    intro k i hk hi
    rw [b2w_bt _ _ _ (by omega), show (8 * k + i) / 8 = k by omega, show (8 * k + i) % 8 = i by omega]
  rcases (by omega : j = o ∨ j = o + 1 ∨ j = o + 2 ∨ j = o + 3) with h | h | h | h
  · rw [h, h0]
    apply bt8_ext
    intro i hi
    rw [(by_bt _ hi).1]
    have := key 0 i (by omega) hi
    simpa using this
  · rw [h, h1']
    apply bt8_ext
    intro i hi
    rw [(by_bt _ hi).2.1]
    exact key 1 i (by omega) hi
  · rw [h, h2']
    apply bt8_ext
    intro i hi
    rw [(by_bt _ hi).2.2.1]
    exact key 2 i (by omega) hi
  · rw [h, h3]
    apply bt8_ext
    intro i hi
    rw [(by_bt _ hi).2.2.2]
    exact key 3 i (by omega) hi
/-! the turns -/
theorem y31 (y : Int32) : ∃ k : Nat, k < 32 ∧ y &&& 31 = nI k := pk_andE y 5 (m := 31) (by decide)
theorem rl_bt (x y : Int32) {k : Nat} (hk : k < 32) (hy : y &&& 31 = nI k) {i : Nat} (hi : i < 32) : bt (rl x y) i = bt x ((i + 32 - k) % 32) := by
  unfold rl
  rw [hy, b_or, b_shl k hk x hi]
  rcases Nat.eq_zero_or_pos k with h | h
  · subst h
    rw [show (32 - nI 0).toUInt32 &&& Int32.toUInt32 31 = (nI 0).toUInt32 &&& Int32.toUInt32 31 from by decide, b_ushr 0 (by omega)]
    rw [show (i + 32 - 0) % 32 = i by omega, Nat.sub_zero, Nat.zero_add]
    simp
  · rw [show (32 : Int32) - nI k = nI (32 - k) from pk_sub (a := 32) (by omega), b_ushr (32 - k) (by omega)]
    by_cases h2 : k ≤ i
    · rw [decide_eq_true h2, b_big (show 32 ≤ 32 - k + i by omega), show (i + 32 - k) % 32 = i - k by omega]
      simp
    · rw [decide_eq_false h2, show (i + 32 - k) % 32 = 32 - k + i by omega]
      simp
theorem rr_bt (x y : Int32) {k : Nat} (hk : k < 32) (hy : y &&& 31 = nI k) {i : Nat} (hi : i < 32) : bt (rr x y) i = bt x ((i + k) % 32) := by
  unfold rr
  rw [hy, b_or, b_ushr k hk]
  rcases Nat.eq_zero_or_pos k with h | h
  · subst h
    rw [show ((32 - nI 0) &&& 31 : Int32) = nI 0 &&& 31 from by decide, b_shl 0 (by omega) x hi]
    rw [show (i + 0) % 32 = i by omega, Nat.sub_zero, Nat.zero_add]
    simp
  · rw [show (32 : Int32) - nI k = nI (32 - k) from pk_sub (a := 32) (by omega), b_shl (32 - k) (by omega) x hi]
    by_cases h2 : 32 - k ≤ i
    · rw [decide_eq_true h2, b_big (show 32 ≤ k + i by omega), show (i + k) % 32 = i - (32 - k) by omega]
      simp
    · rw [decide_eq_false h2, show (i + k) % 32 = k + i by omega]
      simp
theorem rr_rl (x y : Int32) : rr (rl x y) y = x := by
  obtain ⟨k, hk, hy⟩ := y31 y
  apply b_ext
  intro i hi
  rw [rr_bt _ _ hk hy hi, rl_bt _ _ hk hy (by omega)]
  exact congrArg (bt x) (by omega)
theorem rl_rr (x y : Int32) : rl (rr x y) y = x := by
  obtain ⟨k, hk, hy⟩ := y31 y
  apply b_ext
  intro i hi
  rw [rl_bt _ _ hk hy hi, rr_bt _ _ hk hy (by omega)]
  exact congrArg (bt x) (by omega)
/-! the rounds -/
theorem xx (a b : Int32) : a ^^^ b ^^^ b = a := by rw [Int32.xor_assoc, Int32.xor_self, Int32.xor_zero]
theorem as_ (a b : Int32) : a + b - b = a := Int32.add_sub_cancel a b
theorem sa_ (a b : Int32) : a - b + b = a := Int32.sub_add_cancel a b
theorem dS_eS (S : Nat → Int32) (k : Nat) (p : Int32 × Int32) : dS S k (eS S k p) = p := by
  obtain ⟨a, b⟩ := p
  simp only [dS, eS, as_, rr_rl, xx]
theorem eS_dS (S : Nat → Int32) (k : Nat) (p : Int32 × Int32) : eS S k (dS S k p) = p := by
  obtain ⟨a, b⟩ := p
  simp only [dS, eS, xx, rl_rr, sa_]
theorem dR_eR (S : Nat → Int32) : ∀ (n : Nat) (p : Int32 × Int32), dR S n (eR S n p) = p
  | 0, _ => rfl
  | n + 1, p => by
    show dR S n (dS S (n + 1) (eS S (n + 1) (eR S n p))) = p
    rw [dS_eS, dR_eR S n p]
theorem eR_dR (S : Nat → Int32) : ∀ (n : Nat) (p : Int32 × Int32), eR S n (dR S n p) = p
  | 0, _ => rfl
  | n + 1, p => by
    show eS S (n + 1) (eR S n (dR S n (dS S (n + 1) p))) = p
    rw [eR_dR S n, eS_dS]
theorem rd0 (O : Nat → Int8) (a b : Int32) : b2w (w2b (w2b O 0 a) 4 b) 0 = a := by
  rw [b2w_ext (h := w2b O 0 a) (fun j hj => w2b_out _ _ _ (by omega)), b2w_w2b]
theorem rd4 (O : Nat → Int8) (a b : Int32) : b2w (w2b (w2b O 0 a) 4 b) 4 = b := b2w_w2b _ _ _
theorem lay8 (O P : Nat → Int8) {j : Nat} (hj : j < 8) : w2b (w2b O 0 (b2w P 0)) 4 (b2w P 4) j = P j := by
  by_cases h : j < 4
  · rw [w2b_out _ _ _ (by omega), w2b_b2w _ _ _ (by omega) (by omega)]
  · exact w2b_b2w _ _ _ (by omega) (by omega)
/-- THE ROUND TRIP, both ways -/
theorem round_trip (lk : Bool) (S : Nat → Int32) (P O O' : Nat → Int8) {j : Nat} (hj : j < 8) : crypt (!lk) S (crypt lk S P O) O' j = P j := by
  cases lk
  · show w2b (w2b O' 0 (enc S (w2b (w2b O 0 (dec S P).1) 4 (dec S P).2)).1) 4 (enc S (w2b (w2b O 0 (dec S P).1) 4 (dec S P).2)).2 j = P j
    have e : enc S (w2b (w2b O 0 (dec S P).1) 4 (dec S P).2) = (b2w P 0, b2w P 4) := by
      unfold enc
      rw [rd0, rd4]
      unfold dec
      rw [sa_, sa_]
      exact eR_dR S 12 _
    rw [e]
    exact lay8 O' P hj
  · show w2b (w2b O' 0 (dec S (w2b (w2b O 0 (enc S P).1) 4 (enc S P).2)).1) 4 (dec S (w2b (w2b O 0 (enc S P).1) 4 (enc S P).2)).2 j = P j
    have e : dec S (w2b (w2b O 0 (enc S P).1) 4 (enc S P).2) = (b2w P 0, b2w P 4) := by
      unfold dec
      rw [rd0, rd4]
      unfold enc
      rw [show ((eR S 12 (b2w P 0 + S 0, b2w P 4 + S 1)).1, (eR S 12 (b2w P 0 + S 0, b2w P 4 + S 1)).2) = eR S 12 (b2w P 0 + S 0, b2w P 4 + S 1) from rfl, dR_eR]
      show (b2w P 0 + S 0 - S 0, b2w P 4 + S 1 - S 1) = _
      rw [as_, as_]
    rw [e]
    exact lay8 O' P hj
/-! lengths -/
theorem kL_len (g : Nat → Int8) : ∀ k, (kL g k).length = 4
  | 0 => by simp [kL]
  | k + 1 => by simp [kL, kL_len g k]
theorem sI_len : ∀ k, (sI k).length = 26
  | 0 => by simp [sI]
  | k + 1 => by simp [sI, sI_len k]
theorem mx_len (S L : List Int32) : ∀ k, (mx S L k).1.length = S.length ∧ (mx S L k).2.1.length = L.length
  | 0 => ⟨rfl, rfl⟩
  | k + 1 => by
    have h := mx_len S L k
    simp only [mx, mxS, List.length_set]
    exact h
theorem b8_upd (g : Nat → Int8) (k : Nat) (z : Int8) : upd (b8 g) k (vp_nar .byte z.toInt32) = b8 (ub g k z) := by
  funext j
  simp only [upd, b8, ub]
  by_cases h : j = k
  · rw [if_pos h, if_pos h, vp_nar_byte, Int8.toInt8_toInt32]
  · rw [if_neg h, if_neg h]
theorem lf_upd (l : List Int32) {k : Nat} (x : Int32) (h : k < l.length) : upd (lf l) k x = lf (l.set k x) := by
  funext j
  simp only [upd, lf, List.getD_eq_getElem?_getD]
  by_cases e : j = k
  · subst e
    rw [if_pos rfl, List.getElem?_set_self h]
    rfl
  · rw [if_neg e, List.getElem?_set_ne (Ne.symm e)]
/-! what the law asks -/
/-- the script's k-th int, or 0 -/
def cl (xs : Nat → Int32) (L k : Nat) : Int32 := if k < L then xs k else 0
def z8 : Nat → Int8 := fun _ => 0
def key8 (g : Nat → Int8) (h : Nat) (a b c d : Int32) : Nat → Int8 := wb (wb (wb (wb g (16 * h) a) (16 * h + 4) b) (16 * h + 8) c) (16 * h + 12) d
def blk8 (g : Nat → Int8) (a b : Int32) : Nat → Int8 := wb (wb g 0 a) 4 b
/-- the law's own byte j of its two words -/
def want (a b : Int32) (j : Nat) : Int32 := ((if j < 4 then a else b).toUInt32 >>> ((nI (24 - 8 * (j % 4))).toUInt32 &&& Int32.toUInt32 31)).toInt32 &&& 255
theorem sh255 (w : Int32) {n : Nat} (hn : n ≤ 24) : (w >>> (nI n &&& 31)) &&& 255 = (w.toUInt32 >>> ((nI n).toUInt32 &&& Int32.toUInt32 31)).toInt32 &&& 255 := by
  apply b_ext
  intro i hi
  rw [b_and, b_and, b_255, b_sshr n (by omega) w hi, b_ushr n (by omega)]
  by_cases h : i < 8
  · rw [if_pos (by omega)]
  · rw [decide_eq_false h, Bool.and_false, Bool.and_false]
theorem wb_in (g : Nat → Int8) (o : Nat) (w : Int32) {j : Nat} (hj : j < 4) : (wb g o w (o + j)).toInt32 &&& 255 = (w.toUInt32 >>> ((nI (24 - 8 * j)).toUInt32 &&& Int32.toUInt32 31)).toInt32 &&& 255 := by
  rw [← sh255 w (by omega)]
  rcases (by omega : j = 0 ∨ j = 1 ∨ j = 2 ∨ j = 3) with h | h | h | h
  · subst h
    have e : wb g o w (o + 0) = (w >>> ((24 : Int32) &&& 31)).toInt8 := by simp [wb, ub]
    rw [e, bp_b]; rfl
  · subst h
    have e : wb g o w (o + 1) = (w >>> ((16 : Int32) &&& 31)).toInt8 := by simp [wb, ub]
    rw [e, bp_b]; rfl
  · subst h
    have e : wb g o w (o + 2) = (w >>> ((8 : Int32) &&& 31)).toInt8 := by simp [wb, ub]
    rw [e, bp_b]; rfl
  · subst h
    have e : wb g o w (o + 3) = w.toInt8 := by simp [wb, ub]
    rw [e, bp_b]
    apply b_ext
    intro i hi
    rw [b_and, b_and, b_sshr (24 - 8 * 3) (by omega) w hi, if_pos (by omega)]
    simp
theorem wb_out (g : Nat → Int8) (o : Nat) (w : Int32) {j : Nat} (h : j < o ∨ o + 4 ≤ j) : wb g o w j = g j := by
  simp only [wb, ub]
  rw [if_neg (by omega), if_neg (by omega), if_neg (by omega), if_neg (by omega)]
theorem blk_want (g : Nat → Int8) (a b : Int32) {j : Nat} (hj : j < 8) : (blk8 g a b j).toInt32 &&& 255 = want a b j := by
  unfold blk8 want
  by_cases h : j < 4
  · rw [if_pos h, wb_out _ _ _ (by omega)]
    have := wb_in g 0 a h
    rw [Nat.zero_add] at this
    rw [this, Nat.mod_eq_of_lt h]
  · rw [if_neg h]
    have := wb_in (wb g 0 a) 4 b (j := j - 4) (by omega)
    rw [show 4 + (j - 4) = j by omega] at this
    rw [this, show j % 4 = j - 4 by omega]
end
section
/-! ===== the two published vectors ===== -/
def mxT (t : List Int32 × List Int32 × Int32 × Int32) (k : Nat) : List Int32 × List Int32 × Int32 × Int32 := mxS t.1 t.2.1 t.2.2.1 t.2.2.2 k
def mxF : Nat → Nat → List Int32 × List Int32 × Int32 × Int32 → List Int32 × List Int32 × Int32 × Int32
  | _, 0, t => t
  | k, n + 1, t => mxF (k + 1) n (mxT t k)
theorem mx_go (S L : List Int32) : ∀ (n k : Nat), mx S L (k + n) = mxF k n (mx S L k)
  | 0, _ => rfl
  | n + 1, k => by
    rw [show k + (n + 1) = (k + 1) + n by omega, mx_go S L n (k + 1)]
    rfl
theorem w2_ext (O O' : Nat → Int8) (a b : Int32) {j : Nat} (hj : j < 8) : w2b (w2b O 0 a) 4 b j = w2b (w2b O' 0 a) 4 b j := by
  rcases (by omega : j = 0 ∨ j = 1 ∨ j = 2 ∨ j = 3 ∨ j = 4 ∨ j = 5 ∨ j = 6 ∨ j = 7) with h | h | h | h | h | h | h | h <;> subst h <;> rfl
def s0l : List Int32 := [(-1209970333), 1444465436, (-196066091), (-1836597618), 817838151, (-822693376), 1831742393, 191210866, (-1449320661), 1205115108, (-435416419), (-2075947946), 578487823, (-1062043704), 1592392065, (-48139462), (-1688670989), 965764780, (-674766747), 1979669022, 339137495, (-1301394032), 1353041737, (-287489790), (-1928021317), 726414452]
theorem sI_25 : sI 25 = s0l := by decide +kernel
def l0_v0 : List Int32 := [0, 0, 0, 0]
theorem kL_v0 : kL (key8 (key8 z8 0 0 0 0 0) 1 0 0 0 0) 16 = l0_v0 := by decide +kernel
def st_v0_0 : List Int32 × List Int32 × Int32 × Int32 := (s0l, l0_v0, 0, 0)
theorem ma_v0_0 : mx s0l l0_v0 0 = st_v0_0 := rfl
def st_v0_13 : List Int32 × List Int32 × Int32 × Int32 := ([(-1089828067), 1747270886, 1284546523, (-819052595), (-1452840451), 74791064, 955799048, 1748625154, (-1549481319), (-1785282756), 1959443560, (-794327120), (-148054375), (-1062043704), 1592392065, (-48139462), (-1688670989), 965764780, (-674766747), 1979669022, 339137495, (-1301394032), 1353041737, (-287489790), (-1928021317), 726414452], [740490565, (-1829337676), 554084408, 1271074324], (-148054375), 740490565)
set_option maxRecDepth 100000 in
theorem mx_v0_13 : mxF 0 13 st_v0_0 = st_v0_13 := by decide +kernel
theorem ma_v0_13 : mx s0l l0_v0 13 = st_v0_13 := by
  have h := mx_go s0l l0_v0 13 0
  rw [ma_v0_0] at h
  exact h.trans mx_v0_13
def st_v0_26 : List Int32 × List Int32 × Int32 × Int32 := ([(-1089828067), 1747270886, 1284546523, (-819052595), (-1452840451), 74791064, 955799048, 1748625154, (-1549481319), (-1785282756), 1959443560, (-794327120), (-148054375), 538107191, 1736238556, 2127304969, 1702040841, (-704436765), (-923407821), (-1418716458), 1325420415, 1524245757, (-544525745), (-558077645), (-2089061082), (-1086291837)], [(-920623498), (-105798463), (-1385227819), 1688095414], (-1086291837), (-105798463))
set_option maxRecDepth 100000 in
theorem mx_v0_26 : mxF 13 13 st_v0_13 = st_v0_26 := by decide +kernel
theorem ma_v0_26 : mx s0l l0_v0 26 = st_v0_26 := by
  have h := mx_go s0l l0_v0 13 13
  rw [ma_v0_13] at h
  exact h.trans mx_v0_26
def st_v0_39 : List Int32 × List Int32 × Int32 × Int32 := ([(-1075477749), 1629926156, (-2102779562), (-2052484949), 381672344, (-2115676588), (-1823500813), 599105621, 1977224059, (-1532521981), (-880159228), (-791524045), 1544094900, 538107191, 1736238556, 2127304969, 1702040841, (-704436765), (-923407821), (-1418716458), 1325420415, 1524245757, (-544525745), (-558077645), (-2089061082), (-1086291837)], [(-571937806), (-1014893366), (-500447167), 2147413077], 1544094900, (-500447167))
set_option maxRecDepth 100000 in
theorem mx_v0_39 : mxF 26 13 st_v0_26 = st_v0_39 := by decide +kernel
theorem ma_v0_39 : mx s0l l0_v0 39 = st_v0_39 := by
  have h := mx_go s0l l0_v0 13 26
  rw [ma_v0_26] at h
  exact h.trans mx_v0_39
def st_v0_52 : List Int32 × List Int32 × Int32 × Int32 := ([(-1075477749), 1629926156, (-2102779562), (-2052484949), 381672344, (-2115676588), (-1823500813), 599105621, 1977224059, (-1532521981), (-880159228), (-791524045), 1544094900, (-230862494), (-405587961), (-97108214), 1793231684, (-1361469881), 956404748, 1553839484, (-2003170580), (-1350580912), (-102313537), 1432273543, (-1553070925), (-835529511)], [302554462, (-1684829975), (-686303899), (-2057362635)], (-835529511), (-2057362635))
set_option maxRecDepth 100000 in
theorem mx_v0_52 : mxF 39 13 st_v0_39 = st_v0_52 := by decide +kernel
theorem ma_v0_52 : mx s0l l0_v0 52 = st_v0_52 := by
  have h := mx_go s0l l0_v0 13 39
  rw [ma_v0_39] at h
  exact h.trans mx_v0_52
def st_v0_65 : List Int32 × List Int32 × Int32 × Int32 := ([(-1682188088), 439875579, 1190717637, 1175216261, 1895316362, 676037379, 1363022932, (-165548766), 824510045, 296237661, (-735614869), 1899681837, 1266233241, (-230862494), (-405587961), (-97108214), 1793231684, (-1361469881), 956404748, 1553839484, (-2003170580), (-1350580912), (-102313537), 1432273543, (-1553070925), (-835529511)], [1732031392, (-1655513940), 153986407, 1546340626], 1266233241, 1732031392)
set_option maxRecDepth 100000 in
theorem mx_v0_65 : mxF 52 13 st_v0_52 = st_v0_65 := by decide +kernel
theorem ma_v0_65 : mx s0l l0_v0 65 = st_v0_65 := by
  have h := mx_go s0l l0_v0 13 52
  rw [ma_v0_52] at h
  exact h.trans mx_v0_65
def st_v0_78 : List Int32 × List Int32 × Int32 × Int32 := ([(-1682188088), 439875579, 1190717637, 1175216261, 1895316362, 676037379, 1363022932, (-165548766), 824510045, 296237661, (-735614869), 1899681837, 1266233241, 664380637, (-1483727799), (-555841766), 918565270, (-1477459383), 1638370232, 990518571, 1304414838, (-1374281369), 819424010, 1125720836, (-154397647), 1694786432], [1201775462, (-1325381550), 36501199, 1481792207], 1694786432, (-1325381550))
set_option maxRecDepth 100000 in
theorem mx_v0_78 : mxF 65 13 st_v0_65 = st_v0_78 := by decide +kernel
theorem ma_v0_78 : mx s0l l0_v0 78 = st_v0_78 := by
  have h := mx_go s0l l0_v0 13 65
  rw [ma_v0_65] at h
  exact h.trans mx_v0_78
def sk_v0 : List Int32 := [(-1682188088), 439875579, 1190717637, 1175216261, 1895316362, 676037379, 1363022932, (-165548766), 824510045, 296237661, (-735614869), 1899681837, 1266233241, 664380637, (-1483727799), (-555841766), 918565270, (-1477459383), 1638370232, 990518571, 1304414838, (-1374281369), 819424010, 1125720836, (-154397647), 1694786432]
theorem sched_v0 : sched (key8 (key8 z8 0 0 0 0 0) 1 0 0 0 0) = sk_v0 := by
  unfold sched
  rw [kL_v0, sI_25, ma_v0_78]
  rfl
set_option maxRecDepth 100000 in
theorem enc_v0 : enc (lf sk_v0) (blk8 z8 0 0) = ((-287595231), 1838107413) := by decide +kernel
theorem out_v0 : ∀ j, j < 8 → (w2b (w2b z8 0 (-287595231)) 4 1838107413 j).toInt32 &&& 255 = lf [33, 165, 219, 238, 21, 75, 143, 109] j := by decide +kernel
theorem vec_0 (O : Nat → Int8) {j : Nat} (hj : j < 8) : (crypt true (lf (sched (key8 (key8 z8 0 0 0 0 0) 1 0 0 0 0))) (blk8 z8 0 0) O j).toInt32 &&& 255 = lf [33, 165, 219, 238, 21, 75, 143, 109] j := by
  rw [← out_v0 j hj, sched_v0]
  show (w2b (w2b O 0 (enc _ _).1) 4 (enc _ _).2 j).toInt32 &&& 255 = _
  rw [enc_v0, w2_ext O z8 _ _ hj]
def l0_v1 : List Int32 := [424042385, 1370636734, 27612515, (-1848727280)]
theorem kL_v1 : kL (key8 (key8 z8 0 (-1856027111) (-1102990767) 1666557185 279563921) 1 0 0 0 0) 16 = l0_v1 := by decide +kernel
def st_v1_0 : List Int32 × List Int32 × Int32 × Int32 := (s0l, l0_v1, 0, 0)
theorem ma_v1_0 : mx s0l l0_v1 0 = st_v1_0 := rfl
def st_v1_13 : List Int32 × List Int32 × Int32 × Int32 := ([(-1089828067), (-2123654025), (-1415290505), (-1271847355), (-165430703), (-362541427), (-1954466695), 1851490320, 276860629, 1022534358, 437129856, 1673702433, (-2019065465), (-1062043704), 1592392065, (-48139462), (-1688670989), 965764780, (-674766747), 1979669022, 339137495, (-1301394032), 1353041737, (-287489790), (-1928021317), 726414452], [(-738847696), (-532476707), (-1910065490), 1790393856], (-2019065465), (-738847696))
set_option maxRecDepth 100000 in
theorem mx_v1_13 : mxF 0 13 st_v1_0 = st_v1_13 := by decide +kernel
theorem ma_v1_13 : mx s0l l0_v1 13 = st_v1_13 := by
  have h := mx_go s0l l0_v1 13 0
  rw [ma_v1_0] at h
  exact h.trans mx_v1_13
def st_v1_26 : List Int32 × List Int32 × Int32 × Int32 := ([(-1089828067), (-2123654025), (-1415290505), (-1271847355), (-165430703), (-362541427), (-1954466695), 1851490320, 276860629, 1022534358, 437129856, 1673702433, (-2019065465), (-494883848), (-641902465), 2048397019, 683368814, (-128193246), (-717241430), 834285408, 1542196096, (-1531556748), (-1493742396), (-1267885768), 1002296167, 2009960910], [1743759966, 18905076, (-2135349919), (-1510644103)], 2009960910, 18905076)
set_option maxRecDepth 100000 in
theorem mx_v1_26 : mxF 13 13 st_v1_13 = st_v1_26 := by decide +kernel
theorem ma_v1_26 : mx s0l l0_v1 26 = st_v1_26 := by
  have h := mx_go s0l l0_v1 13 13
  rw [ma_v1_13] at h
  exact h.trans mx_v1_26
def st_v1_39 : List Int32 × List Int32 × Int32 × Int32 := ([(-1077631239), 1305500952, (-1365826677), 168681824, 1449182048, (-1870147203), (-653218250), (-2117978465), (-133577168), 1785692360, (-463265746), (-1014195263), 879260245, (-494883848), (-641902465), 2048397019, 683368814, (-128193246), (-717241430), 834285408, 1542196096, (-1531556748), (-1493742396), (-1267885768), 1002296167, 2009960910], [(-263469271), 1532555522, 892602741, 1477365949], 879260245, 892602741)
set_option maxRecDepth 100000 in
theorem mx_v1_39 : mxF 26 13 st_v1_26 = st_v1_39 := by decide +kernel
theorem ma_v1_39 : mx s0l l0_v1 39 = st_v1_39 := by
  have h := mx_go s0l l0_v1 13 26
  rw [ma_v1_26] at h
  exact h.trans mx_v1_39
def st_v1_52 : List Int32 × List Int32 × Int32 × Int32 := ([(-1077631239), 1305500952, (-1365826677), 168681824, 1449182048, (-1870147203), (-653218250), (-2117978465), (-133577168), 1785692360, (-463265746), (-1014195263), 879260245, 1625898514, (-2053781438), 640521222, 1565417484, (-1706648205), 384206141, (-1740223193), 319407126, 1696625088, 514838230, (-1467678503), 1883776432, 626353613], [1643329549, 700854390, (-1131088581), (-1466540391)], 626353613, (-1466540391))
set_option maxRecDepth 100000 in
theorem mx_v1_52 : mxF 39 13 st_v1_39 = st_v1_52 := by decide +kernel
theorem ma_v1_52 : mx s0l l0_v1 52 = st_v1_52 := by
  have h := mx_go s0l l0_v1 13 39
  rw [ma_v1_39] at h
  exact h.trans mx_v1_52
def st_v1_65 : List Int32 × List Int32 × Int32 × Int32 := ([1837325052, 2098580887, 155366409, 855230755, (-1475216638), 1693524456, (-775124146), (-393789841), 1631165371, (-239527642), (-1402596064), (-1575341623), (-735805299), 1625898514, (-2053781438), 640521222, 1565417484, (-1706648205), 384206141, (-1740223193), 319407126, 1696625088, 514838230, (-1467678503), 1883776432, 626353613], [(-894143711), 1064339792, (-1001351848), (-469636109)], (-735805299), (-894143711))
set_option maxRecDepth 100000 in
theorem mx_v1_65 : mxF 52 13 st_v1_52 = st_v1_65 := by decide +kernel
theorem ma_v1_65 : mx s0l l0_v1 65 = st_v1_65 := by
  have h := mx_go s0l l0_v1 13 52
  rw [ma_v1_52] at h
  exact h.trans mx_v1_65
def st_v1_78 : List Int32 × List Int32 × Int32 × Int32 := ([1837325052, 2098580887, 155366409, 855230755, (-1475216638), 1693524456, (-775124146), (-393789841), 1631165371, (-239527642), (-1402596064), (-1575341623), (-735805299), (-32403961), (-779193715), (-1414750697), 403072051, 14782073, 1705472773, 1525277335, 301752972, 2075345695, (-1809153272), (-1292305120), 1462286441, 812805466], [(-913297547), 1839053074, (-642802749), 128185405], 812805466, 1839053074)
set_option maxRecDepth 100000 in
theorem mx_v1_78 : mxF 65 13 st_v1_65 = st_v1_78 := by decide +kernel
theorem ma_v1_78 : mx s0l l0_v1 78 = st_v1_78 := by
  have h := mx_go s0l l0_v1 13 65
  rw [ma_v1_65] at h
  exact h.trans mx_v1_78
def sk_v1 : List Int32 := [1837325052, 2098580887, 155366409, 855230755, (-1475216638), 1693524456, (-775124146), (-393789841), 1631165371, (-239527642), (-1402596064), (-1575341623), (-735805299), (-32403961), (-779193715), (-1414750697), 403072051, 14782073, 1705472773, 1525277335, 301752972, 2075345695, (-1809153272), (-1292305120), 1462286441, 812805466]
theorem sched_v1 : sched (key8 (key8 z8 0 (-1856027111) (-1102990767) 1666557185 279563921) 1 0 0 0 0) = sk_v1 := by
  unfold sched
  rw [kL_v1, sI_25, ma_v1_78]
  rfl
set_option maxRecDepth 100000 in
theorem enc_v1 : enc (lf sk_v1) (blk8 z8 564517870 357273453) = ((-1407991561), 1384721243) := by decide +kernel
theorem out_v1 : ∀ j, j < 8 → (w2b (w2b z8 0 (-1407991561)) 4 1384721243 j).toInt32 &&& 255 = lf [247, 192, 19, 172, 91, 43, 137, 82] j := by decide +kernel
theorem vec_1 (O : Nat → Int8) {j : Nat} (hj : j < 8) : (crypt true (lf (sched (key8 (key8 z8 0 (-1856027111) (-1102990767) 1666557185 279563921) 1 0 0 0 0))) (blk8 z8 564517870 357273453) O j).toInt32 &&& 255 = lf [247, 192, 19, 172, 91, 43, 137, 82] j := by
  rw [← out_v1 j hj, sched_v1]
  show (w2b (w2b O 0 (enc _ _).1) 4 (enc _ _).2 j).toInt32 &&& 255 = _
  rw [enc_v1, w2_ext O z8 _ _ hj]
end
section
/-! ===== HELPER ROWS: what every contract carries; calls; arrays by natural indices ===== -/
set_option maxRecDepth 100000
abbrev vwCl : List vw_C := [(RX1, TX1, 3), (RX2, TX2, 3), (RX3, TX3, 1)]
abbrev rcT (dB dN : ClassId) : List (ClassId × FieldType) := [(dB, .byte), (dN, .int)]
def mInit : MethodName := ⟨"BlockCipher", "init", "(ZLCipherParameters;)V"⟩
def mProc : MethodName := ⟨"BlockCipher", "processBlock", "([BI[BI)I"⟩
/-- what no list of words carries: KeyParameter is no RC5Parameters; the interface's two entries -/
def rcX (U : State) : Prop := va_Nc RX3 RX4 U ∧ va_Fw RX2 mInit yX2_init_2 U ∧ va_Fw RX2 mProc yX2_processBlock U
theorem rcX.moved {u U : State} (hvm : u.vm.Alike U.vm) (h : rcX u) : rcX U := ⟨h.1.moved hvm, va_Fw.moved (by decide +kernel) hvm h.2.1, va_Fw.moved (by decide +kernel) hvm h.2.2⟩
def rK (D : va_G) (dB dN : ClassId) (U : State) : Prop := va_K D vwCl (rcT dB dN) U ∧ rcX U
theorem rK.moved {D : va_G} {dB dN : ClassId} {u U : State} (hvm : u.vm.Alike U.vm) (h : rK D dB dN u) : rK D dB dN U := ⟨va_K.moved hvm h.1, rcX.moved hvm h.2⟩
/-- a start of a method that writes: its world, of whose cells it may change any -/
def wM (D : va_G) (dB dN : ClassId) (ws : va_W) (sz : Nat) : State → Prop := fun U => U.heap.size = sz ∧ va_P D vwCl ws U.heap ∧ rK D dB dN U ∧ va_D (fun _ => True) ws
/-- a start of a method that only reads -/
def wS (D : va_G) (dB dN : ClassId) (ws : va_W) : State → Prop := fun U => va_P D vwCl ws U.heap ∧ rK D dB dN U
/-- the same, with the script -/
def wMX (b L : Nat) (xs : Nat → Int32) (D : va_G) (dB dN : ClassId) (ws : va_W) (sz : Nat) : State → Prop := fun U => wM D dB dN ws sz U ∧ va_X b L xs U U.heap ∧ b < sz
def wSX (b L : Nat) (xs : Nat → Int32) (D : va_G) (dB dN : ClassId) (ws : va_W) : State → Prop := fun U => wS D dB dN ws U ∧ va_X b L xs U U.heap
section RB
variable {D : va_G} {dB dN : ClassId} {ws wc : va_W} {sz : Nat} {av As : List Value} {H : Heap} {A : Nat → Prop} {s : State} {b L : Nat} {xs : Nat → Int32}
theorem wM_blind : FrameBlind (va_Pc av (wM D dB dN ws sz)) := fun a U g mk q => by
  obtain ⟨q0, q1, qP, qK, qD⟩ := q
  exact ⟨q0, q1, qP, rK.moved (u := U) (U := U.calling g mk a) (Vm.Alike.refl U.vm) qK, qD⟩
theorem wS_blind : FrameBlind (va_Pc av (wS D dB dN ws)) := fun a U g mk q => by
  obtain ⟨q0, qP, qK⟩ := q
  exact ⟨q0, qP, rK.moved (u := U) (U := U.calling g mk a) (Vm.Alike.refl U.vm) qK⟩
theorem wMX_blind : FrameBlind (va_Pc av (wMX b L xs D dB dN ws sz)) := fun a U g mk q => by
  obtain ⟨q0, ⟨q1, qP, qK, qD⟩, qX, qb⟩ := q
  exact ⟨q0, ⟨q1, qP, rK.moved (u := U) (U := U.calling g mk a) (Vm.Alike.refl U.vm) qK, qD⟩, va_X.moved (u := U) (U := U.calling g mk a) (Vm.Alike.refl U.vm) qX, qb⟩
theorem wSX_blind : FrameBlind (va_Pc av (wSX b L xs D dB dN ws)) := fun a U g mk q => by
  obtain ⟨q0, ⟨qP, qK⟩, qX⟩ := q
  exact ⟨q0, ⟨qP, rK.moved (u := U) (U := U.calling g mk a) (Vm.Alike.refl U.vm) qK⟩, va_X.moved (u := U) (U := U.calling g mk a) (Vm.Alike.refl U.vm) qX⟩
theorem w_cut {D : va_G} {cl : List vw_C} (hP : va_P D cl ws H) (isC : List Nat) (hC : isC.map (fun i => ws[i]?) = wc.map some) : va_P D cl wc H := by
  intro k q hk
  have h1 : (isC.map (fun i => ws[i]?))[k]? = some (some q) := by rw [hC, List.getElem?_map, hk]; rfl
  rw [List.getElem?_map] at h1
  cases hi : isC[k]? with
  | none => rw [hi] at h1; cases h1
  | some i => rw [hi] at h1; exact hP i q (Option.some.inj h1)
theorem wM_S (hP : va_P D vwCl ws H) (hK : rK D dB dN s) (hD : va_D A ws) (isC : List Nat) (hC : isC.map (fun i => ws[i]?) = wc.map some) (hn : va_nd isC = true) : PreS s H (va_Pc As (wM D dB dN wc H.size)) As :=
  ⟨wM_blind, fun U hU hW => ⟨rfl, by rw [hU], by rw [hU]; exact w_cut hP isC hC, rK.moved hW.alike hK, (hD.sub isC hn hC).weaken (fun _ _ _ _ => trivial)⟩⟩
theorem wM_V {a ci q0 N : Nat} {C : String} {T : u_T} {fs : List Value} (hP : va_P D vwCl ws H) (hK : rK D dB dN s) (hD : va_D A ws) (isC : List Nat) (hC : isC.map (fun i => ws[i]?) = wc.map some) (hn : va_nd isC = true) (hc : vwCl[ci]? = some (C, T, N)) (he : ws[q0]? = some (a, .inr (ci, fs))) : PreV s H C a (va_Pc (.ref a :: As) (wM D dB dN wc H.size)) As :=
  ⟨wM_blind, va_recv hK.1 hP hc he, (wM_S hP hK hD isC hC hn).2⟩
theorem wS_S (hP : va_P D vwCl ws H) (hK : rK D dB dN s) (isC : List Nat) (hC : isC.map (fun i => ws[i]?) = wc.map some) : PreS s H (va_Pc As (wS D dB dN wc)) As :=
  ⟨wS_blind, fun U hU hW => ⟨rfl, by rw [hU]; exact w_cut hP isC hC, rK.moved hW.alike hK⟩⟩
theorem wS_V {a ci q0 N : Nat} {C : String} {T : u_T} {fs : List Value} (hP : va_P D vwCl ws H) (hK : rK D dB dN s) (isC : List Nat) (hC : isC.map (fun i => ws[i]?) = wc.map some) (hc : vwCl[ci]? = some (C, T, N)) (he : ws[q0]? = some (a, .inr (ci, fs))) : PreV s H C a (va_Pc (.ref a :: As) (wS D dB dN wc)) As :=
  ⟨wS_blind, va_recv hK.1 hP hc he, (wS_S hP hK isC hC).2⟩
theorem wMX_S (hP : va_P D vwCl ws H) (hK : rK D dB dN s) (hD : va_D A ws) (hX : va_X b L xs s H) (isC : List Nat) (hC : isC.map (fun i => ws[i]?) = wc.map some) (hn : va_nd isC = true) : PreS s H (va_Pc As (wMX b L xs D dB dN wc H.size)) As :=
  ⟨wMX_blind, fun U hU hW => ⟨rfl, ⟨by rw [hU], by rw [hU]; exact w_cut hP isC hC, rK.moved hW.alike hK, (hD.sub isC hn hC).weaken (fun _ _ _ _ => trivial)⟩, by rw [hU]; exact va_X.moved hW.alike hX, by obtain ⟨scr, h1, -⟩ := hX; exact (Array.getElem?_eq_some_iff.mp h1).1⟩⟩
theorem wSX_S (hP : va_P D vwCl ws H) (hK : rK D dB dN s) (hX : va_X b L xs s H) (isC : List Nat) (hC : isC.map (fun i => ws[i]?) = wc.map some) : PreS s H (va_Pc As (wSX b L xs D dB dN wc)) As :=
  ⟨wSX_blind, fun U hU hW => ⟨rfl, ⟨by rw [hU]; exact w_cut hP isC hC, rK.moved hW.alike hK⟩, by rw [hU]; exact va_X.moved hW.alike hX⟩⟩
/-- a byte array's contents matter within it alone -/
theorem cell_cg {cA : ClassId} {n : Nat} {f g : Nat → Int32} (h : ∀ j, j < n → f j = g j) : vp_cell cA (n, .inl f) = vp_cell cA (n, .inl g) := by
  rw [vp_cell_i, vp_cell_i]
  unfold arrV
  congr 2
  funext j
  exact congrArg Value.int (h j.val j.isLt)
theorem va_P.cg {D : va_G} {cl : List vw_C} (hP : va_P D cl ws H) (q0 : Nat) {a : Nat} {cA : ClassId} {n : Nat} {f : Nat → Int32} (g : Nat → Int32) (ha : ws[q0]? = some (a, .inl (cA, n, .inl f))) (h : ∀ j, j < n → f j = g j) : va_P D cl (ws.set q0 (a, .inl (cA, n, .inl g))) H := by
  have hl := (List.getElem?_eq_some_iff.mp ha).1
  intro k q hk
  by_cases hkp : k = q0
  · subst hkp
    rw [List.getElem?_set_self hl] at hk
    cases hk
    show H[a]? = some (vp_cell cA (n, .inl g))
    rw [← cell_cg h]
    exact hP k _ ha
  · rw [List.getElem?_set_ne (Ne.symm hkp)] at hk
    exact hP k q hk
end RB
/-- an end: the world behind -/
def wQ (D : va_G) {S : Type} (Wf : S → va_W) (A : Nat → Prop) : S → State → Prop := fun u t => va_P D vwCl (Wf u) t.heap ∧ va_D A (Wf u)
def wQr (D : va_G) {S : Type} (Wf : S → Nat → va_W) (A : Nat → Prop) : S → Nat → State → Prop := fun u a t => va_P D vwCl (Wf u a) t.heap ∧ va_D A (Wf u a)
section RC
variable {p : Program} {l : Launch} {e : Env} {R : Room} {s : State} {m : MethodId} {args : Array Value} {below : List Frame} {meth : Method} {c : Code} {H : Heap} {locs : List Loc} {cells slots : Nat} {Q : State → Prop}
variable {cc : ByteArray} {pc : Nat} {ls : Array Slot} {rest st0 : List Value} {D : va_G} {dB dN : ClassId} {A A0 : Nat → Prop} {a : Nat} {ws wc wr : va_W} {H0 : Heap} {mc ms : Nat} {av : Array Value}
theorem rc_callv {S : Type} {post : S → Prop} {Wf : S → va_W} (hr : va_Run p l e R s m args below meth c H locs cells slots mc ms (F0 m pc ls st0) rest (va_Qv post (wQ D Wf (va_A wc H.size)) (va_A wc H.size) av) (va_A wc H.size)) (hP : va_P D vwCl ws H) (hD : va_D A0 ws) (hS : va_S A0 H0 H locs) (hA : ∀ q, H0.size ≤ q → A0 q) (isC isR : List Nat) (hC : isC.map (fun i => ws[i]?) = wc.map some) (hR : isR.map (fun i => ws[i]?) = wr.map some) (hn : va_nd isR = true) (hdis : ∀ i ∈ isR, i ∉ isC)
    (kk : ∀ (u : S) (H1 : Heap) (locs1 : List Loc), post u → va_P D vwCl (wr ++ Wf u) H1 → va_D A0 (wr ++ Wf u) → va_S A0 H0 H1 locs1 → W p l e R s m args below meth c H1 locs1 (cells + mc) (slots + ms) Q (F0 m (pc + 3) ls rest)) : W p l e R s m args below meth c H locs cells slots Q (F0 m pc ls st0) := by
  have hF := va_free (wc := wc) hD hS hA isC hC
  refine va_callv hr hS (fun q _ h => hF q h) hF (fun u t H1 locs1 ht hvm hw hB hz1 hk1 hS1 => ?_)
  obtain ⟨hP1, hD1⟩ := hB
  rw [ht] at hP1
  obtain ⟨hP2, hD2⟩ := va_join (wr := wr) (w1 := Wf u) hP hD isC isR hC hR hn hdis hk1 hF hP1 hD1
  exact kk u H1 locs1 hw hP2 hD2 hS1
theorem rc_calli {S : Type} {post : Int32 → S → Prop} {Wf : S → va_W} (hr : va_Run p l e R s m args below meth c H locs cells slots mc ms (F0 m pc ls st0) rest (va_Qi post (wQ D Wf (va_A wc H.size)) (va_A wc H.size) av) (va_A wc H.size)) (hP : va_P D vwCl ws H) (hD : va_D A0 ws) (hS : va_S A0 H0 H locs) (hA : ∀ q, H0.size ≤ q → A0 q) (isC isR : List Nat) (hC : isC.map (fun i => ws[i]?) = wc.map some) (hR : isR.map (fun i => ws[i]?) = wr.map some) (hn : va_nd isR = true) (hdis : ∀ i ∈ isR, i ∉ isC)
    (kk : ∀ (r : Int32) (u : S) (H1 : Heap) (locs1 : List Loc), post r u → va_P D vwCl (wr ++ Wf u) H1 → va_D A0 (wr ++ Wf u) → va_S A0 H0 H1 locs1 → W p l e R s m args below meth c H1 locs1 (cells + mc) (slots + ms) Q (F0 m (pc + 3) ls (.int r :: rest))) : W p l e R s m args below meth c H locs cells slots Q (F0 m pc ls st0) := by
  have hF := va_free (wc := wc) hD hS hA isC hC
  refine va_calli hr hS (fun q _ h => hF q h) hF (fun r u t H1 locs1 ht hvm hw hB hz1 hk1 hS1 => ?_)
  obtain ⟨hP1, hD1⟩ := hB
  rw [ht] at hP1
  obtain ⟨hP2, hD2⟩ := va_join (wr := wr) (w1 := Wf u) hP hD isC isR hC hR hn hdis hk1 hF hP1 hD1
  exact kk r u H1 locs1 hw hP2 hD2 hS1
theorem rc_callr {S : Type} {post : S → Prop} {Wf : S → Nat → va_W} (hr : va_Run p l e R s m args below meth c H locs cells slots mc ms (F0 m pc ls st0) rest (va_Qr post (wQr D Wf (va_A wc H.size)) (va_A wc H.size) av) (va_A wc H.size)) (hP : va_P D vwCl ws H) (hD : va_D A0 ws) (hS : va_S A0 H0 H locs) (hA : ∀ q, H0.size ≤ q → A0 q) (isC isR : List Nat) (hC : isC.map (fun i => ws[i]?) = wc.map some) (hR : isR.map (fun i => ws[i]?) = wr.map some) (hn : va_nd isR = true) (hdis : ∀ i ∈ isR, i ∉ isC)
    (kk : ∀ (u : S) (ra : Nat) (H1 : Heap) (locs1 : List Loc), post u → va_P D vwCl (wr ++ Wf u ra) H1 → va_D A0 (wr ++ Wf u ra) → va_S A0 H0 H1 locs1 → W p l e R s m args below meth c H1 locs1 (cells + mc) (slots + ms) Q (F0 m (pc + 3) ls (.ref ra :: rest))) : W p l e R s m args below meth c H locs cells slots Q (F0 m pc ls st0) := by
  have hF := va_free (wc := wc) hD hS hA isC hC
  refine va_callr hr hS (fun q _ h => hF q h) hF (fun u ra t H1 locs1 ht hvm hw hB hz1 hk1 hS1 => ?_)
  obtain ⟨hP1, hD1⟩ := hB
  rw [ht] at hP1
  obtain ⟨hP2, hD2⟩ := va_join (wr := wr) (w1 := Wf u ra) hP hD isC isR hC hR hn hdis hk1 hF hP1 hD1
  exact kk u ra H1 locs1 hw hP2 hD2 hS1
theorem rc_callFv {S : Type} {post : S → Prop} {Wf : S → va_W} (hr : va_Run5 p l e R s m args below meth c H locs cells slots mc ms (F0 m pc ls st0) rest (va_Qv post (wQ D Wf (va_A wc H.size)) (va_A wc H.size) av) (va_A wc H.size)) (hP : va_P D vwCl ws H) (hD : va_D A0 ws) (hS : va_S A0 H0 H locs) (hA : ∀ q, H0.size ≤ q → A0 q) (isC isR : List Nat) (hC : isC.map (fun i => ws[i]?) = wc.map some) (hR : isR.map (fun i => ws[i]?) = wr.map some) (hn : va_nd isR = true) (hdis : ∀ i ∈ isR, i ∉ isC)
    (kk : ∀ (u : S) (H1 : Heap) (locs1 : List Loc), post u → va_P D vwCl (wr ++ Wf u) H1 → va_D A0 (wr ++ Wf u) → va_S A0 H0 H1 locs1 → W p l e R s m args below meth c H1 locs1 (cells + mc) (slots + ms) Q (F0 m (pc + 5) ls rest)) : W p l e R s m args below meth c H locs cells slots Q (F0 m pc ls st0) := by
  have hF := va_free (wc := wc) hD hS hA isC hC
  refine va_callFv hr hS (fun q _ h => hF q h) hF (fun u t H1 locs1 ht hvm hw hB hz1 hk1 hS1 => ?_)
  obtain ⟨hP1, hD1⟩ := hB
  rw [ht] at hP1
  obtain ⟨hP2, hD2⟩ := va_join (wr := wr) (w1 := Wf u) hP hD isC isR hC hR hn hdis hk1 hF hP1 hD1
  exact kk u H1 locs1 hw hP2 hD2 hS1
theorem rc_callFi {S : Type} {post : Int32 → S → Prop} {Wf : S → va_W} (hr : va_Run5 p l e R s m args below meth c H locs cells slots mc ms (F0 m pc ls st0) rest (va_Qi post (wQ D Wf (va_A wc H.size)) (va_A wc H.size) av) (va_A wc H.size)) (hP : va_P D vwCl ws H) (hD : va_D A0 ws) (hS : va_S A0 H0 H locs) (hA : ∀ q, H0.size ≤ q → A0 q) (isC isR : List Nat) (hC : isC.map (fun i => ws[i]?) = wc.map some) (hR : isR.map (fun i => ws[i]?) = wr.map some) (hn : va_nd isR = true) (hdis : ∀ i ∈ isR, i ∉ isC)
    (kk : ∀ (r : Int32) (u : S) (H1 : Heap) (locs1 : List Loc), post r u → va_P D vwCl (wr ++ Wf u) H1 → va_D A0 (wr ++ Wf u) → va_S A0 H0 H1 locs1 → W p l e R s m args below meth c H1 locs1 (cells + mc) (slots + ms) Q (F0 m (pc + 5) ls (.int r :: rest))) : W p l e R s m args below meth c H locs cells slots Q (F0 m pc ls st0) := by
  have hF := va_free (wc := wc) hD hS hA isC hC
  refine va_callFi hr hS (fun q _ h => hF q h) hF (fun r u t H1 locs1 ht hvm hw hB hz1 hk1 hS1 => ?_)
  obtain ⟨hP1, hD1⟩ := hB
  rw [ht] at hP1
  obtain ⟨hP2, hD2⟩ := va_join (wr := wr) (w1 := Wf u) hP hD isC isR hC hR hn hdis hk1 hF hP1 hD1
  exact kk r u H1 locs1 hw hP2 hD2 hS1
/-- the top by another name of the same int -/
theorem rc_top {x y : Int32} (h : x = y) (k : W p l e R s m args below meth c H locs cells slots Q (F0 m pc ls (.int y :: rest))) : W p l e R s m args below meth c H locs cells slots Q (F0 m pc ls (.int x :: rest)) := by
  rw [h]
  exact k
section RA
variable {cl : List vw_C} {tys : List (ClassId × FieldType)}
theorem rc_bald (hexec : p.tables.exec = Jvm.exec) (hb : c.code = cc) (hK : va_K D cl tys s) (hP : va_P D cl ws H) (q0 t0 : Nat) {cA : ClassId} {n : Nat} {g : Nat → Int8} (ha : ws[q0]? = some (a, .inl (cA, n, .inl (b8 g)))) (ht : tys[t0]? = some (cA, .byte)) {i : Int32} (j : Nat) (hi : i = nI j) (hj : j < n) (hn : n < 2 ^ 31) (hdg : decode cc pc = .ok (.baload, 1))
    (kk : W p l e R s m args below meth c H locs cells slots Q (F0 m (pc + 1) ls (.int (g j).toInt32 :: rest))) : W p l e R s m args below meth c H locs cells slots Q (F0 m pc ls (.int i :: .ref a :: rest)) := by
  subst hi
  refine va_bald hexec hb hK hP q0 t0 ha ht (vp_in_nI hj hn) hdg ?_
  rw [nI_clamp (by omega)]
  exact kk
theorem rc_bast (hexec : p.tables.exec = Jvm.exec) (hb : c.code = cc) (hK : va_K D cl tys s) (hP : va_P D cl ws H) (hD : va_D A ws) (hS : va_S A H0 H locs) (q0 t0 : Nat) {cA : ClassId} {n : Nat} {g : Nat → Int8} (ha : ws[q0]? = some (a, .inl (cA, n, .inl (b8 g)))) (ht : tys[t0]? = some (cA, .byte)) {i : Int32} {z : Int8} (j : Nat) (hi : i = nI j) (hj : j < n) (hn : n < 2 ^ 31) (hdg : decode cc pc = .ok (.bastore, 1))
    (kk : ∀ (H1 : Heap) (locs1 : List Loc), va_P D cl (ws.set q0 (a, .inl (cA, n, .inl (b8 (ub g j z))))) H1 → va_D A (ws.set q0 (a, .inl (cA, n, .inl (b8 (ub g j z))))) → va_S A H0 H1 locs1 → W p l e R s m args below meth c H1 locs1 cells slots Q (F0 m (pc + 1) ls rest)) : W p l e R s m args below meth c H locs cells slots Q (F0 m pc ls (.int z.toInt32 :: .int i :: .ref a :: rest)) := by
  subst hi
  refine va_bast hexec hb hK hP hD hS q0 t0 ha ht (vp_in_nI hj hn) hdg (fun H1 locs1 h1 h2 h3 => ?_)
  rw [nI_clamp (by omega), b8_upd] at h1 h2
  exact kk H1 locs1 h1 h2 h3
theorem rc_iald (hexec : p.tables.exec = Jvm.exec) (hb : c.code = cc) (hK : va_K D cl tys s) (hP : va_P D cl ws H) (q0 t0 : Nat) {cA : ClassId} {n : Nat} {f : Nat → Int32} (ha : ws[q0]? = some (a, .inl (cA, n, .inl f))) (ht : tys[t0]? = some (cA, .int)) {i : Int32} (j : Nat) (hi : i = nI j) (hj : j < n) (hn : n < 2 ^ 31) (hdg : decode cc pc = .ok (.iaload, 1))
    (kk : W p l e R s m args below meth c H locs cells slots Q (F0 m (pc + 1) ls (.int (f j) :: rest))) : W p l e R s m args below meth c H locs cells slots Q (F0 m pc ls (.int i :: .ref a :: rest)) := by
  subst hi
  refine va_iald hexec hb hK hP q0 t0 ha ht (vp_in_nI hj hn) hdg ?_
  rw [nI_clamp (by omega)]
  exact kk
theorem rc_iast (hexec : p.tables.exec = Jvm.exec) (hb : c.code = cc) (hK : va_K D cl tys s) (hP : va_P D cl ws H) (hD : va_D A ws) (hS : va_S A H0 H locs) (q0 t0 : Nat) {cA : ClassId} {n : Nat} {li : List Int32} (ha : ws[q0]? = some (a, .inl (cA, n, .inl (lf li)))) (ht : tys[t0]? = some (cA, .int)) {i x : Int32} (j : Nat) (hi : i = nI j) (hl : li.length = n) (hj : j < n) (hn : n < 2 ^ 31) (hdg : decode cc pc = .ok (.iastore, 1))
    (kk : ∀ (H1 : Heap) (locs1 : List Loc), va_P D cl (ws.set q0 (a, .inl (cA, n, .inl (lf (li.set j x))))) H1 → va_D A (ws.set q0 (a, .inl (cA, n, .inl (lf (li.set j x))))) → va_S A H0 H1 locs1 → W p l e R s m args below meth c H1 locs1 cells slots Q (F0 m (pc + 1) ls rest)) : W p l e R s m args below meth c H locs cells slots Q (F0 m pc ls (.int x :: .int i :: .ref a :: rest)) := by
  subst hi
  refine va_iast hexec hb hK hP hD hS q0 t0 ha ht (vp_in_nI hj hn) hdg (fun H1 locs1 h1 h2 h3 => ?_)
  rw [nI_clamp (by omega), lf_upd li x (by omega)] at h1 h2
  exact kk H1 locs1 h1 h2 h3
end RA
theorem rc_newb (hexec : p.tables.exec = Jvm.exec) (hb : c.code = cc) (hts : ∀ w ∈ lw_all, w.before args s = true) (hK : rK D dB dN s) (hP : va_P D vwCl ws H) (hD : va_D A ws) (hS : va_S A H0 H locs) (hA : ∀ q, H0.size ≤ q → A q) {n : Int32} (N : Nat) (hn : n = nI N) (hN : N ≤ 1000) (hcells : cells + 1 ≤ R.cells) (hslots : slots + N ≤ R.slots) (hdg : decode cc pc = .ok (.newarray .byte, 2))
    (kk : ∀ (q : Nat) (H1 : Heap), va_P D vwCl (ws ++ [(q, .inl (dB, N, .inl (b8 z8)))]) H1 → va_D A (ws ++ [(q, .inl (dB, N, .inl (b8 z8)))]) → va_S A H0 H1 locs → W p l e R s m args below meth c H1 locs (cells + 1) (slots + N) Q (F0 m (pc + 2) ls (.ref q :: rest))) : W p l e R s m args below meth c H locs cells slots Q (F0 m pc ls (.int n :: rest)) := by
  subst hn
  refine va_newa (atype := .byte) (ty := .byte) (N' := N) (a0 := (N, .inl (b8 z8))) hexec hb (hts _ q48) rfl hK.1 hP hD hS hA (fun cA => by rw [vp_cell_i]; rfl) (nI_pos (by omega)) (nI_clamp (by omega)) (by show N * 1 ≤ _; omega) hcells hslots hdg (fun q cA H1 hK1 hP1 hD1 hS1 => ?_)
  have e : cA = dB := Option.some.inj ((va_nm_byte (hK1.2 2 (cA, .byte) rfl).2).symm.trans (va_nm_byte (hK.1.2 0 (dB, .byte) rfl).2))
  subst e
  exact kk q H1 hP1 hD1 hS1
theorem lf_rep (N : Nat) : lf (List.replicate N 0) = fun _ => 0 := by
  funext j
  simp only [lf, List.getD_eq_getElem?_getD, List.getElem?_replicate]
  split <;> rfl
theorem rc_newi (hexec : p.tables.exec = Jvm.exec) (hb : c.code = cc) (hts : ∀ w ∈ lw_all, w.before args s = true) (hK : rK D dB dN s) (hP : va_P D vwCl ws H) (hD : va_D A ws) (hS : va_S A H0 H locs) (hA : ∀ q, H0.size ≤ q → A q) {n : Int32} (N : Nat) (hn : n = nI N) (hN : N ≤ 1000) (hcells : cells + 1 ≤ R.cells) (hslots : slots + N ≤ R.slots) (hdg : decode cc pc = .ok (.newarray .int, 2))
    (kk : ∀ (q : Nat) (H1 : Heap), va_P D vwCl (ws ++ [(q, .inl (dN, N, .inl (lf (List.replicate N 0))))]) H1 → va_D A (ws ++ [(q, .inl (dN, N, .inl (lf (List.replicate N 0))))]) → va_S A H0 H1 locs → W p l e R s m args below meth c H1 locs (cells + 1) (slots + N) Q (F0 m (pc + 2) ls (.ref q :: rest))) : W p l e R s m args below meth c H locs cells slots Q (F0 m pc ls (.int n :: rest)) := by
  subst hn
  refine va_newa (atype := .int) (ty := .int) (N' := N) (a0 := (N, .inl (lf (List.replicate N 0)))) hexec hb (hts _ q167) rfl hK.1 hP hD hS hA (fun cA => by rw [lf_rep, vp_cell_i]; rfl) (nI_pos (by omega)) (nI_clamp (by omega)) (by show N * 4 ≤ _; omega) hcells hslots hdg (fun q cA H1 hK1 hP1 hD1 hS1 => ?_)
  have e : cA = dN := Option.some.inj ((va_nm_int (hK1.2 2 (cA, .int) rfl).2).symm.trans (va_nm_int (hK.1.2 1 (dN, .int) rfl).2))
  subst e
  exact kk q H1 hP1 hD1 hS1
/-! branches by naturals -/
theorem rc_ge {x y : Int32} {off : Int} {tgt : Nat} (i j : Nat) (hx' : x = nI i) (hy' : y = nI j) (hi : i < 2 ^ 31) (hj : j < 2 ^ 31) (hexec : p.tables.exec = Jvm.exec) (hb : c.code = cc) (hdg : decode cc pc = .ok (.if_icmp .ge off, 3)) (ht : (pc : Int) + off = (tgt : Int)) (kt : j ≤ i → W p l e R s m args below meth c H locs cells slots Q (F0 m tgt ls rest)) (kf : i < j → W p l e R s m args below meth c H locs cells slots Q (F0 m (pc + 3) ls rest)) : W p l e R s m args below meth c H locs cells slots Q (F0 m pc ls (.int y :: .int x :: rest)) := by
  subst hx' hy'
  exact lv_icmp_ge hexec hb hdg ht (fun h => kt ((nI_leI hj hi).mp h)) (fun h => kf (Nat.not_le.mp (fun q => h ((nI_leI hj hi).mpr q))))
theorem rc_gt {x y : Int32} {off : Int} {tgt : Nat} (i j : Nat) (hx' : x = nI i) (hy' : y = nI j) (hi : i < 2 ^ 31) (hj : j < 2 ^ 31) (hexec : p.tables.exec = Jvm.exec) (hb : c.code = cc) (hdg : decode cc pc = .ok (.if_icmp .gt off, 3)) (ht : (pc : Int) + off = (tgt : Int)) (kt : j < i → W p l e R s m args below meth c H locs cells slots Q (F0 m tgt ls rest)) (kf : i ≤ j → W p l e R s m args below meth c H locs cells slots Q (F0 m (pc + 3) ls rest)) : W p l e R s m args below meth c H locs cells slots Q (F0 m pc ls (.int y :: .int x :: rest)) := by
  subst hx' hy'
  exact lv_icmp_gt hexec hb hdg ht (fun h => kt ((nI_ltI hj hi).mp h)) (fun h => kf (Nat.not_lt.mp (fun q => h ((nI_ltI hj hi).mpr q))))
theorem rc_lt {x y : Int32} {off : Int} {tgt : Nat} (i j : Nat) (hx' : x = nI i) (hy' : y = nI j) (hi : i < 2 ^ 31) (hj : j < 2 ^ 31) (hexec : p.tables.exec = Jvm.exec) (hb : c.code = cc) (hdg : decode cc pc = .ok (.if_icmp .lt off, 3)) (ht : (pc : Int) + off = (tgt : Int)) (kt : i < j → W p l e R s m args below meth c H locs cells slots Q (F0 m tgt ls rest)) (kf : j ≤ i → W p l e R s m args below meth c H locs cells slots Q (F0 m (pc + 3) ls rest)) : W p l e R s m args below meth c H locs cells slots Q (F0 m pc ls (.int y :: .int x :: rest)) := by
  subst hx' hy'
  exact lv_icmp_lt hexec hb hdg ht (fun h => kt ((nI_ltI hi hj).mp h)) (fun h => kf (Nat.not_lt.mp (fun q => h ((nI_ltI hi hj).mpr q))))
theorem rc_le {x y : Int32} {off : Int} {tgt : Nat} (i j : Nat) (hx' : x = nI i) (hy' : y = nI j) (hi : i < 2 ^ 31) (hj : j < 2 ^ 31) (hexec : p.tables.exec = Jvm.exec) (hb : c.code = cc) (hdg : decode cc pc = .ok (.if_icmp .le off, 3)) (ht : (pc : Int) + off = (tgt : Int)) (kt : i ≤ j → W p l e R s m args below meth c H locs cells slots Q (F0 m tgt ls rest)) (kf : j < i → W p l e R s m args below meth c H locs cells slots Q (F0 m (pc + 3) ls rest)) : W p l e R s m args below meth c H locs cells slots Q (F0 m pc ls (.int y :: .int x :: rest)) := by
  subst hx' hy'
  exact lv_icmp_le hexec hb hdg ht (fun h => kt ((nI_leI hi hj).mp h)) (fun h => kf (Nat.not_le.mp (fun q => h ((nI_leI hi hj).mpr q))))
theorem rc_eq {x y : Int32} {off : Int} {tgt : Nat} (i j : Nat) (hx' : x = nI i) (hy' : y = nI j) (hi : i < 2 ^ 31) (hj : j < 2 ^ 31) (hexec : p.tables.exec = Jvm.exec) (hb : c.code = cc) (hdg : decode cc pc = .ok (.if_icmp .eq off, 3)) (ht : (pc : Int) + off = (tgt : Int)) (kt : i = j → W p l e R s m args below meth c H locs cells slots Q (F0 m tgt ls rest)) (kf : i ≠ j → W p l e R s m args below meth c H locs cells slots Q (F0 m (pc + 3) ls rest)) : W p l e R s m args below meth c H locs cells slots Q (F0 m pc ls (.int y :: .int x :: rest)) := by
  subst hx' hy'
  exact lv_icmp_eq hexec hb hdg ht (fun h => kt ((nI_eq hi hj).mp h)) (fun h => kf (fun q => h ((nI_eq hi hj).mpr q)))
/-- a jump not taken or taken, known -/
theorem rc_eqT {x y : Int32} {off : Int} {tgt : Nat} (h : x = y) (hexec : p.tables.exec = Jvm.exec) (hb : c.code = cc) (hdg : decode cc pc = .ok (.if_icmp .eq off, 3)) (ht : (pc : Int) + off = (tgt : Int)) (kt : W p l e R s m args below meth c H locs cells slots Q (F0 m tgt ls rest)) : W p l e R s m args below meth c H locs cells slots Q (F0 m pc ls (.int y :: .int x :: rest)) :=
  lv_icmp_eq hexec hb hdg ht (fun _ => kt) (fun q => absurd h q)
end RC
/-- what an interface call asks -/
theorem lw_F {own : String} {idx : Nat} {C : String} {x y : MethodName} {b : ByteArray} {L : Nat} {r : Option FieldType} (h1 : Cond.methodLink own idx x ∈ lw_all) (h2 : Cond.selects C x y ∈ lw_all) (h3 : Cond.instanceMethod y ∈ lw_all) (h4 : Cond.initialized y.cls ∈ lw_all) (h5 : Cond.code y b L r ∈ lw_all) : GoodIn lw_all (va_wsF own idx C x y (ws_ y b L r)) := by
  refine lw_app ?_ (lw_meth h5)
  intro w hw
  simp only [List.mem_cons, List.not_mem_nil, or_false] at hw
  rcases hw with e | e | e | e
  · rw [e]; exact h1
  · rw [e]; exact h2
  · rw [e]; exact h3
  · rw [e]; exact h4
/-- A CONTRACT OUT OF A WALK -/
theorem rc_met {l : Launch} {y : MethodName} {cc : ByteArray} {maxL : Nat} {ret : Option FieldType} {rm : Room} {av : List Value} {B : State → Prop} {Qc : Array Value → State → Outcome → State → Prop} {mc ms : Nat} {free : Addr → Prop} (hy : plainName y.cls = true) (hlen : (lg_sl av).length ≤ maxL)
    (body : ∀ (p : Program) (e : Env) (s : State) (m : MethodId) (below : List Frame) (meth : Method) (c : Code) (ls : Array Slot), p.tables.exec = Jvm.exec → c.code = cc → meth.sig.returnType = ret → (∀ w ∈ lw_all, w.before av.toArray s = true) → s.vm.findClass y.cls = some m.cls → c.maxLocals = maxL → meth.locks = false → meth.name = y.name → B s → lv_has ls maxL (lv_args 0 av) → W p l e rm s m av.toArray below meth c s.heap [] 0 0 (MQ below Qc av.toArray s mc ms free) (F0 m 0 ls [])) :
    Met l y (ws_ y cc maxL ret) rm (va_Pc av B) Qc mc ms free := by
  refine Met.ofW (cc := cc) (maxL := maxL) (ret := ret) hy rfl ?_
  intro p e s m args below meth c s₁ B0 hml hv
  obtain ⟨rfl, hB⟩ := hv
  have hts := atoms_spec (ws := ws_ y cc maxL ret) B0.pre
  rw [lg_entry_eq]
  exact body p e s m below meth c _ B0.exec B0.bytes B0.returns (fun w h => hts w (List.mem_cons_of_mem _ h)) (findClass_of_methodNamed B0.named) hml B0.notSynchronized (name_of_methodNamed B0.named B0.method).1 hB (lv_entry av hlen)
/-- one that writes -/
theorem rc_metM {l : Launch} {y : MethodName} {cc : ByteArray} {maxL : Nat} {ret : Option FieldType} {rm : Room} {av : List Value} {D : va_G} {dB dN : ClassId} {ws : va_W} {sz : Nat} (Qc : (Nat → Prop) → Array Value → State → Outcome → State → Prop) {mc ms : Nat} (hy : plainName y.cls = true) (hlen : (lg_sl av).length ≤ maxL)
    (body : ∀ (p : Program) (e : Env) (s : State) (m : MethodId) (below : List Frame) (meth : Method) (c : Code) (ls : Array Slot) (A : Nat → Prop), p.tables.exec = Jvm.exec → c.code = cc → meth.sig.returnType = ret → (∀ w ∈ lw_all, w.before av.toArray s = true) → s.vm.findClass y.cls = some m.cls → c.maxLocals = maxL → meth.locks = false → meth.name = y.name → va_P D vwCl ws s.heap → rK D dB dN s → va_D A ws → (∀ q, s.heap.size ≤ q → A q) → va_S A s.heap s.heap [] → lv_has ls maxL (lv_args 0 av) → W p l e rm s m av.toArray below meth c s.heap [] 0 0 (MQ below (Qc A) av.toArray s mc ms A) (F0 m 0 ls [])) :
    Met l y (ws_ y cc maxL ret) rm (va_Pc av (wM D dB dN ws sz)) (Qc (va_A ws sz)) mc ms (va_A ws sz) := by
  refine rc_met hy hlen ?_
  intro p e s m below meth c ls hx hb hr hts hown hml hlocks hin hB hl
  obtain ⟨hsz, hP, hK, hD0⟩ := hB
  subst hsz
  exact body p e s m below meth c ls (va_A ws s.heap.size) hx hb hr hts hown hml hlocks hin hP hK (hD0.self (sz := s.heap.size)) (fun q h => Or.inr h) va_S.rf hl
/-- one that makes, with the script beside -/
theorem rc_metMX {l : Launch} {y : MethodName} {cc : ByteArray} {maxL : Nat} {ret : Option FieldType} {rm : Room} {av : List Value} {D : va_G} {dB dN : ClassId} {sz b L : Nat} {xs : Nat → Int32} (Qc : (Nat → Prop) → Array Value → State → Outcome → State → Prop) {mc ms : Nat} (hy : plainName y.cls = true) (hlen : (lg_sl av).length ≤ maxL)
    (body : ∀ (p : Program) (e : Env) (s : State) (m : MethodId) (below : List Frame) (meth : Method) (c : Code) (ls : Array Slot) (A : Nat → Prop), p.tables.exec = Jvm.exec → c.code = cc → meth.sig.returnType = ret → (∀ w ∈ lw_all, w.before av.toArray s = true) → s.vm.findClass y.cls = some m.cls → c.maxLocals = maxL → meth.locks = false → meth.name = y.name → va_P D vwCl [] s.heap → rK D dB dN s → va_D A [] → (∀ q, s.heap.size ≤ q → A q) → va_S A s.heap s.heap [] → va_X b L xs s s.heap → b < s.heap.size → ¬ A b → lv_has ls maxL (lv_args 0 av) → W p l e rm s m av.toArray below meth c s.heap [] 0 0 (MQ below (Qc A) av.toArray s mc ms A) (F0 m 0 ls [])) :
    Met l y (ws_ y cc maxL ret) rm (va_Pc av (wMX b L xs D dB dN [] sz)) (Qc (va_A [] sz)) mc ms (va_A [] sz) := by
  refine rc_met hy hlen ?_
  intro p e s m below meth c ls hx hb hr hts hown hml hlocks hin hB hl
  obtain ⟨⟨hsz, hP, hK, hD0⟩, hX, hbl⟩ := hB
  subst hsz
  exact body p e s m below meth c ls (va_A [] s.heap.size) hx hb hr hts hown hml hlocks hin hP hK (hD0.self (sz := s.heap.size)) (fun q h => Or.inr h) va_S.rf hX hbl (fun h => by
    rcases h with ⟨k, e9, h⟩ | h
    · cases h
    · exact absurd h (Nat.not_le.mpr hbl)) hl
/-- the classes of arrays, out of the tables -/
theorem rc_arr {s : State} {args : Array Value} {ty : FieldType} (h : (Cond.arrayClass ty).before args s = true) : ∃ cA : ClassId, ArrOfT s cA ty ∧ s.vm.findClass ("[" ++ ty.toString) = some cA := by
  obtain ⟨cA, kA, comp, hfind, hk, hkind⟩ := Cond.arrayClass_spec h
  exact ⟨cA, fun n z => ⟨fun k h => (by cases h), kA, hk, comp, hkind⟩, hfind⟩
end
section
/-! ===== leaves ===== -/
set_option maxHeartbeats 4000000 in
set_option maxRecDepth 100000 in
/-- rotateLeft -/
theorem met_rl (l : Launch) (D : va_G) (dB dN : ClassId) (h0 : Nat) (x y : Int32) : Met l yX2_rotateLeft (ws_ yX2_rotateLeft cX2_rotateLeft 3 (some .int)) ({ frames := 0, cells := 0, slots := 0, locals := 0 }) (va_Pc [.ref h0, .int x, .int y] (wS D dB dN [])) (vp_Si (fun r : Int32 => r = rl x y)) 0 0 (fun _ => False) := by
  refine rc_met (by decide) (Nat.le_of_ble_eq_true rfl) ?_
  intro p e s m below meth c ls hx hb hr hts hown hml hlocks hin hB hl
  obtain ⟨hP, hK⟩ := hB
  have hown : s.vm.findClass RX2 = some m.cls := hown
  have hl : lv_has ls 3 [(0, .ref h0), (1, .int x), (2, .int y)] := hl
  refine lv_iload_n hx hb dX2_rotateLeft_0 rfl (lv_at hl 1 rfl) ?_
  refine lv_iload_n hx hb dX2_rotateLeft_1 rfl (lv_at hl 2 rfl) ?_
  refine lv_bipush (v := 31) hx hb dX2_rotateLeft_2 (by decide +kernel) ?_
  refine lv_iand hx hb dX2_rotateLeft_4 ?_
  refine lv_ishl hx hb dX2_rotateLeft_5 ?_
  refine lv_iload_n hx hb dX2_rotateLeft_6 rfl (lv_at hl 1 rfl) ?_
  refine lv_bipush (v := 32) hx hb dX2_rotateLeft_7 (by decide +kernel) ?_
  refine lv_iload_n hx hb dX2_rotateLeft_9 rfl (lv_at hl 2 rfl) ?_
  refine lv_bipush (v := 31) hx hb dX2_rotateLeft_10 (by decide +kernel) ?_
  refine lv_iand hx hb dX2_rotateLeft_12 ?_
  refine lv_isub hx hb dX2_rotateLeft_13 ?_
  refine lv_iushr hx hb dX2_rotateLeft_14 rfl ?_
  refine lv_ior hx hb dX2_rotateLeft_15 ?_
  exact W.iret (v := rl x y) hx hb hr (fun t ht hW => ⟨rl x y, rfl, rfl, ht⟩) (fun _ h => absurd h List.not_mem_nil) dX2_rotateLeft_16
set_option maxHeartbeats 4000000 in
set_option maxRecDepth 100000 in
/-- rotateRight -/
theorem met_rr (l : Launch) (D : va_G) (dB dN : ClassId) (h0 : Nat) (x y : Int32) : Met l yX2_rotateRight (ws_ yX2_rotateRight cX2_rotateRight 3 (some .int)) ({ frames := 0, cells := 0, slots := 0, locals := 0 }) (va_Pc [.ref h0, .int x, .int y] (wS D dB dN [])) (vp_Si (fun r : Int32 => r = rr x y)) 0 0 (fun _ => False) := by
  refine rc_met (by decide) (Nat.le_of_ble_eq_true rfl) ?_
  intro p e s m below meth c ls hx hb hr hts hown hml hlocks hin hB hl
  obtain ⟨hP, hK⟩ := hB
  have hown : s.vm.findClass RX2 = some m.cls := hown
  have hl : lv_has ls 3 [(0, .ref h0), (1, .int x), (2, .int y)] := hl
  refine lv_iload_n hx hb dX2_rotateRight_0 rfl (lv_at hl 1 rfl) ?_
  refine lv_iload_n hx hb dX2_rotateRight_1 rfl (lv_at hl 2 rfl) ?_
  refine lv_bipush (v := 31) hx hb dX2_rotateRight_2 (by decide +kernel) ?_
  refine lv_iand hx hb dX2_rotateRight_4 ?_
  refine lv_iushr hx hb dX2_rotateRight_5 rfl ?_
  refine lv_iload_n hx hb dX2_rotateRight_6 rfl (lv_at hl 1 rfl) ?_
  refine lv_bipush (v := 32) hx hb dX2_rotateRight_7 (by decide +kernel) ?_
  refine lv_iload_n hx hb dX2_rotateRight_9 rfl (lv_at hl 2 rfl) ?_
  refine lv_bipush (v := 31) hx hb dX2_rotateRight_10 (by decide +kernel) ?_
  refine lv_iand hx hb dX2_rotateRight_12 ?_
  refine lv_isub hx hb dX2_rotateRight_13 ?_
  refine lv_ishl hx hb dX2_rotateRight_14 ?_
  refine lv_ior hx hb dX2_rotateRight_15 ?_
  exact W.iret (v := rr x y) hx hb hr (fun t ht hW => ⟨rr x y, rfl, rfl, ht⟩) (fun _ h => absurd h List.not_mem_nil) dX2_rotateRight_16
set_option maxHeartbeats 4000000 in
set_option maxRecDepth 100000 in
/-- bytesToWord -/
theorem met_b2w (l : Launch) (D : va_G) (dB dN : ClassId) (h0 a n o : Nat) (g : Nat → Int8) (ho : o + 4 ≤ n) (hn : n ≤ 1000) : Met l yX2_bytesToWord (ws_ yX2_bytesToWord cX2_bytesToWord 3 (some .int)) ({ frames := 0, cells := 0, slots := 0, locals := 0 }) (va_Pc [.ref h0, .ref a, .int (nI o)] (wS D dB dN [(a, .inl (dB, n, .inl (b8 g)))])) (vp_Si (fun r : Int32 => r = b2w g o)) 0 0 (fun _ => False) := by
  refine rc_met (by decide) (Nat.le_of_ble_eq_true rfl) ?_
  intro p e s m below meth c ls hx hb hr hts hown hml hlocks hin hB hl
  obtain ⟨hP, hK⟩ := hB
  have hown : s.vm.findClass RX2 = some m.cls := hown
  have hl : lv_has ls 3 [(0, .ref h0), (1, .ref a), (2, .int (nI o))] := hl
  refine lv_aload_n hx hb dX2_bytesToWord_0 rfl (lv_at hl 1 rfl) ?_
  refine lv_iload_n hx hb dX2_bytesToWord_1 rfl (lv_at hl 2 rfl) ?_
  refine rc_bald hx hb hK.1 hP 0 0 rfl rfl o rfl (by omega) (by omega) dX2_bytesToWord_2 ?_
  refine lv_sipush (v := 255) hx hb dX2_bytesToWord_3 (by decide +kernel) ?_
  refine lv_iand hx hb dX2_bytesToWord_6 ?_
  refine lv_aload_n hx hb dX2_bytesToWord_7 rfl (lv_at hl 1 rfl) ?_
  refine lv_iload_n hx hb dX2_bytesToWord_8 rfl (lv_at hl 2 rfl) ?_
  refine lv_iconst (v := nI 1) hx hb dX2_bytesToWord_9 (by decide +kernel) ?_
  refine lv_iadd hx hb dX2_bytesToWord_10 ?_
  refine rc_top (y := nI (o + 1)) (nI_add o 1) ?_
  refine rc_bald hx hb hK.1 hP 0 0 rfl rfl (o + 1) rfl (by omega) (by omega) dX2_bytesToWord_11 ?_
  refine lv_sipush (v := 255) hx hb dX2_bytesToWord_12 (by decide +kernel) ?_
  refine lv_iand hx hb dX2_bytesToWord_15 ?_
  refine lv_bipush (v := 8) hx hb dX2_bytesToWord_16 (by decide +kernel) ?_
  refine lv_ishl hx hb dX2_bytesToWord_18 ?_
  refine lv_ior hx hb dX2_bytesToWord_19 ?_
  refine lv_aload_n hx hb dX2_bytesToWord_20 rfl (lv_at hl 1 rfl) ?_
  refine lv_iload_n hx hb dX2_bytesToWord_21 rfl (lv_at hl 2 rfl) ?_
  refine lv_iconst (v := nI 2) hx hb dX2_bytesToWord_22 (by decide +kernel) ?_
  refine lv_iadd hx hb dX2_bytesToWord_23 ?_
  refine rc_top (y := nI (o + 2)) (nI_add o 2) ?_
  refine rc_bald hx hb hK.1 hP 0 0 rfl rfl (o + 2) rfl (by omega) (by omega) dX2_bytesToWord_24 ?_
  refine lv_sipush (v := 255) hx hb dX2_bytesToWord_25 (by decide +kernel) ?_
  refine lv_iand hx hb dX2_bytesToWord_28 ?_
  refine lv_bipush (v := 16) hx hb dX2_bytesToWord_29 (by decide +kernel) ?_
  refine lv_ishl hx hb dX2_bytesToWord_31 ?_
  refine lv_ior hx hb dX2_bytesToWord_32 ?_
  refine lv_aload_n hx hb dX2_bytesToWord_33 rfl (lv_at hl 1 rfl) ?_
  refine lv_iload_n hx hb dX2_bytesToWord_34 rfl (lv_at hl 2 rfl) ?_
  refine lv_iconst (v := nI 3) hx hb dX2_bytesToWord_35 (by decide +kernel) ?_
  refine lv_iadd hx hb dX2_bytesToWord_36 ?_
  refine rc_top (y := nI (o + 3)) (nI_add o 3) ?_
  refine rc_bald hx hb hK.1 hP 0 0 rfl rfl (o + 3) rfl (by omega) (by omega) dX2_bytesToWord_37 ?_
  refine lv_sipush (v := 255) hx hb dX2_bytesToWord_38 (by decide +kernel) ?_
  refine lv_iand hx hb dX2_bytesToWord_41 ?_
  refine lv_bipush (v := 24) hx hb dX2_bytesToWord_42 (by decide +kernel) ?_
  refine lv_ishl hx hb dX2_bytesToWord_44 ?_
  refine lv_ior hx hb dX2_bytesToWord_45 ?_
  exact W.iret (v := b2w g o) hx hb hr (fun t ht hW => ⟨b2w g o, rfl, rfl, ht⟩) (fun _ h => absurd h List.not_mem_nil) dX2_bytesToWord_46
set_option maxHeartbeats 4000000 in
set_option maxRecDepth 100000 in
/-- wordToBytes -/
theorem met_w2b (l : Launch) (D : va_G) (dB dN : ClassId) (h0 a n o : Nat) (g : Nat → Int8) (x : Int32) (ho : o + 4 ≤ n) (hn : n ≤ 1000) (sz : Nat) : Met l yX2_wordToBytes (ws_ yX2_wordToBytes cX2_wordToBytes 4 none) ({ frames := 0, cells := 0, slots := 0, locals := 0 }) (va_Pc [.ref h0, .int x, .ref a, .int (nI o)] (wM D dB dN [(a, .inl (dB, n, .inl (b8 g)))] sz)) (va_Qv (S := Unit) (fun _ => True) (wQ D (fun _ => [(a, .inl (dB, n, .inl (b8 (w2b g o x))))]) (va_A [(a, .inl (dB, n, .inl (b8 g)))] sz)) (va_A [(a, .inl (dB, n, .inl (b8 g)))] sz)) 0 0 (va_A [(a, .inl (dB, n, .inl (b8 g)))] sz) := by
  refine rc_metM (fun A => va_Qv (S := Unit) (fun _ => True) (wQ D (fun _ => [(a, .inl (dB, n, .inl (b8 (w2b g o x))))]) (A)) (A)) (by decide) (Nat.le_of_ble_eq_true rfl) ?_
  intro p e s m below meth c ls A hx hb hr hts hown hml hlocks hin hP hK hD hA hS hl
  have hown : s.vm.findClass RX2 = some m.cls := hown
  have hl : lv_has ls 4 [(0, .ref h0), (1, .int x), (2, .ref a), (3, .int (nI o))] := hl
  refine lv_aload_n hx hb dX2_wordToBytes_0 rfl (lv_at hl 2 rfl) ?_
  refine lv_iload_n hx hb dX2_wordToBytes_1 rfl (lv_at hl 3 rfl) ?_
  refine lv_iload_n hx hb dX2_wordToBytes_2 rfl (lv_at hl 1 rfl) ?_
  refine lv_i2b hx hb dX2_wordToBytes_3 rfl ?_
  refine rc_bast (z := x.toInt8) hx hb hK.1 hP hD hS 0 0 rfl rfl o rfl (by omega) (by omega) dX2_wordToBytes_4 (fun H locs hP hD hS => ?_)
  have hP : va_P D vwCl [(a, .inl (dB, n, .inl (b8 (ub g o x.toInt8))))] H := hP
  have hD : va_D A [(a, .inl (dB, n, .inl (b8 (ub g o x.toInt8))))] := hD
  refine lv_aload_n hx hb dX2_wordToBytes_5 rfl (lv_at hl 2 rfl) ?_
  refine lv_iload_n hx hb dX2_wordToBytes_6 rfl (lv_at hl 3 rfl) ?_
  refine lv_iconst (v := nI 1) hx hb dX2_wordToBytes_7 (by decide +kernel) ?_
  refine lv_iadd hx hb dX2_wordToBytes_8 ?_
  refine rc_top (y := nI (o + 1)) (nI_add o 1) ?_
  refine lv_iload_n hx hb dX2_wordToBytes_9 rfl (lv_at hl 1 rfl) ?_
  refine lv_bipush (v := 8) hx hb dX2_wordToBytes_10 (by decide +kernel) ?_
  refine lv_ishr hx hb dX2_wordToBytes_12 ?_
  refine lv_i2b hx hb dX2_wordToBytes_13 rfl ?_
  refine rc_bast (z := (x >>> (8 &&& 31)).toInt8) hx hb hK.1 hP hD hS 0 0 rfl rfl (o + 1) rfl (by omega) (by omega) dX2_wordToBytes_14 (fun H locs hP hD hS => ?_)
  have hP : va_P D vwCl [(a, .inl (dB, n, .inl (b8 (ub (ub g o x.toInt8) (o + 1) ((x >>> (8 &&& 31)).toInt8)))))] H := hP
  have hD : va_D A [(a, .inl (dB, n, .inl (b8 (ub (ub g o x.toInt8) (o + 1) ((x >>> (8 &&& 31)).toInt8)))))] := hD
  refine lv_aload_n hx hb dX2_wordToBytes_15 rfl (lv_at hl 2 rfl) ?_
  refine lv_iload_n hx hb dX2_wordToBytes_16 rfl (lv_at hl 3 rfl) ?_
  refine lv_iconst (v := nI 2) hx hb dX2_wordToBytes_17 (by decide +kernel) ?_
  refine lv_iadd hx hb dX2_wordToBytes_18 ?_
  refine rc_top (y := nI (o + 2)) (nI_add o 2) ?_
  refine lv_iload_n hx hb dX2_wordToBytes_19 rfl (lv_at hl 1 rfl) ?_
  refine lv_bipush (v := 16) hx hb dX2_wordToBytes_20 (by decide +kernel) ?_
  refine lv_ishr hx hb dX2_wordToBytes_22 ?_
  refine lv_i2b hx hb dX2_wordToBytes_23 rfl ?_
  refine rc_bast (z := (x >>> (16 &&& 31)).toInt8) hx hb hK.1 hP hD hS 0 0 rfl rfl (o + 2) rfl (by omega) (by omega) dX2_wordToBytes_24 (fun H locs hP hD hS => ?_)
  have hP : va_P D vwCl [(a, .inl (dB, n, .inl (b8 (ub (ub (ub g o x.toInt8) (o + 1) ((x >>> (8 &&& 31)).toInt8)) (o + 2) ((x >>> (16 &&& 31)).toInt8)))))] H := hP
  have hD : va_D A [(a, .inl (dB, n, .inl (b8 (ub (ub (ub g o x.toInt8) (o + 1) ((x >>> (8 &&& 31)).toInt8)) (o + 2) ((x >>> (16 &&& 31)).toInt8)))))] := hD
  refine lv_aload_n hx hb dX2_wordToBytes_25 rfl (lv_at hl 2 rfl) ?_
  refine lv_iload_n hx hb dX2_wordToBytes_26 rfl (lv_at hl 3 rfl) ?_
  refine lv_iconst (v := nI 3) hx hb dX2_wordToBytes_27 (by decide +kernel) ?_
  refine lv_iadd hx hb dX2_wordToBytes_28 ?_
  refine rc_top (y := nI (o + 3)) (nI_add o 3) ?_
  refine lv_iload_n hx hb dX2_wordToBytes_29 rfl (lv_at hl 1 rfl) ?_
  refine lv_bipush (v := 24) hx hb dX2_wordToBytes_30 (by decide +kernel) ?_
  refine lv_ishr hx hb dX2_wordToBytes_32 ?_
  refine lv_i2b hx hb dX2_wordToBytes_33 rfl ?_
  refine rc_bast (z := (x >>> (24 &&& 31)).toInt8) hx hb hK.1 hP hD hS 0 0 rfl rfl (o + 3) rfl (by omega) (by omega) dX2_wordToBytes_34 (fun H locs hP hD hS => ?_)
  have hP : va_P D vwCl [(a, .inl (dB, n, .inl (b8 (ub (ub (ub (ub g o x.toInt8) (o + 1) ((x >>> (8 &&& 31)).toInt8)) (o + 2) ((x >>> (16 &&& 31)).toInt8)) (o + 3) ((x >>> (24 &&& 31)).toInt8)))))] H := hP
  have hD : va_D A [(a, .inl (dB, n, .inl (b8 (ub (ub (ub (ub g o x.toInt8) (o + 1) ((x >>> (8 &&& 31)).toInt8)) (o + 2) ((x >>> (16 &&& 31)).toInt8)) (o + 3) ((x >>> (24 &&& 31)).toInt8)))))] := hD
  exact W.vret hx hb hr (fun t ht hW => ⟨⟨(), rfl, trivial, by rw [ht]; exact hP, hD⟩, hS.F ht⟩) hS.2.2 dX2_wordToBytes_35
set_option maxHeartbeats 4000000 in
set_option maxRecDepth 100000 in
/-- word -/
theorem met_word (l : Launch) (D : va_G) (dB dN : ClassId) (a n o : Nat) (g : Nat → Int8) (x : Int32) (ho : o + 4 ≤ n) (hn : n ≤ 1000) (sz : Nat) : Met l yX1_word (ws_ yX1_word cX1_word 3 none) ({ frames := 0, cells := 0, slots := 0, locals := 0 }) (va_Pc [.ref a, .int (nI o), .int x] (wM D dB dN [(a, .inl (dB, n, .inl (b8 g)))] sz)) (va_Qv (S := Unit) (fun _ => True) (wQ D (fun _ => [(a, .inl (dB, n, .inl (b8 (wb g o x))))]) (va_A [(a, .inl (dB, n, .inl (b8 g)))] sz)) (va_A [(a, .inl (dB, n, .inl (b8 g)))] sz)) 0 0 (va_A [(a, .inl (dB, n, .inl (b8 g)))] sz) := by
  refine rc_metM (fun A => va_Qv (S := Unit) (fun _ => True) (wQ D (fun _ => [(a, .inl (dB, n, .inl (b8 (wb g o x))))]) (A)) (A)) (by decide) (Nat.le_of_ble_eq_true rfl) ?_
  intro p e s m below meth c ls A hx hb hr hts hown hml hlocks hin hP hK hD hA hS hl
  have hown : s.vm.findClass RX1 = some m.cls := hown
  have hl : lv_has ls 3 [(0, .ref a), (1, .int (nI o)), (2, .int x)] := hl
  refine lv_aload_n hx hb dX1_word_0 rfl (lv_at hl 0 rfl) ?_
  refine lv_iload_n hx hb dX1_word_1 rfl (lv_at hl 1 rfl) ?_
  refine lv_iload_n hx hb dX1_word_2 rfl (lv_at hl 2 rfl) ?_
  refine lv_bipush (v := 24) hx hb dX1_word_3 (by decide +kernel) ?_
  refine lv_ishr hx hb dX1_word_5 ?_
  refine lv_i2b hx hb dX1_word_6 rfl ?_
  refine rc_bast (z := (x >>> (24 &&& 31)).toInt8) hx hb hK.1 hP hD hS 0 0 rfl rfl o rfl (by omega) (by omega) dX1_word_7 (fun H locs hP hD hS => ?_)
  have hP : va_P D vwCl [(a, .inl (dB, n, .inl (b8 (ub g o ((x >>> (24 &&& 31)).toInt8)))))] H := hP
  have hD : va_D A [(a, .inl (dB, n, .inl (b8 (ub g o ((x >>> (24 &&& 31)).toInt8)))))] := hD
  refine lv_aload_n hx hb dX1_word_8 rfl (lv_at hl 0 rfl) ?_
  refine lv_iload_n hx hb dX1_word_9 rfl (lv_at hl 1 rfl) ?_
  refine lv_iconst (v := nI 1) hx hb dX1_word_10 (by decide +kernel) ?_
  refine lv_iadd hx hb dX1_word_11 ?_
  refine rc_top (y := nI (o + 1)) (nI_add o 1) ?_
  refine lv_iload_n hx hb dX1_word_12 rfl (lv_at hl 2 rfl) ?_
  refine lv_bipush (v := 16) hx hb dX1_word_13 (by decide +kernel) ?_
  refine lv_ishr hx hb dX1_word_15 ?_
  refine lv_i2b hx hb dX1_word_16 rfl ?_
  refine rc_bast (z := (x >>> (16 &&& 31)).toInt8) hx hb hK.1 hP hD hS 0 0 rfl rfl (o + 1) rfl (by omega) (by omega) dX1_word_17 (fun H locs hP hD hS => ?_)
  have hP : va_P D vwCl [(a, .inl (dB, n, .inl (b8 (ub (ub g o ((x >>> (24 &&& 31)).toInt8)) (o + 1) ((x >>> (16 &&& 31)).toInt8)))))] H := hP
  have hD : va_D A [(a, .inl (dB, n, .inl (b8 (ub (ub g o ((x >>> (24 &&& 31)).toInt8)) (o + 1) ((x >>> (16 &&& 31)).toInt8)))))] := hD
  refine lv_aload_n hx hb dX1_word_18 rfl (lv_at hl 0 rfl) ?_
  refine lv_iload_n hx hb dX1_word_19 rfl (lv_at hl 1 rfl) ?_
  refine lv_iconst (v := nI 2) hx hb dX1_word_20 (by decide +kernel) ?_
  refine lv_iadd hx hb dX1_word_21 ?_
  refine rc_top (y := nI (o + 2)) (nI_add o 2) ?_
  refine lv_iload_n hx hb dX1_word_22 rfl (lv_at hl 2 rfl) ?_
  refine lv_bipush (v := 8) hx hb dX1_word_23 (by decide +kernel) ?_
  refine lv_ishr hx hb dX1_word_25 ?_
  refine lv_i2b hx hb dX1_word_26 rfl ?_
  refine rc_bast (z := (x >>> (8 &&& 31)).toInt8) hx hb hK.1 hP hD hS 0 0 rfl rfl (o + 2) rfl (by omega) (by omega) dX1_word_27 (fun H locs hP hD hS => ?_)
  have hP : va_P D vwCl [(a, .inl (dB, n, .inl (b8 (ub (ub (ub g o ((x >>> (24 &&& 31)).toInt8)) (o + 1) ((x >>> (16 &&& 31)).toInt8)) (o + 2) ((x >>> (8 &&& 31)).toInt8)))))] H := hP
  have hD : va_D A [(a, .inl (dB, n, .inl (b8 (ub (ub (ub g o ((x >>> (24 &&& 31)).toInt8)) (o + 1) ((x >>> (16 &&& 31)).toInt8)) (o + 2) ((x >>> (8 &&& 31)).toInt8)))))] := hD
  refine lv_aload_n hx hb dX1_word_28 rfl (lv_at hl 0 rfl) ?_
  refine lv_iload_n hx hb dX1_word_29 rfl (lv_at hl 1 rfl) ?_
  refine lv_iconst (v := nI 3) hx hb dX1_word_30 (by decide +kernel) ?_
  refine lv_iadd hx hb dX1_word_31 ?_
  refine rc_top (y := nI (o + 3)) (nI_add o 3) ?_
  refine lv_iload_n hx hb dX1_word_32 rfl (lv_at hl 2 rfl) ?_
  refine lv_i2b hx hb dX1_word_33 rfl ?_
  refine rc_bast (z := x.toInt8) hx hb hK.1 hP hD hS 0 0 rfl rfl (o + 3) rfl (by omega) (by omega) dX1_word_34 (fun H locs hP hD hS => ?_)
  have hP : va_P D vwCl [(a, .inl (dB, n, .inl (b8 (ub (ub (ub (ub g o ((x >>> (24 &&& 31)).toInt8)) (o + 1) ((x >>> (16 &&& 31)).toInt8)) (o + 2) ((x >>> (8 &&& 31)).toInt8)) (o + 3) x.toInt8))))] H := hP
  have hD : va_D A [(a, .inl (dB, n, .inl (b8 (ub (ub (ub (ub g o ((x >>> (24 &&& 31)).toInt8)) (o + 1) ((x >>> (16 &&& 31)).toInt8)) (o + 2) ((x >>> (8 &&& 31)).toInt8)) (o + 3) x.toInt8))))] := hD
  exact W.vret hx hb hr (fun t ht hW => ⟨⟨(), rfl, trivial, by rw [ht]; exact hP, hD⟩, hS.F ht⟩) hS.2.2 dX1_word_35
set_option maxHeartbeats 4000000 in
set_option maxRecDepth 100000 in
/-- size -/
theorem met_size (l : Launch) (D : va_G) (dB dN : ClassId) (x : Int32) : Met l yX1_size (ws_ yX1_size cX1_size 1 (some .int)) ({ frames := 0, cells := 0, slots := 0, locals := 0 }) (va_Pc [.int x] (wS D dB dN [])) (vp_Si (fun r : Int32 => r = nI 16)) 0 0 (fun _ => False) := by
  refine rc_met (by decide) (Nat.le_of_ble_eq_true rfl) ?_
  intro p e s m below meth c ls hx hb hr hts hown hml hlocks hin hB hl
  obtain ⟨hP, hK⟩ := hB
  have hown : s.vm.findClass RX1 = some m.cls := hown
  have hl : lv_has ls 1 [(0, .int x)] := hl
  refine lv_bipush (v := nI 16) hx hb dX1_size_0 (by decide +kernel) ?_
  exact W.iret (v := nI 16) hx hb hr (fun t ht hW => ⟨nI 16, rfl, rfl, ht⟩) (fun _ h => absurd h List.not_mem_nil) dX1_size_2
set_option maxHeartbeats 4000000 in
set_option maxRecDepth 100000 in
/-- out -/
theorem met_out (l : Launch) (D : va_G) (dB dN : ClassId) (x k b o : Nat) (kf bf of : Nat → Int8) (j : Nat) (hj : j < 8) : Met l yX1_out (ws_ yX1_out cX1_out 2 (some .int)) ({ frames := 0, cells := 0, slots := 0, locals := 0 }) (va_Pc [.ref x, .int (nI j)] (wS D dB dN [(x, .inr (0, [.ref k, .ref b, .ref o])), (k, .inl (dB, 32, .inl (b8 kf))), (b, .inl (dB, 8, .inl (b8 bf))), (o, .inl (dB, 8, .inl (b8 of)))])) (vp_Si (fun r : Int32 => r = (of j).toInt32 &&& 255)) 0 0 (fun _ => False) := by
  refine rc_met (by decide) (Nat.le_of_ble_eq_true rfl) ?_
  intro p e s m below meth c ls hx hb hr hts hown hml hlocks hin hB hl
  obtain ⟨hP, hK⟩ := hB
  have hown : s.vm.findClass RX1 = some m.cls := hown
  have hl : lv_has ls 2 [(0, .ref x), (1, .int (nI j))] := hl
  refine lv_aload_n hx hb dX1_out_0 rfl (lv_at hl 0 rfl) ?_
  refine va_get (D := D) (ci := 0) (v := .ref o) (C := RX1) (T := TX1) (N := 3) hx hb hts in_X1 hown hK.1 hP 0 rfl rfl 2 (by decide) (hts _ q215) (fun _ h9 => h9) rfl dX1_out_1 ?_
  refine lv_iload_n hx hb dX1_out_4 rfl (lv_at hl 1 rfl) ?_
  refine lv_bipush (v := 7) hx hb dX1_out_5 (by decide +kernel) ?_
  refine lv_iand hx hb dX1_out_7 ?_
  refine rc_top (y := nI j) ((pk_andN (n := j) (by omega) 3 (m := 7) (by decide)).trans (congrArg nI (Nat.mod_eq_of_lt (show j < 2 ^ 3 by omega)))) ?_
  refine rc_bald hx hb hK.1 hP 3 0 rfl rfl j rfl hj (by omega) dX1_out_8 ?_
  refine lv_sipush (v := 255) hx hb dX1_out_9 (by decide +kernel) ?_
  refine lv_iand hx hb dX1_out_12 ?_
  exact W.iret (v := (of j).toInt32 &&& 255) hx hb hr (fun t ht hW => ⟨(of j).toInt32 &&& 255, rfl, rfl, ht⟩) (fun _ h => absurd h List.not_mem_nil) dX1_out_13
set_option maxHeartbeats 4000000 in
set_option maxRecDepth 100000 in
/-- getKey -/
theorem met_getKey (l : Launch) (D : va_G) (dB dN : ClassId) (h0 kb : Nat) : Met l yX3_getKey (ws_ yX3_getKey cX3_getKey 1 (some (.array .byte))) ({ frames := 0, cells := 0, slots := 0, locals := 0 }) (va_Pc [.ref h0] (wS D dB dN [(h0, .inr (2, [.ref kb]))])) (va_Sr (fun _ => True) (fun _ => .ref kb)) 0 0 (fun _ => False) := by
  refine rc_met (by decide) (Nat.le_of_ble_eq_true rfl) ?_
  intro p e s m below meth c ls hx hb hr hts hown hml hlocks hin hB hl
  obtain ⟨hP, hK⟩ := hB
  have hown : s.vm.findClass RX3 = some m.cls := hown
  have hl : lv_has ls 1 [(0, .ref h0)] := hl
  refine lv_aload_n hx hb dX3_getKey_0 rfl (lv_at hl 0 rfl) ?_
  refine va_get (D := D) (ci := 2) (v := .ref kb) (C := RX3) (T := TX3) (N := 1) hx hb hts in_X3 hown hK.1 hP 0 rfl rfl 0 (by decide) (hts _ q61) (fun _ h9 => h9) rfl dX3_getKey_1 ?_
  exact W.aret (v := .ref kb) hx hb hr (Or.inr ⟨_, rfl⟩) (Or.inr ⟨_, rfl⟩) (fun t ht hW => ⟨0, rfl, trivial, ht⟩) (fun _ h => absurd h List.not_mem_nil) dX3_getKey_4
end
section
/-! ===== the engine's blocks ===== -/
/-- forEncryption -/
def bI (lk : Bool) : Int32 := if lk then 1 else 0
theorem nI_m (a b : Nat) : nI a * nI b = nI (a * b) := pk_mul a b
theorem nI_2k1 (k : Nat) : nI 2 * nI k + nI 1 = nI (2 * k + 1) := by rw [pk_mul, nI_add]
set_option maxHeartbeats 4000000 in
set_option maxRecDepth 100000 in
/-- encryptBlock -/
theorem met_enc (l : Launch) (D : va_G) (dB dN : ClassId) (h0 sS bi bo : Nat) (fe : Value) (S : Nat → Int32) (P O : Nat → Int8) (sz : Nat) : Met l yX2_encryptBlock (ws_ yX2_encryptBlock cX2_encryptBlock 8 (some .int)) ({ frames := 1, cells := 0, slots := 0, locals := 23 }) (va_Pc [.ref h0, .ref bi, .int (nI 0), .ref bo, .int (nI 0)] (wM D dB dN [(h0, .inr (1, [.int (nI 12), .ref sS, fe])), (sS, .inl (dN, 26, .inl (S))), (bi, .inl (dB, 8, .inl (b8 P))), (bo, .inl (dB, 8, .inl (b8 O)))] sz)) (va_Qi (S := Unit) (fun _ _ => True) (wQ D (fun _ => [(h0, .inr (1, [.int (nI 12), .ref sS, fe])), (sS, .inl (dN, 26, .inl (S))), (bi, .inl (dB, 8, .inl (b8 P))), (bo, .inl (dB, 8, .inl (b8 (w2b (w2b O 0 (enc S P).1) 4 (enc S P).2))))]) (va_A [(h0, .inr (1, [.int (nI 12), .ref sS, fe])), (sS, .inl (dN, 26, .inl (S))), (bi, .inl (dB, 8, .inl (b8 P))), (bo, .inl (dB, 8, .inl (b8 O)))] sz)) (va_A [(h0, .inr (1, [.int (nI 12), .ref sS, fe])), (sS, .inl (dN, 26, .inl (S))), (bi, .inl (dB, 8, .inl (b8 P))), (bo, .inl (dB, 8, .inl (b8 O)))] sz)) 0 0 (va_A [(h0, .inr (1, [.int (nI 12), .ref sS, fe])), (sS, .inl (dN, 26, .inl (S))), (bi, .inl (dB, 8, .inl (b8 P))), (bo, .inl (dB, 8, .inl (b8 O)))] sz) := by
  refine rc_metM (fun A => va_Qi (S := Unit) (fun _ _ => True) (wQ D (fun _ => [(h0, .inr (1, [.int (nI 12), .ref sS, fe])), (sS, .inl (dN, 26, .inl (S))), (bi, .inl (dB, 8, .inl (b8 P))), (bo, .inl (dB, 8, .inl (b8 (w2b (w2b O 0 (enc S P).1) 4 (enc S P).2))))]) (A)) (A)) (by decide) (Nat.le_of_ble_eq_true rfl) ?_
  intro p e s m below meth c ls A hx hb hr hts hown hml hlocks hin hP hK hD hA hS hl
  have hown : s.vm.findClass RX2 = some m.cls := hown
  have hl : lv_has ls 8 [(0, .ref h0), (1, .ref bi), (2, .int (nI 0)), (3, .ref bo), (4, .int (nI 0))] := hl
  have tail : ∀ (X Y : Int32) (ls : Array Slot), lv_has ls 8 [(5, .int X), (6, .int Y), (0, .ref h0), (1, .ref bi), (2, .int (nI 0)), (3, .ref bo), (4, .int (nI 0))] → (X, Y) = enc S P → W p l e ({ frames := 1, cells := 0, slots := 0, locals := 23 }) s m ([.ref h0, .ref bi, .int (nI 0), .ref bo, .int (nI 0)] : List Value).toArray below meth c s.heap [] 0 0 (MQ below (va_Qi (S := Unit) (fun _ _ => True) (wQ D (fun _ => [(h0, .inr (1, [.int (nI 12), .ref sS, fe])), (sS, .inl (dN, 26, .inl (S))), (bi, .inl (dB, 8, .inl (b8 P))), (bo, .inl (dB, 8, .inl (b8 (w2b (w2b O 0 (enc S P).1) 4 (enc S P).2))))]) A) A) ([.ref h0, .ref bi, .int (nI 0), .ref bo, .int (nI 0)] : List Value).toArray s 0 0 A) (F0 m 98 ls []) := by
    intro X Y ls hl ef
    obtain ⟨ef1, ef2⟩ : X = (enc S P).1 ∧ Y = (enc S P).2 := ⟨congrArg Prod.fst ef, congrArg Prod.snd ef⟩
    refine lv_aload_n hx hb dX2_encryptBlock_98 rfl (lv_at hl 2 rfl) ?_
    refine lv_iload hx hb dX2_encryptBlock_99 (lv_at hl 0 rfl) ?_
    refine lv_aload_n hx hb dX2_encryptBlock_101 rfl (lv_at hl 5 rfl) ?_
    refine lv_iload hx hb dX2_encryptBlock_102 (lv_at hl 6 rfl) ?_
    refine rc_callv (wr := [(h0, .inr (1, [.int (nI 12), .ref sS, fe])), (sS, .inl (dN, 26, .inl (S))), (bi, .inl (dB, 8, .inl (b8 P)))]) (va_runV (As := [.int X, .ref bo, .int (nI 0)]) (rest := []) ⟨hx, hb, hml, hown, hts⟩ (met_w2b l D dB dN h0 bo 8 0 O X (by omega) (by omega) s.heap.size) (cwV 3 hts (lw_V q185 q187 qs6 q11 q188) rfl rfl rfl (by decide +kernel) ⟨Nat.le_of_ble_eq_true rfl, Nat.le_of_ble_eq_true rfl⟩) (wM_V (ci := 1) (q0 := 0) hP hK hD [3] rfl (by decide) rfl rfl) rfl rfl hl.1 rfl (lv_room (Nat.le_of_ble_eq_true rfl)) dX2_encryptBlock_104 ⟨Nat.le_of_ble_eq_true rfl, Nat.le_of_ble_eq_true rfl⟩) hP hD hS hA [3] [0, 1, 2] rfl rfl (by decide) (by decide) (fun _ H locs hw hP hD hS => ?_)
    have hP : va_P D vwCl [(h0, .inr (1, [.int (nI 12), .ref sS, fe])), (sS, .inl (dN, 26, .inl (S))), (bi, .inl (dB, 8, .inl (b8 P))), (bo, .inl (dB, 8, .inl (b8 (w2b O 0 X))))] H := hP
    have hD : va_D A [(h0, .inr (1, [.int (nI 12), .ref sS, fe])), (sS, .inl (dN, 26, .inl (S))), (bi, .inl (dB, 8, .inl (b8 P))), (bo, .inl (dB, 8, .inl (b8 (w2b O 0 X))))] := hD
    refine lv_aload_n hx hb dX2_encryptBlock_107 rfl (lv_at hl 2 rfl) ?_
    refine lv_iload hx hb dX2_encryptBlock_108 (lv_at hl 1 rfl) ?_
    refine lv_aload_n hx hb dX2_encryptBlock_110 rfl (lv_at hl 5 rfl) ?_
    refine lv_iload hx hb dX2_encryptBlock_111 (lv_at hl 6 rfl) ?_
    refine lv_iconst (v := nI 4) hx hb dX2_encryptBlock_113 (by decide +kernel) ?_
    refine lv_iadd hx hb dX2_encryptBlock_114 ?_
    refine rc_top (y := nI 4) (nI_add 0 4) ?_
    refine rc_callv (wr := [(h0, .inr (1, [.int (nI 12), .ref sS, fe])), (sS, .inl (dN, 26, .inl (S))), (bi, .inl (dB, 8, .inl (b8 P)))]) (va_runV (As := [.int Y, .ref bo, .int (nI 4)]) (rest := []) ⟨hx, hb, hml, hown, hts⟩ (met_w2b l D dB dN h0 bo 8 4 (w2b O 0 X) Y (by omega) (by omega) H.size) (cwV 3 hts (lw_V q185 q187 qs6 q11 q188) rfl rfl rfl (by decide +kernel) ⟨Nat.le_of_ble_eq_true rfl, Nat.le_of_ble_eq_true rfl⟩) (wM_V (ci := 1) (q0 := 0) hP hK hD [3] rfl (by decide) rfl rfl) rfl rfl hl.1 rfl (lv_room (Nat.le_of_ble_eq_true rfl)) dX2_encryptBlock_115 ⟨Nat.le_of_ble_eq_true rfl, Nat.le_of_ble_eq_true rfl⟩) hP hD hS hA [3] [0, 1, 2] rfl rfl (by decide) (by decide) (fun _ H locs hw hP hD hS => ?_)
    have hP : va_P D vwCl [(h0, .inr (1, [.int (nI 12), .ref sS, fe])), (sS, .inl (dN, 26, .inl (S))), (bi, .inl (dB, 8, .inl (b8 P))), (bo, .inl (dB, 8, .inl (b8 (w2b (w2b O 0 X) 4 Y))))] H := hP
    have hD : va_D A [(h0, .inr (1, [.int (nI 12), .ref sS, fe])), (sS, .inl (dN, 26, .inl (S))), (bi, .inl (dB, 8, .inl (b8 P))), (bo, .inl (dB, 8, .inl (b8 (w2b (w2b O 0 X) 4 Y))))] := hD
    refine lv_bipush (v := 8) hx hb dX2_encryptBlock_118 (by decide +kernel) ?_
    rw [ef1, ef2] at hP hD
    exact W.iret (v := 8) hx hb hr (fun t ht hW => ⟨⟨8, (), rfl, trivial, by rw [ht]; exact hP, hD⟩, hS.F ht⟩) hS.2.2 dX2_encryptBlock_120
  have loop : ∀ (n i : Nat) (q : Int32 × Int32) (ls : Array Slot), i + n = 12 → q = eR S i (b2w P 0 + S 0, b2w P 4 + S 1) → lv_has ls 8 [(7, .int (nI (i + 1))), (6, .int q.2), (5, .int q.1), (0, .ref h0), (1, .ref bi), (2, .int (nI 0)), (3, .ref bo), (4, .int (nI 0))] → W p l e ({ frames := 1, cells := 0, slots := 0, locals := 23 }) s m ([.ref h0, .ref bi, .int (nI 0), .ref bo, .int (nI 0)] : List Value).toArray below meth c s.heap [] 0 0 (MQ below (va_Qi (S := Unit) (fun _ _ => True) (wQ D (fun _ => [(h0, .inr (1, [.int (nI 12), .ref sS, fe])), (sS, .inl (dN, 26, .inl (S))), (bi, .inl (dB, 8, .inl (b8 P))), (bo, .inl (dB, 8, .inl (b8 (w2b (w2b O 0 (enc S P).1) 4 (enc S P).2))))]) A) A) ([.ref h0, .ref bi, .int (nI 0), .ref bo, .int (nI 0)] : List Value).toArray s 0 0 A) (F0 m 35 ls []) := by
    intro n
    induction n with
    | zero =>
      intro i q ls hi eq hl
      refine lv_iload hx hb dX2_encryptBlock_35 (lv_at hl 0 rfl) ?_
      refine lv_aload_n hx hb dX2_encryptBlock_37 rfl (lv_at hl 3 rfl) ?_
      refine va_get (D := D) (ci := 1) (v := .int (nI 12)) (C := RX2) (T := TX2) (N := 3) hx hb hts in_X2 hown hK.1 hP 0 rfl rfl 0 (by decide) (hts _ q38) (fun _ h9 => h9) rfl dX2_encryptBlock_38 ?_
      refine rc_gt (tgt := 98) (i + 1) 12 rfl rfl (by omega) (by omega) hx hb dX2_encryptBlock_41 (by decide) (fun _ => ?_) (fun h => absurd h (by omega))
      refine tail q.1 q.2 ls (lv_sub hl [2, 1, 3, 4, 5, 6, 7] rfl) ?_
      rw [eq, show i = 12 by omega]
      rfl
    | succ n ih =>
      intro i q ls hi eq hl
      refine lv_iload hx hb dX2_encryptBlock_35 (lv_at hl 0 rfl) ?_
      refine lv_aload_n hx hb dX2_encryptBlock_37 rfl (lv_at hl 3 rfl) ?_
      refine va_get (D := D) (ci := 1) (v := .int (nI 12)) (C := RX2) (T := TX2) (N := 3) hx hb hts in_X2 hown hK.1 hP 0 rfl rfl 0 (by decide) (hts _ q38) (fun _ h9 => h9) rfl dX2_encryptBlock_38 ?_
      refine rc_gt (tgt := 98) (i + 1) 12 rfl rfl (by omega) (by omega) hx hb dX2_encryptBlock_41 (by decide) (fun h => absurd h (by omega)) (fun _ => ?_)
      refine lv_aload_n hx hb dX2_encryptBlock_44 rfl (lv_at hl 3 rfl) ?_
      refine lv_iload hx hb dX2_encryptBlock_45 (lv_at hl 2 rfl) ?_
      refine lv_iload hx hb dX2_encryptBlock_47 (lv_at hl 1 rfl) ?_
      refine lv_ixor hx hb dX2_encryptBlock_49 ?_
      refine lv_iload hx hb dX2_encryptBlock_50 (lv_at hl 1 rfl) ?_
      refine vp_callSi (W.runV (As := [.int (q.1 ^^^ q.2), .int q.2]) (rest := []) ⟨hx, hb, hml, hown, hts⟩ (met_rl l D dB dN h0 (q.1 ^^^ q.2) q.2) (cwV 2 hts (lw_V q93 q95 qs2 q11 q96) rfl rfl rfl (by decide +kernel) ⟨Nat.le_of_ble_eq_true rfl, Nat.le_of_ble_eq_true rfl⟩) (wS_V (ci := 1) (q0 := 0) hP hK [] rfl rfl rfl) rfl rfl hl.1 rfl (lv_room (Nat.le_of_ble_eq_true rfl)) dX2_encryptBlock_52 ⟨Nat.le_of_ble_eq_true rfl, Nat.le_of_ble_eq_true rfl⟩) (fun r1 er1 => ?_)
      refine lv_aload_n hx hb dX2_encryptBlock_55 rfl (lv_at hl 3 rfl) ?_
      refine va_get (D := D) (ci := 1) (v := .ref sS) (C := RX2) (T := TX2) (N := 3) hx hb hts in_X2 hown hK.1 hP 0 rfl rfl 1 (by decide) (hts _ q39) (fun _ h9 => h9) rfl dX2_encryptBlock_56 ?_
      refine lv_iconst (v := nI 2) hx hb dX2_encryptBlock_59 (by decide +kernel) ?_
      refine lv_iload hx hb dX2_encryptBlock_60 (lv_at hl 0 rfl) ?_
      refine lv_imul hx hb dX2_encryptBlock_62 ?_
      refine rc_iald hx hb hK.1 hP 1 1 rfl rfl (2 * (i + 1)) (nI_m 2 (i + 1)) (by omega) (by omega) dX2_encryptBlock_63 ?_
      refine lv_iadd hx hb dX2_encryptBlock_64 ?_
      refine lv_topi (fun X eX => ?_)
      refine lv_istore (lv' := [(5, .int X), (7, .int (nI (i + 1))), (6, .int q.2), (0, .ref h0), (1, .ref bi), (2, .int (nI 0)), (3, .ref bo), (4, .int (nI 0))]) hx hb dX2_encryptBlock_65 hl (by decide) rfl (fun ls hl => ?_)
      refine lv_aload_n hx hb dX2_encryptBlock_67 rfl (lv_at hl 3 rfl) ?_
      refine lv_iload hx hb dX2_encryptBlock_68 (lv_at hl 2 rfl) ?_
      refine lv_iload hx hb dX2_encryptBlock_70 (lv_at hl 0 rfl) ?_
      refine lv_ixor hx hb dX2_encryptBlock_72 ?_
      refine lv_iload hx hb dX2_encryptBlock_73 (lv_at hl 0 rfl) ?_
      refine vp_callSi (W.runV (As := [.int (q.2 ^^^ X), .int X]) (rest := []) ⟨hx, hb, hml, hown, hts⟩ (met_rl l D dB dN h0 (q.2 ^^^ X) X) (cwV 2 hts (lw_V q93 q95 qs2 q11 q96) rfl rfl rfl (by decide +kernel) ⟨Nat.le_of_ble_eq_true rfl, Nat.le_of_ble_eq_true rfl⟩) (wS_V (ci := 1) (q0 := 0) hP hK [] rfl rfl rfl) rfl rfl hl.1 rfl (lv_room (Nat.le_of_ble_eq_true rfl)) dX2_encryptBlock_75 ⟨Nat.le_of_ble_eq_true rfl, Nat.le_of_ble_eq_true rfl⟩) (fun r2 er2 => ?_)
      refine lv_aload_n hx hb dX2_encryptBlock_78 rfl (lv_at hl 3 rfl) ?_
      refine va_get (D := D) (ci := 1) (v := .ref sS) (C := RX2) (T := TX2) (N := 3) hx hb hts in_X2 hown hK.1 hP 0 rfl rfl 1 (by decide) (hts _ q39) (fun _ h9 => h9) rfl dX2_encryptBlock_79 ?_
      refine lv_iconst (v := nI 2) hx hb dX2_encryptBlock_82 (by decide +kernel) ?_
      refine lv_iload hx hb dX2_encryptBlock_83 (lv_at hl 1 rfl) ?_
      refine lv_imul hx hb dX2_encryptBlock_85 ?_
      refine lv_iconst (v := nI 1) hx hb dX2_encryptBlock_86 (by decide +kernel) ?_
      refine lv_iadd hx hb dX2_encryptBlock_87 ?_
      refine rc_iald hx hb hK.1 hP 1 1 rfl rfl (2 * (i + 1) + 1) (nI_2k1 (i + 1)) (by omega) (by omega) dX2_encryptBlock_88 ?_
      refine lv_iadd hx hb dX2_encryptBlock_89 ?_
      refine lv_topi (fun Y eY => ?_)
      refine lv_istore (lv' := [(6, .int Y), (5, .int X), (7, .int (nI (i + 1))), (0, .ref h0), (1, .ref bi), (2, .int (nI 0)), (3, .ref bo), (4, .int (nI 0))]) hx hb dX2_encryptBlock_90 hl (by decide) rfl (fun ls hl => ?_)
      refine lv_iinc (v := (nI (i + 1 + 1))) (lv' := [(7, .int (nI (i + 1 + 1))), (6, .int Y), (5, .int X), (0, .ref h0), (1, .ref bi), (2, .int (nI 0)), (3, .ref bo), (4, .int (nI 0))]) hx hb dX2_encryptBlock_92 hl (k := 2) rfl (nI_1 (i + 1)) (by decide) rfl (fun ls hl => ?_)
      refine lv_goto (tgt := 35) hx hb dX2_encryptBlock_95 (by decide) ?_
      refine ih (i + 1) (X, Y) ls (by omega) ?_ (lv_sub hl [0, 1, 2, 3, 4, 5, 6, 7] rfl)
      subst er1 eX er2 eY eq
      rfl
  refine lv_aload_n hx hb dX2_encryptBlock_0 rfl (lv_at hl 0 rfl) ?_
  refine lv_aload_n hx hb dX2_encryptBlock_1 rfl (lv_at hl 1 rfl) ?_
  refine lv_iload_n hx hb dX2_encryptBlock_2 rfl (lv_at hl 2 rfl) ?_
  refine vp_callSi (W.runV (As := [.ref bi, .int (nI 0)]) (rest := []) ⟨hx, hb, hml, hown, hts⟩ (met_b2w l D dB dN h0 bi 8 0 P (by omega) (by omega)) (cwV 2 hts (lw_V q181 q183 qs5 q11 q184) rfl rfl rfl (by decide +kernel) ⟨Nat.le_of_ble_eq_true rfl, Nat.le_of_ble_eq_true rfl⟩) (wS_V (ci := 1) (q0 := 0) hP hK [2] rfl rfl rfl) rfl rfl hl.1 rfl (lv_room (Nat.le_of_ble_eq_true rfl)) dX2_encryptBlock_3 ⟨Nat.le_of_ble_eq_true rfl, Nat.le_of_ble_eq_true rfl⟩) (fun w1 ew1 => ?_)
  refine lv_aload_n hx hb dX2_encryptBlock_6 rfl (lv_at hl 0 rfl) ?_
  refine va_get (D := D) (ci := 1) (v := .ref sS) (C := RX2) (T := TX2) (N := 3) hx hb hts in_X2 hown hK.1 hP 0 rfl rfl 1 (by decide) (hts _ q39) (fun _ h9 => h9) rfl dX2_encryptBlock_7 ?_
  refine lv_iconst (v := nI 0) hx hb dX2_encryptBlock_10 (by decide +kernel) ?_
  refine rc_iald hx hb hK.1 hP 1 1 rfl rfl 0 rfl (by omega) (by omega) dX2_encryptBlock_11 ?_
  refine lv_iadd hx hb dX2_encryptBlock_12 ?_
  refine lv_topi (fun X eX => ?_)
  refine lv_istore (lv' := [(5, .int X), (0, .ref h0), (1, .ref bi), (2, .int (nI 0)), (3, .ref bo), (4, .int (nI 0))]) hx hb dX2_encryptBlock_13 hl (by decide) rfl (fun ls hl => ?_)
  refine lv_aload_n hx hb dX2_encryptBlock_15 rfl (lv_at hl 1 rfl) ?_
  refine lv_aload_n hx hb dX2_encryptBlock_16 rfl (lv_at hl 2 rfl) ?_
  refine lv_iload_n hx hb dX2_encryptBlock_17 rfl (lv_at hl 3 rfl) ?_
  refine lv_iconst (v := nI 4) hx hb dX2_encryptBlock_18 (by decide +kernel) ?_
  refine lv_iadd hx hb dX2_encryptBlock_19 ?_
  refine rc_top (y := nI 4) (nI_add 0 4) ?_
  refine vp_callSi (W.runV (As := [.ref bi, .int (nI 4)]) (rest := []) ⟨hx, hb, hml, hown, hts⟩ (met_b2w l D dB dN h0 bi 8 4 P (by omega) (by omega)) (cwV 2 hts (lw_V q181 q183 qs5 q11 q184) rfl rfl rfl (by decide +kernel) ⟨Nat.le_of_ble_eq_true rfl, Nat.le_of_ble_eq_true rfl⟩) (wS_V (ci := 1) (q0 := 0) hP hK [2] rfl rfl rfl) rfl rfl hl.1 rfl (lv_room (Nat.le_of_ble_eq_true rfl)) dX2_encryptBlock_20 ⟨Nat.le_of_ble_eq_true rfl, Nat.le_of_ble_eq_true rfl⟩) (fun w2 ew2 => ?_)
  refine lv_aload_n hx hb dX2_encryptBlock_23 rfl (lv_at hl 1 rfl) ?_
  refine va_get (D := D) (ci := 1) (v := .ref sS) (C := RX2) (T := TX2) (N := 3) hx hb hts in_X2 hown hK.1 hP 0 rfl rfl 1 (by decide) (hts _ q39) (fun _ h9 => h9) rfl dX2_encryptBlock_24 ?_
  refine lv_iconst (v := nI 1) hx hb dX2_encryptBlock_27 (by decide +kernel) ?_
  refine rc_iald hx hb hK.1 hP 1 1 rfl rfl 1 rfl (by omega) (by omega) dX2_encryptBlock_28 ?_
  refine lv_iadd hx hb dX2_encryptBlock_29 ?_
  refine lv_topi (fun Y eY => ?_)
  refine lv_istore (lv' := [(6, .int Y), (5, .int X), (0, .ref h0), (1, .ref bi), (2, .int (nI 0)), (3, .ref bo), (4, .int (nI 0))]) hx hb dX2_encryptBlock_30 hl (by decide) rfl (fun ls hl => ?_)
  refine lv_iconst (v := nI 1) hx hb dX2_encryptBlock_32 (by decide +kernel) ?_
  refine lv_istore (lv' := [(7, .int (nI 1)), (6, .int Y), (5, .int X), (0, .ref h0), (1, .ref bi), (2, .int (nI 0)), (3, .ref bo), (4, .int (nI 0))]) hx hb dX2_encryptBlock_33 hl (by decide) rfl (fun ls hl => ?_)
  refine loop 12 0 (X, Y) ls rfl ?_ (lv_sub hl [0, 1, 2, 3, 4, 5, 6, 7] rfl)
  rw [eX, eY, ew1, ew2]
  rfl
set_option maxHeartbeats 4000000 in
set_option maxRecDepth 100000 in
/-- decryptBlock -/
theorem met_dec (l : Launch) (D : va_G) (dB dN : ClassId) (h0 sS bi bo : Nat) (fe : Value) (S : Nat → Int32) (P O : Nat → Int8) (sz : Nat) : Met l yX2_decryptBlock (ws_ yX2_decryptBlock cX2_decryptBlock 8 (some .int)) ({ frames := 1, cells := 0, slots := 0, locals := 23 }) (va_Pc [.ref h0, .ref bi, .int (nI 0), .ref bo, .int (nI 0)] (wM D dB dN [(h0, .inr (1, [.int (nI 12), .ref sS, fe])), (sS, .inl (dN, 26, .inl (S))), (bi, .inl (dB, 8, .inl (b8 P))), (bo, .inl (dB, 8, .inl (b8 O)))] sz)) (va_Qi (S := Unit) (fun _ _ => True) (wQ D (fun _ => [(h0, .inr (1, [.int (nI 12), .ref sS, fe])), (sS, .inl (dN, 26, .inl (S))), (bi, .inl (dB, 8, .inl (b8 P))), (bo, .inl (dB, 8, .inl (b8 (w2b (w2b O 0 (dec S P).1) 4 (dec S P).2))))]) (va_A [(h0, .inr (1, [.int (nI 12), .ref sS, fe])), (sS, .inl (dN, 26, .inl (S))), (bi, .inl (dB, 8, .inl (b8 P))), (bo, .inl (dB, 8, .inl (b8 O)))] sz)) (va_A [(h0, .inr (1, [.int (nI 12), .ref sS, fe])), (sS, .inl (dN, 26, .inl (S))), (bi, .inl (dB, 8, .inl (b8 P))), (bo, .inl (dB, 8, .inl (b8 O)))] sz)) 0 0 (va_A [(h0, .inr (1, [.int (nI 12), .ref sS, fe])), (sS, .inl (dN, 26, .inl (S))), (bi, .inl (dB, 8, .inl (b8 P))), (bo, .inl (dB, 8, .inl (b8 O)))] sz) := by
  refine rc_metM (fun A => va_Qi (S := Unit) (fun _ _ => True) (wQ D (fun _ => [(h0, .inr (1, [.int (nI 12), .ref sS, fe])), (sS, .inl (dN, 26, .inl (S))), (bi, .inl (dB, 8, .inl (b8 P))), (bo, .inl (dB, 8, .inl (b8 (w2b (w2b O 0 (dec S P).1) 4 (dec S P).2))))]) (A)) (A)) (by decide) (Nat.le_of_ble_eq_true rfl) ?_
  intro p e s m below meth c ls A hx hb hr hts hown hml hlocks hin hP hK hD hA hS hl
  have hown : s.vm.findClass RX2 = some m.cls := hown
  have hl : lv_has ls 8 [(0, .ref h0), (1, .ref bi), (2, .int (nI 0)), (3, .ref bo), (4, .int (nI 0))] := hl
  have tail : ∀ (X Y : Int32) (ls : Array Slot), lv_has ls 8 [(5, .int X), (6, .int Y), (0, .ref h0), (1, .ref bi), (2, .int (nI 0)), (3, .ref bo), (4, .int (nI 0))] → (X - S 0, Y - S 1) = dec S P → W p l e ({ frames := 1, cells := 0, slots := 0, locals := 23 }) s m ([.ref h0, .ref bi, .int (nI 0), .ref bo, .int (nI 0)] : List Value).toArray below meth c s.heap [] 0 0 (MQ below (va_Qi (S := Unit) (fun _ _ => True) (wQ D (fun _ => [(h0, .inr (1, [.int (nI 12), .ref sS, fe])), (sS, .inl (dN, 26, .inl (S))), (bi, .inl (dB, 8, .inl (b8 P))), (bo, .inl (dB, 8, .inl (b8 (w2b (w2b O 0 (dec S P).1) 4 (dec S P).2))))]) A) A) ([.ref h0, .ref bi, .int (nI 0), .ref bo, .int (nI 0)] : List Value).toArray s 0 0 A) (F0 m 84 ls []) := by
    intro X Y ls hl ef
    obtain ⟨ef1, ef2⟩ : X - S 0 = (dec S P).1 ∧ Y - S 1 = (dec S P).2 := ⟨congrArg Prod.fst ef, congrArg Prod.snd ef⟩
    refine lv_aload_n hx hb dX2_decryptBlock_84 rfl (lv_at hl 2 rfl) ?_
    refine lv_iload hx hb dX2_decryptBlock_85 (lv_at hl 0 rfl) ?_
    refine lv_aload_n hx hb dX2_decryptBlock_87 rfl (lv_at hl 2 rfl) ?_
    refine va_get (D := D) (ci := 1) (v := .ref sS) (C := RX2) (T := TX2) (N := 3) hx hb hts in_X2 hown hK.1 hP 0 rfl rfl 1 (by decide) (hts _ q39) (fun _ h9 => h9) rfl dX2_decryptBlock_88 ?_
    refine lv_iconst (v := nI 0) hx hb dX2_decryptBlock_91 (by decide +kernel) ?_
    refine rc_iald hx hb hK.1 hP 1 1 rfl rfl 0 rfl (by omega) (by omega) dX2_decryptBlock_92 ?_
    refine lv_isub hx hb dX2_decryptBlock_93 ?_
    refine lv_aload_n hx hb dX2_decryptBlock_94 rfl (lv_at hl 5 rfl) ?_
    refine lv_iload hx hb dX2_decryptBlock_95 (lv_at hl 6 rfl) ?_
    refine rc_callv (wr := [(h0, .inr (1, [.int (nI 12), .ref sS, fe])), (sS, .inl (dN, 26, .inl (S))), (bi, .inl (dB, 8, .inl (b8 P)))]) (va_runV (As := [.int (X - S 0), .ref bo, .int (nI 0)]) (rest := []) ⟨hx, hb, hml, hown, hts⟩ (met_w2b l D dB dN h0 bo 8 0 O (X - S 0) (by omega) (by omega) s.heap.size) (cwV 3 hts (lw_V q185 q187 qs6 q11 q188) rfl rfl rfl (by decide +kernel) ⟨Nat.le_of_ble_eq_true rfl, Nat.le_of_ble_eq_true rfl⟩) (wM_V (ci := 1) (q0 := 0) hP hK hD [3] rfl (by decide) rfl rfl) rfl rfl hl.1 rfl (lv_room (Nat.le_of_ble_eq_true rfl)) dX2_decryptBlock_97 ⟨Nat.le_of_ble_eq_true rfl, Nat.le_of_ble_eq_true rfl⟩) hP hD hS hA [3] [0, 1, 2] rfl rfl (by decide) (by decide) (fun _ H locs hw hP hD hS => ?_)
    have hP : va_P D vwCl [(h0, .inr (1, [.int (nI 12), .ref sS, fe])), (sS, .inl (dN, 26, .inl (S))), (bi, .inl (dB, 8, .inl (b8 P))), (bo, .inl (dB, 8, .inl (b8 (w2b O 0 (X - S 0)))))] H := hP
    have hD : va_D A [(h0, .inr (1, [.int (nI 12), .ref sS, fe])), (sS, .inl (dN, 26, .inl (S))), (bi, .inl (dB, 8, .inl (b8 P))), (bo, .inl (dB, 8, .inl (b8 (w2b O 0 (X - S 0)))))] := hD
    refine lv_aload_n hx hb dX2_decryptBlock_100 rfl (lv_at hl 2 rfl) ?_
    refine lv_iload hx hb dX2_decryptBlock_101 (lv_at hl 1 rfl) ?_
    refine lv_aload_n hx hb dX2_decryptBlock_103 rfl (lv_at hl 2 rfl) ?_
    refine va_get (D := D) (ci := 1) (v := .ref sS) (C := RX2) (T := TX2) (N := 3) hx hb hts in_X2 hown hK.1 hP 0 rfl rfl 1 (by decide) (hts _ q39) (fun _ h9 => h9) rfl dX2_decryptBlock_104 ?_
    refine lv_iconst (v := nI 1) hx hb dX2_decryptBlock_107 (by decide +kernel) ?_
    refine rc_iald hx hb hK.1 hP 1 1 rfl rfl 1 rfl (by omega) (by omega) dX2_decryptBlock_108 ?_
    refine lv_isub hx hb dX2_decryptBlock_109 ?_
    refine lv_aload_n hx hb dX2_decryptBlock_110 rfl (lv_at hl 5 rfl) ?_
    refine lv_iload hx hb dX2_decryptBlock_111 (lv_at hl 6 rfl) ?_
    refine lv_iconst (v := nI 4) hx hb dX2_decryptBlock_113 (by decide +kernel) ?_
    refine lv_iadd hx hb dX2_decryptBlock_114 ?_
    refine rc_top (y := nI 4) (nI_add 0 4) ?_
    refine rc_callv (wr := [(h0, .inr (1, [.int (nI 12), .ref sS, fe])), (sS, .inl (dN, 26, .inl (S))), (bi, .inl (dB, 8, .inl (b8 P)))]) (va_runV (As := [.int (Y - S 1), .ref bo, .int (nI 4)]) (rest := []) ⟨hx, hb, hml, hown, hts⟩ (met_w2b l D dB dN h0 bo 8 4 (w2b O 0 (X - S 0)) (Y - S 1) (by omega) (by omega) H.size) (cwV 3 hts (lw_V q185 q187 qs6 q11 q188) rfl rfl rfl (by decide +kernel) ⟨Nat.le_of_ble_eq_true rfl, Nat.le_of_ble_eq_true rfl⟩) (wM_V (ci := 1) (q0 := 0) hP hK hD [3] rfl (by decide) rfl rfl) rfl rfl hl.1 rfl (lv_room (Nat.le_of_ble_eq_true rfl)) dX2_decryptBlock_115 ⟨Nat.le_of_ble_eq_true rfl, Nat.le_of_ble_eq_true rfl⟩) hP hD hS hA [3] [0, 1, 2] rfl rfl (by decide) (by decide) (fun _ H locs hw hP hD hS => ?_)
    have hP : va_P D vwCl [(h0, .inr (1, [.int (nI 12), .ref sS, fe])), (sS, .inl (dN, 26, .inl (S))), (bi, .inl (dB, 8, .inl (b8 P))), (bo, .inl (dB, 8, .inl (b8 (w2b (w2b O 0 (X - S 0)) 4 (Y - S 1)))))] H := hP
    have hD : va_D A [(h0, .inr (1, [.int (nI 12), .ref sS, fe])), (sS, .inl (dN, 26, .inl (S))), (bi, .inl (dB, 8, .inl (b8 P))), (bo, .inl (dB, 8, .inl (b8 (w2b (w2b O 0 (X - S 0)) 4 (Y - S 1)))))] := hD
    refine lv_bipush (v := 8) hx hb dX2_decryptBlock_118 (by decide +kernel) ?_
    rw [ef1, ef2] at hP hD
    exact W.iret (v := 8) hx hb hr (fun t ht hW => ⟨⟨8, (), rfl, trivial, by rw [ht]; exact hP, hD⟩, hS.F ht⟩) hS.2.2 dX2_decryptBlock_120
  have loop : ∀ (n : Nat) (q : Int32 × Int32) (ls : Array Slot), n ≤ 12 → dR S n q = dR S 12 (b2w P 0, b2w P 4) → lv_has ls 8 [(7, .int (nI n)), (6, .int q.2), (5, .int q.1), (0, .ref h0), (1, .ref bi), (2, .int (nI 0)), (3, .ref bo), (4, .int (nI 0))] → W p l e ({ frames := 1, cells := 0, slots := 0, locals := 23 }) s m ([.ref h0, .ref bi, .int (nI 0), .ref bo, .int (nI 0)] : List Value).toArray below meth c s.heap [] 0 0 (MQ below (va_Qi (S := Unit) (fun _ _ => True) (wQ D (fun _ => [(h0, .inr (1, [.int (nI 12), .ref sS, fe])), (sS, .inl (dN, 26, .inl (S))), (bi, .inl (dB, 8, .inl (b8 P))), (bo, .inl (dB, 8, .inl (b8 (w2b (w2b O 0 (dec S P).1) 4 (dec S P).2))))]) A) A) ([.ref h0, .ref bi, .int (nI 0), .ref bo, .int (nI 0)] : List Value).toArray s 0 0 A) (F0 m 24 ls []) := by
    intro n
    induction n with
    | zero =>
      intro q ls hi eq hl
      refine lv_iload hx hb dX2_decryptBlock_24 (lv_at hl 0 rfl) ?_
      refine lv_iconst (v := nI 1) hx hb dX2_decryptBlock_26 (by decide +kernel) ?_
      refine rc_lt (tgt := 84) 0 1 rfl rfl (by omega) (by omega) hx hb dX2_decryptBlock_27 (by decide) (fun _ => ?_) (fun h => absurd h (by omega))
      refine tail q.1 q.2 ls (lv_sub hl [2, 1, 3, 4, 5, 6, 7] rfl) ?_
      unfold dec
      rw [← eq]
      rfl
    | succ n ih =>
      intro q ls hi eq hl
      refine lv_iload hx hb dX2_decryptBlock_24 (lv_at hl 0 rfl) ?_
      refine lv_iconst (v := nI 1) hx hb dX2_decryptBlock_26 (by decide +kernel) ?_
      refine rc_lt (tgt := 84) (n + 1) 1 rfl rfl (by omega) (by omega) hx hb dX2_decryptBlock_27 (by decide) (fun h => absurd h (by omega)) (fun _ => ?_)
      refine lv_aload_n hx hb dX2_decryptBlock_30 rfl (lv_at hl 3 rfl) ?_
      refine lv_iload hx hb dX2_decryptBlock_31 (lv_at hl 1 rfl) ?_
      refine lv_aload_n hx hb dX2_decryptBlock_33 rfl (lv_at hl 3 rfl) ?_
      refine va_get (D := D) (ci := 1) (v := .ref sS) (C := RX2) (T := TX2) (N := 3) hx hb hts in_X2 hown hK.1 hP 0 rfl rfl 1 (by decide) (hts _ q39) (fun _ h9 => h9) rfl dX2_decryptBlock_34 ?_
      refine lv_iconst (v := nI 2) hx hb dX2_decryptBlock_37 (by decide +kernel) ?_
      refine lv_iload hx hb dX2_decryptBlock_38 (lv_at hl 0 rfl) ?_
      refine lv_imul hx hb dX2_decryptBlock_40 ?_
      refine lv_iconst (v := nI 1) hx hb dX2_decryptBlock_41 (by decide +kernel) ?_
      refine lv_iadd hx hb dX2_decryptBlock_42 ?_
      refine rc_iald hx hb hK.1 hP 1 1 rfl rfl (2 * (n + 1) + 1) (nI_2k1 (n + 1)) (by omega) (by omega) dX2_decryptBlock_43 ?_
      refine lv_isub hx hb dX2_decryptBlock_44 ?_
      refine lv_iload hx hb dX2_decryptBlock_45 (lv_at hl 2 rfl) ?_
      refine vp_callSi (W.runV (As := [.int (q.2 - S (2 * (n + 1) + 1)), .int q.1]) (rest := []) ⟨hx, hb, hml, hown, hts⟩ (met_rr l D dB dN h0 (q.2 - S (2 * (n + 1) + 1)) q.1) (cwV 2 hts (lw_V q193 q195 qs8 q11 q196) rfl rfl rfl (by decide +kernel) ⟨Nat.le_of_ble_eq_true rfl, Nat.le_of_ble_eq_true rfl⟩) (wS_V (ci := 1) (q0 := 0) hP hK [] rfl rfl rfl) rfl rfl hl.1 rfl (lv_room (Nat.le_of_ble_eq_true rfl)) dX2_decryptBlock_47 ⟨Nat.le_of_ble_eq_true rfl, Nat.le_of_ble_eq_true rfl⟩) (fun r1 er1 => ?_)
      refine lv_iload hx hb dX2_decryptBlock_50 (lv_at hl 2 rfl) ?_
      refine lv_ixor hx hb dX2_decryptBlock_52 ?_
      refine lv_topi (fun Y eY => ?_)
      refine lv_istore (lv' := [(6, .int Y), (7, .int (nI (n + 1))), (5, .int q.1), (0, .ref h0), (1, .ref bi), (2, .int (nI 0)), (3, .ref bo), (4, .int (nI 0))]) hx hb dX2_decryptBlock_53 hl (by decide) rfl (fun ls hl => ?_)
      refine lv_aload_n hx hb dX2_decryptBlock_55 rfl (lv_at hl 3 rfl) ?_
      refine lv_iload hx hb dX2_decryptBlock_56 (lv_at hl 2 rfl) ?_
      refine lv_aload_n hx hb dX2_decryptBlock_58 rfl (lv_at hl 3 rfl) ?_
      refine va_get (D := D) (ci := 1) (v := .ref sS) (C := RX2) (T := TX2) (N := 3) hx hb hts in_X2 hown hK.1 hP 0 rfl rfl 1 (by decide) (hts _ q39) (fun _ h9 => h9) rfl dX2_decryptBlock_59 ?_
      refine lv_iconst (v := nI 2) hx hb dX2_decryptBlock_62 (by decide +kernel) ?_
      refine lv_iload hx hb dX2_decryptBlock_63 (lv_at hl 1 rfl) ?_
      refine lv_imul hx hb dX2_decryptBlock_65 ?_
      refine rc_iald hx hb hK.1 hP 1 1 rfl rfl (2 * (n + 1)) (nI_m 2 (n + 1)) (by omega) (by omega) dX2_decryptBlock_66 ?_
      refine lv_isub hx hb dX2_decryptBlock_67 ?_
      refine lv_iload hx hb dX2_decryptBlock_68 (lv_at hl 0 rfl) ?_
      refine vp_callSi (W.runV (As := [.int (q.1 - S (2 * (n + 1))), .int Y]) (rest := []) ⟨hx, hb, hml, hown, hts⟩ (met_rr l D dB dN h0 (q.1 - S (2 * (n + 1))) Y) (cwV 2 hts (lw_V q193 q195 qs8 q11 q196) rfl rfl rfl (by decide +kernel) ⟨Nat.le_of_ble_eq_true rfl, Nat.le_of_ble_eq_true rfl⟩) (wS_V (ci := 1) (q0 := 0) hP hK [] rfl rfl rfl) rfl rfl hl.1 rfl (lv_room (Nat.le_of_ble_eq_true rfl)) dX2_decryptBlock_70 ⟨Nat.le_of_ble_eq_true rfl, Nat.le_of_ble_eq_true rfl⟩) (fun r2 er2 => ?_)
      refine lv_iload hx hb dX2_decryptBlock_73 (lv_at hl 0 rfl) ?_
      refine lv_ixor hx hb dX2_decryptBlock_75 ?_
      refine lv_topi (fun X eX => ?_)
      refine lv_istore (lv' := [(5, .int X), (6, .int Y), (7, .int (nI (n + 1))), (0, .ref h0), (1, .ref bi), (2, .int (nI 0)), (3, .ref bo), (4, .int (nI 0))]) hx hb dX2_decryptBlock_76 hl (by decide) rfl (fun ls hl => ?_)
      refine lv_iinc (v := (nI n)) (lv' := [(7, .int (nI n)), (5, .int X), (6, .int Y), (0, .ref h0), (1, .ref bi), (2, .int (nI 0)), (3, .ref bo), (4, .int (nI 0))]) hx hb dX2_decryptBlock_78 hl (k := 2) rfl (pk_m1 n) (by decide) rfl (fun ls hl => ?_)
      refine lv_goto (tgt := 24) hx hb dX2_decryptBlock_81 (by decide) ?_
      refine ih (X, Y) ls (by omega) ?_ (lv_sub hl [0, 2, 1, 3, 4, 5, 6, 7] rfl)
      rw [← eq]
      subst er1 eY er2 eX
      rfl
  refine lv_aload_n hx hb dX2_decryptBlock_0 rfl (lv_at hl 0 rfl) ?_
  refine lv_aload_n hx hb dX2_decryptBlock_1 rfl (lv_at hl 1 rfl) ?_
  refine lv_iload_n hx hb dX2_decryptBlock_2 rfl (lv_at hl 2 rfl) ?_
  refine vp_callSi (W.runV (As := [.ref bi, .int (nI 0)]) (rest := []) ⟨hx, hb, hml, hown, hts⟩ (met_b2w l D dB dN h0 bi 8 0 P (by omega) (by omega)) (cwV 2 hts (lw_V q181 q183 qs5 q11 q184) rfl rfl rfl (by decide +kernel) ⟨Nat.le_of_ble_eq_true rfl, Nat.le_of_ble_eq_true rfl⟩) (wS_V (ci := 1) (q0 := 0) hP hK [2] rfl rfl rfl) rfl rfl hl.1 rfl (lv_room (Nat.le_of_ble_eq_true rfl)) dX2_decryptBlock_3 ⟨Nat.le_of_ble_eq_true rfl, Nat.le_of_ble_eq_true rfl⟩) (fun w1 ew1 => ?_)
  refine lv_istore (lv' := [(5, .int w1), (0, .ref h0), (1, .ref bi), (2, .int (nI 0)), (3, .ref bo), (4, .int (nI 0))]) hx hb dX2_decryptBlock_6 hl (by decide) rfl (fun ls hl => ?_)
  refine lv_aload_n hx hb dX2_decryptBlock_8 rfl (lv_at hl 1 rfl) ?_
  refine lv_aload_n hx hb dX2_decryptBlock_9 rfl (lv_at hl 2 rfl) ?_
  refine lv_iload_n hx hb dX2_decryptBlock_10 rfl (lv_at hl 3 rfl) ?_
  refine lv_iconst (v := nI 4) hx hb dX2_decryptBlock_11 (by decide +kernel) ?_
  refine lv_iadd hx hb dX2_decryptBlock_12 ?_
  refine rc_top (y := nI 4) (nI_add 0 4) ?_
  refine vp_callSi (W.runV (As := [.ref bi, .int (nI 4)]) (rest := []) ⟨hx, hb, hml, hown, hts⟩ (met_b2w l D dB dN h0 bi 8 4 P (by omega) (by omega)) (cwV 2 hts (lw_V q181 q183 qs5 q11 q184) rfl rfl rfl (by decide +kernel) ⟨Nat.le_of_ble_eq_true rfl, Nat.le_of_ble_eq_true rfl⟩) (wS_V (ci := 1) (q0 := 0) hP hK [2] rfl rfl rfl) rfl rfl hl.1 rfl (lv_room (Nat.le_of_ble_eq_true rfl)) dX2_decryptBlock_13 ⟨Nat.le_of_ble_eq_true rfl, Nat.le_of_ble_eq_true rfl⟩) (fun w2 ew2 => ?_)
  refine lv_istore (lv' := [(6, .int w2), (5, .int w1), (0, .ref h0), (1, .ref bi), (2, .int (nI 0)), (3, .ref bo), (4, .int (nI 0))]) hx hb dX2_decryptBlock_16 hl (by decide) rfl (fun ls hl => ?_)
  refine lv_aload_n hx hb dX2_decryptBlock_18 rfl (lv_at hl 2 rfl) ?_
  refine va_get (D := D) (ci := 1) (v := .int (nI 12)) (C := RX2) (T := TX2) (N := 3) hx hb hts in_X2 hown hK.1 hP 0 rfl rfl 0 (by decide) (hts _ q38) (fun _ h9 => h9) rfl dX2_decryptBlock_19 ?_
  refine lv_istore (lv' := [(7, .int (nI 12)), (6, .int w2), (5, .int w1), (0, .ref h0), (1, .ref bi), (2, .int (nI 0)), (3, .ref bo), (4, .int (nI 0))]) hx hb dX2_decryptBlock_22 hl (by decide) rfl (fun ls hl => ?_)
  refine loop 12 (w1, w2) ls (by omega) ?_ (lv_sub hl [0, 1, 2, 3, 4, 5, 6, 7] rfl)
  rw [ew1, ew2]
set_option maxHeartbeats 4000000 in
set_option maxRecDepth 100000 in
/-- processBlock -/
theorem met_process (l : Launch) (D : va_G) (dB dN : ClassId) (h0 sS bi bo : Nat) (lk : Bool) (S : Nat → Int32) (P O : Nat → Int8) (sz : Nat) : Met l yX2_processBlock (ws_ yX2_processBlock cX2_processBlock 5 (some .int)) ({ frames := 2, cells := 0, slots := 0, locals := 50 }) (va_Pc [.ref h0, .ref bi, .int (nI 0), .ref bo, .int (nI 0)] (wM D dB dN [(h0, .inr (1, [.int (nI 12), .ref sS, .int (bI lk)])), (sS, .inl (dN, 26, .inl (S))), (bi, .inl (dB, 8, .inl (b8 P))), (bo, .inl (dB, 8, .inl (b8 O)))] sz)) (va_Qi (S := Unit) (fun _ _ => True) (wQ D (fun _ => [(h0, .inr (1, [.int (nI 12), .ref sS, .int (bI lk)])), (sS, .inl (dN, 26, .inl (S))), (bi, .inl (dB, 8, .inl (b8 P))), (bo, .inl (dB, 8, .inl (b8 (crypt lk S P O))))]) (va_A [(h0, .inr (1, [.int (nI 12), .ref sS, .int (bI lk)])), (sS, .inl (dN, 26, .inl (S))), (bi, .inl (dB, 8, .inl (b8 P))), (bo, .inl (dB, 8, .inl (b8 O)))] sz)) (va_A [(h0, .inr (1, [.int (nI 12), .ref sS, .int (bI lk)])), (sS, .inl (dN, 26, .inl (S))), (bi, .inl (dB, 8, .inl (b8 P))), (bo, .inl (dB, 8, .inl (b8 O)))] sz)) 0 0 (va_A [(h0, .inr (1, [.int (nI 12), .ref sS, .int (bI lk)])), (sS, .inl (dN, 26, .inl (S))), (bi, .inl (dB, 8, .inl (b8 P))), (bo, .inl (dB, 8, .inl (b8 O)))] sz) := by
  refine rc_metM (fun A => va_Qi (S := Unit) (fun _ _ => True) (wQ D (fun _ => [(h0, .inr (1, [.int (nI 12), .ref sS, .int (bI lk)])), (sS, .inl (dN, 26, .inl (S))), (bi, .inl (dB, 8, .inl (b8 P))), (bo, .inl (dB, 8, .inl (b8 (crypt lk S P O))))]) (A)) (A)) (by decide) (Nat.le_of_ble_eq_true rfl) ?_
  intro p e s m below meth c ls A hx hb hr hts hown hml hlocks hin hP hK hD hA hS hl
  have hown : s.vm.findClass RX2 = some m.cls := hown
  have hl : lv_has ls 5 [(0, .ref h0), (1, .ref bi), (2, .int (nI 0)), (3, .ref bo), (4, .int (nI 0))] := hl
  refine lv_aload_n hx hb dX2_processBlock_0 rfl (lv_at hl 0 rfl) ?_
  refine va_get (D := D) (ci := 1) (v := .int (bI lk)) (C := RX2) (T := TX2) (N := 3) hx hb hts in_X2 hown hK.1 hP 0 rfl rfl 2 (by decide) (hts _ q40) (fun _ h9 => h9) rfl dX2_processBlock_1 ?_
  cases lk
  · refine lv_if_eq (tgt := 19) hx hb dX2_processBlock_4 (by decide) (fun h => ?_) (fun h => absurd rfl h)
    refine lv_aload_n hx hb dX2_processBlock_19 rfl (lv_at hl 0 rfl) ?_
    refine lv_aload_n hx hb dX2_processBlock_20 rfl (lv_at hl 1 rfl) ?_
    refine lv_iload_n hx hb dX2_processBlock_21 rfl (lv_at hl 2 rfl) ?_
    refine lv_aload_n hx hb dX2_processBlock_22 rfl (lv_at hl 3 rfl) ?_
    refine lv_iload hx hb dX2_processBlock_23 (lv_at hl 4 rfl) ?_
    refine rc_calli (wr := []) (va_runV (As := [.ref bi, .int (nI 0), .ref bo, .int (nI 0)]) (rest := []) ⟨hx, hb, hml, hown, hts⟩ (met_dec l D dB dN h0 sS bi bo (.int (bI false)) S P O s.heap.size) (cwV 4 hts (lw_V q189 q191 qs7 q11 q192) rfl rfl rfl (by decide +kernel) ⟨Nat.le_of_ble_eq_true rfl, Nat.le_of_ble_eq_true rfl⟩) (wM_V (ci := 1) (q0 := 0) hP hK hD [0, 1, 2, 3] rfl (by decide) rfl rfl) rfl rfl hl.1 rfl (lv_room (Nat.le_of_ble_eq_true rfl)) dX2_processBlock_25 ⟨Nat.le_of_ble_eq_true rfl, Nat.le_of_ble_eq_true rfl⟩) hP hD hS hA [0, 1, 2, 3] [] rfl rfl (by decide) (by decide) (fun r _ H locs hw hP hD hS => ?_)
    have hP : va_P D vwCl [(h0, .inr (1, [.int (nI 12), .ref sS, .int (bI false)])), (sS, .inl (dN, 26, .inl (S))), (bi, .inl (dB, 8, .inl (b8 P))), (bo, .inl (dB, 8, .inl (b8 (w2b (w2b O 0 (dec S P).1) 4 (dec S P).2))))] H := hP
    have hD : va_D A [(h0, .inr (1, [.int (nI 12), .ref sS, .int (bI false)])), (sS, .inl (dN, 26, .inl (S))), (bi, .inl (dB, 8, .inl (b8 P))), (bo, .inl (dB, 8, .inl (b8 (w2b (w2b O 0 (dec S P).1) 4 (dec S P).2))))] := hD
    exact W.iret (v := r) hx hb hr (fun t ht hW => ⟨⟨r, (), rfl, trivial, by rw [ht]; exact hP, hD⟩, hS.F ht⟩) hS.2.2 dX2_processBlock_28
  · refine lv_if_eq (tgt := 19) hx hb dX2_processBlock_4 (by decide) (fun h => absurd h (by decide)) (fun h => ?_)
    refine lv_aload_n hx hb dX2_processBlock_7 rfl (lv_at hl 0 rfl) ?_
    refine lv_aload_n hx hb dX2_processBlock_8 rfl (lv_at hl 1 rfl) ?_
    refine lv_iload_n hx hb dX2_processBlock_9 rfl (lv_at hl 2 rfl) ?_
    refine lv_aload_n hx hb dX2_processBlock_10 rfl (lv_at hl 3 rfl) ?_
    refine lv_iload hx hb dX2_processBlock_11 (lv_at hl 4 rfl) ?_
    refine rc_calli (wr := []) (va_runV (As := [.ref bi, .int (nI 0), .ref bo, .int (nI 0)]) (rest := []) ⟨hx, hb, hml, hown, hts⟩ (met_enc l D dB dN h0 sS bi bo (.int (bI true)) S P O s.heap.size) (cwV 4 hts (lw_V q177 q179 qs4 q11 q180) rfl rfl rfl (by decide +kernel) ⟨Nat.le_of_ble_eq_true rfl, Nat.le_of_ble_eq_true rfl⟩) (wM_V (ci := 1) (q0 := 0) hP hK hD [0, 1, 2, 3] rfl (by decide) rfl rfl) rfl rfl hl.1 rfl (lv_room (Nat.le_of_ble_eq_true rfl)) dX2_processBlock_13 ⟨Nat.le_of_ble_eq_true rfl, Nat.le_of_ble_eq_true rfl⟩) hP hD hS hA [0, 1, 2, 3] [] rfl rfl (by decide) (by decide) (fun r _ H locs hw hP hD hS => ?_)
    have hP : va_P D vwCl [(h0, .inr (1, [.int (nI 12), .ref sS, .int (bI true)])), (sS, .inl (dN, 26, .inl (S))), (bi, .inl (dB, 8, .inl (b8 P))), (bo, .inl (dB, 8, .inl (b8 (w2b (w2b O 0 (enc S P).1) 4 (enc S P).2))))] H := hP
    have hD : va_D A [(h0, .inr (1, [.int (nI 12), .ref sS, .int (bI true)])), (sS, .inl (dN, 26, .inl (S))), (bi, .inl (dB, 8, .inl (b8 P))), (bo, .inl (dB, 8, .inl (b8 (w2b (w2b O 0 (enc S P).1) 4 (enc S P).2))))] := hD
    refine lv_goto (tgt := 28) hx hb dX2_processBlock_16 (by decide) ?_
    exact W.iret (v := r) hx hb hr (fun t ht hW => ⟨⟨r, (), rfl, trivial, by rw [ht]; exact hP, hD⟩, hS.F ht⟩) hS.2.2 dX2_processBlock_28
end
section
/-! ===== the key's table ===== -/
theorem nI_d4 {k : Nat} (h : k < 16) : nI k / nI 4 = nI (k / 4) := pk_div (by omega) (by omega) (by omega)
theorem nI_m4 {k : Nat} (h : k < 16) : nI k - nI k / nI 4 * nI 4 = nI (k % 4) := pk_rem (by omega) (by omega) (by omega)
theorem nI_r4 (k : Nat) : nI (k % 4 + 1) - nI (k % 4 + 1) / nI 4 * nI 4 = nI ((k + 1) % 4) := by rw [pk_rem (by omega) (by omega) (by omega)]; exact congrArg nI (by omega)
theorem nI_r26 (k : Nat) : nI (k % 26 + 1) - nI (k % 26 + 1) / nI 26 * nI 26 = nI ((k + 1) % 26) := by rw [pk_rem (by omega) (by omega) (by omega)]; exact congrArg nI (by omega)
theorem lf_len {l : List Int32} {j : Nat} : lf l j = l.getD j 0 := rfl
/-- the table's words -/
def sc (g : Nat → Int8) : Nat → Int32 := lf (sched g)
set_option maxHeartbeats 4000000 in
set_option maxRecDepth 100000 in
/-- setKey -/
theorem met_setKey (l : Launch) (D : va_G) (dB dN : ClassId) (h0 kb : Nat) (vS fe : Value) (g : Nat → Int8) (sz : Nat) : Met l yX2_setKey (ws_ yX2_setKey cX2_setKey 9 none) ({ frames := 1, cells := 2, slots := 30, locals := 22 }) (va_Pc [.ref h0, .ref kb] (wM D dB dN [(h0, .inr (1, [.int (nI 12), vS, fe])), (kb, .inl (dB, 16, .inl (b8 g)))] sz)) (va_Qv (S := Nat) (fun _ => True) (wQ D (fun sS => [(kb, .inl (dB, 16, .inl (b8 g))), (h0, .inr (1, [.int (nI 12), .ref sS, fe])), (sS, .inl (dN, 26, .inl (sc g)))]) (va_A [(h0, .inr (1, [.int (nI 12), vS, fe])), (kb, .inl (dB, 16, .inl (b8 g)))] sz)) (va_A [(h0, .inr (1, [.int (nI 12), vS, fe])), (kb, .inl (dB, 16, .inl (b8 g)))] sz)) 2 30 (va_A [(h0, .inr (1, [.int (nI 12), vS, fe])), (kb, .inl (dB, 16, .inl (b8 g)))] sz) := by
  refine rc_metM (fun A => va_Qv (S := Nat) (fun _ => True) (wQ D (fun sS => [(kb, .inl (dB, 16, .inl (b8 g))), (h0, .inr (1, [.int (nI 12), .ref sS, fe])), (sS, .inl (dN, 26, .inl (sc g)))]) (A)) (A)) (by decide) (Nat.le_of_ble_eq_true rfl) ?_
  intro p e s m below meth c ls A hx hb hr hts hown hml hlocks hin hP hK hD hA hS hl
  have hown : s.vm.findClass RX2 = some m.cls := hown
  have hl : lv_has ls 9 [(0, .ref h0), (1, .ref kb)] := hl
  have loop3 : ∀ (n k : Nat) (t : List Int32 × List Int32 × Int32 × Int32) (qL sS : Nat) (H : Heap) (locs : List Loc) (ls : Array Slot), k + n = 78 → t = mx (sI 25) (kL g 16) k → va_P D vwCl [(kb, .inl (dB, 16, .inl (b8 g))), (qL, .inl (dN, 4, .inl (lf t.2.1))), (h0, .inr (1, [.int (nI 12), .ref sS, fe])), (sS, .inl (dN, 26, .inl (lf t.1)))] H → va_D A [(kb, .inl (dB, 16, .inl (b8 g))), (qL, .inl (dN, 4, .inl (lf t.2.1))), (h0, .inr (1, [.int (nI 12), .ref sS, fe])), (sS, .inl (dN, 26, .inl (lf t.1)))] → va_S A s.heap H locs → lv_has ls 9 [(8, .int (nI k)), (7, .int (nI (k % 4))), (6, .int (nI (k % 26))), (5, .int t.2.2.2), (4, .int t.2.2.1), (3, .int (nI 78)), (2, .ref qL), (0, .ref h0), (1, .ref kb)] → W p l e ({ frames := 1, cells := 2, slots := 30, locals := 22 }) s m ([.ref h0, .ref kb] : List Value).toArray below meth c H locs 2 30 (MQ below (va_Qv (S := Nat) (fun _ => True) (wQ D (fun sS => [(kb, .inl (dB, 16, .inl (b8 g))), (h0, .inr (1, [.int (nI 12), .ref sS, fe])), (sS, .inl (dN, 26, .inl (sc g)))]) A) A) ([.ref h0, .ref kb] : List Value).toArray s 2 30 A) (F0 m 142 ls []) := by
    intro n
    induction n with
    | zero =>
      intro k t qL sS H locs ls hk et hP hD hS hl
      refine lv_iload hx hb dX2_setKey_142 (lv_at hl 0 rfl) ?_
      refine lv_iload_n hx hb dX2_setKey_144 rfl (lv_at hl 5 rfl) ?_
      refine rc_ge (tgt := 229) k 78 rfl rfl (by omega) (by omega) hx hb dX2_setKey_145 (by decide) (fun _ => ?_) (fun h => absurd h (by omega))
      have e9 : lf t.1 = sc g := by rw [et, show k = 78 by omega]; rfl
      rw [e9] at hP hD
      have hP := hP.sub (ws' := [(kb, .inl (dB, 16, .inl (b8 g))), (h0, .inr (1, [.int (nI 12), .ref sS, fe])), (sS, .inl (dN, 26, .inl (sc g)))]) [0, 2, 3] rfl
      have hD := hD.sub (ws' := [(kb, .inl (dB, 16, .inl (b8 g))), (h0, .inr (1, [.int (nI 12), .ref sS, fe])), (sS, .inl (dN, 26, .inl (sc g)))]) [0, 2, 3] (by decide) rfl
      exact W.vret hx hb hr (fun t ht hW => ⟨⟨sS, rfl, trivial, by rw [ht]; exact hP, hD⟩, hS.F ht⟩) hS.2.2 dX2_setKey_229
    | succ n ih =>
      intro k t qL sS H locs ls hk et hP hD hS hl
      have hlS : t.1.length = 26 := by rw [et, (mx_len _ _ _).1, sI_len]
      have hlL : t.2.1.length = 4 := by rw [et, (mx_len _ _ _).2, kL_len]
      refine lv_iload hx hb dX2_setKey_142 (lv_at hl 0 rfl) ?_
      refine lv_iload_n hx hb dX2_setKey_144 rfl (lv_at hl 5 rfl) ?_
      refine rc_ge (tgt := 229) k 78 rfl rfl (by omega) (by omega) hx hb dX2_setKey_145 (by decide) (fun h => absurd h (by omega)) (fun _ => ?_)
      refine lv_aload_n hx hb dX2_setKey_148 rfl (lv_at hl 7 rfl) ?_
      refine va_get (D := D) (ci := 1) (v := .ref sS) (C := RX2) (T := TX2) (N := 3) hx hb hts in_X2 hown hK.1 hP 2 rfl rfl 1 (by decide) (hts _ q39) (fun _ h9 => h9) rfl dX2_setKey_149 ?_
      refine lv_iload hx hb dX2_setKey_152 (lv_at hl 2 rfl) ?_
      refine lv_aload_n hx hb dX2_setKey_154 rfl (lv_at hl 7 rfl) ?_
      refine lv_aload_n hx hb dX2_setKey_155 rfl (lv_at hl 7 rfl) ?_
      refine va_get (D := D) (ci := 1) (v := .ref sS) (C := RX2) (T := TX2) (N := 3) hx hb hts in_X2 hown hK.1 hP 2 rfl rfl 1 (by decide) (hts _ q39) (fun _ h9 => h9) rfl dX2_setKey_156 ?_
      refine lv_iload hx hb dX2_setKey_159 (lv_at hl 2 rfl) ?_
      refine rc_iald hx hb hK.1 hP 3 1 rfl rfl (k % 26) rfl (by omega) (by omega) dX2_setKey_161 ?_
      refine lv_iload hx hb dX2_setKey_162 (lv_at hl 4 rfl) ?_
      refine lv_iadd hx hb dX2_setKey_164 ?_
      refine lv_iload hx hb dX2_setKey_165 (lv_at hl 3 rfl) ?_
      refine lv_iadd hx hb dX2_setKey_167 ?_
      refine lv_iconst (v := 3) hx hb dX2_setKey_168 (by decide +kernel) ?_
      refine vp_callSi (W.runV (As := [.int (((lf t.1) (k % 26) + t.2.2.1) + t.2.2.2), .int 3]) (rest := [.int (nI (k % 26)), .ref sS]) ⟨hx, hb, hml, hown, hts⟩ (met_rl l D dB dN h0 (((lf t.1) (k % 26) + t.2.2.1) + t.2.2.2) 3) (cwV 2 hts (lw_V q93 q95 qs2 q11 q96) rfl rfl rfl (by decide +kernel) ⟨Nat.le_of_ble_eq_true rfl, Nat.le_of_ble_eq_true rfl⟩) (wS_V (ci := 1) (q0 := 2) hP hK [] rfl rfl rfl) rfl rfl hl.1 rfl (lv_room (Nat.le_of_ble_eq_true rfl)) dX2_setKey_169 ⟨Nat.le_of_ble_eq_true rfl, Nat.le_of_ble_eq_true rfl⟩) (fun r1 er1 => ?_)
      refine lv_dup_x2 hx hb dX2_setKey_172 rfl rfl rfl ?_
      refine rc_iast hx hb hK.1 hP hD hS 3 1 rfl rfl (k % 26) rfl hlS (by omega) (by omega) dX2_setKey_173 (fun H locs hP hD hS => ?_)
      have hP : va_P D vwCl [(kb, .inl (dB, 16, .inl (b8 g))), (qL, .inl (dN, 4, .inl (lf t.2.1))), (h0, .inr (1, [.int (nI 12), .ref sS, fe])), (sS, .inl (dN, 26, .inl (lf (t.1.set (k % 26) r1))))] H := hP
      have hD : va_D A [(kb, .inl (dB, 16, .inl (b8 g))), (qL, .inl (dN, 4, .inl (lf t.2.1))), (h0, .inr (1, [.int (nI 12), .ref sS, fe])), (sS, .inl (dN, 26, .inl (lf (t.1.set (k % 26) r1))))] := hD
      refine lv_istore (lv' := [(4, .int r1), (8, .int (nI k)), (7, .int (nI (k % 4))), (6, .int (nI (k % 26))), (5, .int t.2.2.2), (3, .int (nI 78)), (2, .ref qL), (0, .ref h0), (1, .ref kb)]) hx hb dX2_setKey_174 hl (by decide) rfl (fun ls hl => ?_)
      refine lv_aload_n hx hb dX2_setKey_176 rfl (lv_at hl 6 rfl) ?_
      refine lv_iload hx hb dX2_setKey_177 (lv_at hl 2 rfl) ?_
      refine lv_aload_n hx hb dX2_setKey_179 rfl (lv_at hl 7 rfl) ?_
      refine lv_aload_n hx hb dX2_setKey_180 rfl (lv_at hl 6 rfl) ?_
      refine lv_iload hx hb dX2_setKey_181 (lv_at hl 2 rfl) ?_
      refine rc_iald hx hb hK.1 hP 1 1 rfl rfl (k % 4) rfl (by omega) (by omega) dX2_setKey_183 ?_
      refine lv_iload hx hb dX2_setKey_184 (lv_at hl 0 rfl) ?_
      refine lv_iadd hx hb dX2_setKey_186 ?_
      refine lv_iload hx hb dX2_setKey_187 (lv_at hl 4 rfl) ?_
      refine lv_iadd hx hb dX2_setKey_189 ?_
      refine lv_iload hx hb dX2_setKey_190 (lv_at hl 0 rfl) ?_
      refine lv_iload hx hb dX2_setKey_192 (lv_at hl 4 rfl) ?_
      refine lv_iadd hx hb dX2_setKey_194 ?_
      refine vp_callSi (W.runV (As := [.int (((lf t.2.1) (k % 4) + r1) + t.2.2.2), .int (r1 + t.2.2.2)]) (rest := [.int (nI (k % 4)), .ref qL]) ⟨hx, hb, hml, hown, hts⟩ (met_rl l D dB dN h0 (((lf t.2.1) (k % 4) + r1) + t.2.2.2) (r1 + t.2.2.2)) (cwV 2 hts (lw_V q93 q95 qs2 q11 q96) rfl rfl rfl (by decide +kernel) ⟨Nat.le_of_ble_eq_true rfl, Nat.le_of_ble_eq_true rfl⟩) (wS_V (ci := 1) (q0 := 2) hP hK [] rfl rfl rfl) rfl rfl hl.1 rfl (lv_room (Nat.le_of_ble_eq_true rfl)) dX2_setKey_195 ⟨Nat.le_of_ble_eq_true rfl, Nat.le_of_ble_eq_true rfl⟩) (fun r2 er2 => ?_)
      refine lv_dup_x2 hx hb dX2_setKey_198 rfl rfl rfl ?_
      refine rc_iast hx hb hK.1 hP hD hS 1 1 rfl rfl (k % 4) rfl hlL (by omega) (by omega) dX2_setKey_199 (fun H locs hP hD hS => ?_)
      have hP : va_P D vwCl [(kb, .inl (dB, 16, .inl (b8 g))), (qL, .inl (dN, 4, .inl (lf (t.2.1.set (k % 4) r2)))), (h0, .inr (1, [.int (nI 12), .ref sS, fe])), (sS, .inl (dN, 26, .inl (lf (t.1.set (k % 26) r1))))] H := hP
      have hD : va_D A [(kb, .inl (dB, 16, .inl (b8 g))), (qL, .inl (dN, 4, .inl (lf (t.2.1.set (k % 4) r2)))), (h0, .inr (1, [.int (nI 12), .ref sS, fe])), (sS, .inl (dN, 26, .inl (lf (t.1.set (k % 26) r1))))] := hD
      refine lv_istore (lv' := [(5, .int r2), (4, .int r1), (8, .int (nI k)), (7, .int (nI (k % 4))), (6, .int (nI (k % 26))), (3, .int (nI 78)), (2, .ref qL), (0, .ref h0), (1, .ref kb)]) hx hb dX2_setKey_200 hl (by decide) rfl (fun ls hl => ?_)
      refine lv_iload hx hb dX2_setKey_202 (lv_at hl 4 rfl) ?_
      refine lv_iconst (v := nI 1) hx hb dX2_setKey_204 (by decide +kernel) ?_
      refine lv_iadd hx hb dX2_setKey_205 ?_
      refine rc_top (y := nI (k % 26 + 1)) (nI_1 (k % 26)) ?_
      refine lv_aload_n hx hb dX2_setKey_206 rfl (lv_at hl 7 rfl) ?_
      refine va_get (D := D) (ci := 1) (v := .ref sS) (C := RX2) (T := TX2) (N := 3) hx hb hts in_X2 hown hK.1 hP 2 rfl rfl 1 (by decide) (hts _ q39) (fun _ h9 => h9) rfl dX2_setKey_207 ?_
      refine va_alen (v := nI 26) hx hb hK.1 hP 3 1 rfl rfl rfl dX2_setKey_210 ?_
      refine lv_irem hx hb dX2_setKey_211 (by decide +kernel) ?_
      refine rc_top (y := nI ((k + 1) % 26)) (nI_r26 k) ?_
      refine lv_istore (lv' := [(6, .int (nI ((k + 1) % 26))), (5, .int r2), (4, .int r1), (8, .int (nI k)), (7, .int (nI (k % 4))), (3, .int (nI 78)), (2, .ref qL), (0, .ref h0), (1, .ref kb)]) hx hb dX2_setKey_212 hl (by decide) rfl (fun ls hl => ?_)
      refine lv_iload hx hb dX2_setKey_214 (lv_at hl 4 rfl) ?_
      refine lv_iconst (v := nI 1) hx hb dX2_setKey_216 (by decide +kernel) ?_
      refine lv_iadd hx hb dX2_setKey_217 ?_
      refine rc_top (y := nI (k % 4 + 1)) (nI_1 (k % 4)) ?_
      refine lv_aload_n hx hb dX2_setKey_218 rfl (lv_at hl 6 rfl) ?_
      refine va_alen (v := nI 4) hx hb hK.1 hP 1 1 rfl rfl rfl dX2_setKey_219 ?_
      refine lv_irem hx hb dX2_setKey_220 (by decide +kernel) ?_
      refine rc_top (y := nI ((k + 1) % 4)) (nI_r4 k) ?_
      refine lv_istore (lv' := [(7, .int (nI ((k + 1) % 4))), (6, .int (nI ((k + 1) % 26))), (5, .int r2), (4, .int r1), (8, .int (nI k)), (3, .int (nI 78)), (2, .ref qL), (0, .ref h0), (1, .ref kb)]) hx hb dX2_setKey_221 hl (by decide) rfl (fun ls hl => ?_)
      refine lv_iinc (v := (nI (k + 1))) (lv' := [(8, .int (nI (k + 1))), (7, .int (nI ((k + 1) % 4))), (6, .int (nI ((k + 1) % 26))), (5, .int r2), (4, .int r1), (3, .int (nI 78)), (2, .ref qL), (0, .ref h0), (1, .ref kb)]) hx hb dX2_setKey_223 hl (k := 4) rfl (nI_1 k) (by decide) rfl (fun ls hl => ?_)
      refine lv_goto (tgt := 142) hx hb dX2_setKey_226 (by decide) ?_
      refine ih (k + 1) (t.1.set (k % 26) r1, t.2.1.set (k % 4) r2, r1, r2) qL sS H locs ls (by omega) ?_ (hP.sub [0, 1, 2, 3] rfl) (hD.sub [0, 1, 2, 3] (by decide) rfl) hS (lv_sub hl [0, 1, 2, 3, 4, 5, 6, 7, 8] rfl)
      subst er1 er2
      rw [mx, ← et]
      rfl
  have loop2 : ∀ (n k : Nat) (qL sS : Nat) (H : Heap) (locs : List Loc) (ls : Array Slot), k + n = 25 → va_P D vwCl [(kb, .inl (dB, 16, .inl (b8 g))), (qL, .inl (dN, 4, .inl (lf (kL g 16)))), (h0, .inr (1, [.int (nI 12), .ref sS, fe])), (sS, .inl (dN, 26, .inl (lf (sI k))))] H → va_D A [(kb, .inl (dB, 16, .inl (b8 g))), (qL, .inl (dN, 4, .inl (lf (kL g 16)))), (h0, .inr (1, [.int (nI 12), .ref sS, fe])), (sS, .inl (dN, 26, .inl (lf (sI k))))] → va_S A s.heap H locs → lv_has ls 9 [(3, .int (nI (k + 1))), (2, .ref qL), (0, .ref h0), (1, .ref kb)] → W p l e ({ frames := 1, cells := 2, slots := 30, locals := 22 }) s m ([.ref h0, .ref kb] : List Value).toArray below meth c H locs 2 30 (MQ below (va_Qv (S := Nat) (fun _ => True) (wQ D (fun sS => [(kb, .inl (dB, 16, .inl (b8 g))), (h0, .inr (1, [.int (nI 12), .ref sS, fe])), (sS, .inl (dN, 26, .inl (sc g)))]) A) A) ([.ref h0, .ref kb] : List Value).toArray s 2 30 A) (F0 m 69 ls []) := by
    intro n
    induction n with
    | zero =>
      intro k qL sS H locs ls hk hP hD hS hl
      refine lv_iload_n hx hb dX2_setKey_69 rfl (lv_at hl 0 rfl) ?_
      refine lv_aload_n hx hb dX2_setKey_70 rfl (lv_at hl 2 rfl) ?_
      refine va_get (D := D) (ci := 1) (v := .ref sS) (C := RX2) (T := TX2) (N := 3) hx hb hts in_X2 hown hK.1 hP 2 rfl rfl 1 (by decide) (hts _ q39) (fun _ h9 => h9) rfl dX2_setKey_71 ?_
      refine va_alen (v := nI 26) hx hb hK.1 hP 3 1 rfl rfl rfl dX2_setKey_74 ?_
      refine rc_ge (tgt := 101) (k + 1) 26 rfl rfl (by omega) (by omega) hx hb dX2_setKey_75 (by decide) (fun _ => ?_) (fun h => absurd h (by omega))
      refine lv_aload_n hx hb dX2_setKey_101 rfl (lv_at hl 1 rfl) ?_
      refine va_alen (v := nI 4) hx hb hK.1 hP 1 1 rfl rfl rfl dX2_setKey_102 ?_
      refine lv_aload_n hx hb dX2_setKey_103 rfl (lv_at hl 2 rfl) ?_
      refine va_get (D := D) (ci := 1) (v := .ref sS) (C := RX2) (T := TX2) (N := 3) hx hb hts in_X2 hown hK.1 hP 2 rfl rfl 1 (by decide) (hts _ q39) (fun _ h9 => h9) rfl dX2_setKey_104 ?_
      refine va_alen (v := nI 26) hx hb hK.1 hP 3 1 rfl rfl rfl dX2_setKey_107 ?_
      refine rc_le (tgt := 119) 4 26 rfl rfl (by omega) (by omega) hx hb dX2_setKey_108 (by decide) (fun _ => ?_) (fun h => absurd h (by omega))
      refine lv_iconst (v := nI 3) hx hb dX2_setKey_119 (by decide +kernel) ?_
      refine lv_aload_n hx hb dX2_setKey_120 rfl (lv_at hl 2 rfl) ?_
      refine va_get (D := D) (ci := 1) (v := .ref sS) (C := RX2) (T := TX2) (N := 3) hx hb hts in_X2 hown hK.1 hP 2 rfl rfl 1 (by decide) (hts _ q39) (fun _ h9 => h9) rfl dX2_setKey_121 ?_
      refine va_alen (v := nI 26) hx hb hK.1 hP 3 1 rfl rfl rfl dX2_setKey_124 ?_
      refine lv_imul hx hb dX2_setKey_125 ?_
      refine rc_top (y := nI 78) (pk_mul 3 26) ?_
      refine lv_istore_n (lv' := [(3, .int (nI 78)), (2, .ref qL), (0, .ref h0), (1, .ref kb)]) hx hb dX2_setKey_126 rfl hl (by decide) rfl (fun ls hl => ?_)
      refine lv_iconst (v := nI 0) hx hb dX2_setKey_127 (by decide +kernel) ?_
      refine lv_istore (lv' := [(4, .int (nI 0)), (3, .int (nI 78)), (2, .ref qL), (0, .ref h0), (1, .ref kb)]) hx hb dX2_setKey_128 hl (by decide) rfl (fun ls hl => ?_)
      refine lv_iconst (v := nI 0) hx hb dX2_setKey_130 (by decide +kernel) ?_
      refine lv_istore (lv' := [(5, .int (nI 0)), (4, .int (nI 0)), (3, .int (nI 78)), (2, .ref qL), (0, .ref h0), (1, .ref kb)]) hx hb dX2_setKey_131 hl (by decide) rfl (fun ls hl => ?_)
      refine lv_iconst (v := nI 0) hx hb dX2_setKey_133 (by decide +kernel) ?_
      refine lv_istore (lv' := [(6, .int (nI 0)), (5, .int (nI 0)), (4, .int (nI 0)), (3, .int (nI 78)), (2, .ref qL), (0, .ref h0), (1, .ref kb)]) hx hb dX2_setKey_134 hl (by decide) rfl (fun ls hl => ?_)
      refine lv_iconst (v := nI 0) hx hb dX2_setKey_136 (by decide +kernel) ?_
      refine lv_istore (lv' := [(7, .int (nI 0)), (6, .int (nI 0)), (5, .int (nI 0)), (4, .int (nI 0)), (3, .int (nI 78)), (2, .ref qL), (0, .ref h0), (1, .ref kb)]) hx hb dX2_setKey_137 hl (by decide) rfl (fun ls hl => ?_)
      refine lv_iconst (v := nI 0) hx hb dX2_setKey_139 (by decide +kernel) ?_
      refine lv_istore (lv' := [(8, .int (nI 0)), (7, .int (nI 0)), (6, .int (nI 0)), (5, .int (nI 0)), (4, .int (nI 0)), (3, .int (nI 78)), (2, .ref qL), (0, .ref h0), (1, .ref kb)]) hx hb dX2_setKey_140 hl (by decide) rfl (fun ls hl => ?_)
      have ek : k = 25 := by omega
      rw [ek] at hP hD
      exact loop3 78 0 (sI 25, kL g 16, 0, 0) qL sS H locs ls rfl rfl hP hD hS (lv_sub hl [0, 1, 2, 3, 4, 5, 6, 7, 8] rfl)
    | succ n ih =>
      intro k qL sS H locs ls hk hP hD hS hl
      refine lv_iload_n hx hb dX2_setKey_69 rfl (lv_at hl 0 rfl) ?_
      refine lv_aload_n hx hb dX2_setKey_70 rfl (lv_at hl 2 rfl) ?_
      refine va_get (D := D) (ci := 1) (v := .ref sS) (C := RX2) (T := TX2) (N := 3) hx hb hts in_X2 hown hK.1 hP 2 rfl rfl 1 (by decide) (hts _ q39) (fun _ h9 => h9) rfl dX2_setKey_71 ?_
      refine va_alen (v := nI 26) hx hb hK.1 hP 3 1 rfl rfl rfl dX2_setKey_74 ?_
      refine rc_ge (tgt := 101) (k + 1) 26 rfl rfl (by omega) (by omega) hx hb dX2_setKey_75 (by decide) (fun h => absurd h (by omega)) (fun _ => ?_)
      refine lv_aload_n hx hb dX2_setKey_78 rfl (lv_at hl 2 rfl) ?_
      refine va_get (D := D) (ci := 1) (v := .ref sS) (C := RX2) (T := TX2) (N := 3) hx hb hts in_X2 hown hK.1 hP 2 rfl rfl 1 (by decide) (hts _ q39) (fun _ h9 => h9) rfl dX2_setKey_79 ?_
      refine lv_iload_n hx hb dX2_setKey_82 rfl (lv_at hl 0 rfl) ?_
      refine lv_aload_n hx hb dX2_setKey_83 rfl (lv_at hl 2 rfl) ?_
      refine va_get (D := D) (ci := 1) (v := .ref sS) (C := RX2) (T := TX2) (N := 3) hx hb hts in_X2 hown hK.1 hP 2 rfl rfl 1 (by decide) (hts _ q39) (fun _ h9 => h9) rfl dX2_setKey_84 ?_
      refine lv_iload_n hx hb dX2_setKey_87 rfl (lv_at hl 0 rfl) ?_
      refine lv_iconst (v := nI 1) hx hb dX2_setKey_88 (by decide +kernel) ?_
      refine lv_isub hx hb dX2_setKey_89 ?_
      refine rc_top (y := nI k) (nI_pred k) ?_
      refine rc_iald hx hb hK.1 hP 3 1 rfl rfl k rfl (by omega) (by omega) dX2_setKey_90 ?_
      refine lv_ldc hx hb hown (hts _ q92) dX2_setKey_91 ?_
      refine lv_iadd hx hb dX2_setKey_93 ?_
      refine rc_iast hx hb hK.1 hP hD hS 3 1 rfl rfl (k + 1) rfl (sI_len k) (by omega) (by omega) dX2_setKey_94 (fun H locs hP hD hS => ?_)
      have hP : va_P D vwCl [(kb, .inl (dB, 16, .inl (b8 g))), (qL, .inl (dN, 4, .inl (lf (kL g 16)))), (h0, .inr (1, [.int (nI 12), .ref sS, fe])), (sS, .inl (dN, 26, .inl (lf ((sI k).set (k + 1) ((lf (sI k)) k + (-1640531527))))))] H := hP
      have hD : va_D A [(kb, .inl (dB, 16, .inl (b8 g))), (qL, .inl (dN, 4, .inl (lf (kL g 16)))), (h0, .inr (1, [.int (nI 12), .ref sS, fe])), (sS, .inl (dN, 26, .inl (lf ((sI k).set (k + 1) ((lf (sI k)) k + (-1640531527))))))] := hD
      refine lv_iinc (v := (nI (k + 1 + 1))) (lv' := [(3, .int (nI (k + 1 + 1))), (2, .ref qL), (0, .ref h0), (1, .ref kb)]) hx hb dX2_setKey_95 hl (k := 0) rfl (nI_1 (k + 1)) (by decide) rfl (fun ls hl => ?_)
      refine lv_goto (tgt := 69) hx hb dX2_setKey_98 (by decide) ?_
      exact ih (k + 1) qL sS H locs ls (by omega) (hP.sub [0, 1, 2, 3] rfl) (hD.sub [0, 1, 2, 3] (by decide) rfl) hS (lv_sub hl [0, 1, 2, 3] rfl)
  have loop1 : ∀ (n k : Nat) (qL : Nat) (H : Heap) (locs : List Loc) (ls : Array Slot), k + n = 16 → va_P D vwCl [(kb, .inl (dB, 16, .inl (b8 g))), (h0, .inr (1, [.int (nI 12), vS, fe])), (qL, .inl (dN, 4, .inl (lf (kL g k))))] H → va_D A [(kb, .inl (dB, 16, .inl (b8 g))), (h0, .inr (1, [.int (nI 12), vS, fe])), (qL, .inl (dN, 4, .inl (lf (kL g k))))] → va_S A s.heap H locs → lv_has ls 9 [(3, .int (nI k)), (2, .ref qL), (0, .ref h0), (1, .ref kb)] → W p l e ({ frames := 1, cells := 2, slots := 30, locals := 22 }) s m ([.ref h0, .ref kb] : List Value).toArray below meth c H locs 1 4 (MQ below (va_Qv (S := Nat) (fun _ => True) (wQ D (fun sS => [(kb, .inl (dB, 16, .inl (b8 g))), (h0, .inr (1, [.int (nI 12), .ref sS, fe])), (sS, .inl (dN, 26, .inl (sc g)))]) A) A) ([.ref h0, .ref kb] : List Value).toArray s 2 30 A) (F0 m 11 ls []) := by
    intro n
    induction n with
    | zero =>
      intro k qL H locs ls hk hP hD hS hl
      refine lv_iload_n hx hb dX2_setKey_11 rfl (lv_at hl 0 rfl) ?_
      refine lv_aload_n hx hb dX2_setKey_12 rfl (lv_at hl 3 rfl) ?_
      refine va_alen (v := nI 16) hx hb hK.1 hP 0 0 rfl rfl rfl dX2_setKey_13 ?_
      refine rc_eq (tgt := 45) k 16 rfl rfl (by omega) (by omega) hx hb dX2_setKey_14 (by decide) (fun _ => ?_) (fun h => absurd (show k = 16 by omega) h)
      have ek : k = 16 := by omega
      subst ek
      refine lv_aload_n hx hb dX2_setKey_45 rfl (lv_at hl 2 rfl) ?_
      refine lv_iconst (v := nI 2) hx hb dX2_setKey_46 (by decide +kernel) ?_
      refine lv_aload_n hx hb dX2_setKey_47 rfl (lv_at hl 2 rfl) ?_
      refine va_get (D := D) (ci := 1) (v := .int (nI 12)) (C := RX2) (T := TX2) (N := 3) hx hb hts in_X2 hown hK.1 hP 1 rfl rfl 0 (by decide) (hts _ q38) (fun _ h9 => h9) rfl dX2_setKey_48 ?_
      refine lv_iconst (v := nI 1) hx hb dX2_setKey_51 (by decide +kernel) ?_
      refine lv_iadd hx hb dX2_setKey_52 ?_
      refine rc_top (y := nI 13) (nI_1 12) ?_
      refine lv_imul hx hb dX2_setKey_53 ?_
      refine rc_top (y := nI 26) (pk_mul 2 13) ?_
      refine rc_newi hx hb hts hK hP hD hS hA 26 rfl (by decide) (Nat.le_of_ble_eq_true rfl) (Nat.le_of_ble_eq_true rfl) dX2_setKey_54 (fun sS H hP hD hS => ?_)
      have hP : va_P D vwCl [(kb, .inl (dB, 16, .inl (b8 g))), (h0, .inr (1, [.int (nI 12), vS, fe])), (qL, .inl (dN, 4, .inl (lf (kL g 16)))), (sS, .inl (dN, 26, .inl (lf (List.replicate 26 0))))] H := hP
      have hD : va_D A [(kb, .inl (dB, 16, .inl (b8 g))), (h0, .inr (1, [.int (nI 12), vS, fe])), (qL, .inl (dN, 4, .inl (lf (kL g 16)))), (sS, .inl (dN, 26, .inl (lf (List.replicate 26 0))))] := hD
      refine va_put (D := D) (ci := 1) (v := .ref sS) (ty := .array .int) (C := RX2) (T := TX2) (N := 3) hx hb hts in_X2 tyX2 tyX2_ok nmX2 hown hK.1 hP hD hS 1 rfl rfl 1 (by decide) (hts _ q39) (fun _ h9 => h9) rfl (by decide +kernel) rfl rfl (Nat.le_of_ble_eq_true rfl) dX2_setKey_56 (fun H locs hP hD hS => ?_)
      have hP : va_P D vwCl [(kb, .inl (dB, 16, .inl (b8 g))), (h0, .inr (1, [.int (nI 12), .ref sS, fe])), (qL, .inl (dN, 4, .inl (lf (kL g 16)))), (sS, .inl (dN, 26, .inl (lf (List.replicate 26 0))))] H := hP
      have hD : va_D A [(kb, .inl (dB, 16, .inl (b8 g))), (h0, .inr (1, [.int (nI 12), .ref sS, fe])), (qL, .inl (dN, 4, .inl (lf (kL g 16)))), (sS, .inl (dN, 26, .inl (lf (List.replicate 26 0))))] := hD
      refine lv_aload_n hx hb dX2_setKey_59 rfl (lv_at hl 2 rfl) ?_
      refine va_get (D := D) (ci := 1) (v := .ref sS) (C := RX2) (T := TX2) (N := 3) hx hb hts in_X2 hown hK.1 hP 1 rfl rfl 1 (by decide) (hts _ q39) (fun _ h9 => h9) rfl dX2_setKey_60 ?_
      refine lv_iconst (v := nI 0) hx hb dX2_setKey_63 (by decide +kernel) ?_
      refine lv_ldc hx hb hown (hts _ q91) dX2_setKey_64 ?_
      refine rc_iast hx hb hK.1 hP hD hS 3 1 rfl rfl 0 rfl rfl (by omega) (by omega) dX2_setKey_66 (fun H locs hP hD hS => ?_)
      have hP : va_P D vwCl [(kb, .inl (dB, 16, .inl (b8 g))), (h0, .inr (1, [.int (nI 12), .ref sS, fe])), (qL, .inl (dN, 4, .inl (lf (kL g 16)))), (sS, .inl (dN, 26, .inl (lf ((List.replicate 26 0).set 0 (-1209970333)))))] H := hP
      have hD : va_D A [(kb, .inl (dB, 16, .inl (b8 g))), (h0, .inr (1, [.int (nI 12), .ref sS, fe])), (qL, .inl (dN, 4, .inl (lf (kL g 16)))), (sS, .inl (dN, 26, .inl (lf ((List.replicate 26 0).set 0 (-1209970333)))))] := hD
      refine lv_iconst (v := nI 1) hx hb dX2_setKey_67 (by decide +kernel) ?_
      refine lv_istore_n (lv' := [(3, .int (nI 1)), (2, .ref qL), (0, .ref h0), (1, .ref kb)]) hx hb dX2_setKey_68 rfl hl (by decide) rfl (fun ls hl => ?_)
      have hP := hP.sub (ws' := [(kb, .inl (dB, 16, .inl (b8 g))), (qL, .inl (dN, 4, .inl (lf (kL g 16)))), (h0, .inr (1, [.int (nI 12), .ref sS, fe])), (sS, .inl (dN, 26, .inl (lf ((List.replicate 26 0).set 0 (-1209970333)))))]) [0, 2, 1, 3] rfl
      have hD := hD.sub (ws' := [(kb, .inl (dB, 16, .inl (b8 g))), (qL, .inl (dN, 4, .inl (lf (kL g 16)))), (h0, .inr (1, [.int (nI 12), .ref sS, fe])), (sS, .inl (dN, 26, .inl (lf ((List.replicate 26 0).set 0 (-1209970333)))))]) [0, 2, 1, 3] (by decide) rfl
      exact loop2 25 0 qL sS H _ ls rfl hP hD hS (lv_sub hl [0, 1, 2, 3] rfl)
    | succ n ih =>
      intro k qL H locs ls hk hP hD hS hl
      refine lv_iload_n hx hb dX2_setKey_11 rfl (lv_at hl 0 rfl) ?_
      refine lv_aload_n hx hb dX2_setKey_12 rfl (lv_at hl 3 rfl) ?_
      refine va_alen (v := nI 16) hx hb hK.1 hP 0 0 rfl rfl rfl dX2_setKey_13 ?_
      refine rc_eq (tgt := 45) k 16 rfl rfl (by omega) (by omega) hx hb dX2_setKey_14 (by decide) (fun h => absurd h (by omega)) (fun _ => ?_)
      refine lv_aload_n hx hb dX2_setKey_17 rfl (lv_at hl 1 rfl) ?_
      refine lv_iload_n hx hb dX2_setKey_18 rfl (lv_at hl 0 rfl) ?_
      refine lv_iconst (v := nI 4) hx hb dX2_setKey_19 (by decide +kernel) ?_
      refine lv_idiv hx hb dX2_setKey_20 (by decide +kernel) ?_
      refine rc_top (y := nI (k / 4)) (nI_d4 (by omega)) ?_
      refine lv_dup2_11 hx hb dX2_setKey_21 rfl rfl ?_
      refine rc_iald hx hb hK.1 hP 2 1 rfl rfl (k / 4) rfl (by omega) (by omega) dX2_setKey_22 ?_
      refine lv_aload_n hx hb dX2_setKey_23 rfl (lv_at hl 3 rfl) ?_
      refine lv_iload_n hx hb dX2_setKey_24 rfl (lv_at hl 0 rfl) ?_
      refine rc_bald hx hb hK.1 hP 0 0 rfl rfl k rfl (by omega) (by omega) dX2_setKey_25 ?_
      refine lv_sipush (v := 255) hx hb dX2_setKey_26 (by decide +kernel) ?_
      refine lv_iand hx hb dX2_setKey_29 ?_
      refine lv_bipush (v := nI 8) hx hb dX2_setKey_30 (by decide +kernel) ?_
      refine lv_iload_n hx hb dX2_setKey_32 rfl (lv_at hl 0 rfl) ?_
      refine lv_iconst (v := nI 4) hx hb dX2_setKey_33 (by decide +kernel) ?_
      refine lv_irem hx hb dX2_setKey_34 (by decide +kernel) ?_
      refine rc_top (y := nI (k % 4)) (nI_m4 (by omega)) ?_
      refine lv_imul hx hb dX2_setKey_35 ?_
      refine lv_ishl hx hb dX2_setKey_36 ?_
      refine lv_iadd hx hb dX2_setKey_37 ?_
      refine rc_iast hx hb hK.1 hP hD hS 2 1 rfl rfl (k / 4) rfl (kL_len g k) (by omega) (by omega) dX2_setKey_38 (fun H locs hP hD hS => ?_)
      have hP : va_P D vwCl [(kb, .inl (dB, 16, .inl (b8 g))), (h0, .inr (1, [.int (nI 12), vS, fe])), (qL, .inl (dN, 4, .inl (lf ((kL g k).set (k / 4) ((lf (kL g k)) (k / 4) + (((g k).toInt32 &&& 255) <<< ((nI 8 * nI (k % 4)) &&& 31)))))))] H := hP
      have hD : va_D A [(kb, .inl (dB, 16, .inl (b8 g))), (h0, .inr (1, [.int (nI 12), vS, fe])), (qL, .inl (dN, 4, .inl (lf ((kL g k).set (k / 4) ((lf (kL g k)) (k / 4) + (((g k).toInt32 &&& 255) <<< ((nI 8 * nI (k % 4)) &&& 31)))))))] := hD
      refine lv_iinc (v := (nI (k + 1))) (lv' := [(3, .int (nI (k + 1))), (2, .ref qL), (0, .ref h0), (1, .ref kb)]) hx hb dX2_setKey_39 hl (k := 0) rfl (nI_1 k) (by decide) rfl (fun ls hl => ?_)
      refine lv_goto (tgt := 11) hx hb dX2_setKey_42 (by decide) ?_
      exact ih (k + 1) qL H locs ls (by omega) (hP.sub [0, 1, 2] rfl) (hD.sub [0, 1, 2] (by decide) rfl) hS (lv_sub hl [0, 1, 2, 3] rfl)
  refine lv_aload_n hx hb dX2_setKey_0 rfl (lv_at hl 1 rfl) ?_
  refine va_alen (v := nI 16) hx hb hK.1 hP 1 0 rfl rfl rfl dX2_setKey_1 ?_
  refine lv_iconst (v := nI 3) hx hb dX2_setKey_2 (by decide +kernel) ?_
  refine lv_iadd hx hb dX2_setKey_3 ?_
  refine rc_top (y := nI 19) (nI_add 16 3) ?_
  refine lv_iconst (v := nI 4) hx hb dX2_setKey_4 (by decide +kernel) ?_
  refine lv_idiv hx hb dX2_setKey_5 (by decide +kernel) ?_
  refine rc_top (y := nI 4) (pk_div (a := 19) (d := 4) (by omega) (by omega) (by omega)) ?_
  refine rc_newi hx hb hts hK hP hD hS hA 4 rfl (by decide) (Nat.le_of_ble_eq_true rfl) (Nat.le_of_ble_eq_true rfl) dX2_setKey_6 (fun qL H hP hD hS => ?_)
  have hP : va_P D vwCl [(h0, .inr (1, [.int (nI 12), vS, fe])), (kb, .inl (dB, 16, .inl (b8 g))), (qL, .inl (dN, 4, .inl (lf (List.replicate 4 0))))] H := hP
  have hD : va_D A [(h0, .inr (1, [.int (nI 12), vS, fe])), (kb, .inl (dB, 16, .inl (b8 g))), (qL, .inl (dN, 4, .inl (lf (List.replicate 4 0))))] := hD
  refine lv_astore_n (lv' := [(2, .ref qL), (0, .ref h0), (1, .ref kb)]) hx hb dX2_setKey_8 rfl hl (by decide) rfl (fun ls hl => ?_)
  refine lv_iconst (v := nI 0) hx hb dX2_setKey_9 (by decide +kernel) ?_
  refine lv_istore_n (lv' := [(3, .int (nI 0)), (2, .ref qL), (0, .ref h0), (1, .ref kb)]) hx hb dX2_setKey_10 rfl hl (by decide) rfl (fun ls hl => ?_)
  have hP := hP.sub (ws' := [(kb, .inl (dB, 16, .inl (b8 g))), (h0, .inr (1, [.int (nI 12), vS, fe])), (qL, .inl (dN, 4, .inl (lf (List.replicate 4 0))))]) [1, 0, 2] rfl
  have hD := hD.sub (ws' := [(kb, .inl (dB, 16, .inl (b8 g))), (h0, .inr (1, [.int (nI 12), vS, fe])), (qL, .inl (dN, 4, .inl (lf (List.replicate 4 0))))]) [1, 0, 2] (by decide) rfl
  exact loop1 16 0 qL H _ ls rfl hP hD hS (lv_sub hl [0, 1, 2, 3] rfl)
end
section
/-! ===== KeyParameter, the engine's making and init ===== -/
set_option maxHeartbeats 4000000 in
set_option maxRecDepth 100000 in
/-- KeyParameter(int) -/
theorem met_kp3 (l : Launch) (D : va_G) (dB dN : ClassId) (h0 : Nat) (v0 : Value) (sz : Nat) : Met l yX3_init_3 (ws_ yX3_init_3 cX3_init_3 2 none) ({ frames := 1, cells := 1, slots := 16, locals := 12 }) (va_Pc [.ref h0, .int (nI 16)] (wM D dB dN [(h0, .inr (2, [v0]))] sz)) (va_Qv (S := Nat) (fun _ => True) (wQ D (fun q => [(h0, .inr (2, [.ref q])), (q, .inl (dB, 16, .inl (b8 z8)))]) (va_A [(h0, .inr (2, [v0]))] sz)) (va_A [(h0, .inr (2, [v0]))] sz)) 1 16 (va_A [(h0, .inr (2, [v0]))] sz) := by
  refine rc_metM (fun A => va_Qv (S := Nat) (fun _ => True) (wQ D (fun q => [(h0, .inr (2, [.ref q])), (q, .inl (dB, 16, .inl (b8 z8)))]) (A)) (A)) (by decide) (Nat.le_of_ble_eq_true rfl) ?_
  intro p e s m below meth c ls A hx hb hr hts hown hml hlocks hin hP hK hD hA hS hl
  have hown : s.vm.findClass RX3 = some m.cls := hown
  have hl : lv_has ls 2 [(0, .ref h0), (1, .int (nI 16))] := hl
  refine lv_aload_n hx hb dX3_init_3_0 rfl (lv_at hl 0 rfl) ?_
  refine W.objInit hx hb hown (hts _ q60) (hts _ q36) (hts _ q37) rfl (by rw [hml]; exact hl.1) rfl dX3_init_3_1 (Nat.le_of_ble_eq_true rfl) (Nat.le_of_ble_eq_true rfl) ?_
  refine W.eq (g2 := F0 m 4 ls []) rfl ?_
  refine lv_aload_n hx hb dX3_init_3_4 rfl (lv_at hl 0 rfl) ?_
  refine lv_iload_n hx hb dX3_init_3_5 rfl (lv_at hl 1 rfl) ?_
  refine rc_newb hx hb hts hK hP hD hS hA 16 rfl (by decide) (Nat.le_of_ble_eq_true rfl) (Nat.le_of_ble_eq_true rfl) dX3_init_3_6 (fun q H hP hD hS => ?_)
  have hP : va_P D vwCl [(h0, .inr (2, [v0])), (q, .inl (dB, 16, .inl (b8 z8)))] H := hP
  have hD : va_D A [(h0, .inr (2, [v0])), (q, .inl (dB, 16, .inl (b8 z8)))] := hD
  refine va_put (D := D) (ci := 2) (v := .ref q) (ty := .array .byte) (C := RX3) (T := TX3) (N := 1) hx hb hts in_X3 tyX3 tyX3_ok nmX3 hown hK.1 hP hD hS 0 rfl rfl 0 (by decide) (hts _ q61) (fun _ h9 => h9) rfl (by decide +kernel) rfl rfl (Nat.le_of_ble_eq_true rfl) dX3_init_3_8 (fun H locs hP hD hS => ?_)
  have hP : va_P D vwCl [(h0, .inr (2, [.ref q])), (q, .inl (dB, 16, .inl (b8 z8)))] H := hP
  have hD : va_D A [(h0, .inr (2, [.ref q])), (q, .inl (dB, 16, .inl (b8 z8)))] := hD
  exact W.vret hx hb hr (fun t ht hW => ⟨⟨q, rfl, trivial, by rw [ht]; exact hP, hD⟩, hS.F ht⟩) hS.2.2 dX3_init_3_11
theorem fits8 (z : Int8) : fits .byte (.int z.toInt32) = true := by
  have h := pk_fb z.toInt32
  rwa [Int8.toInt8_toInt32] at h
set_option maxHeartbeats 4000000 in
set_option maxRecDepth 100000 in
/-- KeyParameter(byte[], int, int) -/
theorem met_kp2 (l : Launch) (D : va_G) (dB dN : ClassId) (h0 kb : Nat) (v0 : Value) (g : Nat → Int8) (sz : Nat) : Met l yX3_init_2 (ws_ yX3_init_2 cX3_init_2 4 none) ({ frames := 2, cells := 1, slots := 16, locals := 60 }) (va_Pc [.ref h0, .ref kb, .int (nI 0), .int (nI 16)] (wM D dB dN [(h0, .inr (2, [v0])), (kb, .inl (dB, 16, .inl (b8 g)))] sz)) (va_Qv (S := Nat) (fun _ => True) (wQ D (fun q => [(kb, .inl (dB, 16, .inl (b8 g))), (h0, .inr (2, [.ref q])), (q, .inl (dB, 16, .inl (b8 g)))]) (va_A [(h0, .inr (2, [v0])), (kb, .inl (dB, 16, .inl (b8 g)))] sz)) (va_A [(h0, .inr (2, [v0])), (kb, .inl (dB, 16, .inl (b8 g)))] sz)) 1 16 (va_A [(h0, .inr (2, [v0])), (kb, .inl (dB, 16, .inl (b8 g)))] sz) := by
  refine rc_metM (fun A => va_Qv (S := Nat) (fun _ => True) (wQ D (fun q => [(kb, .inl (dB, 16, .inl (b8 g))), (h0, .inr (2, [.ref q])), (q, .inl (dB, 16, .inl (b8 g)))]) (A)) (A)) (by decide) (Nat.le_of_ble_eq_true rfl) ?_
  intro p e s m below meth c ls A hx hb hr hts hown hml hlocks hin hP hK hD hA hS hl
  have hown : s.vm.findClass RX3 = some m.cls := hown
  have hl : lv_has ls 4 [(0, .ref h0), (1, .ref kb), (2, .int (nI 0)), (3, .int (nI 16))] := hl
  refine lv_aload_n hx hb dX3_init_2_0 rfl (lv_at hl 0 rfl) ?_
  refine lv_iload_n hx hb dX3_init_2_1 rfl (lv_at hl 3 rfl) ?_
  refine rc_callv (wr := [(kb, .inl (dB, 16, .inl (b8 g)))]) (va_runI (As := [.int (nI 16)]) (rest := []) ⟨hx, hb, hml, hown, hts⟩ (met_kp3 l D dB dN h0 v0 s.heap.size) (cwI 1 hts (lw_meth q59) rfl rfl rfl (hts _ q12) (hts _ q57) (hts _ q58) rfl (by decide +kernel) ⟨Nat.le_of_ble_eq_true rfl, Nat.le_of_ble_eq_true rfl⟩) (wM_S hP hK hD [0] rfl (by decide)) rfl rfl hl.1 rfl (lv_room (Nat.le_of_ble_eq_true rfl)) dX3_init_2_2 ⟨Nat.le_of_ble_eq_true rfl, Nat.le_of_ble_eq_true rfl⟩) hP hD hS hA [0] [1] rfl rfl (by decide) (by decide) (fun q H locs hw hP hD hS => ?_)
  have hP : va_P D vwCl [(kb, .inl (dB, 16, .inl (b8 g))), (h0, .inr (2, [.ref q])), (q, .inl (dB, 16, .inl (b8 z8)))] H := hP
  have hD : va_D A [(kb, .inl (dB, 16, .inl (b8 g))), (h0, .inr (2, [.ref q])), (q, .inl (dB, 16, .inl (b8 z8)))] := hD
  refine lv_aload_n hx hb dX3_init_2_5 rfl (lv_at hl 1 rfl) ?_
  refine lv_iload_n hx hb dX3_init_2_6 rfl (lv_at hl 2 rfl) ?_
  refine lv_aload_n hx hb dX3_init_2_7 rfl (lv_at hl 0 rfl) ?_
  refine va_get (D := D) (ci := 2) (v := .ref q) (C := RX3) (T := TX3) (N := 1) hx hb hts in_X3 hown hK.1 hP 1 rfl rfl 0 (by decide) (hts _ q61) (fun _ h9 => h9) rfl dX3_init_2_8 ?_
  refine lv_iconst (v := nI 0) hx hb dX3_init_2_11 (by decide +kernel) ?_
  refine lv_iload_n hx hb dX3_init_2_12 rfl (lv_at hl 3 rfl) ?_
  refine va_copyi (ty := .byte) hx hb (hml.trans hl.1.symm) hown (hts _ q65) (hts _ q67) (hts _ q66) (hts _ q13) hK.1 hP hD hS 0 2 0 0 rfl rfl rfl rfl rfl (sp := nI 0) (dp := nI 0) (n := nI 16) (by decide +kernel) (by decide +kernel) (by decide +kernel) (by decide +kernel) (by decide +kernel) (fun i hi => fits8 _) (Nat.le_of_ble_eq_true rfl) (by decide +kernel) dX3_init_2_13 (fun H locs hP hD hS => ?_)
  have hP : va_P D vwCl [(kb, .inl (dB, 16, .inl (b8 g))), (h0, .inr (2, [.ref q])), (q, .inl (dB, 16, .inl (va_cpy (b8 g) (b8 z8) 0 0 16)))] H := hP
  have hD : va_D A [(kb, .inl (dB, 16, .inl (b8 g))), (h0, .inr (2, [.ref q])), (q, .inl (dB, 16, .inl (va_cpy (b8 g) (b8 z8) 0 0 16)))] := hD
  have hP := hP.cg 2 (b8 g) rfl (fun j hj => by rw [pk_cpy_in (by omega) (by omega)]; exact congrArg (b8 g) (by omega))
  have hD := hD.set (p := 2) (a := q) (e := .inl (dB, 16, .inl (b8 g))) rfl
  have hP : va_P D vwCl [(kb, .inl (dB, 16, .inl (b8 g))), (h0, .inr (2, [.ref q])), (q, .inl (dB, 16, .inl (b8 g)))] H := hP
  have hD : va_D A [(kb, .inl (dB, 16, .inl (b8 g))), (h0, .inr (2, [.ref q])), (q, .inl (dB, 16, .inl (b8 g)))] := hD
  exact W.vret hx hb hr (fun t ht hW => ⟨⟨q, rfl, trivial, by rw [ht]; exact hP, hD⟩, hS.F ht⟩) hS.2.2 dX3_init_2_16
set_option maxHeartbeats 4000000 in
set_option maxRecDepth 100000 in
/-- KeyParameter(byte[]) -/
theorem met_kp (l : Launch) (D : va_G) (dB dN : ClassId) (h0 kb : Nat) (v0 : Value) (g : Nat → Int8) (sz : Nat) : Met l yX3_init (ws_ yX3_init cX3_init 2 none) ({ frames := 3, cells := 1, slots := 16, locals := 83 }) (va_Pc [.ref h0, .ref kb] (wM D dB dN [(h0, .inr (2, [v0])), (kb, .inl (dB, 16, .inl (b8 g)))] sz)) (va_Qv (S := Nat) (fun _ => True) (wQ D (fun q => [(kb, .inl (dB, 16, .inl (b8 g))), (h0, .inr (2, [.ref q])), (q, .inl (dB, 16, .inl (b8 g)))]) (va_A [(h0, .inr (2, [v0])), (kb, .inl (dB, 16, .inl (b8 g)))] sz)) (va_A [(h0, .inr (2, [v0])), (kb, .inl (dB, 16, .inl (b8 g)))] sz)) 1 16 (va_A [(h0, .inr (2, [v0])), (kb, .inl (dB, 16, .inl (b8 g)))] sz) := by
  refine rc_metM (fun A => va_Qv (S := Nat) (fun _ => True) (wQ D (fun q => [(kb, .inl (dB, 16, .inl (b8 g))), (h0, .inr (2, [.ref q])), (q, .inl (dB, 16, .inl (b8 g)))]) (A)) (A)) (by decide) (Nat.le_of_ble_eq_true rfl) ?_
  intro p e s m below meth c ls A hx hb hr hts hown hml hlocks hin hP hK hD hA hS hl
  have hown : s.vm.findClass RX3 = some m.cls := hown
  have hl : lv_has ls 2 [(0, .ref h0), (1, .ref kb)] := hl
  refine lv_aload_n hx hb dX3_init_0 rfl (lv_at hl 0 rfl) ?_
  refine lv_aload_n hx hb dX3_init_1 rfl (lv_at hl 1 rfl) ?_
  refine lv_iconst (v := nI 0) hx hb dX3_init_2 (by decide +kernel) ?_
  refine lv_aload_n hx hb dX3_init_3 rfl (lv_at hl 1 rfl) ?_
  refine va_alen (v := nI 16) hx hb hK.1 hP 1 0 rfl rfl rfl dX3_init_4 ?_
  refine rc_callv (wr := []) (va_runI (As := [.ref kb, .int (nI 0), .int (nI 16)]) (rest := []) ⟨hx, hb, hml, hown, hts⟩ (met_kp2 l D dB dN h0 kb v0 g s.heap.size) (cwI 3 hts (lw_meth q56) rfl rfl rfl (hts _ q12) (hts _ q54) (hts _ q55) rfl (by decide +kernel) ⟨Nat.le_of_ble_eq_true rfl, Nat.le_of_ble_eq_true rfl⟩) (wM_S hP hK hD [0, 1] rfl (by decide)) rfl rfl hl.1 rfl (lv_room (Nat.le_of_ble_eq_true rfl)) dX3_init_5 ⟨Nat.le_of_ble_eq_true rfl, Nat.le_of_ble_eq_true rfl⟩) hP hD hS hA [0, 1] [] rfl rfl (by decide) (by decide) (fun q H locs hw hP hD hS => ?_)
  have hP : va_P D vwCl [(kb, .inl (dB, 16, .inl (b8 g))), (h0, .inr (2, [.ref q])), (q, .inl (dB, 16, .inl (b8 g)))] H := hP
  have hD : va_D A [(kb, .inl (dB, 16, .inl (b8 g))), (h0, .inr (2, [.ref q])), (q, .inl (dB, 16, .inl (b8 g)))] := hD
  exact W.vret hx hb hr (fun t ht hW => ⟨⟨q, rfl, trivial, by rw [ht]; exact hP, hD⟩, hS.F ht⟩) hS.2.2 dX3_init_8
set_option maxHeartbeats 4000000 in
set_option maxRecDepth 100000 in
/-- RC532Engine() -/
theorem met_eng (l : Launch) (D : va_G) (dB dN : ClassId) (h0 : Nat) (v0 v1 v2 : Value) (sz : Nat) : Met l yX2_init (ws_ yX2_init cX2_init 1 none) ({ frames := 1, cells := 0, slots := 0, locals := 12 }) (va_Pc [.ref h0] (wM D dB dN [(h0, .inr (1, [v0, v1, v2]))] sz)) (va_Qv (S := Unit) (fun _ => True) (wQ D (fun _ => [(h0, .inr (1, [.int (nI 12), .null, v2]))]) (va_A [(h0, .inr (1, [v0, v1, v2]))] sz)) (va_A [(h0, .inr (1, [v0, v1, v2]))] sz)) 0 0 (va_A [(h0, .inr (1, [v0, v1, v2]))] sz) := by
  refine rc_metM (fun A => va_Qv (S := Unit) (fun _ => True) (wQ D (fun _ => [(h0, .inr (1, [.int (nI 12), .null, v2]))]) (A)) (A)) (by decide) (Nat.le_of_ble_eq_true rfl) ?_
  intro p e s m below meth c ls A hx hb hr hts hown hml hlocks hin hP hK hD hA hS hl
  have hown : s.vm.findClass RX2 = some m.cls := hown
  have hl : lv_has ls 1 [(0, .ref h0)] := hl
  refine lv_aload_n hx hb dX2_init_0 rfl (lv_at hl 0 rfl) ?_
  refine W.objInit hx hb hown (hts _ q35) (hts _ q36) (hts _ q37) rfl (by rw [hml]; exact hl.1) rfl dX2_init_1 (Nat.le_of_ble_eq_true rfl) (Nat.le_of_ble_eq_true rfl) ?_
  refine W.eq (g2 := F0 m 4 ls []) rfl ?_
  refine lv_aload_n hx hb dX2_init_4 rfl (lv_at hl 0 rfl) ?_
  refine lv_bipush (v := nI 12) hx hb dX2_init_5 (by decide +kernel) ?_
  refine va_put (D := D) (ci := 1) (v := .int (nI 12)) (ty := .int) (C := RX2) (T := TX2) (N := 3) hx hb hts in_X2 tyX2 tyX2_ok nmX2 hown hK.1 hP hD hS 0 rfl rfl 0 (by decide) (hts _ q38) (fun _ h9 => h9) rfl (by decide +kernel) rfl rfl (Nat.le_of_ble_eq_true rfl) dX2_init_7 (fun H locs hP hD hS => ?_)
  have hP : va_P D vwCl [(h0, .inr (1, [.int (nI 12), v1, v2]))] H := hP
  have hD : va_D A [(h0, .inr (1, [.int (nI 12), v1, v2]))] := hD
  refine lv_aload_n hx hb dX2_init_10 rfl (lv_at hl 0 rfl) ?_
  refine lv_null hx hb dX2_init_11 ?_
  refine va_put (D := D) (ci := 1) (v := .null) (ty := .array .int) (C := RX2) (T := TX2) (N := 3) hx hb hts in_X2 tyX2 tyX2_ok nmX2 hown hK.1 hP hD hS 0 rfl rfl 1 (by decide) (hts _ q39) (fun _ h9 => h9) rfl (by decide +kernel) rfl rfl (Nat.le_of_ble_eq_true rfl) dX2_init_12 (fun H locs hP hD hS => ?_)
  have hP : va_P D vwCl [(h0, .inr (1, [.int (nI 12), .null, v2]))] H := hP
  have hD : va_D A [(h0, .inr (1, [.int (nI 12), .null, v2]))] := hD
  exact W.vret hx hb hr (fun t ht hW => ⟨⟨(), rfl, trivial, by rw [ht]; exact hP, hD⟩, hS.F ht⟩) hS.2.2 dX2_init_15
set_option maxHeartbeats 4000000 in
set_option maxRecDepth 100000 in
/-- init(boolean, CipherParameters) -/
theorem met_init (l : Launch) (D : va_G) (dB dN : ClassId) (h0 kp kb : Nat) (lk : Bool) (vS fe : Value) (g : Nat → Int8) (sz : Nat) : Met l yX2_init_2 (ws_ yX2_init_2 cX2_init_2 5 none) ({ frames := 2, cells := 2, slots := 30, locals := 50 }) (va_Pc [.ref h0, .int (bI lk), .ref kp] (wM D dB dN [(h0, .inr (1, [.int (nI 12), vS, fe])), (kp, .inr (2, [.ref kb])), (kb, .inl (dB, 16, .inl (b8 g)))] sz)) (va_Qv (S := Nat) (fun _ => True) (wQ D (fun sS => [(h0, .inr (1, [.int (nI 12), .ref sS, .int (bI lk)])), (sS, .inl (dN, 26, .inl (sc g)))]) (va_A [(h0, .inr (1, [.int (nI 12), vS, fe])), (kp, .inr (2, [.ref kb])), (kb, .inl (dB, 16, .inl (b8 g)))] sz)) (va_A [(h0, .inr (1, [.int (nI 12), vS, fe])), (kp, .inr (2, [.ref kb])), (kb, .inl (dB, 16, .inl (b8 g)))] sz)) 2 30 (va_A [(h0, .inr (1, [.int (nI 12), vS, fe])), (kp, .inr (2, [.ref kb])), (kb, .inl (dB, 16, .inl (b8 g)))] sz) := by
  refine rc_metM (fun A => va_Qv (S := Nat) (fun _ => True) (wQ D (fun sS => [(h0, .inr (1, [.int (nI 12), .ref sS, .int (bI lk)])), (sS, .inl (dN, 26, .inl (sc g)))]) (A)) (A)) (by decide) (Nat.le_of_ble_eq_true rfl) ?_
  intro p e s m below meth c ls A hx hb hr hts hown hml hlocks hin hP hK hD hA hS hl
  have hown : s.vm.findClass RX2 = some m.cls := hown
  have hl : lv_has ls 5 [(0, .ref h0), (1, .int (bI lk)), (2, .ref kp)] := hl
  refine lv_aload_n hx hb dX2_init_2_0 rfl (lv_at hl 2 rfl) ?_
  refine va_instNo (C := RX3) hx hb hown (hts _ q78) hK.2.1 (va_recv hK.1 hP (ci := 2) (q0 := 1) rfl rfl) dX2_init_2_1 ?_
  refine lv_if_eq (tgt := 36) hx hb dX2_init_2_4 (by decide) (fun _ => ?_) (fun h => absurd rfl h)
  refine lv_aload_n hx hb dX2_init_2_36 rfl (lv_at hl 2 rfl) ?_
  refine va_instS (nm := RX3) hx hb hown (hts _ q97) (hK.1.1 2 _ rfl).2 (va_recv hK.1 hP (ci := 2) (q0 := 1) rfl rfl) dX2_init_2_37 ?_
  refine lv_if_eq (tgt := 63) hx hb dX2_init_2_40 (by decide) (fun h => absurd h (by decide)) (fun _ => ?_)
  refine lv_aload_n hx hb dX2_init_2_43 rfl (lv_at hl 2 rfl) ?_
  refine va_castS (nm := RX3) hx hb hown (hts _ q97) (hK.1.1 2 _ rfl).2 (va_recv hK.1 hP (ci := 2) (q0 := 1) rfl rfl) dX2_init_2_44 ?_
  refine lv_astore (lv' := [(4, .ref kp), (0, .ref h0), (1, .int (bI lk)), (2, .ref kp)]) hx hb dX2_init_2_47 hl (by decide) rfl (fun ls hl => ?_)
  refine lv_aload hx hb dX2_init_2_49 (lv_at hl 0 rfl) ?_
  refine va_csr (W.runV (As := []) (rest := []) ⟨hx, hb, hml, hown, hts⟩ (met_getKey l D dB dN kp kb) (cwV 0 hts (lw_V q98 q99 q100 q12 q101) rfl rfl rfl (by decide +kernel) ⟨Nat.le_of_ble_eq_true rfl, Nat.le_of_ble_eq_true rfl⟩) (wS_V (ci := 2) (q0 := 1) hP hK [1] rfl rfl rfl) rfl rfl hl.1 rfl (lv_room (Nat.le_of_ble_eq_true rfl)) dX2_init_2_51 ⟨Nat.le_of_ble_eq_true rfl, Nat.le_of_ble_eq_true rfl⟩) (fun _ _ => ?_)
  refine lv_astore_n (lv' := [(3, .ref kb), (4, .ref kp), (0, .ref h0), (1, .int (bI lk)), (2, .ref kp)]) hx hb dX2_init_2_54 rfl hl (by decide) rfl (fun ls hl => ?_)
  refine lv_aload_n hx hb dX2_init_2_55 rfl (lv_at hl 2 rfl) ?_
  refine lv_aload_n hx hb dX2_init_2_56 rfl (lv_at hl 0 rfl) ?_
  refine rc_callv (wr := [(kp, .inr (2, [.ref kb]))]) (va_runV (As := [.ref kb]) (rest := []) ⟨hx, hb, hml, hown, hts⟩ (met_setKey l D dB dN h0 kb vS fe g s.heap.size) (cwV 1 hts (lw_V q87 q89 qs1 q11 q90) rfl rfl rfl (by decide +kernel) ⟨Nat.le_of_ble_eq_true rfl, Nat.le_of_ble_eq_true rfl⟩) (wM_V (ci := 1) (q0 := 0) hP hK hD [0, 2] rfl (by decide) rfl rfl) rfl rfl hl.1 rfl (lv_room (Nat.le_of_ble_eq_true rfl)) dX2_init_2_57 ⟨Nat.le_of_ble_eq_true rfl, Nat.le_of_ble_eq_true rfl⟩) hP hD hS hA [0, 2] [1] rfl rfl (by decide) (by decide) (fun sS H locs hw hP hD hS => ?_)
  have hP : va_P D vwCl [(kp, .inr (2, [.ref kb])), (kb, .inl (dB, 16, .inl (b8 g))), (h0, .inr (1, [.int (nI 12), .ref sS, fe])), (sS, .inl (dN, 26, .inl (sc g)))] H := hP
  have hD : va_D A [(kp, .inr (2, [.ref kb])), (kb, .inl (dB, 16, .inl (b8 g))), (h0, .inr (1, [.int (nI 12), .ref sS, fe])), (sS, .inl (dN, 26, .inl (sc g)))] := hD
  refine lv_goto (tgt := 73) hx hb dX2_init_2_60 (by decide) ?_
  refine lv_aload_n hx hb dX2_init_2_73 rfl (lv_at hl 2 rfl) ?_
  refine lv_iload_n hx hb dX2_init_2_74 rfl (lv_at hl 3 rfl) ?_
  refine va_put (D := D) (ci := 1) (v := .int (bI lk)) (ty := .boolean) (C := RX2) (T := TX2) (N := 3) hx hb hts in_X2 tyX2 tyX2_ok nmX2 hown hK.1 hP hD hS 2 rfl rfl 2 (by decide) (hts _ q40) (fun _ h9 => h9) rfl (by decide +kernel) (by cases lk <;> rfl) (by cases lk <;> rfl) (Nat.le_of_ble_eq_true rfl) dX2_init_2_75 (fun H locs hP hD hS => ?_)
  have hP : va_P D vwCl [(kp, .inr (2, [.ref kb])), (kb, .inl (dB, 16, .inl (b8 g))), (h0, .inr (1, [.int (nI 12), .ref sS, .int (bI lk)])), (sS, .inl (dN, 26, .inl (sc g)))] H := hP
  have hD : va_D A [(kp, .inr (2, [.ref kb])), (kb, .inl (dB, 16, .inl (b8 g))), (h0, .inr (1, [.int (nI 12), .ref sS, .int (bI lk)])), (sS, .inl (dN, 26, .inl (sc g)))] := hD
  have hP := hP.sub (ws' := [(h0, .inr (1, [.int (nI 12), .ref sS, .int (bI lk)])), (sS, .inl (dN, 26, .inl (sc g)))]) [2, 3] rfl
  have hD := hD.sub (ws' := [(h0, .inr (1, [.int (nI 12), .ref sS, .int (bI lk)])), (sS, .inl (dN, 26, .inl (sc g)))]) [2, 3] (by decide) rfl
  exact W.vret hx hb hr (fun t ht hW => ⟨⟨sS, rfl, trivial, by rw [ht]; exact hP, hD⟩, hS.F ht⟩) hS.2.2 dX2_init_2_78
end
section
/-! ===== the desk ===== -/
set_option maxHeartbeats 4000000 in
set_option maxRecDepth 100000 in
/-- RcFiveDesk() -/
theorem met_desk (l : Launch) (D : va_G) (dB dN : ClassId) (x : Nat) (v0 v1 v2 : Value) (sz : Nat) : Met l yX1_init (ws_ yX1_init cX1_init 1 none) ({ frames := 1, cells := 3, slots := 48, locals := 12 }) (va_Pc [.ref x] (wM D dB dN [(x, .inr (0, [v0, v1, v2]))] sz)) (va_Qv (S := Nat × Nat × Nat) (fun _ => True) (wQ D (fun u => [(x, .inr (0, [.ref u.1, .ref u.2.1, .ref u.2.2])), (u.1, .inl (dB, 32, .inl (b8 z8))), (u.2.1, .inl (dB, 8, .inl (b8 z8))), (u.2.2, .inl (dB, 8, .inl (b8 z8)))]) (va_A [(x, .inr (0, [v0, v1, v2]))] sz)) (va_A [(x, .inr (0, [v0, v1, v2]))] sz)) 3 48 (va_A [(x, .inr (0, [v0, v1, v2]))] sz) := by
  refine rc_metM (fun A => va_Qv (S := Nat × Nat × Nat) (fun _ => True) (wQ D (fun u => [(x, .inr (0, [.ref u.1, .ref u.2.1, .ref u.2.2])), (u.1, .inl (dB, 32, .inl (b8 z8))), (u.2.1, .inl (dB, 8, .inl (b8 z8))), (u.2.2, .inl (dB, 8, .inl (b8 z8)))]) (A)) (A)) (by decide) (Nat.le_of_ble_eq_true rfl) ?_
  intro p e s m below meth c ls A hx hb hr hts hown hml hlocks hin hP hK hD hA hS hl
  have hown : s.vm.findClass RX1 = some m.cls := hown
  have hl : lv_has ls 1 [(0, .ref x)] := hl
  have hin : meth.name = "<init>" := hin
  refine lv_aload_n hx hb dX1_init_0 rfl (lv_at hl 0 rfl) ?_
  refine W.objInit hx hb hown (hts _ q212) (hts _ q36) (hts _ q37) rfl (by rw [hml]; exact hl.1) rfl dX1_init_1 (Nat.le_of_ble_eq_true rfl) (Nat.le_of_ble_eq_true rfl) ?_
  refine W.eq (g2 := F0 m 4 ls []) rfl ?_
  refine lv_aload_n hx hb dX1_init_4 rfl (lv_at hl 0 rfl) ?_
  refine lv_bipush (v := nI 32) hx hb dX1_init_5 (by decide +kernel) ?_
  refine rc_newb hx hb hts hK hP hD hS hA 32 rfl (by decide) (Nat.le_of_ble_eq_true rfl) (Nat.le_of_ble_eq_true rfl) dX1_init_7 (fun k H hP hD hS => ?_)
  have hP : va_P D vwCl [(x, .inr (0, [v0, v1, v2])), (k, .inl (dB, 32, .inl (b8 z8)))] H := hP
  have hD : va_D A [(x, .inr (0, [v0, v1, v2])), (k, .inl (dB, 32, .inl (b8 z8)))] := hD
  refine va_putF (D := D) (ci := 0) (v := .ref k) (ty := .array .byte) (C := RX1) (T := TX1) (N := 3) hx hb hts in_X1 tyX1 tyX1_ok nmX1 hown hK.1 hP hD hS 0 rfl rfl 0 (by decide) (hts _ q213) (fun _ h9 => h9) rfl hin rfl (by decide +kernel) rfl rfl (Nat.le_of_ble_eq_true rfl) dX1_init_9 (fun H locs hP hD hS => ?_)
  have hP : va_P D vwCl [(x, .inr (0, [.ref k, v1, v2])), (k, .inl (dB, 32, .inl (b8 z8)))] H := hP
  have hD : va_D A [(x, .inr (0, [.ref k, v1, v2])), (k, .inl (dB, 32, .inl (b8 z8)))] := hD
  refine lv_aload_n hx hb dX1_init_12 rfl (lv_at hl 0 rfl) ?_
  refine lv_bipush (v := nI 8) hx hb dX1_init_13 (by decide +kernel) ?_
  refine rc_newb hx hb hts hK hP hD hS hA 8 rfl (by decide) (Nat.le_of_ble_eq_true rfl) (Nat.le_of_ble_eq_true rfl) dX1_init_15 (fun b H hP hD hS => ?_)
  have hP : va_P D vwCl [(x, .inr (0, [.ref k, v1, v2])), (k, .inl (dB, 32, .inl (b8 z8))), (b, .inl (dB, 8, .inl (b8 z8)))] H := hP
  have hD : va_D A [(x, .inr (0, [.ref k, v1, v2])), (k, .inl (dB, 32, .inl (b8 z8))), (b, .inl (dB, 8, .inl (b8 z8)))] := hD
  refine va_putF (D := D) (ci := 0) (v := .ref b) (ty := .array .byte) (C := RX1) (T := TX1) (N := 3) hx hb hts in_X1 tyX1 tyX1_ok nmX1 hown hK.1 hP hD hS 0 rfl rfl 1 (by decide) (hts _ q214) (fun _ h9 => h9) rfl hin rfl (by decide +kernel) rfl rfl (Nat.le_of_ble_eq_true rfl) dX1_init_17 (fun H locs hP hD hS => ?_)
  have hP : va_P D vwCl [(x, .inr (0, [.ref k, .ref b, v2])), (k, .inl (dB, 32, .inl (b8 z8))), (b, .inl (dB, 8, .inl (b8 z8)))] H := hP
  have hD : va_D A [(x, .inr (0, [.ref k, .ref b, v2])), (k, .inl (dB, 32, .inl (b8 z8))), (b, .inl (dB, 8, .inl (b8 z8)))] := hD
  refine lv_aload_n hx hb dX1_init_20 rfl (lv_at hl 0 rfl) ?_
  refine lv_bipush (v := nI 8) hx hb dX1_init_21 (by decide +kernel) ?_
  refine rc_newb hx hb hts hK hP hD hS hA 8 rfl (by decide) (Nat.le_of_ble_eq_true rfl) (Nat.le_of_ble_eq_true rfl) dX1_init_23 (fun o H hP hD hS => ?_)
  have hP : va_P D vwCl [(x, .inr (0, [.ref k, .ref b, v2])), (k, .inl (dB, 32, .inl (b8 z8))), (b, .inl (dB, 8, .inl (b8 z8))), (o, .inl (dB, 8, .inl (b8 z8)))] H := hP
  have hD : va_D A [(x, .inr (0, [.ref k, .ref b, v2])), (k, .inl (dB, 32, .inl (b8 z8))), (b, .inl (dB, 8, .inl (b8 z8))), (o, .inl (dB, 8, .inl (b8 z8)))] := hD
  refine va_putF (D := D) (ci := 0) (v := .ref o) (ty := .array .byte) (C := RX1) (T := TX1) (N := 3) hx hb hts in_X1 tyX1 tyX1_ok nmX1 hown hK.1 hP hD hS 0 rfl rfl 2 (by decide) (hts _ q215) (fun _ h9 => h9) rfl hin rfl (by decide +kernel) rfl rfl (Nat.le_of_ble_eq_true rfl) dX1_init_25 (fun H locs hP hD hS => ?_)
  have hP : va_P D vwCl [(x, .inr (0, [.ref k, .ref b, .ref o])), (k, .inl (dB, 32, .inl (b8 z8))), (b, .inl (dB, 8, .inl (b8 z8))), (o, .inl (dB, 8, .inl (b8 z8)))] H := hP
  have hD : va_D A [(x, .inr (0, [.ref k, .ref b, .ref o])), (k, .inl (dB, 32, .inl (b8 z8))), (b, .inl (dB, 8, .inl (b8 z8))), (o, .inl (dB, 8, .inl (b8 z8)))] := hD
  have hP := hP.sub (ws' := [(x, .inr (0, [.ref k, .ref b, .ref o])), (k, .inl (dB, 32, .inl (b8 z8))), (b, .inl (dB, 8, .inl (b8 z8))), (o, .inl (dB, 8, .inl (b8 z8)))]) [0, 1, 2, 3] rfl
  have hD := hD.sub (ws' := [(x, .inr (0, [.ref k, .ref b, .ref o])), (k, .inl (dB, 32, .inl (b8 z8))), (b, .inl (dB, 8, .inl (b8 z8))), (o, .inl (dB, 8, .inl (b8 z8)))]) [0, 1, 2, 3] (by decide) rfl
  exact W.vret hx hb hr (fun t ht hW => ⟨⟨(k, b, o), rfl, trivial, by rw [ht]; exact hP, hD⟩, hS.F ht⟩) hS.2.2 dX1_init_28
set_option maxHeartbeats 4000000 in
set_option maxRecDepth 100000 in
/-- key(half, a, b, c, d) -/
theorem met_key (l : Launch) (D : va_G) (dB dN : ClassId) (x k b o : Nat) (kf bf of : Nat → Int8) (h : Nat) (hh : h < 2) (a0 a1 a2 a3 : Int32) (sz : Nat) : Met l yX1_key (ws_ yX1_key cX1_key 7 none) ({ frames := 1, cells := 0, slots := 0, locals := 22 }) (va_Pc [.ref x, .int (nI h), .int a0, .int a1, .int a2, .int a3] (wM D dB dN [(x, .inr (0, [.ref k, .ref b, .ref o])), (k, .inl (dB, 32, .inl (b8 kf))), (b, .inl (dB, 8, .inl (b8 bf))), (o, .inl (dB, 8, .inl (b8 of)))] sz)) (va_Qv (S := Unit) (fun _ => True) (wQ D (fun _ => [(x, .inr (0, [.ref k, .ref b, .ref o])), (k, .inl (dB, 32, .inl (b8 (key8 kf h a0 a1 a2 a3)))), (b, .inl (dB, 8, .inl (b8 bf))), (o, .inl (dB, 8, .inl (b8 of)))]) (va_A [(x, .inr (0, [.ref k, .ref b, .ref o])), (k, .inl (dB, 32, .inl (b8 kf))), (b, .inl (dB, 8, .inl (b8 bf))), (o, .inl (dB, 8, .inl (b8 of)))] sz)) (va_A [(x, .inr (0, [.ref k, .ref b, .ref o])), (k, .inl (dB, 32, .inl (b8 kf))), (b, .inl (dB, 8, .inl (b8 bf))), (o, .inl (dB, 8, .inl (b8 of)))] sz)) 0 0 (va_A [(x, .inr (0, [.ref k, .ref b, .ref o])), (k, .inl (dB, 32, .inl (b8 kf))), (b, .inl (dB, 8, .inl (b8 bf))), (o, .inl (dB, 8, .inl (b8 of)))] sz) := by
  refine rc_metM (fun A => va_Qv (S := Unit) (fun _ => True) (wQ D (fun _ => [(x, .inr (0, [.ref k, .ref b, .ref o])), (k, .inl (dB, 32, .inl (b8 (key8 kf h a0 a1 a2 a3)))), (b, .inl (dB, 8, .inl (b8 bf))), (o, .inl (dB, 8, .inl (b8 of)))]) (A)) (A)) (by decide) (Nat.le_of_ble_eq_true rfl) ?_
  intro p e s m below meth c ls A hx hb hr hts hown hml hlocks hin hP hK hD hA hS hl
  have hown : s.vm.findClass RX1 = some m.cls := hown
  have hl : lv_has ls 7 [(0, .ref x), (1, .int (nI h)), (2, .int a0), (3, .int a1), (4, .int a2), (5, .int a3)] := hl
  have eh : (nI h &&& 1) <<< ((4 : Int32) &&& 31) = nI (16 * h) := by rcases (by omega : h = 0 ∨ h = 1) with e | e <;> subst e <;> decide +kernel
  refine lv_iload_n hx hb dX1_key_0 rfl (lv_at hl 1 rfl) ?_
  refine lv_iconst (v := 1) hx hb dX1_key_1 (by decide +kernel) ?_
  refine lv_iand hx hb dX1_key_2 ?_
  refine lv_iconst (v := 4) hx hb dX1_key_3 (by decide +kernel) ?_
  refine lv_ishl hx hb dX1_key_4 ?_
  refine rc_top (y := nI (16 * h)) eh ?_
  refine lv_istore (lv' := [(6, .int (nI (16 * h))), (0, .ref x), (1, .int (nI h)), (2, .int a0), (3, .int a1), (4, .int a2), (5, .int a3)]) hx hb dX1_key_5 hl (by decide) rfl (fun ls hl => ?_)
  refine lv_aload_n hx hb dX1_key_7 rfl (lv_at hl 1 rfl) ?_
  refine va_get (D := D) (ci := 0) (v := .ref k) (C := RX1) (T := TX1) (N := 3) hx hb hts in_X1 hown hK.1 hP 0 rfl rfl 0 (by decide) (hts _ q213) (fun _ h9 => h9) rfl dX1_key_8 ?_
  refine lv_iload hx hb dX1_key_11 (lv_at hl 0 rfl) ?_
  refine lv_iload_n hx hb dX1_key_13 rfl (lv_at hl 3 rfl) ?_
  refine rc_callv (wr := [(x, .inr (0, [.ref k, .ref b, .ref o])), (b, .inl (dB, 8, .inl (b8 bf))), (o, .inl (dB, 8, .inl (b8 of)))]) (va_runS (As := [.ref k, .int (nI (16 * h)), .int a0]) (rest := []) ⟨hx, hb, hml, hown, hts⟩ (met_word l D dB dN k 32 (16 * h) kf a0 (by omega) (by omega) s.heap.size) (va_cwS 3 hts (lw_S q230 q231 q10 q232) rfl rfl rfl (by decide +kernel) ⟨Nat.le_of_ble_eq_true rfl, Nat.le_of_ble_eq_true rfl⟩) (wM_S hP hK hD [1] rfl (by decide)) rfl rfl hl.1 rfl (lv_room (Nat.le_of_ble_eq_true rfl)) dX1_key_14 ⟨Nat.le_of_ble_eq_true rfl, Nat.le_of_ble_eq_true rfl⟩) hP hD hS hA [1] [0, 2, 3] rfl rfl (by decide) (by decide) (fun _ H locs hw hP hD hS => ?_)
  have hP : va_P D vwCl [(x, .inr (0, [.ref k, .ref b, .ref o])), (b, .inl (dB, 8, .inl (b8 bf))), (o, .inl (dB, 8, .inl (b8 of))), (k, .inl (dB, 32, .inl (b8 (wb kf (16 * h) a0))))] H := hP
  have hD : va_D A [(x, .inr (0, [.ref k, .ref b, .ref o])), (b, .inl (dB, 8, .inl (b8 bf))), (o, .inl (dB, 8, .inl (b8 of))), (k, .inl (dB, 32, .inl (b8 (wb kf (16 * h) a0))))] := hD
  refine lv_aload_n hx hb dX1_key_17 rfl (lv_at hl 1 rfl) ?_
  refine va_get (D := D) (ci := 0) (v := .ref k) (C := RX1) (T := TX1) (N := 3) hx hb hts in_X1 hown hK.1 hP 0 rfl rfl 0 (by decide) (hts _ q213) (fun _ h9 => h9) rfl dX1_key_18 ?_
  refine lv_iload hx hb dX1_key_21 (lv_at hl 0 rfl) ?_
  refine lv_iconst (v := nI 4) hx hb dX1_key_23 (by decide +kernel) ?_
  refine lv_iadd hx hb dX1_key_24 ?_
  refine rc_top (y := nI (16 * h + 4)) (nI_add (16 * h) 4) ?_
  refine lv_iload_n hx hb dX1_key_25 rfl (lv_at hl 4 rfl) ?_
  refine rc_callv (wr := [(x, .inr (0, [.ref k, .ref b, .ref o])), (b, .inl (dB, 8, .inl (b8 bf))), (o, .inl (dB, 8, .inl (b8 of)))]) (va_runS (As := [.ref k, .int (nI (16 * h + 4)), .int a1]) (rest := []) ⟨hx, hb, hml, hown, hts⟩ (met_word l D dB dN k 32 (16 * h + 4) (wb kf (16 * h) a0) a1 (by omega) (by omega) H.size) (va_cwS 3 hts (lw_S q230 q231 q10 q232) rfl rfl rfl (by decide +kernel) ⟨Nat.le_of_ble_eq_true rfl, Nat.le_of_ble_eq_true rfl⟩) (wM_S hP hK hD [3] rfl (by decide)) rfl rfl hl.1 rfl (lv_room (Nat.le_of_ble_eq_true rfl)) dX1_key_26 ⟨Nat.le_of_ble_eq_true rfl, Nat.le_of_ble_eq_true rfl⟩) hP hD hS hA [3] [0, 1, 2] rfl rfl (by decide) (by decide) (fun _ H locs hw hP hD hS => ?_)
  have hP : va_P D vwCl [(x, .inr (0, [.ref k, .ref b, .ref o])), (b, .inl (dB, 8, .inl (b8 bf))), (o, .inl (dB, 8, .inl (b8 of))), (k, .inl (dB, 32, .inl (b8 (wb (wb kf (16 * h) a0) (16 * h + 4) a1))))] H := hP
  have hD : va_D A [(x, .inr (0, [.ref k, .ref b, .ref o])), (b, .inl (dB, 8, .inl (b8 bf))), (o, .inl (dB, 8, .inl (b8 of))), (k, .inl (dB, 32, .inl (b8 (wb (wb kf (16 * h) a0) (16 * h + 4) a1))))] := hD
  refine lv_aload_n hx hb dX1_key_29 rfl (lv_at hl 1 rfl) ?_
  refine va_get (D := D) (ci := 0) (v := .ref k) (C := RX1) (T := TX1) (N := 3) hx hb hts in_X1 hown hK.1 hP 0 rfl rfl 0 (by decide) (hts _ q213) (fun _ h9 => h9) rfl dX1_key_30 ?_
  refine lv_iload hx hb dX1_key_33 (lv_at hl 0 rfl) ?_
  refine lv_bipush (v := nI 8) hx hb dX1_key_35 (by decide +kernel) ?_
  refine lv_iadd hx hb dX1_key_37 ?_
  refine rc_top (y := nI (16 * h + 8)) (nI_add (16 * h) 8) ?_
  refine lv_iload hx hb dX1_key_38 (lv_at hl 5 rfl) ?_
  refine rc_callv (wr := [(x, .inr (0, [.ref k, .ref b, .ref o])), (b, .inl (dB, 8, .inl (b8 bf))), (o, .inl (dB, 8, .inl (b8 of)))]) (va_runS (As := [.ref k, .int (nI (16 * h + 8)), .int a2]) (rest := []) ⟨hx, hb, hml, hown, hts⟩ (met_word l D dB dN k 32 (16 * h + 8) (wb (wb kf (16 * h) a0) (16 * h + 4) a1) a2 (by omega) (by omega) H.size) (va_cwS 3 hts (lw_S q230 q231 q10 q232) rfl rfl rfl (by decide +kernel) ⟨Nat.le_of_ble_eq_true rfl, Nat.le_of_ble_eq_true rfl⟩) (wM_S hP hK hD [3] rfl (by decide)) rfl rfl hl.1 rfl (lv_room (Nat.le_of_ble_eq_true rfl)) dX1_key_40 ⟨Nat.le_of_ble_eq_true rfl, Nat.le_of_ble_eq_true rfl⟩) hP hD hS hA [3] [0, 1, 2] rfl rfl (by decide) (by decide) (fun _ H locs hw hP hD hS => ?_)
  have hP : va_P D vwCl [(x, .inr (0, [.ref k, .ref b, .ref o])), (b, .inl (dB, 8, .inl (b8 bf))), (o, .inl (dB, 8, .inl (b8 of))), (k, .inl (dB, 32, .inl (b8 (wb (wb (wb kf (16 * h) a0) (16 * h + 4) a1) (16 * h + 8) a2))))] H := hP
  have hD : va_D A [(x, .inr (0, [.ref k, .ref b, .ref o])), (b, .inl (dB, 8, .inl (b8 bf))), (o, .inl (dB, 8, .inl (b8 of))), (k, .inl (dB, 32, .inl (b8 (wb (wb (wb kf (16 * h) a0) (16 * h + 4) a1) (16 * h + 8) a2))))] := hD
  refine lv_aload_n hx hb dX1_key_43 rfl (lv_at hl 1 rfl) ?_
  refine va_get (D := D) (ci := 0) (v := .ref k) (C := RX1) (T := TX1) (N := 3) hx hb hts in_X1 hown hK.1 hP 0 rfl rfl 0 (by decide) (hts _ q213) (fun _ h9 => h9) rfl dX1_key_44 ?_
  refine lv_iload hx hb dX1_key_47 (lv_at hl 0 rfl) ?_
  refine lv_bipush (v := nI 12) hx hb dX1_key_49 (by decide +kernel) ?_
  refine lv_iadd hx hb dX1_key_51 ?_
  refine rc_top (y := nI (16 * h + 12)) (nI_add (16 * h) 12) ?_
  refine lv_iload hx hb dX1_key_52 (lv_at hl 6 rfl) ?_
  refine rc_callv (wr := [(x, .inr (0, [.ref k, .ref b, .ref o])), (b, .inl (dB, 8, .inl (b8 bf))), (o, .inl (dB, 8, .inl (b8 of)))]) (va_runS (As := [.ref k, .int (nI (16 * h + 12)), .int a3]) (rest := []) ⟨hx, hb, hml, hown, hts⟩ (met_word l D dB dN k 32 (16 * h + 12) (wb (wb (wb kf (16 * h) a0) (16 * h + 4) a1) (16 * h + 8) a2) a3 (by omega) (by omega) H.size) (va_cwS 3 hts (lw_S q230 q231 q10 q232) rfl rfl rfl (by decide +kernel) ⟨Nat.le_of_ble_eq_true rfl, Nat.le_of_ble_eq_true rfl⟩) (wM_S hP hK hD [3] rfl (by decide)) rfl rfl hl.1 rfl (lv_room (Nat.le_of_ble_eq_true rfl)) dX1_key_54 ⟨Nat.le_of_ble_eq_true rfl, Nat.le_of_ble_eq_true rfl⟩) hP hD hS hA [3] [0, 1, 2] rfl rfl (by decide) (by decide) (fun _ H locs hw hP hD hS => ?_)
  have hP : va_P D vwCl [(x, .inr (0, [.ref k, .ref b, .ref o])), (b, .inl (dB, 8, .inl (b8 bf))), (o, .inl (dB, 8, .inl (b8 of))), (k, .inl (dB, 32, .inl (b8 (wb (wb (wb (wb kf (16 * h) a0) (16 * h + 4) a1) (16 * h + 8) a2) (16 * h + 12) a3))))] H := hP
  have hD : va_D A [(x, .inr (0, [.ref k, .ref b, .ref o])), (b, .inl (dB, 8, .inl (b8 bf))), (o, .inl (dB, 8, .inl (b8 of))), (k, .inl (dB, 32, .inl (b8 (wb (wb (wb (wb kf (16 * h) a0) (16 * h + 4) a1) (16 * h + 8) a2) (16 * h + 12) a3))))] := hD
  have hP := hP.sub (ws' := [(x, .inr (0, [.ref k, .ref b, .ref o])), (k, .inl (dB, 32, .inl (b8 (wb (wb (wb (wb kf (16 * h) a0) (16 * h + 4) a1) (16 * h + 8) a2) (16 * h + 12) a3)))), (b, .inl (dB, 8, .inl (b8 bf))), (o, .inl (dB, 8, .inl (b8 of)))]) [0, 3, 1, 2] rfl
  have hD := hD.sub (ws' := [(x, .inr (0, [.ref k, .ref b, .ref o])), (k, .inl (dB, 32, .inl (b8 (wb (wb (wb (wb kf (16 * h) a0) (16 * h + 4) a1) (16 * h + 8) a2) (16 * h + 12) a3)))), (b, .inl (dB, 8, .inl (b8 bf))), (o, .inl (dB, 8, .inl (b8 of)))]) [0, 3, 1, 2] (by decide) rfl
  exact W.vret hx hb hr (fun t ht hW => ⟨⟨(), rfl, trivial, by rw [ht]; exact hP, hD⟩, hS.F ht⟩) hS.2.2 dX1_key_57
set_option maxHeartbeats 4000000 in
set_option maxRecDepth 100000 in
/-- block(a, b) -/
theorem met_block (l : Launch) (D : va_G) (dB dN : ClassId) (x k b o : Nat) (kf bf of : Nat → Int8) (a0 a1 : Int32) (sz : Nat) : Met l yX1_block (ws_ yX1_block cX1_block 3 none) ({ frames := 1, cells := 0, slots := 0, locals := 22 }) (va_Pc [.ref x, .int a0, .int a1] (wM D dB dN [(x, .inr (0, [.ref k, .ref b, .ref o])), (k, .inl (dB, 32, .inl (b8 kf))), (b, .inl (dB, 8, .inl (b8 bf))), (o, .inl (dB, 8, .inl (b8 of)))] sz)) (va_Qv (S := Unit) (fun _ => True) (wQ D (fun _ => [(x, .inr (0, [.ref k, .ref b, .ref o])), (k, .inl (dB, 32, .inl (b8 kf))), (b, .inl (dB, 8, .inl (b8 (blk8 bf a0 a1)))), (o, .inl (dB, 8, .inl (b8 of)))]) (va_A [(x, .inr (0, [.ref k, .ref b, .ref o])), (k, .inl (dB, 32, .inl (b8 kf))), (b, .inl (dB, 8, .inl (b8 bf))), (o, .inl (dB, 8, .inl (b8 of)))] sz)) (va_A [(x, .inr (0, [.ref k, .ref b, .ref o])), (k, .inl (dB, 32, .inl (b8 kf))), (b, .inl (dB, 8, .inl (b8 bf))), (o, .inl (dB, 8, .inl (b8 of)))] sz)) 0 0 (va_A [(x, .inr (0, [.ref k, .ref b, .ref o])), (k, .inl (dB, 32, .inl (b8 kf))), (b, .inl (dB, 8, .inl (b8 bf))), (o, .inl (dB, 8, .inl (b8 of)))] sz) := by
  refine rc_metM (fun A => va_Qv (S := Unit) (fun _ => True) (wQ D (fun _ => [(x, .inr (0, [.ref k, .ref b, .ref o])), (k, .inl (dB, 32, .inl (b8 kf))), (b, .inl (dB, 8, .inl (b8 (blk8 bf a0 a1)))), (o, .inl (dB, 8, .inl (b8 of)))]) (A)) (A)) (by decide) (Nat.le_of_ble_eq_true rfl) ?_
  intro p e s m below meth c ls A hx hb hr hts hown hml hlocks hin hP hK hD hA hS hl
  have hown : s.vm.findClass RX1 = some m.cls := hown
  have hl : lv_has ls 3 [(0, .ref x), (1, .int a0), (2, .int a1)] := hl
  refine lv_aload_n hx hb dX1_block_0 rfl (lv_at hl 0 rfl) ?_
  refine va_get (D := D) (ci := 0) (v := .ref b) (C := RX1) (T := TX1) (N := 3) hx hb hts in_X1 hown hK.1 hP 0 rfl rfl 1 (by decide) (hts _ q214) (fun _ h9 => h9) rfl dX1_block_1 ?_
  refine lv_iconst (v := nI 0) hx hb dX1_block_4 (by decide +kernel) ?_
  refine lv_iload_n hx hb dX1_block_5 rfl (lv_at hl 1 rfl) ?_
  refine rc_callv (wr := [(x, .inr (0, [.ref k, .ref b, .ref o])), (k, .inl (dB, 32, .inl (b8 kf))), (o, .inl (dB, 8, .inl (b8 of)))]) (va_runS (As := [.ref b, .int (nI 0), .int a0]) (rest := []) ⟨hx, hb, hml, hown, hts⟩ (met_word l D dB dN b 8 0 bf a0 (by omega) (by omega) s.heap.size) (va_cwS 3 hts (lw_S q230 q231 q10 q232) rfl rfl rfl (by decide +kernel) ⟨Nat.le_of_ble_eq_true rfl, Nat.le_of_ble_eq_true rfl⟩) (wM_S hP hK hD [2] rfl (by decide)) rfl rfl hl.1 rfl (lv_room (Nat.le_of_ble_eq_true rfl)) dX1_block_6 ⟨Nat.le_of_ble_eq_true rfl, Nat.le_of_ble_eq_true rfl⟩) hP hD hS hA [2] [0, 1, 3] rfl rfl (by decide) (by decide) (fun _ H locs hw hP hD hS => ?_)
  have hP : va_P D vwCl [(x, .inr (0, [.ref k, .ref b, .ref o])), (k, .inl (dB, 32, .inl (b8 kf))), (o, .inl (dB, 8, .inl (b8 of))), (b, .inl (dB, 8, .inl (b8 (wb bf 0 a0))))] H := hP
  have hD : va_D A [(x, .inr (0, [.ref k, .ref b, .ref o])), (k, .inl (dB, 32, .inl (b8 kf))), (o, .inl (dB, 8, .inl (b8 of))), (b, .inl (dB, 8, .inl (b8 (wb bf 0 a0))))] := hD
  refine lv_aload_n hx hb dX1_block_9 rfl (lv_at hl 0 rfl) ?_
  refine va_get (D := D) (ci := 0) (v := .ref b) (C := RX1) (T := TX1) (N := 3) hx hb hts in_X1 hown hK.1 hP 0 rfl rfl 1 (by decide) (hts _ q214) (fun _ h9 => h9) rfl dX1_block_10 ?_
  refine lv_iconst (v := nI 4) hx hb dX1_block_13 (by decide +kernel) ?_
  refine lv_iload_n hx hb dX1_block_14 rfl (lv_at hl 2 rfl) ?_
  refine rc_callv (wr := [(x, .inr (0, [.ref k, .ref b, .ref o])), (k, .inl (dB, 32, .inl (b8 kf))), (o, .inl (dB, 8, .inl (b8 of)))]) (va_runS (As := [.ref b, .int (nI 4), .int a1]) (rest := []) ⟨hx, hb, hml, hown, hts⟩ (met_word l D dB dN b 8 4 (wb bf 0 a0) a1 (by omega) (by omega) H.size) (va_cwS 3 hts (lw_S q230 q231 q10 q232) rfl rfl rfl (by decide +kernel) ⟨Nat.le_of_ble_eq_true rfl, Nat.le_of_ble_eq_true rfl⟩) (wM_S hP hK hD [3] rfl (by decide)) rfl rfl hl.1 rfl (lv_room (Nat.le_of_ble_eq_true rfl)) dX1_block_15 ⟨Nat.le_of_ble_eq_true rfl, Nat.le_of_ble_eq_true rfl⟩) hP hD hS hA [3] [0, 1, 2] rfl rfl (by decide) (by decide) (fun _ H locs hw hP hD hS => ?_)
  have hP : va_P D vwCl [(x, .inr (0, [.ref k, .ref b, .ref o])), (k, .inl (dB, 32, .inl (b8 kf))), (o, .inl (dB, 8, .inl (b8 of))), (b, .inl (dB, 8, .inl (b8 (wb (wb bf 0 a0) 4 a1))))] H := hP
  have hD : va_D A [(x, .inr (0, [.ref k, .ref b, .ref o])), (k, .inl (dB, 32, .inl (b8 kf))), (o, .inl (dB, 8, .inl (b8 of))), (b, .inl (dB, 8, .inl (b8 (wb (wb bf 0 a0) 4 a1))))] := hD
  have hP := hP.sub (ws' := [(x, .inr (0, [.ref k, .ref b, .ref o])), (k, .inl (dB, 32, .inl (b8 kf))), (b, .inl (dB, 8, .inl (b8 (wb (wb bf 0 a0) 4 a1)))), (o, .inl (dB, 8, .inl (b8 of)))]) [0, 1, 3, 2] rfl
  have hD := hD.sub (ws' := [(x, .inr (0, [.ref k, .ref b, .ref o])), (k, .inl (dB, 32, .inl (b8 kf))), (b, .inl (dB, 8, .inl (b8 (wb (wb bf 0 a0) 4 a1)))), (o, .inl (dB, 8, .inl (b8 of)))]) [0, 1, 3, 2] (by decide) rfl
  exact W.vret hx hb hr (fun t ht hW => ⟨⟨(), rfl, trivial, by rw [ht]; exact hP, hD⟩, hS.F ht⟩) hS.2.2 dX1_block_18
set_option maxHeartbeats 4000000 in
set_option maxRecDepth 100000 in
/-- again() -/
theorem met_again (l : Launch) (D : va_G) (dB dN : ClassId) (x k b o : Nat) (kf bf of : Nat → Int8) (sz : Nat) : Met l yX1_again (ws_ yX1_again cX1_again 2 none) ({ frames := 0, cells := 0, slots := 0, locals := 0 }) (va_Pc [.ref x] (wM D dB dN [(x, .inr (0, [.ref k, .ref b, .ref o])), (k, .inl (dB, 32, .inl (b8 kf))), (b, .inl (dB, 8, .inl (b8 bf))), (o, .inl (dB, 8, .inl (b8 of)))] sz)) (va_Qv (S := Unit) (fun _ => True) (wQ D (fun _ => [(x, .inr (0, [.ref k, .ref b, .ref o])), (k, .inl (dB, 32, .inl (b8 kf))), (b, .inl (dB, 8, .inl (b8 of))), (o, .inl (dB, 8, .inl (b8 of)))]) (va_A [(x, .inr (0, [.ref k, .ref b, .ref o])), (k, .inl (dB, 32, .inl (b8 kf))), (b, .inl (dB, 8, .inl (b8 bf))), (o, .inl (dB, 8, .inl (b8 of)))] sz)) (va_A [(x, .inr (0, [.ref k, .ref b, .ref o])), (k, .inl (dB, 32, .inl (b8 kf))), (b, .inl (dB, 8, .inl (b8 bf))), (o, .inl (dB, 8, .inl (b8 of)))] sz)) 0 0 (va_A [(x, .inr (0, [.ref k, .ref b, .ref o])), (k, .inl (dB, 32, .inl (b8 kf))), (b, .inl (dB, 8, .inl (b8 bf))), (o, .inl (dB, 8, .inl (b8 of)))] sz) := by
  refine rc_metM (fun A => va_Qv (S := Unit) (fun _ => True) (wQ D (fun _ => [(x, .inr (0, [.ref k, .ref b, .ref o])), (k, .inl (dB, 32, .inl (b8 kf))), (b, .inl (dB, 8, .inl (b8 of))), (o, .inl (dB, 8, .inl (b8 of)))]) (A)) (A)) (by decide) (Nat.le_of_ble_eq_true rfl) ?_
  intro p e s m below meth c ls A hx hb hr hts hown hml hlocks hin hP hK hD hA hS hl
  have hown : s.vm.findClass RX1 = some m.cls := hown
  have hl : lv_has ls 2 [(0, .ref x)] := hl
  have loop : ∀ (n i : Nat) (g : Nat → Int8) (H : Heap) (locs : List Loc) (ls : Array Slot), i + n = 8 → (∀ j, j < i → g j = of j) → va_P D vwCl [(x, .inr (0, [.ref k, .ref b, .ref o])), (k, .inl (dB, 32, .inl (b8 kf))), (b, .inl (dB, 8, .inl (b8 g))), (o, .inl (dB, 8, .inl (b8 of)))] H → va_D A [(x, .inr (0, [.ref k, .ref b, .ref o])), (k, .inl (dB, 32, .inl (b8 kf))), (b, .inl (dB, 8, .inl (b8 g))), (o, .inl (dB, 8, .inl (b8 of)))] → va_S A s.heap H locs → lv_has ls 2 [(1, .int (nI i)), (0, .ref x)] → W p l e ({ frames := 0, cells := 0, slots := 0, locals := 0 }) s m ([.ref x] : List Value).toArray below meth c H locs 0 0 (MQ below (va_Qv (S := Unit) (fun _ => True) (wQ D (fun _ => [(x, .inr (0, [.ref k, .ref b, .ref o])), (k, .inl (dB, 32, .inl (b8 kf))), (b, .inl (dB, 8, .inl (b8 of))), (o, .inl (dB, 8, .inl (b8 of)))]) A) A) ([.ref x] : List Value).toArray s 0 0 A) (F0 m 2 ls []) := by
    intro n
    induction n with
    | zero =>
      intro i g H locs ls hi hg hP hD hS hl
      refine lv_iload_n hx hb dX1_again_2 rfl (lv_at hl 0 rfl) ?_
      refine lv_bipush (v := nI 8) hx hb dX1_again_3 (by decide +kernel) ?_
      refine rc_ge (tgt := 26) i 8 rfl rfl (by omega) (by omega) hx hb dX1_again_5 (by decide) (fun _ => ?_) (fun h => absurd h (by omega))
      have hP := hP.cg 2 (b8 of) rfl (fun j hj => congrArg Int8.toInt32 (hg j (by omega)))
      have hD := hD.set (p := 2) (a := b) (e := .inl (dB, 8, .inl (b8 of))) rfl
      have hP : va_P D vwCl [(x, .inr (0, [.ref k, .ref b, .ref o])), (k, .inl (dB, 32, .inl (b8 kf))), (b, .inl (dB, 8, .inl (b8 of))), (o, .inl (dB, 8, .inl (b8 of)))] H := hP
      have hD : va_D A [(x, .inr (0, [.ref k, .ref b, .ref o])), (k, .inl (dB, 32, .inl (b8 kf))), (b, .inl (dB, 8, .inl (b8 of))), (o, .inl (dB, 8, .inl (b8 of)))] := hD
      exact W.vret hx hb hr (fun t ht hW => ⟨⟨(), rfl, trivial, by rw [ht]; exact hP, hD⟩, hS.F ht⟩) hS.2.2 dX1_again_26
    | succ n ih =>
      intro i g H locs ls hi hg hP hD hS hl
      refine lv_iload_n hx hb dX1_again_2 rfl (lv_at hl 0 rfl) ?_
      refine lv_bipush (v := nI 8) hx hb dX1_again_3 (by decide +kernel) ?_
      refine rc_ge (tgt := 26) i 8 rfl rfl (by omega) (by omega) hx hb dX1_again_5 (by decide) (fun h => absurd h (by omega)) (fun _ => ?_)
      refine lv_aload_n hx hb dX1_again_8 rfl (lv_at hl 1 rfl) ?_
      refine va_get (D := D) (ci := 0) (v := .ref b) (C := RX1) (T := TX1) (N := 3) hx hb hts in_X1 hown hK.1 hP 0 rfl rfl 1 (by decide) (hts _ q214) (fun _ h9 => h9) rfl dX1_again_9 ?_
      refine lv_iload_n hx hb dX1_again_12 rfl (lv_at hl 0 rfl) ?_
      refine lv_aload_n hx hb dX1_again_13 rfl (lv_at hl 1 rfl) ?_
      refine va_get (D := D) (ci := 0) (v := .ref o) (C := RX1) (T := TX1) (N := 3) hx hb hts in_X1 hown hK.1 hP 0 rfl rfl 2 (by decide) (hts _ q215) (fun _ h9 => h9) rfl dX1_again_14 ?_
      refine lv_iload_n hx hb dX1_again_17 rfl (lv_at hl 0 rfl) ?_
      refine rc_bald hx hb hK.1 hP 3 0 rfl rfl i rfl (by omega) (by omega) dX1_again_18 ?_
      refine rc_bast (z := (of i)) hx hb hK.1 hP hD hS 2 0 rfl rfl i rfl (by omega) (by omega) dX1_again_19 (fun H locs hP hD hS => ?_)
      have hP : va_P D vwCl [(x, .inr (0, [.ref k, .ref b, .ref o])), (k, .inl (dB, 32, .inl (b8 kf))), (b, .inl (dB, 8, .inl (b8 (ub g i (of i))))), (o, .inl (dB, 8, .inl (b8 of)))] H := hP
      have hD : va_D A [(x, .inr (0, [.ref k, .ref b, .ref o])), (k, .inl (dB, 32, .inl (b8 kf))), (b, .inl (dB, 8, .inl (b8 (ub g i (of i))))), (o, .inl (dB, 8, .inl (b8 of)))] := hD
      refine lv_iinc (v := (nI (i + 1))) (lv' := [(1, .int (nI (i + 1))), (0, .ref x)]) hx hb dX1_again_20 hl (k := 0) rfl (nI_1 i) (by decide) rfl (fun ls hl => ?_)
      refine lv_goto (tgt := 2) hx hb dX1_again_23 (by decide) ?_
      refine ih (i + 1) (ub g i (of i)) H locs ls (by omega) (fun j hj => ?_) hP hD hS hl
      unfold ub
      by_cases h : j = i
      · rw [if_pos h, h]
      · rw [if_neg h]; exact hg j (by omega)
  refine lv_iconst (v := nI 0) hx hb dX1_again_0 (by decide +kernel) ?_
  refine lv_istore_n (lv' := [(1, .int (nI 0)), (0, .ref x)]) hx hb dX1_again_1 rfl hl (by decide) rfl (fun ls hl => ?_)
  exact loop 8 0 bf s.heap [] ls rfl (fun j hj => absurd hj (by omega)) hP hD hS hl
set_option maxHeartbeats 4000000 in
set_option maxRecDepth 100000 in
/-- run(lock, kind) -/
theorem met_run (l : Launch) (D : va_G) (dB dN : ClassId) (x k b o : Nat) (kf bf of : Nat → Int8) (lk : Bool) (kd : Int32) (sz : Nat) : Met l yX1_run (ws_ yX1_run cX1_run 6 none) ({ frames := 4, cells := 6, slots := 66, locals := 104 }) (va_Pc [.ref x, .int (bI lk), .int kd] (wM D dB dN [(x, .inr (0, [.ref k, .ref b, .ref o])), (k, .inl (dB, 32, .inl (b8 kf))), (b, .inl (dB, 8, .inl (b8 bf))), (o, .inl (dB, 8, .inl (b8 of)))] sz)) (va_Qv (S := Unit) (fun _ => True) (wQ D (fun _ => [(x, .inr (0, [.ref k, .ref b, .ref o])), (k, .inl (dB, 32, .inl (b8 kf))), (b, .inl (dB, 8, .inl (b8 bf))), (o, .inl (dB, 8, .inl (b8 (crypt lk (sc kf) bf of))))]) (va_A [(x, .inr (0, [.ref k, .ref b, .ref o])), (k, .inl (dB, 32, .inl (b8 kf))), (b, .inl (dB, 8, .inl (b8 bf))), (o, .inl (dB, 8, .inl (b8 of)))] sz)) (va_A [(x, .inr (0, [.ref k, .ref b, .ref o])), (k, .inl (dB, 32, .inl (b8 kf))), (b, .inl (dB, 8, .inl (b8 bf))), (o, .inl (dB, 8, .inl (b8 of)))] sz)) 6 66 (va_A [(x, .inr (0, [.ref k, .ref b, .ref o])), (k, .inl (dB, 32, .inl (b8 kf))), (b, .inl (dB, 8, .inl (b8 bf))), (o, .inl (dB, 8, .inl (b8 of)))] sz) := by
  refine rc_metM (fun A => va_Qv (S := Unit) (fun _ => True) (wQ D (fun _ => [(x, .inr (0, [.ref k, .ref b, .ref o])), (k, .inl (dB, 32, .inl (b8 kf))), (b, .inl (dB, 8, .inl (b8 bf))), (o, .inl (dB, 8, .inl (b8 (crypt lk (sc kf) bf of))))]) (A)) (A)) (by decide) (Nat.le_of_ble_eq_true rfl) ?_
  intro p e s m below meth c ls A hx hb hr hts hown hml hlocks hin hP hK hD hA hS hl
  have hown : s.vm.findClass RX1 = some m.cls := hown
  have hl : lv_has ls 6 [(0, .ref x), (1, .int (bI lk)), (2, .int kd)] := hl
  have loop : ∀ (n i q : Nat) (g : Nat → Int8) (H : Heap) (locs : List Loc) (ls : Array Slot), i + n = 16 → (∀ j, j < i → g j = kf j) → va_P D vwCl [(x, .inr (0, [.ref k, .ref b, .ref o])), (k, .inl (dB, 32, .inl (b8 kf))), (b, .inl (dB, 8, .inl (b8 bf))), (o, .inl (dB, 8, .inl (b8 of))), (q, .inl (dB, 16, .inl (b8 g)))] H → va_D A [(x, .inr (0, [.ref k, .ref b, .ref o])), (k, .inl (dB, 32, .inl (b8 kf))), (b, .inl (dB, 8, .inl (b8 bf))), (o, .inl (dB, 8, .inl (b8 of))), (q, .inl (dB, 16, .inl (b8 g)))] → va_S A s.heap H locs → lv_has ls 6 [(5, .int (nI i)), (4, .ref q), (3, .int (nI 16)), (0, .ref x), (1, .int (bI lk))] → W p l e ({ frames := 4, cells := 6, slots := 66, locals := 104 }) s m ([.ref x, .int (bI lk), .int kd] : List Value).toArray below meth c H locs 1 16 (MQ below (va_Qv (S := Unit) (fun _ => True) (wQ D (fun _ => [(x, .inr (0, [.ref k, .ref b, .ref o])), (k, .inl (dB, 32, .inl (b8 kf))), (b, .inl (dB, 8, .inl (b8 bf))), (o, .inl (dB, 8, .inl (b8 (crypt lk (sc kf) bf of))))]) A) A) ([.ref x, .int (bI lk), .int kd] : List Value).toArray s 6 66 A) (F0 m 15 ls []) := by
    intro n
    induction n with
    | zero =>
      intro i q g H locs ls hi hg hP hD hS hl
      refine lv_iload hx hb dX1_run_15 (lv_at hl 0 rfl) ?_
      refine lv_iload_n hx hb dX1_run_17 rfl (lv_at hl 2 rfl) ?_
      refine rc_ge (tgt := 39) i 16 rfl rfl (by omega) (by omega) hx hb dX1_run_18 (by decide) (fun _ => ?_) (fun h => absurd h (by omega))
      have hP := hP.cg 4 (b8 kf) rfl (fun j hj => congrArg Int8.toInt32 (hg j (by omega)))
      have hD := hD.set (p := 4) (a := q) (e := .inl (dB, 16, .inl (b8 kf))) rfl
      have hP : va_P D vwCl [(x, .inr (0, [.ref k, .ref b, .ref o])), (k, .inl (dB, 32, .inl (b8 kf))), (b, .inl (dB, 8, .inl (b8 bf))), (o, .inl (dB, 8, .inl (b8 of))), (q, .inl (dB, 16, .inl (b8 kf)))] H := hP
      have hD : va_D A [(x, .inr (0, [.ref k, .ref b, .ref o])), (k, .inl (dB, 32, .inl (b8 kf))), (b, .inl (dB, 8, .inl (b8 bf))), (o, .inl (dB, 8, .inl (b8 of))), (q, .inl (dB, 16, .inl (b8 kf)))] := hD
      refine va_new (ci := 1) (fs := [.int 0, .null, .int 0]) (C := RX2) (T := TX2) (N := 3) hx hb hts in_X2 tyX2 tyX2_ok hown (hts _ q30) (hts _ q31) (hts _ q11) hK.1 hP hD hS hA rfl (fun j hj => by rcases (show j = 0 ∨ j = 1 ∨ j = 2 by omega) with rfl | rfl | rfl <;> rfl) (Nat.le_of_ble_eq_true rfl) (Nat.le_of_ble_eq_true rfl) dX1_run_39 (fun en H hP hD hS => ?_)
      have hP : va_P D vwCl [(x, .inr (0, [.ref k, .ref b, .ref o])), (k, .inl (dB, 32, .inl (b8 kf))), (b, .inl (dB, 8, .inl (b8 bf))), (o, .inl (dB, 8, .inl (b8 of))), (q, .inl (dB, 16, .inl (b8 kf))), (en, .inr (1, [.int 0, .null, .int 0]))] H := hP
      have hD : va_D A [(x, .inr (0, [.ref k, .ref b, .ref o])), (k, .inl (dB, 32, .inl (b8 kf))), (b, .inl (dB, 8, .inl (b8 bf))), (o, .inl (dB, 8, .inl (b8 of))), (q, .inl (dB, 16, .inl (b8 kf))), (en, .inr (1, [.int 0, .null, .int 0]))] := hD
      refine lv_dup hx hb dX1_run_42 rfl ?_
      refine rc_callv (wr := [(x, .inr (0, [.ref k, .ref b, .ref o])), (k, .inl (dB, 32, .inl (b8 kf))), (b, .inl (dB, 8, .inl (b8 bf))), (o, .inl (dB, 8, .inl (b8 of))), (q, .inl (dB, 16, .inl (b8 kf)))]) (va_runI (As := []) (rest := [.ref en]) ⟨hx, hb, hml, hown, hts⟩ (met_eng l D dB dN en (.int 0) .null (.int 0) H.size) (cwI 0 hts (lw_meth q34) rfl rfl rfl (hts _ q11) (hts _ q32) (hts _ q33) rfl (by decide +kernel) ⟨Nat.le_of_ble_eq_true rfl, Nat.le_of_ble_eq_true rfl⟩) (wM_S hP hK hD [5] rfl (by decide)) rfl rfl hl.1 rfl (lv_room (Nat.le_of_ble_eq_true rfl)) dX1_run_43 ⟨Nat.le_of_ble_eq_true rfl, Nat.le_of_ble_eq_true rfl⟩) hP hD hS hA [5] [0, 1, 2, 3, 4] rfl rfl (by decide) (by decide) (fun _ H locs hw hP hD hS => ?_)
      have hP : va_P D vwCl [(x, .inr (0, [.ref k, .ref b, .ref o])), (k, .inl (dB, 32, .inl (b8 kf))), (b, .inl (dB, 8, .inl (b8 bf))), (o, .inl (dB, 8, .inl (b8 of))), (q, .inl (dB, 16, .inl (b8 kf))), (en, .inr (1, [.int (nI 12), .null, .int 0]))] H := hP
      have hD : va_D A [(x, .inr (0, [.ref k, .ref b, .ref o])), (k, .inl (dB, 32, .inl (b8 kf))), (b, .inl (dB, 8, .inl (b8 bf))), (o, .inl (dB, 8, .inl (b8 of))), (q, .inl (dB, 16, .inl (b8 kf))), (en, .inr (1, [.int (nI 12), .null, .int 0]))] := hD
      refine lv_astore (lv' := [(5, .ref en), (4, .ref q), (3, .int (nI 16)), (0, .ref x), (1, .int (bI lk))]) hx hb dX1_run_46 hl (by decide) rfl (fun ls hl => ?_)
      refine lv_aload hx hb dX1_run_48 (lv_at hl 0 rfl) ?_
      refine lv_iload_n hx hb dX1_run_50 rfl (lv_at hl 4 rfl) ?_
      refine va_new (ci := 2) (fs := [.null]) (C := RX3) (T := TX3) (N := 1) hx hb hts in_X3 tyX3 tyX3_ok hown (hts _ q49) (hts _ q50) (hts _ q12) hK.1 hP hD hS hA rfl (fun j hj => by rcases (show j = 0 by omega) with rfl <;> rfl) (Nat.le_of_ble_eq_true rfl) (Nat.le_of_ble_eq_true rfl) dX1_run_51 (fun kp H hP hD hS => ?_)
      have hP : va_P D vwCl [(x, .inr (0, [.ref k, .ref b, .ref o])), (k, .inl (dB, 32, .inl (b8 kf))), (b, .inl (dB, 8, .inl (b8 bf))), (o, .inl (dB, 8, .inl (b8 of))), (q, .inl (dB, 16, .inl (b8 kf))), (en, .inr (1, [.int (nI 12), .null, .int 0])), (kp, .inr (2, [.null]))] H := hP
      have hD : va_D A [(x, .inr (0, [.ref k, .ref b, .ref o])), (k, .inl (dB, 32, .inl (b8 kf))), (b, .inl (dB, 8, .inl (b8 bf))), (o, .inl (dB, 8, .inl (b8 of))), (q, .inl (dB, 16, .inl (b8 kf))), (en, .inr (1, [.int (nI 12), .null, .int 0])), (kp, .inr (2, [.null]))] := hD
      refine lv_dup hx hb dX1_run_54 rfl ?_
      refine lv_aload hx hb dX1_run_55 (lv_at hl 1 rfl) ?_
      refine rc_callv (wr := [(x, .inr (0, [.ref k, .ref b, .ref o])), (k, .inl (dB, 32, .inl (b8 kf))), (b, .inl (dB, 8, .inl (b8 bf))), (o, .inl (dB, 8, .inl (b8 of))), (en, .inr (1, [.int (nI 12), .null, .int 0]))]) (va_runI (As := [.ref q]) (rest := [.ref kp, .int (bI lk), .ref en]) ⟨hx, hb, hml, hown, hts⟩ (met_kp l D dB dN kp q .null kf H.size) (cwI 1 hts (lw_meth q53) rfl rfl rfl (hts _ q12) (hts _ q51) (hts _ q52) rfl (by decide +kernel) ⟨Nat.le_of_ble_eq_true rfl, Nat.le_of_ble_eq_true rfl⟩) (wM_S hP hK hD [6, 4] rfl (by decide)) rfl rfl hl.1 rfl (lv_room (Nat.le_of_ble_eq_true rfl)) dX1_run_57 ⟨Nat.le_of_ble_eq_true rfl, Nat.le_of_ble_eq_true rfl⟩) hP hD hS hA [6, 4] [0, 1, 2, 3, 5] rfl rfl (by decide) (by decide) (fun kb H locs hw hP hD hS => ?_)
      have hP : va_P D vwCl [(x, .inr (0, [.ref k, .ref b, .ref o])), (k, .inl (dB, 32, .inl (b8 kf))), (b, .inl (dB, 8, .inl (b8 bf))), (o, .inl (dB, 8, .inl (b8 of))), (en, .inr (1, [.int (nI 12), .null, .int 0])), (q, .inl (dB, 16, .inl (b8 kf))), (kp, .inr (2, [.ref kb])), (kb, .inl (dB, 16, .inl (b8 kf)))] H := hP
      have hD : va_D A [(x, .inr (0, [.ref k, .ref b, .ref o])), (k, .inl (dB, 32, .inl (b8 kf))), (b, .inl (dB, 8, .inl (b8 bf))), (o, .inl (dB, 8, .inl (b8 of))), (en, .inr (1, [.int (nI 12), .null, .int 0])), (q, .inl (dB, 16, .inl (b8 kf))), (kp, .inr (2, [.ref kb])), (kb, .inl (dB, 16, .inl (b8 kf)))] := hD
      refine rc_callFv (wr := [(x, .inr (0, [.ref k, .ref b, .ref o])), (k, .inl (dB, 32, .inl (b8 kf))), (b, .inl (dB, 8, .inl (b8 bf))), (o, .inl (dB, 8, .inl (b8 of))), (q, .inl (dB, 16, .inl (b8 kf)))]) (va_runF (As := [.int (bI lk), .ref kp]) (rest := []) (hK.1.1 1 _ rfl).2 ⟨hx, hb, hml, hown, hts⟩ (met_init l D dB dN en kp kb lk .null (.int 0) kf H.size) (va_cwF 2 hts (lw_F q69 q73 q75 q11 q77) rfl rfl rfl hK.2.2.1 (by decide +kernel) ⟨Nat.le_of_ble_eq_true rfl, Nat.le_of_ble_eq_true rfl⟩) (wM_V (ci := 1) (q0 := 4) hP hK hD [4, 6, 7] rfl (by decide) rfl rfl) rfl rfl hl.1 rfl (lv_room (Nat.le_of_ble_eq_true rfl)) dX1_run_60 ⟨Nat.le_of_ble_eq_true rfl, Nat.le_of_ble_eq_true rfl⟩) hP hD hS hA [4, 6, 7] [0, 1, 2, 3, 5] rfl rfl (by decide) (by decide) (fun sS H locs hw hP hD hS => ?_)
      have hP : va_P D vwCl [(x, .inr (0, [.ref k, .ref b, .ref o])), (k, .inl (dB, 32, .inl (b8 kf))), (b, .inl (dB, 8, .inl (b8 bf))), (o, .inl (dB, 8, .inl (b8 of))), (q, .inl (dB, 16, .inl (b8 kf))), (en, .inr (1, [.int (nI 12), .ref sS, .int (bI lk)])), (sS, .inl (dN, 26, .inl (sc kf)))] H := hP
      have hD : va_D A [(x, .inr (0, [.ref k, .ref b, .ref o])), (k, .inl (dB, 32, .inl (b8 kf))), (b, .inl (dB, 8, .inl (b8 bf))), (o, .inl (dB, 8, .inl (b8 of))), (q, .inl (dB, 16, .inl (b8 kf))), (en, .inr (1, [.int (nI 12), .ref sS, .int (bI lk)])), (sS, .inl (dN, 26, .inl (sc kf)))] := hD
      refine lv_aload hx hb dX1_run_65 (lv_at hl 0 rfl) ?_
      refine lv_aload_n hx hb dX1_run_67 rfl (lv_at hl 3 rfl) ?_
      refine va_get (D := D) (ci := 0) (v := .ref b) (C := RX1) (T := TX1) (N := 3) hx hb hts in_X1 hown hK.1 hP 0 rfl rfl 1 (by decide) (hts _ q214) (fun _ h9 => h9) rfl dX1_run_68 ?_
      refine lv_iconst (v := nI 0) hx hb dX1_run_71 (by decide +kernel) ?_
      refine lv_aload_n hx hb dX1_run_72 rfl (lv_at hl 3 rfl) ?_
      refine va_get (D := D) (ci := 0) (v := .ref o) (C := RX1) (T := TX1) (N := 3) hx hb hts in_X1 hown hK.1 hP 0 rfl rfl 2 (by decide) (hts _ q215) (fun _ h9 => h9) rfl dX1_run_73 ?_
      refine lv_iconst (v := nI 0) hx hb dX1_run_76 (by decide +kernel) ?_
      refine rc_callFi (wr := [(x, .inr (0, [.ref k, .ref b, .ref o])), (k, .inl (dB, 32, .inl (b8 kf))), (q, .inl (dB, 16, .inl (b8 kf)))]) (va_runF (As := [.ref b, .int (nI 0), .ref o, .int (nI 0)]) (rest := []) (hK.1.1 1 _ rfl).2 ⟨hx, hb, hml, hown, hts⟩ (met_process l D dB dN en sS b o lk (sc kf) bf of H.size) (va_cwF 4 hts (lw_F q169 q172 q174 q11 q176) rfl rfl rfl hK.2.2.2 (by decide +kernel) ⟨Nat.le_of_ble_eq_true rfl, Nat.le_of_ble_eq_true rfl⟩) (wM_V (ci := 1) (q0 := 5) hP hK hD [5, 6, 2, 3] rfl (by decide) rfl rfl) rfl rfl hl.1 rfl (lv_room (Nat.le_of_ble_eq_true rfl)) dX1_run_77 ⟨Nat.le_of_ble_eq_true rfl, Nat.le_of_ble_eq_true rfl⟩) hP hD hS hA [5, 6, 2, 3] [0, 1, 4] rfl rfl (by decide) (by decide) (fun r _ H locs hw hP hD hS => ?_)
      have hP : va_P D vwCl [(x, .inr (0, [.ref k, .ref b, .ref o])), (k, .inl (dB, 32, .inl (b8 kf))), (q, .inl (dB, 16, .inl (b8 kf))), (en, .inr (1, [.int (nI 12), .ref sS, .int (bI lk)])), (sS, .inl (dN, 26, .inl (sc kf))), (b, .inl (dB, 8, .inl (b8 bf))), (o, .inl (dB, 8, .inl (b8 (crypt lk (sc kf) bf of))))] H := hP
      have hD : va_D A [(x, .inr (0, [.ref k, .ref b, .ref o])), (k, .inl (dB, 32, .inl (b8 kf))), (q, .inl (dB, 16, .inl (b8 kf))), (en, .inr (1, [.int (nI 12), .ref sS, .int (bI lk)])), (sS, .inl (dN, 26, .inl (sc kf))), (b, .inl (dB, 8, .inl (b8 bf))), (o, .inl (dB, 8, .inl (b8 (crypt lk (sc kf) bf of))))] := hD
      refine lv_pop hx hb dX1_run_82 rfl ?_
      have hP := hP.sub (ws' := [(x, .inr (0, [.ref k, .ref b, .ref o])), (k, .inl (dB, 32, .inl (b8 kf))), (b, .inl (dB, 8, .inl (b8 bf))), (o, .inl (dB, 8, .inl (b8 (crypt lk (sc kf) bf of))))]) [0, 1, 5, 6] rfl
      have hD := hD.sub (ws' := [(x, .inr (0, [.ref k, .ref b, .ref o])), (k, .inl (dB, 32, .inl (b8 kf))), (b, .inl (dB, 8, .inl (b8 bf))), (o, .inl (dB, 8, .inl (b8 (crypt lk (sc kf) bf of))))]) [0, 1, 5, 6] (by decide) rfl
      exact W.vret hx hb hr (fun t ht hW => ⟨⟨(), rfl, trivial, by rw [ht]; exact hP, hD⟩, hS.F ht⟩) hS.2.2 dX1_run_83
    | succ n ih =>
      intro i q g H locs ls hi hg hP hD hS hl
      refine lv_iload hx hb dX1_run_15 (lv_at hl 0 rfl) ?_
      refine lv_iload_n hx hb dX1_run_17 rfl (lv_at hl 2 rfl) ?_
      refine rc_ge (tgt := 39) i 16 rfl rfl (by omega) (by omega) hx hb dX1_run_18 (by decide) (fun h => absurd h (by omega)) (fun _ => ?_)
      refine lv_aload hx hb dX1_run_21 (lv_at hl 1 rfl) ?_
      refine lv_iload hx hb dX1_run_23 (lv_at hl 0 rfl) ?_
      refine lv_aload_n hx hb dX1_run_25 rfl (lv_at hl 3 rfl) ?_
      refine va_get (D := D) (ci := 0) (v := .ref k) (C := RX1) (T := TX1) (N := 3) hx hb hts in_X1 hown hK.1 hP 0 rfl rfl 0 (by decide) (hts _ q213) (fun _ h9 => h9) rfl dX1_run_26 ?_
      refine lv_iload hx hb dX1_run_29 (lv_at hl 0 rfl) ?_
      refine rc_bald hx hb hK.1 hP 1 0 rfl rfl i rfl (by omega) (by omega) dX1_run_31 ?_
      refine rc_bast (z := (kf i)) hx hb hK.1 hP hD hS 4 0 rfl rfl i rfl (by omega) (by omega) dX1_run_32 (fun H locs hP hD hS => ?_)
      have hP : va_P D vwCl [(x, .inr (0, [.ref k, .ref b, .ref o])), (k, .inl (dB, 32, .inl (b8 kf))), (b, .inl (dB, 8, .inl (b8 bf))), (o, .inl (dB, 8, .inl (b8 of))), (q, .inl (dB, 16, .inl (b8 (ub g i (kf i)))))] H := hP
      have hD : va_D A [(x, .inr (0, [.ref k, .ref b, .ref o])), (k, .inl (dB, 32, .inl (b8 kf))), (b, .inl (dB, 8, .inl (b8 bf))), (o, .inl (dB, 8, .inl (b8 of))), (q, .inl (dB, 16, .inl (b8 (ub g i (kf i)))))] := hD
      refine lv_iinc (v := (nI (i + 1))) (lv' := [(5, .int (nI (i + 1))), (4, .ref q), (3, .int (nI 16)), (0, .ref x), (1, .int (bI lk))]) hx hb dX1_run_33 hl (k := 0) rfl (nI_1 i) (by decide) rfl (fun ls hl => ?_)
      refine lv_goto (tgt := 15) hx hb dX1_run_36 (by decide) ?_
      refine ih (i + 1) q (ub g i (kf i)) H locs ls (by omega) (fun j hj => ?_) hP hD hS hl
      unfold ub
      by_cases h : j = i
      · rw [if_pos h, h]
      · rw [if_neg h]; exact hg j (by omega)
  refine lv_iload_n hx hb dX1_run_0 rfl (lv_at hl 2 rfl) ?_
  refine lv_iconst (v := 3) hx hb dX1_run_1 (by decide +kernel) ?_
  refine lv_iand hx hb dX1_run_2 ?_
  refine vp_callSi (W.runS (As := [.int (kd &&& 3)]) (rest := []) ⟨hx, hb, hml, hown, hts⟩ (met_size l D dB dN (kd &&& 3)) (va_cwS 1 hts (lw_S q27 q28 q10 q29) rfl rfl rfl (by decide +kernel) ⟨Nat.le_of_ble_eq_true rfl, Nat.le_of_ble_eq_true rfl⟩) (wS_S hP hK [] rfl) rfl rfl hl.1 rfl (lv_room (Nat.le_of_ble_eq_true rfl)) dX1_run_3 ⟨Nat.le_of_ble_eq_true rfl, Nat.le_of_ble_eq_true rfl⟩) (fun n0 en0 => ?_)
  refine rc_top (y := nI 16) en0 ?_
  refine lv_istore_n (lv' := [(3, .int (nI 16)), (0, .ref x), (1, .int (bI lk)), (2, .int kd)]) hx hb dX1_run_6 rfl hl (by decide) rfl (fun ls hl => ?_)
  refine lv_iload_n hx hb dX1_run_7 rfl (lv_at hl 0 rfl) ?_
  refine rc_newb hx hb hts hK hP hD hS hA 16 rfl (by decide) (Nat.le_of_ble_eq_true rfl) (Nat.le_of_ble_eq_true rfl) dX1_run_8 (fun q H hP hD hS => ?_)
  have hP : va_P D vwCl [(x, .inr (0, [.ref k, .ref b, .ref o])), (k, .inl (dB, 32, .inl (b8 kf))), (b, .inl (dB, 8, .inl (b8 bf))), (o, .inl (dB, 8, .inl (b8 of))), (q, .inl (dB, 16, .inl (b8 z8)))] H := hP
  have hD : va_D A [(x, .inr (0, [.ref k, .ref b, .ref o])), (k, .inl (dB, 32, .inl (b8 kf))), (b, .inl (dB, 8, .inl (b8 bf))), (o, .inl (dB, 8, .inl (b8 of))), (q, .inl (dB, 16, .inl (b8 z8)))] := hD
  refine lv_astore (lv' := [(4, .ref q), (3, .int (nI 16)), (0, .ref x), (1, .int (bI lk)), (2, .int kd)]) hx hb dX1_run_10 hl (by decide) rfl (fun ls hl => ?_)
  refine lv_iconst (v := nI 0) hx hb dX1_run_12 (by decide +kernel) ?_
  refine lv_istore (lv' := [(5, .int (nI 0)), (4, .ref q), (3, .int (nI 16)), (0, .ref x), (1, .int (bI lk)), (2, .int kd)]) hx hb dX1_run_13 hl (by decide) rfl (fun ls hl => ?_)
  exact loop 16 0 q z8 H _ ls rfl (fun j hj => absurd hj (by omega)) hP hD hS (lv_sub hl [0, 1, 2, 3, 4] rfl)
set_option maxHeartbeats 4000000 in
set_option maxRecDepth 100000 in
/-- lock(kind) -/
theorem met_lock1 (l : Launch) (D : va_G) (dB dN : ClassId) (x k b o : Nat) (kf bf of : Nat → Int8) (kd : Int32) (sz : Nat) : Met l yX1_lock (ws_ yX1_lock cX1_lock 2 none) ({ frames := 5, cells := 6, slots := 66, locals := 129 }) (va_Pc [.ref x, .int kd] (wM D dB dN [(x, .inr (0, [.ref k, .ref b, .ref o])), (k, .inl (dB, 32, .inl (b8 kf))), (b, .inl (dB, 8, .inl (b8 bf))), (o, .inl (dB, 8, .inl (b8 of)))] sz)) (va_Qv (S := Unit) (fun _ => True) (wQ D (fun _ => [(x, .inr (0, [.ref k, .ref b, .ref o])), (k, .inl (dB, 32, .inl (b8 kf))), (b, .inl (dB, 8, .inl (b8 bf))), (o, .inl (dB, 8, .inl (b8 (crypt true (sc kf) bf of))))]) (va_A [(x, .inr (0, [.ref k, .ref b, .ref o])), (k, .inl (dB, 32, .inl (b8 kf))), (b, .inl (dB, 8, .inl (b8 bf))), (o, .inl (dB, 8, .inl (b8 of)))] sz)) (va_A [(x, .inr (0, [.ref k, .ref b, .ref o])), (k, .inl (dB, 32, .inl (b8 kf))), (b, .inl (dB, 8, .inl (b8 bf))), (o, .inl (dB, 8, .inl (b8 of)))] sz)) 6 66 (va_A [(x, .inr (0, [.ref k, .ref b, .ref o])), (k, .inl (dB, 32, .inl (b8 kf))), (b, .inl (dB, 8, .inl (b8 bf))), (o, .inl (dB, 8, .inl (b8 of)))] sz) := by
  refine rc_metM (fun A => va_Qv (S := Unit) (fun _ => True) (wQ D (fun _ => [(x, .inr (0, [.ref k, .ref b, .ref o])), (k, .inl (dB, 32, .inl (b8 kf))), (b, .inl (dB, 8, .inl (b8 bf))), (o, .inl (dB, 8, .inl (b8 (crypt true (sc kf) bf of))))]) (A)) (A)) (by decide) (Nat.le_of_ble_eq_true rfl) ?_
  intro p e s m below meth c ls A hx hb hr hts hown hml hlocks hin hP hK hD hA hS hl
  have hown : s.vm.findClass RX1 = some m.cls := hown
  have hl : lv_has ls 2 [(0, .ref x), (1, .int kd)] := hl
  refine lv_aload_n hx hb dX1_lock_0 rfl (lv_at hl 0 rfl) ?_
  refine lv_iconst (v := bI true) hx hb dX1_lock_1 (by decide +kernel) ?_
  refine lv_iload_n hx hb dX1_lock_2 rfl (lv_at hl 1 rfl) ?_
  refine rc_callv (wr := []) (va_runV (As := [.int (bI true), .int kd]) (rest := []) ⟨hx, hb, hml, hown, hts⟩ (met_run l D dB dN x k b o kf bf of true kd s.heap.size) (cwV 2 hts (lw_V q22 q24 qs0 q10 q26) rfl rfl rfl (by decide +kernel) ⟨Nat.le_of_ble_eq_true rfl, Nat.le_of_ble_eq_true rfl⟩) (wM_V (ci := 0) (q0 := 0) hP hK hD [0, 1, 2, 3] rfl (by decide) rfl rfl) rfl rfl hl.1 rfl (lv_room (Nat.le_of_ble_eq_true rfl)) dX1_lock_3 ⟨Nat.le_of_ble_eq_true rfl, Nat.le_of_ble_eq_true rfl⟩) hP hD hS hA [0, 1, 2, 3] [] rfl rfl (by decide) (by decide) (fun _ H locs hw hP hD hS => ?_)
  have hP : va_P D vwCl [(x, .inr (0, [.ref k, .ref b, .ref o])), (k, .inl (dB, 32, .inl (b8 kf))), (b, .inl (dB, 8, .inl (b8 bf))), (o, .inl (dB, 8, .inl (b8 (crypt true (sc kf) bf of))))] H := hP
  have hD : va_D A [(x, .inr (0, [.ref k, .ref b, .ref o])), (k, .inl (dB, 32, .inl (b8 kf))), (b, .inl (dB, 8, .inl (b8 bf))), (o, .inl (dB, 8, .inl (b8 (crypt true (sc kf) bf of))))] := hD
  exact W.vret hx hb hr (fun t ht hW => ⟨⟨(), rfl, trivial, by rw [ht]; exact hP, hD⟩, hS.F ht⟩) hS.2.2 dX1_lock_6
set_option maxHeartbeats 4000000 in
set_option maxRecDepth 100000 in
/-- open(kind) -/
theorem met_open1 (l : Launch) (D : va_G) (dB dN : ClassId) (x k b o : Nat) (kf bf of : Nat → Int8) (kd : Int32) (sz : Nat) : Met l yX1_open (ws_ yX1_open cX1_open 2 none) ({ frames := 5, cells := 6, slots := 66, locals := 129 }) (va_Pc [.ref x, .int kd] (wM D dB dN [(x, .inr (0, [.ref k, .ref b, .ref o])), (k, .inl (dB, 32, .inl (b8 kf))), (b, .inl (dB, 8, .inl (b8 bf))), (o, .inl (dB, 8, .inl (b8 of)))] sz)) (va_Qv (S := Unit) (fun _ => True) (wQ D (fun _ => [(x, .inr (0, [.ref k, .ref b, .ref o])), (k, .inl (dB, 32, .inl (b8 kf))), (b, .inl (dB, 8, .inl (b8 bf))), (o, .inl (dB, 8, .inl (b8 (crypt false (sc kf) bf of))))]) (va_A [(x, .inr (0, [.ref k, .ref b, .ref o])), (k, .inl (dB, 32, .inl (b8 kf))), (b, .inl (dB, 8, .inl (b8 bf))), (o, .inl (dB, 8, .inl (b8 of)))] sz)) (va_A [(x, .inr (0, [.ref k, .ref b, .ref o])), (k, .inl (dB, 32, .inl (b8 kf))), (b, .inl (dB, 8, .inl (b8 bf))), (o, .inl (dB, 8, .inl (b8 of)))] sz)) 6 66 (va_A [(x, .inr (0, [.ref k, .ref b, .ref o])), (k, .inl (dB, 32, .inl (b8 kf))), (b, .inl (dB, 8, .inl (b8 bf))), (o, .inl (dB, 8, .inl (b8 of)))] sz) := by
  refine rc_metM (fun A => va_Qv (S := Unit) (fun _ => True) (wQ D (fun _ => [(x, .inr (0, [.ref k, .ref b, .ref o])), (k, .inl (dB, 32, .inl (b8 kf))), (b, .inl (dB, 8, .inl (b8 bf))), (o, .inl (dB, 8, .inl (b8 (crypt false (sc kf) bf of))))]) (A)) (A)) (by decide) (Nat.le_of_ble_eq_true rfl) ?_
  intro p e s m below meth c ls A hx hb hr hts hown hml hlocks hin hP hK hD hA hS hl
  have hown : s.vm.findClass RX1 = some m.cls := hown
  have hl : lv_has ls 2 [(0, .ref x), (1, .int kd)] := hl
  refine lv_aload_n hx hb dX1_open_0 rfl (lv_at hl 0 rfl) ?_
  refine lv_iconst (v := bI false) hx hb dX1_open_1 (by decide +kernel) ?_
  refine lv_iload_n hx hb dX1_open_2 rfl (lv_at hl 1 rfl) ?_
  refine rc_callv (wr := []) (va_runV (As := [.int (bI false), .int kd]) (rest := []) ⟨hx, hb, hml, hown, hts⟩ (met_run l D dB dN x k b o kf bf of false kd s.heap.size) (cwV 2 hts (lw_V q22 q24 qs0 q10 q26) rfl rfl rfl (by decide +kernel) ⟨Nat.le_of_ble_eq_true rfl, Nat.le_of_ble_eq_true rfl⟩) (wM_V (ci := 0) (q0 := 0) hP hK hD [0, 1, 2, 3] rfl (by decide) rfl rfl) rfl rfl hl.1 rfl (lv_room (Nat.le_of_ble_eq_true rfl)) dX1_open_3 ⟨Nat.le_of_ble_eq_true rfl, Nat.le_of_ble_eq_true rfl⟩) hP hD hS hA [0, 1, 2, 3] [] rfl rfl (by decide) (by decide) (fun _ H locs hw hP hD hS => ?_)
  have hP : va_P D vwCl [(x, .inr (0, [.ref k, .ref b, .ref o])), (k, .inl (dB, 32, .inl (b8 kf))), (b, .inl (dB, 8, .inl (b8 bf))), (o, .inl (dB, 8, .inl (b8 (crypt false (sc kf) bf of))))] H := hP
  have hD : va_D A [(x, .inr (0, [.ref k, .ref b, .ref o])), (k, .inl (dB, 32, .inl (b8 kf))), (b, .inl (dB, 8, .inl (b8 bf))), (o, .inl (dB, 8, .inl (b8 (crypt false (sc kf) bf of))))] := hD
  exact W.vret hx hb hr (fun t ht hW => ⟨⟨(), rfl, trivial, by rw [ht]; exact hP, hD⟩, hS.F ht⟩) hS.2.2 dX1_open_6
end
section
/-! ===== the law's own methods ===== -/
set_option maxHeartbeats 4000000 in
set_option maxRecDepth 100000 in
/-- cell(s, k) -/
theorem met_cell (l : Launch) (D : va_G) (dB dN : ClassId) (sb L : Nat) (xs : Nat → Int32) (hL : L ≤ 10) (k : Nat) (hk : k ≤ 20) : Met l yX0_cell (ws_ yX0_cell cX0_cell 2 (some .int)) ({ frames := 0, cells := 0, slots := 0, locals := 0 }) (va_Pc [.ref sb, .int (nI k)] (wSX sb L xs D dB dN [])) (vp_Si (fun r : Int32 => r = cl xs L k)) 0 0 (fun _ => False) := by
  refine rc_met (by decide) (Nat.le_of_ble_eq_true rfl) ?_
  intro p e s m below meth c ls hx hb hr hts hown hml hlocks hin hB hl
  obtain ⟨⟨hP, hK⟩, hX⟩ := hB
  have hbl : sb < s.heap.size := by obtain ⟨scr, h1, -⟩ := hX; exact (Array.getElem?_eq_some_iff.mp h1).1
  have hown : s.vm.findClass RX0 = some m.cls := hown
  have hl : lv_has ls 2 [(0, .ref sb), (1, .int (nI k))] := hl
  refine lv_iload_n hx hb dX0_cell_0 rfl (lv_at hl 1 rfl) ?_
  refine lv_aload_n hx hb dX0_cell_1 rfl (lv_at hl 0 rfl) ?_
  refine va_slen (A := fun _ => False) hx hb hX hbl (fun h => h) va_S.rf dX0_cell_2 ?_
  refine rc_ge (tgt := 12) k L rfl rfl (by omega) (by omega) hx hb dX0_cell_3 (by decide) (fun h => ?_) (fun h => ?_)
  · have e0 : (0 : Int32) = cl xs L k := by unfold cl; rw [if_neg (by omega)]
    refine lv_iconst (v := 0) hx hb dX0_cell_12 (by decide +kernel) ?_
    exact W.iret (v := 0) hx hb hr (fun t ht hW => ⟨0, rfl, e0, ht⟩) (fun _ h => absurd h List.not_mem_nil) dX0_cell_13
  · have e0 : xs (nI k).toNatClampNeg = cl xs L k := by unfold cl; rw [if_pos h, nI_clamp (by omega)]
    refine lv_aload_n hx hb dX0_cell_6 rfl (lv_at hl 0 rfl) ?_
    refine lv_iload_n hx hb dX0_cell_7 rfl (lv_at hl 1 rfl) ?_
    refine va_sld (A := fun _ => False) hx hb hX hbl (fun h => h) va_S.rf (vp_in_nI h (by omega)) dX0_cell_8 ?_
    refine lv_goto (tgt := 13) hx hb dX0_cell_9 (by decide) ?_
    exact W.iret (v := (xs (nI k).toNatClampNeg)) hx hb hr (fun t ht hW => ⟨(xs (nI k).toNatClampNeg), rfl, e0, ht⟩) (fun _ h => absurd h List.not_mem_nil) dX0_cell_13
set_option maxHeartbeats 4000000 in
set_option maxRecDepth 100000 in
/-- same(x, s), where all is as it should be -/
theorem met_same (l : Launch) (D : va_G) (dB dN : ClassId) (x k b o : Nat) (kf bf of : Nat → Int8) (sb L : Nat) (xs : Nat → Int32) (hL : L ≤ 10) (hw : ∀ j, j < 8 → (of j).toInt32 &&& 255 = want (cl xs L 8) (cl xs L 9) j) : Met l yX0_same (ws_ yX0_same cX0_same 3 (some .boolean)) ({ frames := 1, cells := 0, slots := 0, locals := 21 }) (va_Pc [.ref x, .ref sb] (wSX sb L xs D dB dN [(x, .inr (0, [.ref k, .ref b, .ref o])), (k, .inl (dB, 32, .inl (b8 kf))), (b, .inl (dB, 8, .inl (b8 bf))), (o, .inl (dB, 8, .inl (b8 of)))])) (vp_Si (fun r : Int32 => r = 1)) 0 0 (fun _ => False) := by
  refine rc_met (by decide) (Nat.le_of_ble_eq_true rfl) ?_
  intro p e s m below meth c ls hx hb hr hts hown hml hlocks hin hB hl
  obtain ⟨⟨hP, hK⟩, hX9⟩ := hB
  have hown : s.vm.findClass RX0 = some m.cls := hown
  have hl : lv_has ls 3 [(0, .ref x), (1, .ref sb)] := hl
  have loop : ∀ (n i : Nat) (ls : Array Slot), i + n = 8 → lv_has ls 3 [(2, .int (nI i)), (0, .ref x), (1, .ref sb)] → W p l e ({ frames := 1, cells := 0, slots := 0, locals := 21 }) s m ([.ref x, .ref sb] : List Value).toArray below meth c s.heap [] 0 0 (MQ below (vp_Si (fun r : Int32 => r = 1)) ([.ref x, .ref sb] : List Value).toArray s 0 0 (fun _ => False)) (F0 m 2 ls []) := by
    intro n
    induction n with
    | zero =>
      intro i ls hi hl
      refine lv_iload_n hx hb dX0_same_2 rfl (lv_at hl 0 rfl) ?_
      refine lv_bipush (v := nI 8) hx hb dX0_same_3 (by decide +kernel) ?_
      refine rc_ge (tgt := 48) i 8 rfl rfl (by omega) (by omega) hx hb dX0_same_5 (by decide) (fun _ => ?_) (fun h => absurd h (by omega))
      refine lv_iconst (v := 1) hx hb dX0_same_48 (by decide +kernel) ?_
      exact W.zret (v := 1) hx hb hr rfl (fun t ht hW => ⟨1, rfl, rfl, ht⟩) (fun _ h => absurd h List.not_mem_nil) dX0_same_49
    | succ n ih =>
      intro i ls hi hl
      refine lv_iload_n hx hb dX0_same_2 rfl (lv_at hl 0 rfl) ?_
      refine lv_bipush (v := nI 8) hx hb dX0_same_3 (by decide +kernel) ?_
      refine rc_ge (tgt := 48) i 8 rfl rfl (by omega) (by omega) hx hb dX0_same_5 (by decide) (fun h => absurd h (by omega)) (fun _ => ?_)
      refine lv_aload_n hx hb dX0_same_8 rfl (lv_at hl 1 rfl) ?_
      refine lv_iload_n hx hb dX0_same_9 rfl (lv_at hl 0 rfl) ?_
      refine vp_callSi (W.runV (As := [.int (nI i)]) (rest := []) ⟨hx, hb, hml, hown, hts⟩ (met_out l D dB dN x k b o kf bf of i (by omega)) (cwV 1 hts (lw_V q240 q241 q242 q10 q243) rfl rfl rfl (by decide +kernel) ⟨Nat.le_of_ble_eq_true rfl, Nat.le_of_ble_eq_true rfl⟩) (wS_V (ci := 0) (q0 := 0) hP hK [0, 1, 2, 3] rfl rfl rfl) rfl rfl hl.1 rfl (lv_room (Nat.le_of_ble_eq_true rfl)) dX0_same_10 ⟨Nat.le_of_ble_eq_true rfl, Nat.le_of_ble_eq_true rfl⟩) (fun r1 er1 => ?_)
      refine lv_aload_n hx hb dX0_same_13 rfl (lv_at hl 2 rfl) ?_
      refine lv_bipush (v := nI 8) hx hb dX0_same_14 (by decide +kernel) ?_
      refine lv_iload_n hx hb dX0_same_16 rfl (lv_at hl 0 rfl) ?_
      refine lv_iconst (v := nI 4) hx hb dX0_same_17 (by decide +kernel) ?_
      refine lv_idiv hx hb dX0_same_18 (by decide +kernel) ?_
      refine rc_top (y := nI (i / 4)) (pk_div (d := 4) (by omega) (by omega) (by omega)) ?_
      refine lv_iadd hx hb dX0_same_19 ?_
      refine rc_top (y := nI (8 + i / 4)) (nI_add 8 (i / 4)) ?_
      refine vp_callSi (W.runS (As := [.ref sb, .int (nI (8 + i / 4))]) (rest := [.int r1]) ⟨hx, hb, hml, hown, hts⟩ (met_cell l D dB dN sb L xs hL (8 + i / 4) (by omega)) (va_cwS 2 hts (lw_S q223 q224 q9 q225) rfl rfl rfl (by decide +kernel) ⟨Nat.le_of_ble_eq_true rfl, Nat.le_of_ble_eq_true rfl⟩) (wSX_S hP hK hX9 [] rfl) rfl rfl hl.1 rfl (lv_room (Nat.le_of_ble_eq_true rfl)) dX0_same_20 ⟨Nat.le_of_ble_eq_true rfl, Nat.le_of_ble_eq_true rfl⟩) (fun r2 er2 => ?_)
      refine lv_bipush (v := nI 24) hx hb dX0_same_23 (by decide +kernel) ?_
      refine lv_bipush (v := nI 8) hx hb dX0_same_25 (by decide +kernel) ?_
      refine lv_iload_n hx hb dX0_same_27 rfl (lv_at hl 0 rfl) ?_
      refine lv_iconst (v := nI 4) hx hb dX0_same_28 (by decide +kernel) ?_
      refine lv_irem hx hb dX0_same_29 (by decide +kernel) ?_
      refine rc_top (y := nI (i % 4)) (pk_rem (d := 4) (by omega) (by omega) (by omega)) ?_
      refine lv_imul hx hb dX0_same_30 ?_
      refine lv_isub hx hb dX0_same_31 ?_
      refine rc_top (y := nI (24 - 8 * (i % 4))) (by rw [pk_mul]; exact pk_sub (by omega)) ?_
      refine lv_iushr hx hb dX0_same_32 rfl ?_
      refine lv_sipush (v := 255) hx hb dX0_same_33 (by decide +kernel) ?_
      refine lv_iand hx hb dX0_same_36 ?_
      have e8 : cl xs L (8 + i / 4) = if i < 4 then cl xs L 8 else cl xs L 9 := by
        by_cases h : i < 4
        · rw [if_pos h]; exact congrArg (cl xs L) (by omega)
        · rw [if_neg h]; exact congrArg (cl xs L) (by omega)
      refine rc_eqT (tgt := 42) (er1.trans ((hw i (by omega)).trans (by rw [er2, e8]; rfl))) hx hb dX0_same_37 (by decide) ?_
      refine lv_iinc (v := (nI (i + 1))) (lv' := [(2, .int (nI (i + 1))), (0, .ref x), (1, .ref sb)]) hx hb dX0_same_42 hl (k := 0) rfl (nI_1 i) (by decide) rfl (fun ls hl => ?_)
      refine lv_goto (tgt := 2) hx hb dX0_same_45 (by decide) ?_
      exact ih (i + 1) ls (by omega) hl
  refine lv_iconst (v := nI 0) hx hb dX0_same_0 (by decide +kernel) ?_
  refine lv_istore_n (lv' := [(2, .int (nI 0)), (0, .ref x), (1, .ref sb)]) hx hb dX0_same_1 rfl hl (by decide) rfl (fun ls hl => ?_)
  exact loop 8 0 ls rfl hl
set_option maxHeartbeats 4000000 in
set_option maxRecDepth 100000 in
/-- with(s) -/
theorem met_with (l : Launch) (D : va_G) (dB dN : ClassId) (sb L : Nat) (xs : Nat → Int32) (hL : L ≤ 10) (sz : Nat) : Met l yX0_with (ws_ yX0_with cX0_with 2 (some (.object "RcFiveDesk"))) ({ frames := 2, cells := 4, slots := 51, locals := 48 }) (va_Pc [.ref sb] (wMX sb L xs D dB dN [] sz)) (va_Qr (S := Nat × Nat × Nat) (fun _ => True) (wQr D (fun u x => [(x, .inr (0, [.ref u.1, .ref u.2.1, .ref u.2.2])), (u.1, .inl (dB, 32, .inl (b8 (key8 (key8 z8 0 (cl xs L 0) (cl xs L 1) (cl xs L 2) (cl xs L 3)) 1 (cl xs L 4) (cl xs L 5) (cl xs L 6) (cl xs L 7))))), (u.2.1, .inl (dB, 8, .inl (b8 (blk8 z8 (cl xs L 8) (cl xs L 9))))), (u.2.2, .inl (dB, 8, .inl (b8 z8)))]) (va_A [] sz)) (va_A [] sz)) 4 51 (va_A [] sz) := by
  refine rc_metMX (fun A => va_Qr (S := Nat × Nat × Nat) (fun _ => True) (wQr D (fun u x => [(x, .inr (0, [.ref u.1, .ref u.2.1, .ref u.2.2])), (u.1, .inl (dB, 32, .inl (b8 (key8 (key8 z8 0 (cl xs L 0) (cl xs L 1) (cl xs L 2) (cl xs L 3)) 1 (cl xs L 4) (cl xs L 5) (cl xs L 6) (cl xs L 7))))), (u.2.1, .inl (dB, 8, .inl (b8 (blk8 z8 (cl xs L 8) (cl xs L 9))))), (u.2.2, .inl (dB, 8, .inl (b8 z8)))]) (A)) (A)) (by decide) (Nat.le_of_ble_eq_true rfl) ?_
  intro p e s m below meth c ls A hx hb hr hts hown hml hlocks hin hP hK hD hA hS hX hbl hbA hl
  have hown : s.vm.findClass RX0 = some m.cls := hown
  have hl : lv_has ls 2 [(0, .ref sb)] := hl
  refine va_new (ci := 0) (fs := [.null, .null, .null]) (C := RX1) (T := TX1) (N := 3) hx hb hts in_X1 tyX1 tyX1_ok hown (hts _ q208) (hts _ q25) (hts _ q10) hK.1 hP hD hS hA rfl (fun j hj => by rcases (show j = 0 ∨ j = 1 ∨ j = 2 by omega) with rfl | rfl | rfl <;> rfl) (Nat.le_of_ble_eq_true rfl) (Nat.le_of_ble_eq_true rfl) dX0_with_0 (fun x H hP hD hS => ?_)
  have hP : va_P D vwCl [(x, .inr (0, [.null, .null, .null]))] H := hP
  have hD : va_D A [(x, .inr (0, [.null, .null, .null]))] := hD
  refine lv_dup hx hb dX0_with_3 rfl ?_
  refine rc_callv (wr := []) (va_runI (As := []) (rest := [.ref x]) ⟨hx, hb, hml, hown, hts⟩ (met_desk l D dB dN x .null .null .null H.size) (cwI 0 hts (lw_meth q211) rfl rfl rfl (hts _ q10) (hts _ q209) (hts _ q210) rfl (by decide +kernel) ⟨Nat.le_of_ble_eq_true rfl, Nat.le_of_ble_eq_true rfl⟩) (wM_S hP hK hD [0] rfl (by decide)) rfl rfl hl.1 rfl (lv_room (Nat.le_of_ble_eq_true rfl)) dX0_with_4 ⟨Nat.le_of_ble_eq_true rfl, Nat.le_of_ble_eq_true rfl⟩) hP hD hS hA [0] [] rfl rfl (by decide) (by decide) (fun u H locs hw hP hD hS => ?_)
  have hP : va_P D vwCl [(x, .inr (0, [.ref u.1, .ref u.2.1, .ref u.2.2])), (u.1, .inl (dB, 32, .inl (b8 z8))), (u.2.1, .inl (dB, 8, .inl (b8 z8))), (u.2.2, .inl (dB, 8, .inl (b8 z8)))] H := hP
  have hD : va_D A [(x, .inr (0, [.ref u.1, .ref u.2.1, .ref u.2.2])), (u.1, .inl (dB, 32, .inl (b8 z8))), (u.2.1, .inl (dB, 8, .inl (b8 z8))), (u.2.2, .inl (dB, 8, .inl (b8 z8)))] := hD
  refine lv_astore_n (lv' := [(1, .ref x), (0, .ref sb)]) hx hb dX0_with_7 rfl hl (by decide) rfl (fun ls hl => ?_)
  have hX9 := hX.kept (hS.2.1 sb hbl hbA)
  refine lv_aload_n hx hb dX0_with_8 rfl (lv_at hl 0 rfl) ?_
  refine lv_iconst (v := nI 0) hx hb dX0_with_9 (by decide +kernel) ?_
  refine lv_aload_n hx hb dX0_with_10 rfl (lv_at hl 1 rfl) ?_
  refine lv_iconst (v := nI 0) hx hb dX0_with_11 (by decide +kernel) ?_
  refine vp_callSi (W.runS (As := [.ref sb, .int (nI 0)]) (rest := [.int (nI 0), .ref x]) ⟨hx, hb, hml, hown, hts⟩ (met_cell l D dB dN sb L xs hL 0 (by omega)) (va_cwS 2 hts (lw_S q223 q224 q9 q225) rfl rfl rfl (by decide +kernel) ⟨Nat.le_of_ble_eq_true rfl, Nat.le_of_ble_eq_true rfl⟩) (wSX_S hP hK hX9 [] rfl) rfl rfl hl.1 rfl (lv_room (Nat.le_of_ble_eq_true rfl)) dX0_with_12 ⟨Nat.le_of_ble_eq_true rfl, Nat.le_of_ble_eq_true rfl⟩) (fun c0 ec0 => ?_)
  refine rc_top (y := cl xs L 0) ec0 ?_
  refine lv_aload_n hx hb dX0_with_15 rfl (lv_at hl 1 rfl) ?_
  refine lv_iconst (v := nI 1) hx hb dX0_with_16 (by decide +kernel) ?_
  refine vp_callSi (W.runS (As := [.ref sb, .int (nI 1)]) (rest := [.int (cl xs L 0), .int (nI 0), .ref x]) ⟨hx, hb, hml, hown, hts⟩ (met_cell l D dB dN sb L xs hL 1 (by omega)) (va_cwS 2 hts (lw_S q223 q224 q9 q225) rfl rfl rfl (by decide +kernel) ⟨Nat.le_of_ble_eq_true rfl, Nat.le_of_ble_eq_true rfl⟩) (wSX_S hP hK hX9 [] rfl) rfl rfl hl.1 rfl (lv_room (Nat.le_of_ble_eq_true rfl)) dX0_with_17 ⟨Nat.le_of_ble_eq_true rfl, Nat.le_of_ble_eq_true rfl⟩) (fun c1 ec1 => ?_)
  refine rc_top (y := cl xs L 1) ec1 ?_
  refine lv_aload_n hx hb dX0_with_20 rfl (lv_at hl 1 rfl) ?_
  refine lv_iconst (v := nI 2) hx hb dX0_with_21 (by decide +kernel) ?_
  refine vp_callSi (W.runS (As := [.ref sb, .int (nI 2)]) (rest := [.int (cl xs L 1), .int (cl xs L 0), .int (nI 0), .ref x]) ⟨hx, hb, hml, hown, hts⟩ (met_cell l D dB dN sb L xs hL 2 (by omega)) (va_cwS 2 hts (lw_S q223 q224 q9 q225) rfl rfl rfl (by decide +kernel) ⟨Nat.le_of_ble_eq_true rfl, Nat.le_of_ble_eq_true rfl⟩) (wSX_S hP hK hX9 [] rfl) rfl rfl hl.1 rfl (lv_room (Nat.le_of_ble_eq_true rfl)) dX0_with_22 ⟨Nat.le_of_ble_eq_true rfl, Nat.le_of_ble_eq_true rfl⟩) (fun c2 ec2 => ?_)
  refine rc_top (y := cl xs L 2) ec2 ?_
  refine lv_aload_n hx hb dX0_with_25 rfl (lv_at hl 1 rfl) ?_
  refine lv_iconst (v := nI 3) hx hb dX0_with_26 (by decide +kernel) ?_
  refine vp_callSi (W.runS (As := [.ref sb, .int (nI 3)]) (rest := [.int (cl xs L 2), .int (cl xs L 1), .int (cl xs L 0), .int (nI 0), .ref x]) ⟨hx, hb, hml, hown, hts⟩ (met_cell l D dB dN sb L xs hL 3 (by omega)) (va_cwS 2 hts (lw_S q223 q224 q9 q225) rfl rfl rfl (by decide +kernel) ⟨Nat.le_of_ble_eq_true rfl, Nat.le_of_ble_eq_true rfl⟩) (wSX_S hP hK hX9 [] rfl) rfl rfl hl.1 rfl (lv_room (Nat.le_of_ble_eq_true rfl)) dX0_with_27 ⟨Nat.le_of_ble_eq_true rfl, Nat.le_of_ble_eq_true rfl⟩) (fun c3 ec3 => ?_)
  refine rc_top (y := cl xs L 3) ec3 ?_
  refine rc_callv (wr := []) (va_runV (As := [.int (nI 0), .int (cl xs L 0), .int (cl xs L 1), .int (cl xs L 2), .int (cl xs L 3)]) (rest := []) ⟨hx, hb, hml, hown, hts⟩ (met_key l D dB dN x u.1 u.2.1 u.2.2 z8 z8 z8 0 (by omega) (cl xs L 0) (cl xs L 1) (cl xs L 2) (cl xs L 3) H.size) (cwV 5 hts (lw_V q226 q227 q228 q10 q229) rfl rfl rfl (by decide +kernel) ⟨Nat.le_of_ble_eq_true rfl, Nat.le_of_ble_eq_true rfl⟩) (wM_V (ci := 0) (q0 := 0) hP hK hD [0, 1, 2, 3] rfl (by decide) rfl rfl) rfl rfl hl.1 rfl (lv_room (Nat.le_of_ble_eq_true rfl)) dX0_with_30 ⟨Nat.le_of_ble_eq_true rfl, Nat.le_of_ble_eq_true rfl⟩) hP hD hS hA [0, 1, 2, 3] [] rfl rfl (by decide) (by decide) (fun _ H locs hw hP hD hS => ?_)
  have hP : va_P D vwCl [(x, .inr (0, [.ref u.1, .ref u.2.1, .ref u.2.2])), (u.1, .inl (dB, 32, .inl (b8 (key8 z8 0 (cl xs L 0) (cl xs L 1) (cl xs L 2) (cl xs L 3))))), (u.2.1, .inl (dB, 8, .inl (b8 z8))), (u.2.2, .inl (dB, 8, .inl (b8 z8)))] H := hP
  have hD : va_D A [(x, .inr (0, [.ref u.1, .ref u.2.1, .ref u.2.2])), (u.1, .inl (dB, 32, .inl (b8 (key8 z8 0 (cl xs L 0) (cl xs L 1) (cl xs L 2) (cl xs L 3))))), (u.2.1, .inl (dB, 8, .inl (b8 z8))), (u.2.2, .inl (dB, 8, .inl (b8 z8)))] := hD
  have hX9 := hX.kept (hS.2.1 sb hbl hbA)
  refine lv_aload_n hx hb dX0_with_33 rfl (lv_at hl 0 rfl) ?_
  refine lv_iconst (v := nI 1) hx hb dX0_with_34 (by decide +kernel) ?_
  refine lv_aload_n hx hb dX0_with_35 rfl (lv_at hl 1 rfl) ?_
  refine lv_iconst (v := nI 4) hx hb dX0_with_36 (by decide +kernel) ?_
  refine vp_callSi (W.runS (As := [.ref sb, .int (nI 4)]) (rest := [.int (nI 1), .ref x]) ⟨hx, hb, hml, hown, hts⟩ (met_cell l D dB dN sb L xs hL 4 (by omega)) (va_cwS 2 hts (lw_S q223 q224 q9 q225) rfl rfl rfl (by decide +kernel) ⟨Nat.le_of_ble_eq_true rfl, Nat.le_of_ble_eq_true rfl⟩) (wSX_S hP hK hX9 [] rfl) rfl rfl hl.1 rfl (lv_room (Nat.le_of_ble_eq_true rfl)) dX0_with_37 ⟨Nat.le_of_ble_eq_true rfl, Nat.le_of_ble_eq_true rfl⟩) (fun c4 ec4 => ?_)
  refine rc_top (y := cl xs L 4) ec4 ?_
  refine lv_aload_n hx hb dX0_with_40 rfl (lv_at hl 1 rfl) ?_
  refine lv_iconst (v := nI 5) hx hb dX0_with_41 (by decide +kernel) ?_
  refine vp_callSi (W.runS (As := [.ref sb, .int (nI 5)]) (rest := [.int (cl xs L 4), .int (nI 1), .ref x]) ⟨hx, hb, hml, hown, hts⟩ (met_cell l D dB dN sb L xs hL 5 (by omega)) (va_cwS 2 hts (lw_S q223 q224 q9 q225) rfl rfl rfl (by decide +kernel) ⟨Nat.le_of_ble_eq_true rfl, Nat.le_of_ble_eq_true rfl⟩) (wSX_S hP hK hX9 [] rfl) rfl rfl hl.1 rfl (lv_room (Nat.le_of_ble_eq_true rfl)) dX0_with_42 ⟨Nat.le_of_ble_eq_true rfl, Nat.le_of_ble_eq_true rfl⟩) (fun c5 ec5 => ?_)
  refine rc_top (y := cl xs L 5) ec5 ?_
  refine lv_aload_n hx hb dX0_with_45 rfl (lv_at hl 1 rfl) ?_
  refine lv_bipush (v := nI 6) hx hb dX0_with_46 (by decide +kernel) ?_
  refine vp_callSi (W.runS (As := [.ref sb, .int (nI 6)]) (rest := [.int (cl xs L 5), .int (cl xs L 4), .int (nI 1), .ref x]) ⟨hx, hb, hml, hown, hts⟩ (met_cell l D dB dN sb L xs hL 6 (by omega)) (va_cwS 2 hts (lw_S q223 q224 q9 q225) rfl rfl rfl (by decide +kernel) ⟨Nat.le_of_ble_eq_true rfl, Nat.le_of_ble_eq_true rfl⟩) (wSX_S hP hK hX9 [] rfl) rfl rfl hl.1 rfl (lv_room (Nat.le_of_ble_eq_true rfl)) dX0_with_48 ⟨Nat.le_of_ble_eq_true rfl, Nat.le_of_ble_eq_true rfl⟩) (fun c6 ec6 => ?_)
  refine rc_top (y := cl xs L 6) ec6 ?_
  refine lv_aload_n hx hb dX0_with_51 rfl (lv_at hl 1 rfl) ?_
  refine lv_bipush (v := nI 7) hx hb dX0_with_52 (by decide +kernel) ?_
  refine vp_callSi (W.runS (As := [.ref sb, .int (nI 7)]) (rest := [.int (cl xs L 6), .int (cl xs L 5), .int (cl xs L 4), .int (nI 1), .ref x]) ⟨hx, hb, hml, hown, hts⟩ (met_cell l D dB dN sb L xs hL 7 (by omega)) (va_cwS 2 hts (lw_S q223 q224 q9 q225) rfl rfl rfl (by decide +kernel) ⟨Nat.le_of_ble_eq_true rfl, Nat.le_of_ble_eq_true rfl⟩) (wSX_S hP hK hX9 [] rfl) rfl rfl hl.1 rfl (lv_room (Nat.le_of_ble_eq_true rfl)) dX0_with_54 ⟨Nat.le_of_ble_eq_true rfl, Nat.le_of_ble_eq_true rfl⟩) (fun c7 ec7 => ?_)
  refine rc_top (y := cl xs L 7) ec7 ?_
  refine rc_callv (wr := []) (va_runV (As := [.int (nI 1), .int (cl xs L 4), .int (cl xs L 5), .int (cl xs L 6), .int (cl xs L 7)]) (rest := []) ⟨hx, hb, hml, hown, hts⟩ (met_key l D dB dN x u.1 u.2.1 u.2.2 (key8 z8 0 (cl xs L 0) (cl xs L 1) (cl xs L 2) (cl xs L 3)) z8 z8 1 (by omega) (cl xs L 4) (cl xs L 5) (cl xs L 6) (cl xs L 7) H.size) (cwV 5 hts (lw_V q226 q227 q228 q10 q229) rfl rfl rfl (by decide +kernel) ⟨Nat.le_of_ble_eq_true rfl, Nat.le_of_ble_eq_true rfl⟩) (wM_V (ci := 0) (q0 := 0) hP hK hD [0, 1, 2, 3] rfl (by decide) rfl rfl) rfl rfl hl.1 rfl (lv_room (Nat.le_of_ble_eq_true rfl)) dX0_with_57 ⟨Nat.le_of_ble_eq_true rfl, Nat.le_of_ble_eq_true rfl⟩) hP hD hS hA [0, 1, 2, 3] [] rfl rfl (by decide) (by decide) (fun _ H locs hw hP hD hS => ?_)
  have hP : va_P D vwCl [(x, .inr (0, [.ref u.1, .ref u.2.1, .ref u.2.2])), (u.1, .inl (dB, 32, .inl (b8 (key8 (key8 z8 0 (cl xs L 0) (cl xs L 1) (cl xs L 2) (cl xs L 3)) 1 (cl xs L 4) (cl xs L 5) (cl xs L 6) (cl xs L 7))))), (u.2.1, .inl (dB, 8, .inl (b8 z8))), (u.2.2, .inl (dB, 8, .inl (b8 z8)))] H := hP
  have hD : va_D A [(x, .inr (0, [.ref u.1, .ref u.2.1, .ref u.2.2])), (u.1, .inl (dB, 32, .inl (b8 (key8 (key8 z8 0 (cl xs L 0) (cl xs L 1) (cl xs L 2) (cl xs L 3)) 1 (cl xs L 4) (cl xs L 5) (cl xs L 6) (cl xs L 7))))), (u.2.1, .inl (dB, 8, .inl (b8 z8))), (u.2.2, .inl (dB, 8, .inl (b8 z8)))] := hD
  have hX9 := hX.kept (hS.2.1 sb hbl hbA)
  refine lv_aload_n hx hb dX0_with_60 rfl (lv_at hl 0 rfl) ?_
  refine lv_aload_n hx hb dX0_with_61 rfl (lv_at hl 1 rfl) ?_
  refine lv_bipush (v := nI 8) hx hb dX0_with_62 (by decide +kernel) ?_
  refine vp_callSi (W.runS (As := [.ref sb, .int (nI 8)]) (rest := [.ref x]) ⟨hx, hb, hml, hown, hts⟩ (met_cell l D dB dN sb L xs hL 8 (by omega)) (va_cwS 2 hts (lw_S q223 q224 q9 q225) rfl rfl rfl (by decide +kernel) ⟨Nat.le_of_ble_eq_true rfl, Nat.le_of_ble_eq_true rfl⟩) (wSX_S hP hK hX9 [] rfl) rfl rfl hl.1 rfl (lv_room (Nat.le_of_ble_eq_true rfl)) dX0_with_64 ⟨Nat.le_of_ble_eq_true rfl, Nat.le_of_ble_eq_true rfl⟩) (fun c8 ec8 => ?_)
  refine rc_top (y := cl xs L 8) ec8 ?_
  refine lv_aload_n hx hb dX0_with_67 rfl (lv_at hl 1 rfl) ?_
  refine lv_bipush (v := nI 9) hx hb dX0_with_68 (by decide +kernel) ?_
  refine vp_callSi (W.runS (As := [.ref sb, .int (nI 9)]) (rest := [.int (cl xs L 8), .ref x]) ⟨hx, hb, hml, hown, hts⟩ (met_cell l D dB dN sb L xs hL 9 (by omega)) (va_cwS 2 hts (lw_S q223 q224 q9 q225) rfl rfl rfl (by decide +kernel) ⟨Nat.le_of_ble_eq_true rfl, Nat.le_of_ble_eq_true rfl⟩) (wSX_S hP hK hX9 [] rfl) rfl rfl hl.1 rfl (lv_room (Nat.le_of_ble_eq_true rfl)) dX0_with_70 ⟨Nat.le_of_ble_eq_true rfl, Nat.le_of_ble_eq_true rfl⟩) (fun c9 ec9 => ?_)
  refine rc_top (y := cl xs L 9) ec9 ?_
  refine rc_callv (wr := []) (va_runV (As := [.int (cl xs L 8), .int (cl xs L 9)]) (rest := []) ⟨hx, hb, hml, hown, hts⟩ (met_block l D dB dN x u.1 u.2.1 u.2.2 (key8 (key8 z8 0 (cl xs L 0) (cl xs L 1) (cl xs L 2) (cl xs L 3)) 1 (cl xs L 4) (cl xs L 5) (cl xs L 6) (cl xs L 7)) z8 z8 (cl xs L 8) (cl xs L 9) H.size) (cwV 2 hts (lw_V q233 q234 q235 q10 q236) rfl rfl rfl (by decide +kernel) ⟨Nat.le_of_ble_eq_true rfl, Nat.le_of_ble_eq_true rfl⟩) (wM_V (ci := 0) (q0 := 0) hP hK hD [0, 1, 2, 3] rfl (by decide) rfl rfl) rfl rfl hl.1 rfl (lv_room (Nat.le_of_ble_eq_true rfl)) dX0_with_73 ⟨Nat.le_of_ble_eq_true rfl, Nat.le_of_ble_eq_true rfl⟩) hP hD hS hA [0, 1, 2, 3] [] rfl rfl (by decide) (by decide) (fun _ H locs hw hP hD hS => ?_)
  have hP : va_P D vwCl [(x, .inr (0, [.ref u.1, .ref u.2.1, .ref u.2.2])), (u.1, .inl (dB, 32, .inl (b8 (key8 (key8 z8 0 (cl xs L 0) (cl xs L 1) (cl xs L 2) (cl xs L 3)) 1 (cl xs L 4) (cl xs L 5) (cl xs L 6) (cl xs L 7))))), (u.2.1, .inl (dB, 8, .inl (b8 (blk8 z8 (cl xs L 8) (cl xs L 9))))), (u.2.2, .inl (dB, 8, .inl (b8 z8)))] H := hP
  have hD : va_D A [(x, .inr (0, [.ref u.1, .ref u.2.1, .ref u.2.2])), (u.1, .inl (dB, 32, .inl (b8 (key8 (key8 z8 0 (cl xs L 0) (cl xs L 1) (cl xs L 2) (cl xs L 3)) 1 (cl xs L 4) (cl xs L 5) (cl xs L 6) (cl xs L 7))))), (u.2.1, .inl (dB, 8, .inl (b8 (blk8 z8 (cl xs L 8) (cl xs L 9))))), (u.2.2, .inl (dB, 8, .inl (b8 z8)))] := hD
  refine lv_aload_n hx hb dX0_with_76 rfl (lv_at hl 0 rfl) ?_
  exact W.aret (v := .ref x) hx hb hr (Or.inl ⟨_, rfl⟩) (Or.inr ⟨_, rfl⟩) (fun t ht hW => ⟨⟨u, x, rfl, trivial, by rw [ht]; exact hP, hD⟩, hS.F ht⟩) hS.2.2 dX0_with_77
set_option maxHeartbeats 4000000 in
set_option maxRecDepth 100000 in
/-- known() -/
theorem met_known (l : Launch) (D : va_G) (dB dN : ClassId) (sz : Nat) : Met l yX0_known (ws_ yX0_known cX0_known 5 (some .boolean)) ({ frames := 6, cells := 22, slots := 250, locals := 150 }) (va_Pc [] (wM D dB dN [] sz)) (va_Qi (S := Unit) (fun (r : Int32) _ => r = 1) (wQ D (fun _ => []) (va_A [] sz)) (va_A [] sz)) 22 250 (va_A [] sz) := by
  refine rc_metM (fun A => va_Qi (S := Unit) (fun (r : Int32) _ => r = 1) (wQ D (fun _ => []) (A)) (A)) (by decide) (Nat.le_of_ble_eq_true rfl) ?_
  intro p e s m below meth c ls A hx hb hr hts hown hml hlocks hin hP hK hD hA hS hl
  have hown : s.vm.findClass RX0 = some m.cls := hown
  have hl : lv_has ls 5 [] := hl
  have part2 : ∀ (H : Heap) (locs : List Loc) (ls : Array Slot), va_P D vwCl [] H → va_D A [] → va_S A s.heap H locs → lv_has ls 5 [] → W p l e ({ frames := 6, cells := 22, slots := 250, locals := 150 }) s m ([] : List Value).toArray below meth c H locs 11 125 (MQ below (va_Qi (S := Unit) (fun (r : Int32) _ => r = 1) (wQ D (fun _ => []) (A)) (A)) ([] : List Value).toArray s 22 250 A) (F0 m 115 ls []) := by
    intro H locs ls hP hD hS hl
    refine va_new (ci := 0) (fs := [.null, .null, .null]) (C := RX1) (T := TX1) (N := 3) hx hb hts in_X1 tyX1 tyX1_ok hown (hts _ q208) (hts _ q25) (hts _ q10) hK.1 hP hD hS hA rfl (fun j hj => by rcases (show j = 0 ∨ j = 1 ∨ j = 2 by omega) with rfl | rfl | rfl <;> rfl) (Nat.le_of_ble_eq_true rfl) (Nat.le_of_ble_eq_true rfl) dX0_known_115 (fun x2 H hP hD hS => ?_)
    have hP : va_P D vwCl [(x2, .inr (0, [.null, .null, .null]))] H := hP
    have hD : va_D A [(x2, .inr (0, [.null, .null, .null]))] := hD
    refine lv_dup hx hb dX0_known_118 rfl ?_
    refine rc_callv (wr := []) (va_runI (As := []) (rest := [.ref x2]) ⟨hx, hb, hml, hown, hts⟩ (met_desk l D dB dN x2 .null .null .null H.size) (cwI 0 hts (lw_meth q211) rfl rfl rfl (hts _ q10) (hts _ q209) (hts _ q210) rfl (by decide +kernel) ⟨Nat.le_of_ble_eq_true rfl, Nat.le_of_ble_eq_true rfl⟩) (wM_S hP hK hD [0] rfl (by decide)) rfl rfl hl.1 rfl (lv_room (Nat.le_of_ble_eq_true rfl)) dX0_known_119 ⟨Nat.le_of_ble_eq_true rfl, Nat.le_of_ble_eq_true rfl⟩) hP hD hS hA [0] [] rfl rfl (by decide) (by decide) (fun u2 H locs hw hP hD hS => ?_)
    have hP : va_P D vwCl [(x2, .inr (0, [.ref u2.1, .ref u2.2.1, .ref u2.2.2])), (u2.1, .inl (dB, 32, .inl (b8 z8))), (u2.2.1, .inl (dB, 8, .inl (b8 z8))), (u2.2.2, .inl (dB, 8, .inl (b8 z8)))] H := hP
    have hD : va_D A [(x2, .inr (0, [.ref u2.1, .ref u2.2.1, .ref u2.2.2])), (u2.1, .inl (dB, 32, .inl (b8 z8))), (u2.2.1, .inl (dB, 8, .inl (b8 z8))), (u2.2.2, .inl (dB, 8, .inl (b8 z8)))] := hD
    refine lv_astore_n (lv' := [(2, .ref x2)]) hx hb dX0_known_122 rfl hl (by decide) rfl (fun ls hl => ?_)
    refine lv_aload_n hx hb dX0_known_123 rfl (lv_at hl 0 rfl) ?_
    refine lv_iconst (v := nI 0) hx hb dX0_known_124 (by decide +kernel) ?_
    refine lv_ldc hx hb hown (hts _ q247) dX0_known_125 ?_
    refine lv_ldc hx hb hown (hts _ q248) dX0_known_127 ?_
    refine lv_ldc hx hb hown (hts _ q249) dX0_known_129 ?_
    refine lv_ldc hx hb hown (hts _ q250) dX0_known_131 ?_
    refine rc_callv (wr := []) (va_runV (As := [.int (nI 0), .int (-1856027111), .int (-1102990767), .int 1666557185, .int 279563921]) (rest := []) ⟨hx, hb, hml, hown, hts⟩ (met_key l D dB dN x2 u2.1 u2.2.1 u2.2.2 z8 z8 z8 0 (by omega) (-1856027111) (-1102990767) 1666557185 279563921 H.size) (cwV 5 hts (lw_V q226 q227 q228 q10 q229) rfl rfl rfl (by decide +kernel) ⟨Nat.le_of_ble_eq_true rfl, Nat.le_of_ble_eq_true rfl⟩) (wM_V (ci := 0) (q0 := 0) hP hK hD [0, 1, 2, 3] rfl (by decide) rfl rfl) rfl rfl hl.1 rfl (lv_room (Nat.le_of_ble_eq_true rfl)) dX0_known_133 ⟨Nat.le_of_ble_eq_true rfl, Nat.le_of_ble_eq_true rfl⟩) hP hD hS hA [0, 1, 2, 3] [] rfl rfl (by decide) (by decide) (fun _ H locs hw hP hD hS => ?_)
    have hP : va_P D vwCl [(x2, .inr (0, [.ref u2.1, .ref u2.2.1, .ref u2.2.2])), (u2.1, .inl (dB, 32, .inl (b8 (key8 z8 0 (-1856027111) (-1102990767) 1666557185 279563921)))), (u2.2.1, .inl (dB, 8, .inl (b8 z8))), (u2.2.2, .inl (dB, 8, .inl (b8 z8)))] H := hP
    have hD : va_D A [(x2, .inr (0, [.ref u2.1, .ref u2.2.1, .ref u2.2.2])), (u2.1, .inl (dB, 32, .inl (b8 (key8 z8 0 (-1856027111) (-1102990767) 1666557185 279563921)))), (u2.2.1, .inl (dB, 8, .inl (b8 z8))), (u2.2.2, .inl (dB, 8, .inl (b8 z8)))] := hD
    refine lv_aload_n hx hb dX0_known_136 rfl (lv_at hl 0 rfl) ?_
    refine lv_iconst (v := nI 1) hx hb dX0_known_137 (by decide +kernel) ?_
    refine lv_iconst (v := 0) hx hb dX0_known_138 (by decide +kernel) ?_
    refine lv_iconst (v := 0) hx hb dX0_known_139 (by decide +kernel) ?_
    refine lv_iconst (v := 0) hx hb dX0_known_140 (by decide +kernel) ?_
    refine lv_iconst (v := 0) hx hb dX0_known_141 (by decide +kernel) ?_
    refine rc_callv (wr := []) (va_runV (As := [.int (nI 1), .int 0, .int 0, .int 0, .int 0]) (rest := []) ⟨hx, hb, hml, hown, hts⟩ (met_key l D dB dN x2 u2.1 u2.2.1 u2.2.2 (key8 z8 0 (-1856027111) (-1102990767) 1666557185 279563921) z8 z8 1 (by omega) 0 0 0 0 H.size) (cwV 5 hts (lw_V q226 q227 q228 q10 q229) rfl rfl rfl (by decide +kernel) ⟨Nat.le_of_ble_eq_true rfl, Nat.le_of_ble_eq_true rfl⟩) (wM_V (ci := 0) (q0 := 0) hP hK hD [0, 1, 2, 3] rfl (by decide) rfl rfl) rfl rfl hl.1 rfl (lv_room (Nat.le_of_ble_eq_true rfl)) dX0_known_142 ⟨Nat.le_of_ble_eq_true rfl, Nat.le_of_ble_eq_true rfl⟩) hP hD hS hA [0, 1, 2, 3] [] rfl rfl (by decide) (by decide) (fun _ H locs hw hP hD hS => ?_)
    have hP : va_P D vwCl [(x2, .inr (0, [.ref u2.1, .ref u2.2.1, .ref u2.2.2])), (u2.1, .inl (dB, 32, .inl (b8 (key8 (key8 z8 0 (-1856027111) (-1102990767) 1666557185 279563921) 1 0 0 0 0)))), (u2.2.1, .inl (dB, 8, .inl (b8 z8))), (u2.2.2, .inl (dB, 8, .inl (b8 z8)))] H := hP
    have hD : va_D A [(x2, .inr (0, [.ref u2.1, .ref u2.2.1, .ref u2.2.2])), (u2.1, .inl (dB, 32, .inl (b8 (key8 (key8 z8 0 (-1856027111) (-1102990767) 1666557185 279563921) 1 0 0 0 0)))), (u2.2.1, .inl (dB, 8, .inl (b8 z8))), (u2.2.2, .inl (dB, 8, .inl (b8 z8)))] := hD
    refine lv_aload_n hx hb dX0_known_145 rfl (lv_at hl 0 rfl) ?_
    refine lv_ldc hx hb hown (hts _ q251) dX0_known_146 ?_
    refine lv_ldc hx hb hown (hts _ q252) dX0_known_148 ?_
    refine rc_callv (wr := []) (va_runV (As := [.int 564517870, .int 357273453]) (rest := []) ⟨hx, hb, hml, hown, hts⟩ (met_block l D dB dN x2 u2.1 u2.2.1 u2.2.2 (key8 (key8 z8 0 (-1856027111) (-1102990767) 1666557185 279563921) 1 0 0 0 0) z8 z8 564517870 357273453 H.size) (cwV 2 hts (lw_V q233 q234 q235 q10 q236) rfl rfl rfl (by decide +kernel) ⟨Nat.le_of_ble_eq_true rfl, Nat.le_of_ble_eq_true rfl⟩) (wM_V (ci := 0) (q0 := 0) hP hK hD [0, 1, 2, 3] rfl (by decide) rfl rfl) rfl rfl hl.1 rfl (lv_room (Nat.le_of_ble_eq_true rfl)) dX0_known_150 ⟨Nat.le_of_ble_eq_true rfl, Nat.le_of_ble_eq_true rfl⟩) hP hD hS hA [0, 1, 2, 3] [] rfl rfl (by decide) (by decide) (fun _ H locs hw hP hD hS => ?_)
    have hP : va_P D vwCl [(x2, .inr (0, [.ref u2.1, .ref u2.2.1, .ref u2.2.2])), (u2.1, .inl (dB, 32, .inl (b8 (key8 (key8 z8 0 (-1856027111) (-1102990767) 1666557185 279563921) 1 0 0 0 0)))), (u2.2.1, .inl (dB, 8, .inl (b8 (blk8 z8 564517870 357273453)))), (u2.2.2, .inl (dB, 8, .inl (b8 z8)))] H := hP
    have hD : va_D A [(x2, .inr (0, [.ref u2.1, .ref u2.2.1, .ref u2.2.2])), (u2.1, .inl (dB, 32, .inl (b8 (key8 (key8 z8 0 (-1856027111) (-1102990767) 1666557185 279563921) 1 0 0 0 0)))), (u2.2.1, .inl (dB, 8, .inl (b8 (blk8 z8 564517870 357273453)))), (u2.2.2, .inl (dB, 8, .inl (b8 z8)))] := hD
    refine lv_aload_n hx hb dX0_known_153 rfl (lv_at hl 0 rfl) ?_
    refine lv_iconst (v := 0) hx hb dX0_known_154 (by decide +kernel) ?_
    refine rc_callv (wr := []) (va_runV (As := [.int 0]) (rest := []) ⟨hx, hb, hml, hown, hts⟩ (met_lock1 l D dB dN x2 u2.1 u2.2.1 u2.2.2 (key8 (key8 z8 0 (-1856027111) (-1102990767) 1666557185 279563921) 1 0 0 0 0) (blk8 z8 564517870 357273453) z8 0 H.size) (cwV 1 hts (lw_V q18 q19 q20 q10 q21) rfl rfl rfl (by decide +kernel) ⟨Nat.le_of_ble_eq_true rfl, Nat.le_of_ble_eq_true rfl⟩) (wM_V (ci := 0) (q0 := 0) hP hK hD [0, 1, 2, 3] rfl (by decide) rfl rfl) rfl rfl hl.1 rfl (lv_room (Nat.le_of_ble_eq_true rfl)) dX0_known_155 ⟨Nat.le_of_ble_eq_true rfl, Nat.le_of_ble_eq_true rfl⟩) hP hD hS hA [0, 1, 2, 3] [] rfl rfl (by decide) (by decide) (fun _ H locs hw hP hD hS => ?_)
    have hP : va_P D vwCl [(x2, .inr (0, [.ref u2.1, .ref u2.2.1, .ref u2.2.2])), (u2.1, .inl (dB, 32, .inl (b8 (key8 (key8 z8 0 (-1856027111) (-1102990767) 1666557185 279563921) 1 0 0 0 0)))), (u2.2.1, .inl (dB, 8, .inl (b8 (blk8 z8 564517870 357273453)))), (u2.2.2, .inl (dB, 8, .inl (b8 (crypt true (sc (key8 (key8 z8 0 (-1856027111) (-1102990767) 1666557185 279563921) 1 0 0 0 0)) (blk8 z8 564517870 357273453) z8))))] H := hP
    have hD : va_D A [(x2, .inr (0, [.ref u2.1, .ref u2.2.1, .ref u2.2.2])), (u2.1, .inl (dB, 32, .inl (b8 (key8 (key8 z8 0 (-1856027111) (-1102990767) 1666557185 279563921) 1 0 0 0 0)))), (u2.2.1, .inl (dB, 8, .inl (b8 (blk8 z8 564517870 357273453)))), (u2.2.2, .inl (dB, 8, .inl (b8 (crypt true (sc (key8 (key8 z8 0 (-1856027111) (-1102990767) 1666557185 279563921) 1 0 0 0 0)) (blk8 z8 564517870 357273453) z8))))] := hD
    refine lv_bipush (v := nI 8) hx hb dX0_known_158 (by decide +kernel) ?_
    refine rc_newi hx hb hts hK hP hD hS hA 8 rfl (by decide) (Nat.le_of_ble_eq_true rfl) (Nat.le_of_ble_eq_true rfl) dX0_known_160 (fun ar2 H hP hD hS => ?_)
    have hP : va_P D vwCl [(x2, .inr (0, [.ref u2.1, .ref u2.2.1, .ref u2.2.2])), (u2.1, .inl (dB, 32, .inl (b8 (key8 (key8 z8 0 (-1856027111) (-1102990767) 1666557185 279563921) 1 0 0 0 0)))), (u2.2.1, .inl (dB, 8, .inl (b8 (blk8 z8 564517870 357273453)))), (u2.2.2, .inl (dB, 8, .inl (b8 (crypt true (sc (key8 (key8 z8 0 (-1856027111) (-1102990767) 1666557185 279563921) 1 0 0 0 0)) (blk8 z8 564517870 357273453) z8)))), (ar2, .inl (dN, 8, .inl (lf (List.replicate 8 0))))] H := hP
    have hD : va_D A [(x2, .inr (0, [.ref u2.1, .ref u2.2.1, .ref u2.2.2])), (u2.1, .inl (dB, 32, .inl (b8 (key8 (key8 z8 0 (-1856027111) (-1102990767) 1666557185 279563921) 1 0 0 0 0)))), (u2.2.1, .inl (dB, 8, .inl (b8 (blk8 z8 564517870 357273453)))), (u2.2.2, .inl (dB, 8, .inl (b8 (crypt true (sc (key8 (key8 z8 0 (-1856027111) (-1102990767) 1666557185 279563921) 1 0 0 0 0)) (blk8 z8 564517870 357273453) z8)))), (ar2, .inl (dN, 8, .inl (lf (List.replicate 8 0))))] := hD
    refine lv_dup hx hb dX0_known_162 rfl ?_
    refine lv_iconst (v := nI 0) hx hb dX0_known_163 (by decide +kernel) ?_
    refine lv_sipush (v := 247) hx hb dX0_known_164 (by decide +kernel) ?_
    refine rc_iast hx hb hK.1 hP hD hS 4 1 rfl rfl 0 rfl rfl (by omega) (by omega) dX0_known_167 (fun H locs hP hD hS => ?_)
    have hP : va_P D vwCl [(x2, .inr (0, [.ref u2.1, .ref u2.2.1, .ref u2.2.2])), (u2.1, .inl (dB, 32, .inl (b8 (key8 (key8 z8 0 (-1856027111) (-1102990767) 1666557185 279563921) 1 0 0 0 0)))), (u2.2.1, .inl (dB, 8, .inl (b8 (blk8 z8 564517870 357273453)))), (u2.2.2, .inl (dB, 8, .inl (b8 (crypt true (sc (key8 (key8 z8 0 (-1856027111) (-1102990767) 1666557185 279563921) 1 0 0 0 0)) (blk8 z8 564517870 357273453) z8)))), (ar2, .inl (dN, 8, .inl (lf ((List.replicate 8 0).set 0 247))))] H := hP
    have hD : va_D A [(x2, .inr (0, [.ref u2.1, .ref u2.2.1, .ref u2.2.2])), (u2.1, .inl (dB, 32, .inl (b8 (key8 (key8 z8 0 (-1856027111) (-1102990767) 1666557185 279563921) 1 0 0 0 0)))), (u2.2.1, .inl (dB, 8, .inl (b8 (blk8 z8 564517870 357273453)))), (u2.2.2, .inl (dB, 8, .inl (b8 (crypt true (sc (key8 (key8 z8 0 (-1856027111) (-1102990767) 1666557185 279563921) 1 0 0 0 0)) (blk8 z8 564517870 357273453) z8)))), (ar2, .inl (dN, 8, .inl (lf ((List.replicate 8 0).set 0 247))))] := hD
    refine lv_dup hx hb dX0_known_168 rfl ?_
    refine lv_iconst (v := nI 1) hx hb dX0_known_169 (by decide +kernel) ?_
    refine lv_sipush (v := 192) hx hb dX0_known_170 (by decide +kernel) ?_
    refine rc_iast hx hb hK.1 hP hD hS 4 1 rfl rfl 1 rfl rfl (by omega) (by omega) dX0_known_173 (fun H locs hP hD hS => ?_)
    have hP : va_P D vwCl [(x2, .inr (0, [.ref u2.1, .ref u2.2.1, .ref u2.2.2])), (u2.1, .inl (dB, 32, .inl (b8 (key8 (key8 z8 0 (-1856027111) (-1102990767) 1666557185 279563921) 1 0 0 0 0)))), (u2.2.1, .inl (dB, 8, .inl (b8 (blk8 z8 564517870 357273453)))), (u2.2.2, .inl (dB, 8, .inl (b8 (crypt true (sc (key8 (key8 z8 0 (-1856027111) (-1102990767) 1666557185 279563921) 1 0 0 0 0)) (blk8 z8 564517870 357273453) z8)))), (ar2, .inl (dN, 8, .inl (lf (((List.replicate 8 0).set 0 247).set 1 192))))] H := hP
    have hD : va_D A [(x2, .inr (0, [.ref u2.1, .ref u2.2.1, .ref u2.2.2])), (u2.1, .inl (dB, 32, .inl (b8 (key8 (key8 z8 0 (-1856027111) (-1102990767) 1666557185 279563921) 1 0 0 0 0)))), (u2.2.1, .inl (dB, 8, .inl (b8 (blk8 z8 564517870 357273453)))), (u2.2.2, .inl (dB, 8, .inl (b8 (crypt true (sc (key8 (key8 z8 0 (-1856027111) (-1102990767) 1666557185 279563921) 1 0 0 0 0)) (blk8 z8 564517870 357273453) z8)))), (ar2, .inl (dN, 8, .inl (lf (((List.replicate 8 0).set 0 247).set 1 192))))] := hD
    refine lv_dup hx hb dX0_known_174 rfl ?_
    refine lv_iconst (v := nI 2) hx hb dX0_known_175 (by decide +kernel) ?_
    refine lv_bipush (v := 19) hx hb dX0_known_176 (by decide +kernel) ?_
    refine rc_iast hx hb hK.1 hP hD hS 4 1 rfl rfl 2 rfl rfl (by omega) (by omega) dX0_known_178 (fun H locs hP hD hS => ?_)
    have hP : va_P D vwCl [(x2, .inr (0, [.ref u2.1, .ref u2.2.1, .ref u2.2.2])), (u2.1, .inl (dB, 32, .inl (b8 (key8 (key8 z8 0 (-1856027111) (-1102990767) 1666557185 279563921) 1 0 0 0 0)))), (u2.2.1, .inl (dB, 8, .inl (b8 (blk8 z8 564517870 357273453)))), (u2.2.2, .inl (dB, 8, .inl (b8 (crypt true (sc (key8 (key8 z8 0 (-1856027111) (-1102990767) 1666557185 279563921) 1 0 0 0 0)) (blk8 z8 564517870 357273453) z8)))), (ar2, .inl (dN, 8, .inl (lf ((((List.replicate 8 0).set 0 247).set 1 192).set 2 19))))] H := hP
    have hD : va_D A [(x2, .inr (0, [.ref u2.1, .ref u2.2.1, .ref u2.2.2])), (u2.1, .inl (dB, 32, .inl (b8 (key8 (key8 z8 0 (-1856027111) (-1102990767) 1666557185 279563921) 1 0 0 0 0)))), (u2.2.1, .inl (dB, 8, .inl (b8 (blk8 z8 564517870 357273453)))), (u2.2.2, .inl (dB, 8, .inl (b8 (crypt true (sc (key8 (key8 z8 0 (-1856027111) (-1102990767) 1666557185 279563921) 1 0 0 0 0)) (blk8 z8 564517870 357273453) z8)))), (ar2, .inl (dN, 8, .inl (lf ((((List.replicate 8 0).set 0 247).set 1 192).set 2 19))))] := hD
    refine lv_dup hx hb dX0_known_179 rfl ?_
    refine lv_iconst (v := nI 3) hx hb dX0_known_180 (by decide +kernel) ?_
    refine lv_sipush (v := 172) hx hb dX0_known_181 (by decide +kernel) ?_
    refine rc_iast hx hb hK.1 hP hD hS 4 1 rfl rfl 3 rfl rfl (by omega) (by omega) dX0_known_184 (fun H locs hP hD hS => ?_)
    have hP : va_P D vwCl [(x2, .inr (0, [.ref u2.1, .ref u2.2.1, .ref u2.2.2])), (u2.1, .inl (dB, 32, .inl (b8 (key8 (key8 z8 0 (-1856027111) (-1102990767) 1666557185 279563921) 1 0 0 0 0)))), (u2.2.1, .inl (dB, 8, .inl (b8 (blk8 z8 564517870 357273453)))), (u2.2.2, .inl (dB, 8, .inl (b8 (crypt true (sc (key8 (key8 z8 0 (-1856027111) (-1102990767) 1666557185 279563921) 1 0 0 0 0)) (blk8 z8 564517870 357273453) z8)))), (ar2, .inl (dN, 8, .inl (lf (((((List.replicate 8 0).set 0 247).set 1 192).set 2 19).set 3 172))))] H := hP
    have hD : va_D A [(x2, .inr (0, [.ref u2.1, .ref u2.2.1, .ref u2.2.2])), (u2.1, .inl (dB, 32, .inl (b8 (key8 (key8 z8 0 (-1856027111) (-1102990767) 1666557185 279563921) 1 0 0 0 0)))), (u2.2.1, .inl (dB, 8, .inl (b8 (blk8 z8 564517870 357273453)))), (u2.2.2, .inl (dB, 8, .inl (b8 (crypt true (sc (key8 (key8 z8 0 (-1856027111) (-1102990767) 1666557185 279563921) 1 0 0 0 0)) (blk8 z8 564517870 357273453) z8)))), (ar2, .inl (dN, 8, .inl (lf (((((List.replicate 8 0).set 0 247).set 1 192).set 2 19).set 3 172))))] := hD
    refine lv_dup hx hb dX0_known_185 rfl ?_
    refine lv_iconst (v := nI 4) hx hb dX0_known_186 (by decide +kernel) ?_
    refine lv_bipush (v := 91) hx hb dX0_known_187 (by decide +kernel) ?_
    refine rc_iast hx hb hK.1 hP hD hS 4 1 rfl rfl 4 rfl rfl (by omega) (by omega) dX0_known_189 (fun H locs hP hD hS => ?_)
    have hP : va_P D vwCl [(x2, .inr (0, [.ref u2.1, .ref u2.2.1, .ref u2.2.2])), (u2.1, .inl (dB, 32, .inl (b8 (key8 (key8 z8 0 (-1856027111) (-1102990767) 1666557185 279563921) 1 0 0 0 0)))), (u2.2.1, .inl (dB, 8, .inl (b8 (blk8 z8 564517870 357273453)))), (u2.2.2, .inl (dB, 8, .inl (b8 (crypt true (sc (key8 (key8 z8 0 (-1856027111) (-1102990767) 1666557185 279563921) 1 0 0 0 0)) (blk8 z8 564517870 357273453) z8)))), (ar2, .inl (dN, 8, .inl (lf ((((((List.replicate 8 0).set 0 247).set 1 192).set 2 19).set 3 172).set 4 91))))] H := hP
    have hD : va_D A [(x2, .inr (0, [.ref u2.1, .ref u2.2.1, .ref u2.2.2])), (u2.1, .inl (dB, 32, .inl (b8 (key8 (key8 z8 0 (-1856027111) (-1102990767) 1666557185 279563921) 1 0 0 0 0)))), (u2.2.1, .inl (dB, 8, .inl (b8 (blk8 z8 564517870 357273453)))), (u2.2.2, .inl (dB, 8, .inl (b8 (crypt true (sc (key8 (key8 z8 0 (-1856027111) (-1102990767) 1666557185 279563921) 1 0 0 0 0)) (blk8 z8 564517870 357273453) z8)))), (ar2, .inl (dN, 8, .inl (lf ((((((List.replicate 8 0).set 0 247).set 1 192).set 2 19).set 3 172).set 4 91))))] := hD
    refine lv_dup hx hb dX0_known_190 rfl ?_
    refine lv_iconst (v := nI 5) hx hb dX0_known_191 (by decide +kernel) ?_
    refine lv_bipush (v := 43) hx hb dX0_known_192 (by decide +kernel) ?_
    refine rc_iast hx hb hK.1 hP hD hS 4 1 rfl rfl 5 rfl rfl (by omega) (by omega) dX0_known_194 (fun H locs hP hD hS => ?_)
    have hP : va_P D vwCl [(x2, .inr (0, [.ref u2.1, .ref u2.2.1, .ref u2.2.2])), (u2.1, .inl (dB, 32, .inl (b8 (key8 (key8 z8 0 (-1856027111) (-1102990767) 1666557185 279563921) 1 0 0 0 0)))), (u2.2.1, .inl (dB, 8, .inl (b8 (blk8 z8 564517870 357273453)))), (u2.2.2, .inl (dB, 8, .inl (b8 (crypt true (sc (key8 (key8 z8 0 (-1856027111) (-1102990767) 1666557185 279563921) 1 0 0 0 0)) (blk8 z8 564517870 357273453) z8)))), (ar2, .inl (dN, 8, .inl (lf (((((((List.replicate 8 0).set 0 247).set 1 192).set 2 19).set 3 172).set 4 91).set 5 43))))] H := hP
    have hD : va_D A [(x2, .inr (0, [.ref u2.1, .ref u2.2.1, .ref u2.2.2])), (u2.1, .inl (dB, 32, .inl (b8 (key8 (key8 z8 0 (-1856027111) (-1102990767) 1666557185 279563921) 1 0 0 0 0)))), (u2.2.1, .inl (dB, 8, .inl (b8 (blk8 z8 564517870 357273453)))), (u2.2.2, .inl (dB, 8, .inl (b8 (crypt true (sc (key8 (key8 z8 0 (-1856027111) (-1102990767) 1666557185 279563921) 1 0 0 0 0)) (blk8 z8 564517870 357273453) z8)))), (ar2, .inl (dN, 8, .inl (lf (((((((List.replicate 8 0).set 0 247).set 1 192).set 2 19).set 3 172).set 4 91).set 5 43))))] := hD
    refine lv_dup hx hb dX0_known_195 rfl ?_
    refine lv_bipush (v := nI 6) hx hb dX0_known_196 (by decide +kernel) ?_
    refine lv_sipush (v := 137) hx hb dX0_known_198 (by decide +kernel) ?_
    refine rc_iast hx hb hK.1 hP hD hS 4 1 rfl rfl 6 rfl rfl (by omega) (by omega) dX0_known_201 (fun H locs hP hD hS => ?_)
    have hP : va_P D vwCl [(x2, .inr (0, [.ref u2.1, .ref u2.2.1, .ref u2.2.2])), (u2.1, .inl (dB, 32, .inl (b8 (key8 (key8 z8 0 (-1856027111) (-1102990767) 1666557185 279563921) 1 0 0 0 0)))), (u2.2.1, .inl (dB, 8, .inl (b8 (blk8 z8 564517870 357273453)))), (u2.2.2, .inl (dB, 8, .inl (b8 (crypt true (sc (key8 (key8 z8 0 (-1856027111) (-1102990767) 1666557185 279563921) 1 0 0 0 0)) (blk8 z8 564517870 357273453) z8)))), (ar2, .inl (dN, 8, .inl (lf ((((((((List.replicate 8 0).set 0 247).set 1 192).set 2 19).set 3 172).set 4 91).set 5 43).set 6 137))))] H := hP
    have hD : va_D A [(x2, .inr (0, [.ref u2.1, .ref u2.2.1, .ref u2.2.2])), (u2.1, .inl (dB, 32, .inl (b8 (key8 (key8 z8 0 (-1856027111) (-1102990767) 1666557185 279563921) 1 0 0 0 0)))), (u2.2.1, .inl (dB, 8, .inl (b8 (blk8 z8 564517870 357273453)))), (u2.2.2, .inl (dB, 8, .inl (b8 (crypt true (sc (key8 (key8 z8 0 (-1856027111) (-1102990767) 1666557185 279563921) 1 0 0 0 0)) (blk8 z8 564517870 357273453) z8)))), (ar2, .inl (dN, 8, .inl (lf ((((((((List.replicate 8 0).set 0 247).set 1 192).set 2 19).set 3 172).set 4 91).set 5 43).set 6 137))))] := hD
    refine lv_dup hx hb dX0_known_202 rfl ?_
    refine lv_bipush (v := nI 7) hx hb dX0_known_203 (by decide +kernel) ?_
    refine lv_bipush (v := 82) hx hb dX0_known_205 (by decide +kernel) ?_
    refine rc_iast hx hb hK.1 hP hD hS 4 1 rfl rfl 7 rfl rfl (by omega) (by omega) dX0_known_207 (fun H locs hP hD hS => ?_)
    have hP : va_P D vwCl [(x2, .inr (0, [.ref u2.1, .ref u2.2.1, .ref u2.2.2])), (u2.1, .inl (dB, 32, .inl (b8 (key8 (key8 z8 0 (-1856027111) (-1102990767) 1666557185 279563921) 1 0 0 0 0)))), (u2.2.1, .inl (dB, 8, .inl (b8 (blk8 z8 564517870 357273453)))), (u2.2.2, .inl (dB, 8, .inl (b8 (crypt true (sc (key8 (key8 z8 0 (-1856027111) (-1102990767) 1666557185 279563921) 1 0 0 0 0)) (blk8 z8 564517870 357273453) z8)))), (ar2, .inl (dN, 8, .inl (lf (((((((((List.replicate 8 0).set 0 247).set 1 192).set 2 19).set 3 172).set 4 91).set 5 43).set 6 137).set 7 82))))] H := hP
    have hD : va_D A [(x2, .inr (0, [.ref u2.1, .ref u2.2.1, .ref u2.2.2])), (u2.1, .inl (dB, 32, .inl (b8 (key8 (key8 z8 0 (-1856027111) (-1102990767) 1666557185 279563921) 1 0 0 0 0)))), (u2.2.1, .inl (dB, 8, .inl (b8 (blk8 z8 564517870 357273453)))), (u2.2.2, .inl (dB, 8, .inl (b8 (crypt true (sc (key8 (key8 z8 0 (-1856027111) (-1102990767) 1666557185 279563921) 1 0 0 0 0)) (blk8 z8 564517870 357273453) z8)))), (ar2, .inl (dN, 8, .inl (lf (((((((((List.replicate 8 0).set 0 247).set 1 192).set 2 19).set 3 172).set 4 91).set 5 43).set 6 137).set 7 82))))] := hD
    have hP : va_P D vwCl [(x2, .inr (0, [.ref u2.1, .ref u2.2.1, .ref u2.2.2])), (u2.1, .inl (dB, 32, .inl (b8 (key8 (key8 z8 0 (-1856027111) (-1102990767) 1666557185 279563921) 1 0 0 0 0)))), (u2.2.1, .inl (dB, 8, .inl (b8 (blk8 z8 564517870 357273453)))), (u2.2.2, .inl (dB, 8, .inl (b8 (crypt true (sc (key8 (key8 z8 0 (-1856027111) (-1102990767) 1666557185 279563921) 1 0 0 0 0)) (blk8 z8 564517870 357273453) z8)))), (ar2, .inl (dN, 8, .inl (lf [247, 192, 19, 172, 91, 43, 137, 82])))] H := hP
    have hD : va_D A [(x2, .inr (0, [.ref u2.1, .ref u2.2.1, .ref u2.2.2])), (u2.1, .inl (dB, 32, .inl (b8 (key8 (key8 z8 0 (-1856027111) (-1102990767) 1666557185 279563921) 1 0 0 0 0)))), (u2.2.1, .inl (dB, 8, .inl (b8 (blk8 z8 564517870 357273453)))), (u2.2.2, .inl (dB, 8, .inl (b8 (crypt true (sc (key8 (key8 z8 0 (-1856027111) (-1102990767) 1666557185 279563921) 1 0 0 0 0)) (blk8 z8 564517870 357273453) z8)))), (ar2, .inl (dN, 8, .inl (lf [247, 192, 19, 172, 91, 43, 137, 82])))] := hD
    refine lv_astore_n (lv' := [(3, .ref ar2), (2, .ref x2)]) hx hb dX0_known_208 rfl hl (by decide) rfl (fun ls hl => ?_)
    refine lv_iconst (v := nI 0) hx hb dX0_known_209 (by decide +kernel) ?_
    refine lv_istore (lv' := [(4, .int (nI 0)), (3, .ref ar2), (2, .ref x2)]) hx hb dX0_known_210 hl (by decide) rfl (fun ls hl => ?_)
    have loop : ∀ (n i : Nat) (ls : Array Slot), i + n = 8 → lv_has ls 5 [(4, .int (nI i)), (3, .ref ar2), (2, .ref x2)] → W p l e ({ frames := 6, cells := 22, slots := 250, locals := 150 }) s m ([] : List Value).toArray below meth c H locs 22 250 (MQ below (va_Qi (S := Unit) (fun (r : Int32) _ => r = 1) (wQ D (fun _ => []) (A)) (A)) ([] : List Value).toArray s 22 250 A) (F0 m 212 ls []) := by
      intro n
      induction n with
      | zero =>
        intro i ls hi hl
        refine lv_iload hx hb dX0_known_212 (lv_at hl 0 rfl) ?_
        refine lv_bipush (v := nI 8) hx hb dX0_known_214 (by decide +kernel) ?_
        refine rc_ge (tgt := 240) i 8 rfl rfl (by omega) (by omega) hx hb dX0_known_216 (by decide) (fun _ => ?_) (fun h => absurd h (by omega))
        refine lv_iconst (v := 1) hx hb dX0_known_240 (by decide +kernel) ?_
        have hP := hP.sub (ws' := []) [] rfl
        have hD := hD.sub (ws' := []) [] (by decide) rfl
        exact W.zret (v := 1) hx hb hr rfl (fun t ht hW => ⟨⟨1, (), rfl, rfl, by rw [ht]; exact hP, hD⟩, hS.F ht⟩) hS.2.2 dX0_known_241
      | succ n ih =>
        intro i ls hi hl
        refine lv_iload hx hb dX0_known_212 (lv_at hl 0 rfl) ?_
        refine lv_bipush (v := nI 8) hx hb dX0_known_214 (by decide +kernel) ?_
        refine rc_ge (tgt := 240) i 8 rfl rfl (by omega) (by omega) hx hb dX0_known_216 (by decide) (fun h => absurd h (by omega)) (fun _ => ?_)
        refine lv_aload_n hx hb dX0_known_219 rfl (lv_at hl 2 rfl) ?_
        refine lv_iload hx hb dX0_known_220 (lv_at hl 0 rfl) ?_
        refine vp_callSi (W.runV (As := [.int (nI i)]) (rest := []) ⟨hx, hb, hml, hown, hts⟩ (met_out l D dB dN x2 u2.1 u2.2.1 u2.2.2 (key8 (key8 z8 0 (-1856027111) (-1102990767) 1666557185 279563921) 1 0 0 0 0) (blk8 z8 564517870 357273453) (crypt true (sc (key8 (key8 z8 0 (-1856027111) (-1102990767) 1666557185 279563921) 1 0 0 0 0)) (blk8 z8 564517870 357273453) z8) i (by omega)) (cwV 1 hts (lw_V q240 q241 q242 q10 q243) rfl rfl rfl (by decide +kernel) ⟨Nat.le_of_ble_eq_true rfl, Nat.le_of_ble_eq_true rfl⟩) (wS_V (ci := 0) (q0 := 0) hP hK [0, 1, 2, 3] rfl rfl rfl) rfl rfl hl.1 rfl (lv_room (Nat.le_of_ble_eq_true rfl)) dX0_known_222 ⟨Nat.le_of_ble_eq_true rfl, Nat.le_of_ble_eq_true rfl⟩) (fun r1 er1 => ?_)
        refine lv_aload_n hx hb dX0_known_225 rfl (lv_at hl 1 rfl) ?_
        refine lv_iload hx hb dX0_known_226 (lv_at hl 0 rfl) ?_
        refine rc_iald hx hb hK.1 hP 4 1 rfl rfl i rfl (by omega) (by omega) dX0_known_228 ?_
        refine rc_eqT (tgt := 234) (er1.trans (vec_1 z8 (by omega))) hx hb dX0_known_229 (by decide) ?_
        refine lv_iinc (v := (nI (i + 1))) (lv' := [(4, .int (nI (i + 1))), (3, .ref ar2), (2, .ref x2)]) hx hb dX0_known_234 hl (k := 0) rfl (nI_1 i) (by decide) rfl (fun ls hl => ?_)
        refine lv_goto (tgt := 212) hx hb dX0_known_237 (by decide) ?_
        exact ih (i + 1) ls (by omega) (lv_sub hl [0, 1, 2] rfl)
    exact loop 8 0 ls rfl (lv_sub hl [0, 1, 2] rfl)
  refine va_new (ci := 0) (fs := [.null, .null, .null]) (C := RX1) (T := TX1) (N := 3) hx hb hts in_X1 tyX1 tyX1_ok hown (hts _ q208) (hts _ q25) (hts _ q10) hK.1 hP hD hS hA rfl (fun j hj => by rcases (show j = 0 ∨ j = 1 ∨ j = 2 by omega) with rfl | rfl | rfl <;> rfl) (Nat.le_of_ble_eq_true rfl) (Nat.le_of_ble_eq_true rfl) dX0_known_0 (fun x1 H hP hD hS => ?_)
  have hP : va_P D vwCl [(x1, .inr (0, [.null, .null, .null]))] H := hP
  have hD : va_D A [(x1, .inr (0, [.null, .null, .null]))] := hD
  refine lv_dup hx hb dX0_known_3 rfl ?_
  refine rc_callv (wr := []) (va_runI (As := []) (rest := [.ref x1]) ⟨hx, hb, hml, hown, hts⟩ (met_desk l D dB dN x1 .null .null .null H.size) (cwI 0 hts (lw_meth q211) rfl rfl rfl (hts _ q10) (hts _ q209) (hts _ q210) rfl (by decide +kernel) ⟨Nat.le_of_ble_eq_true rfl, Nat.le_of_ble_eq_true rfl⟩) (wM_S hP hK hD [0] rfl (by decide)) rfl rfl hl.1 rfl (lv_room (Nat.le_of_ble_eq_true rfl)) dX0_known_4 ⟨Nat.le_of_ble_eq_true rfl, Nat.le_of_ble_eq_true rfl⟩) hP hD hS hA [0] [] rfl rfl (by decide) (by decide) (fun u1 H locs hw hP hD hS => ?_)
  have hP : va_P D vwCl [(x1, .inr (0, [.ref u1.1, .ref u1.2.1, .ref u1.2.2])), (u1.1, .inl (dB, 32, .inl (b8 z8))), (u1.2.1, .inl (dB, 8, .inl (b8 z8))), (u1.2.2, .inl (dB, 8, .inl (b8 z8)))] H := hP
  have hD : va_D A [(x1, .inr (0, [.ref u1.1, .ref u1.2.1, .ref u1.2.2])), (u1.1, .inl (dB, 32, .inl (b8 z8))), (u1.2.1, .inl (dB, 8, .inl (b8 z8))), (u1.2.2, .inl (dB, 8, .inl (b8 z8)))] := hD
  refine lv_astore_n (lv' := [(0, .ref x1)]) hx hb dX0_known_7 rfl hl (by decide) rfl (fun ls hl => ?_)
  refine lv_aload_n hx hb dX0_known_8 rfl (lv_at hl 0 rfl) ?_
  refine lv_iconst (v := nI 0) hx hb dX0_known_9 (by decide +kernel) ?_
  refine lv_iconst (v := 0) hx hb dX0_known_10 (by decide +kernel) ?_
  refine lv_iconst (v := 0) hx hb dX0_known_11 (by decide +kernel) ?_
  refine lv_iconst (v := 0) hx hb dX0_known_12 (by decide +kernel) ?_
  refine lv_iconst (v := 0) hx hb dX0_known_13 (by decide +kernel) ?_
  refine rc_callv (wr := []) (va_runV (As := [.int (nI 0), .int 0, .int 0, .int 0, .int 0]) (rest := []) ⟨hx, hb, hml, hown, hts⟩ (met_key l D dB dN x1 u1.1 u1.2.1 u1.2.2 z8 z8 z8 0 (by omega) 0 0 0 0 H.size) (cwV 5 hts (lw_V q226 q227 q228 q10 q229) rfl rfl rfl (by decide +kernel) ⟨Nat.le_of_ble_eq_true rfl, Nat.le_of_ble_eq_true rfl⟩) (wM_V (ci := 0) (q0 := 0) hP hK hD [0, 1, 2, 3] rfl (by decide) rfl rfl) rfl rfl hl.1 rfl (lv_room (Nat.le_of_ble_eq_true rfl)) dX0_known_14 ⟨Nat.le_of_ble_eq_true rfl, Nat.le_of_ble_eq_true rfl⟩) hP hD hS hA [0, 1, 2, 3] [] rfl rfl (by decide) (by decide) (fun _ H locs hw hP hD hS => ?_)
  have hP : va_P D vwCl [(x1, .inr (0, [.ref u1.1, .ref u1.2.1, .ref u1.2.2])), (u1.1, .inl (dB, 32, .inl (b8 (key8 z8 0 0 0 0 0)))), (u1.2.1, .inl (dB, 8, .inl (b8 z8))), (u1.2.2, .inl (dB, 8, .inl (b8 z8)))] H := hP
  have hD : va_D A [(x1, .inr (0, [.ref u1.1, .ref u1.2.1, .ref u1.2.2])), (u1.1, .inl (dB, 32, .inl (b8 (key8 z8 0 0 0 0 0)))), (u1.2.1, .inl (dB, 8, .inl (b8 z8))), (u1.2.2, .inl (dB, 8, .inl (b8 z8)))] := hD
  refine lv_aload_n hx hb dX0_known_17 rfl (lv_at hl 0 rfl) ?_
  refine lv_iconst (v := nI 1) hx hb dX0_known_18 (by decide +kernel) ?_
  refine lv_iconst (v := 0) hx hb dX0_known_19 (by decide +kernel) ?_
  refine lv_iconst (v := 0) hx hb dX0_known_20 (by decide +kernel) ?_
  refine lv_iconst (v := 0) hx hb dX0_known_21 (by decide +kernel) ?_
  refine lv_iconst (v := 0) hx hb dX0_known_22 (by decide +kernel) ?_
  refine rc_callv (wr := []) (va_runV (As := [.int (nI 1), .int 0, .int 0, .int 0, .int 0]) (rest := []) ⟨hx, hb, hml, hown, hts⟩ (met_key l D dB dN x1 u1.1 u1.2.1 u1.2.2 (key8 z8 0 0 0 0 0) z8 z8 1 (by omega) 0 0 0 0 H.size) (cwV 5 hts (lw_V q226 q227 q228 q10 q229) rfl rfl rfl (by decide +kernel) ⟨Nat.le_of_ble_eq_true rfl, Nat.le_of_ble_eq_true rfl⟩) (wM_V (ci := 0) (q0 := 0) hP hK hD [0, 1, 2, 3] rfl (by decide) rfl rfl) rfl rfl hl.1 rfl (lv_room (Nat.le_of_ble_eq_true rfl)) dX0_known_23 ⟨Nat.le_of_ble_eq_true rfl, Nat.le_of_ble_eq_true rfl⟩) hP hD hS hA [0, 1, 2, 3] [] rfl rfl (by decide) (by decide) (fun _ H locs hw hP hD hS => ?_)
  have hP : va_P D vwCl [(x1, .inr (0, [.ref u1.1, .ref u1.2.1, .ref u1.2.2])), (u1.1, .inl (dB, 32, .inl (b8 (key8 (key8 z8 0 0 0 0 0) 1 0 0 0 0)))), (u1.2.1, .inl (dB, 8, .inl (b8 z8))), (u1.2.2, .inl (dB, 8, .inl (b8 z8)))] H := hP
  have hD : va_D A [(x1, .inr (0, [.ref u1.1, .ref u1.2.1, .ref u1.2.2])), (u1.1, .inl (dB, 32, .inl (b8 (key8 (key8 z8 0 0 0 0 0) 1 0 0 0 0)))), (u1.2.1, .inl (dB, 8, .inl (b8 z8))), (u1.2.2, .inl (dB, 8, .inl (b8 z8)))] := hD
  refine lv_aload_n hx hb dX0_known_26 rfl (lv_at hl 0 rfl) ?_
  refine lv_iconst (v := 0) hx hb dX0_known_27 (by decide +kernel) ?_
  refine lv_iconst (v := 0) hx hb dX0_known_28 (by decide +kernel) ?_
  refine rc_callv (wr := []) (va_runV (As := [.int 0, .int 0]) (rest := []) ⟨hx, hb, hml, hown, hts⟩ (met_block l D dB dN x1 u1.1 u1.2.1 u1.2.2 (key8 (key8 z8 0 0 0 0 0) 1 0 0 0 0) z8 z8 0 0 H.size) (cwV 2 hts (lw_V q233 q234 q235 q10 q236) rfl rfl rfl (by decide +kernel) ⟨Nat.le_of_ble_eq_true rfl, Nat.le_of_ble_eq_true rfl⟩) (wM_V (ci := 0) (q0 := 0) hP hK hD [0, 1, 2, 3] rfl (by decide) rfl rfl) rfl rfl hl.1 rfl (lv_room (Nat.le_of_ble_eq_true rfl)) dX0_known_29 ⟨Nat.le_of_ble_eq_true rfl, Nat.le_of_ble_eq_true rfl⟩) hP hD hS hA [0, 1, 2, 3] [] rfl rfl (by decide) (by decide) (fun _ H locs hw hP hD hS => ?_)
  have hP : va_P D vwCl [(x1, .inr (0, [.ref u1.1, .ref u1.2.1, .ref u1.2.2])), (u1.1, .inl (dB, 32, .inl (b8 (key8 (key8 z8 0 0 0 0 0) 1 0 0 0 0)))), (u1.2.1, .inl (dB, 8, .inl (b8 (blk8 z8 0 0)))), (u1.2.2, .inl (dB, 8, .inl (b8 z8)))] H := hP
  have hD : va_D A [(x1, .inr (0, [.ref u1.1, .ref u1.2.1, .ref u1.2.2])), (u1.1, .inl (dB, 32, .inl (b8 (key8 (key8 z8 0 0 0 0 0) 1 0 0 0 0)))), (u1.2.1, .inl (dB, 8, .inl (b8 (blk8 z8 0 0)))), (u1.2.2, .inl (dB, 8, .inl (b8 z8)))] := hD
  refine lv_aload_n hx hb dX0_known_32 rfl (lv_at hl 0 rfl) ?_
  refine lv_iconst (v := 0) hx hb dX0_known_33 (by decide +kernel) ?_
  refine rc_callv (wr := []) (va_runV (As := [.int 0]) (rest := []) ⟨hx, hb, hml, hown, hts⟩ (met_lock1 l D dB dN x1 u1.1 u1.2.1 u1.2.2 (key8 (key8 z8 0 0 0 0 0) 1 0 0 0 0) (blk8 z8 0 0) z8 0 H.size) (cwV 1 hts (lw_V q18 q19 q20 q10 q21) rfl rfl rfl (by decide +kernel) ⟨Nat.le_of_ble_eq_true rfl, Nat.le_of_ble_eq_true rfl⟩) (wM_V (ci := 0) (q0 := 0) hP hK hD [0, 1, 2, 3] rfl (by decide) rfl rfl) rfl rfl hl.1 rfl (lv_room (Nat.le_of_ble_eq_true rfl)) dX0_known_34 ⟨Nat.le_of_ble_eq_true rfl, Nat.le_of_ble_eq_true rfl⟩) hP hD hS hA [0, 1, 2, 3] [] rfl rfl (by decide) (by decide) (fun _ H locs hw hP hD hS => ?_)
  have hP : va_P D vwCl [(x1, .inr (0, [.ref u1.1, .ref u1.2.1, .ref u1.2.2])), (u1.1, .inl (dB, 32, .inl (b8 (key8 (key8 z8 0 0 0 0 0) 1 0 0 0 0)))), (u1.2.1, .inl (dB, 8, .inl (b8 (blk8 z8 0 0)))), (u1.2.2, .inl (dB, 8, .inl (b8 (crypt true (sc (key8 (key8 z8 0 0 0 0 0) 1 0 0 0 0)) (blk8 z8 0 0) z8))))] H := hP
  have hD : va_D A [(x1, .inr (0, [.ref u1.1, .ref u1.2.1, .ref u1.2.2])), (u1.1, .inl (dB, 32, .inl (b8 (key8 (key8 z8 0 0 0 0 0) 1 0 0 0 0)))), (u1.2.1, .inl (dB, 8, .inl (b8 (blk8 z8 0 0)))), (u1.2.2, .inl (dB, 8, .inl (b8 (crypt true (sc (key8 (key8 z8 0 0 0 0 0) 1 0 0 0 0)) (blk8 z8 0 0) z8))))] := hD
  refine lv_bipush (v := nI 8) hx hb dX0_known_37 (by decide +kernel) ?_
  refine rc_newi hx hb hts hK hP hD hS hA 8 rfl (by decide) (Nat.le_of_ble_eq_true rfl) (Nat.le_of_ble_eq_true rfl) dX0_known_39 (fun ar1 H hP hD hS => ?_)
  have hP : va_P D vwCl [(x1, .inr (0, [.ref u1.1, .ref u1.2.1, .ref u1.2.2])), (u1.1, .inl (dB, 32, .inl (b8 (key8 (key8 z8 0 0 0 0 0) 1 0 0 0 0)))), (u1.2.1, .inl (dB, 8, .inl (b8 (blk8 z8 0 0)))), (u1.2.2, .inl (dB, 8, .inl (b8 (crypt true (sc (key8 (key8 z8 0 0 0 0 0) 1 0 0 0 0)) (blk8 z8 0 0) z8)))), (ar1, .inl (dN, 8, .inl (lf (List.replicate 8 0))))] H := hP
  have hD : va_D A [(x1, .inr (0, [.ref u1.1, .ref u1.2.1, .ref u1.2.2])), (u1.1, .inl (dB, 32, .inl (b8 (key8 (key8 z8 0 0 0 0 0) 1 0 0 0 0)))), (u1.2.1, .inl (dB, 8, .inl (b8 (blk8 z8 0 0)))), (u1.2.2, .inl (dB, 8, .inl (b8 (crypt true (sc (key8 (key8 z8 0 0 0 0 0) 1 0 0 0 0)) (blk8 z8 0 0) z8)))), (ar1, .inl (dN, 8, .inl (lf (List.replicate 8 0))))] := hD
  refine lv_dup hx hb dX0_known_41 rfl ?_
  refine lv_iconst (v := nI 0) hx hb dX0_known_42 (by decide +kernel) ?_
  refine lv_bipush (v := 33) hx hb dX0_known_43 (by decide +kernel) ?_
  refine rc_iast hx hb hK.1 hP hD hS 4 1 rfl rfl 0 rfl rfl (by omega) (by omega) dX0_known_45 (fun H locs hP hD hS => ?_)
  have hP : va_P D vwCl [(x1, .inr (0, [.ref u1.1, .ref u1.2.1, .ref u1.2.2])), (u1.1, .inl (dB, 32, .inl (b8 (key8 (key8 z8 0 0 0 0 0) 1 0 0 0 0)))), (u1.2.1, .inl (dB, 8, .inl (b8 (blk8 z8 0 0)))), (u1.2.2, .inl (dB, 8, .inl (b8 (crypt true (sc (key8 (key8 z8 0 0 0 0 0) 1 0 0 0 0)) (blk8 z8 0 0) z8)))), (ar1, .inl (dN, 8, .inl (lf ((List.replicate 8 0).set 0 33))))] H := hP
  have hD : va_D A [(x1, .inr (0, [.ref u1.1, .ref u1.2.1, .ref u1.2.2])), (u1.1, .inl (dB, 32, .inl (b8 (key8 (key8 z8 0 0 0 0 0) 1 0 0 0 0)))), (u1.2.1, .inl (dB, 8, .inl (b8 (blk8 z8 0 0)))), (u1.2.2, .inl (dB, 8, .inl (b8 (crypt true (sc (key8 (key8 z8 0 0 0 0 0) 1 0 0 0 0)) (blk8 z8 0 0) z8)))), (ar1, .inl (dN, 8, .inl (lf ((List.replicate 8 0).set 0 33))))] := hD
  refine lv_dup hx hb dX0_known_46 rfl ?_
  refine lv_iconst (v := nI 1) hx hb dX0_known_47 (by decide +kernel) ?_
  refine lv_sipush (v := 165) hx hb dX0_known_48 (by decide +kernel) ?_
  refine rc_iast hx hb hK.1 hP hD hS 4 1 rfl rfl 1 rfl rfl (by omega) (by omega) dX0_known_51 (fun H locs hP hD hS => ?_)
  have hP : va_P D vwCl [(x1, .inr (0, [.ref u1.1, .ref u1.2.1, .ref u1.2.2])), (u1.1, .inl (dB, 32, .inl (b8 (key8 (key8 z8 0 0 0 0 0) 1 0 0 0 0)))), (u1.2.1, .inl (dB, 8, .inl (b8 (blk8 z8 0 0)))), (u1.2.2, .inl (dB, 8, .inl (b8 (crypt true (sc (key8 (key8 z8 0 0 0 0 0) 1 0 0 0 0)) (blk8 z8 0 0) z8)))), (ar1, .inl (dN, 8, .inl (lf (((List.replicate 8 0).set 0 33).set 1 165))))] H := hP
  have hD : va_D A [(x1, .inr (0, [.ref u1.1, .ref u1.2.1, .ref u1.2.2])), (u1.1, .inl (dB, 32, .inl (b8 (key8 (key8 z8 0 0 0 0 0) 1 0 0 0 0)))), (u1.2.1, .inl (dB, 8, .inl (b8 (blk8 z8 0 0)))), (u1.2.2, .inl (dB, 8, .inl (b8 (crypt true (sc (key8 (key8 z8 0 0 0 0 0) 1 0 0 0 0)) (blk8 z8 0 0) z8)))), (ar1, .inl (dN, 8, .inl (lf (((List.replicate 8 0).set 0 33).set 1 165))))] := hD
  refine lv_dup hx hb dX0_known_52 rfl ?_
  refine lv_iconst (v := nI 2) hx hb dX0_known_53 (by decide +kernel) ?_
  refine lv_sipush (v := 219) hx hb dX0_known_54 (by decide +kernel) ?_
  refine rc_iast hx hb hK.1 hP hD hS 4 1 rfl rfl 2 rfl rfl (by omega) (by omega) dX0_known_57 (fun H locs hP hD hS => ?_)
  have hP : va_P D vwCl [(x1, .inr (0, [.ref u1.1, .ref u1.2.1, .ref u1.2.2])), (u1.1, .inl (dB, 32, .inl (b8 (key8 (key8 z8 0 0 0 0 0) 1 0 0 0 0)))), (u1.2.1, .inl (dB, 8, .inl (b8 (blk8 z8 0 0)))), (u1.2.2, .inl (dB, 8, .inl (b8 (crypt true (sc (key8 (key8 z8 0 0 0 0 0) 1 0 0 0 0)) (blk8 z8 0 0) z8)))), (ar1, .inl (dN, 8, .inl (lf ((((List.replicate 8 0).set 0 33).set 1 165).set 2 219))))] H := hP
  have hD : va_D A [(x1, .inr (0, [.ref u1.1, .ref u1.2.1, .ref u1.2.2])), (u1.1, .inl (dB, 32, .inl (b8 (key8 (key8 z8 0 0 0 0 0) 1 0 0 0 0)))), (u1.2.1, .inl (dB, 8, .inl (b8 (blk8 z8 0 0)))), (u1.2.2, .inl (dB, 8, .inl (b8 (crypt true (sc (key8 (key8 z8 0 0 0 0 0) 1 0 0 0 0)) (blk8 z8 0 0) z8)))), (ar1, .inl (dN, 8, .inl (lf ((((List.replicate 8 0).set 0 33).set 1 165).set 2 219))))] := hD
  refine lv_dup hx hb dX0_known_58 rfl ?_
  refine lv_iconst (v := nI 3) hx hb dX0_known_59 (by decide +kernel) ?_
  refine lv_sipush (v := 238) hx hb dX0_known_60 (by decide +kernel) ?_
  refine rc_iast hx hb hK.1 hP hD hS 4 1 rfl rfl 3 rfl rfl (by omega) (by omega) dX0_known_63 (fun H locs hP hD hS => ?_)
  have hP : va_P D vwCl [(x1, .inr (0, [.ref u1.1, .ref u1.2.1, .ref u1.2.2])), (u1.1, .inl (dB, 32, .inl (b8 (key8 (key8 z8 0 0 0 0 0) 1 0 0 0 0)))), (u1.2.1, .inl (dB, 8, .inl (b8 (blk8 z8 0 0)))), (u1.2.2, .inl (dB, 8, .inl (b8 (crypt true (sc (key8 (key8 z8 0 0 0 0 0) 1 0 0 0 0)) (blk8 z8 0 0) z8)))), (ar1, .inl (dN, 8, .inl (lf (((((List.replicate 8 0).set 0 33).set 1 165).set 2 219).set 3 238))))] H := hP
  have hD : va_D A [(x1, .inr (0, [.ref u1.1, .ref u1.2.1, .ref u1.2.2])), (u1.1, .inl (dB, 32, .inl (b8 (key8 (key8 z8 0 0 0 0 0) 1 0 0 0 0)))), (u1.2.1, .inl (dB, 8, .inl (b8 (blk8 z8 0 0)))), (u1.2.2, .inl (dB, 8, .inl (b8 (crypt true (sc (key8 (key8 z8 0 0 0 0 0) 1 0 0 0 0)) (blk8 z8 0 0) z8)))), (ar1, .inl (dN, 8, .inl (lf (((((List.replicate 8 0).set 0 33).set 1 165).set 2 219).set 3 238))))] := hD
  refine lv_dup hx hb dX0_known_64 rfl ?_
  refine lv_iconst (v := nI 4) hx hb dX0_known_65 (by decide +kernel) ?_
  refine lv_bipush (v := 21) hx hb dX0_known_66 (by decide +kernel) ?_
  refine rc_iast hx hb hK.1 hP hD hS 4 1 rfl rfl 4 rfl rfl (by omega) (by omega) dX0_known_68 (fun H locs hP hD hS => ?_)
  have hP : va_P D vwCl [(x1, .inr (0, [.ref u1.1, .ref u1.2.1, .ref u1.2.2])), (u1.1, .inl (dB, 32, .inl (b8 (key8 (key8 z8 0 0 0 0 0) 1 0 0 0 0)))), (u1.2.1, .inl (dB, 8, .inl (b8 (blk8 z8 0 0)))), (u1.2.2, .inl (dB, 8, .inl (b8 (crypt true (sc (key8 (key8 z8 0 0 0 0 0) 1 0 0 0 0)) (blk8 z8 0 0) z8)))), (ar1, .inl (dN, 8, .inl (lf ((((((List.replicate 8 0).set 0 33).set 1 165).set 2 219).set 3 238).set 4 21))))] H := hP
  have hD : va_D A [(x1, .inr (0, [.ref u1.1, .ref u1.2.1, .ref u1.2.2])), (u1.1, .inl (dB, 32, .inl (b8 (key8 (key8 z8 0 0 0 0 0) 1 0 0 0 0)))), (u1.2.1, .inl (dB, 8, .inl (b8 (blk8 z8 0 0)))), (u1.2.2, .inl (dB, 8, .inl (b8 (crypt true (sc (key8 (key8 z8 0 0 0 0 0) 1 0 0 0 0)) (blk8 z8 0 0) z8)))), (ar1, .inl (dN, 8, .inl (lf ((((((List.replicate 8 0).set 0 33).set 1 165).set 2 219).set 3 238).set 4 21))))] := hD
  refine lv_dup hx hb dX0_known_69 rfl ?_
  refine lv_iconst (v := nI 5) hx hb dX0_known_70 (by decide +kernel) ?_
  refine lv_bipush (v := 75) hx hb dX0_known_71 (by decide +kernel) ?_
  refine rc_iast hx hb hK.1 hP hD hS 4 1 rfl rfl 5 rfl rfl (by omega) (by omega) dX0_known_73 (fun H locs hP hD hS => ?_)
  have hP : va_P D vwCl [(x1, .inr (0, [.ref u1.1, .ref u1.2.1, .ref u1.2.2])), (u1.1, .inl (dB, 32, .inl (b8 (key8 (key8 z8 0 0 0 0 0) 1 0 0 0 0)))), (u1.2.1, .inl (dB, 8, .inl (b8 (blk8 z8 0 0)))), (u1.2.2, .inl (dB, 8, .inl (b8 (crypt true (sc (key8 (key8 z8 0 0 0 0 0) 1 0 0 0 0)) (blk8 z8 0 0) z8)))), (ar1, .inl (dN, 8, .inl (lf (((((((List.replicate 8 0).set 0 33).set 1 165).set 2 219).set 3 238).set 4 21).set 5 75))))] H := hP
  have hD : va_D A [(x1, .inr (0, [.ref u1.1, .ref u1.2.1, .ref u1.2.2])), (u1.1, .inl (dB, 32, .inl (b8 (key8 (key8 z8 0 0 0 0 0) 1 0 0 0 0)))), (u1.2.1, .inl (dB, 8, .inl (b8 (blk8 z8 0 0)))), (u1.2.2, .inl (dB, 8, .inl (b8 (crypt true (sc (key8 (key8 z8 0 0 0 0 0) 1 0 0 0 0)) (blk8 z8 0 0) z8)))), (ar1, .inl (dN, 8, .inl (lf (((((((List.replicate 8 0).set 0 33).set 1 165).set 2 219).set 3 238).set 4 21).set 5 75))))] := hD
  refine lv_dup hx hb dX0_known_74 rfl ?_
  refine lv_bipush (v := nI 6) hx hb dX0_known_75 (by decide +kernel) ?_
  refine lv_sipush (v := 143) hx hb dX0_known_77 (by decide +kernel) ?_
  refine rc_iast hx hb hK.1 hP hD hS 4 1 rfl rfl 6 rfl rfl (by omega) (by omega) dX0_known_80 (fun H locs hP hD hS => ?_)
  have hP : va_P D vwCl [(x1, .inr (0, [.ref u1.1, .ref u1.2.1, .ref u1.2.2])), (u1.1, .inl (dB, 32, .inl (b8 (key8 (key8 z8 0 0 0 0 0) 1 0 0 0 0)))), (u1.2.1, .inl (dB, 8, .inl (b8 (blk8 z8 0 0)))), (u1.2.2, .inl (dB, 8, .inl (b8 (crypt true (sc (key8 (key8 z8 0 0 0 0 0) 1 0 0 0 0)) (blk8 z8 0 0) z8)))), (ar1, .inl (dN, 8, .inl (lf ((((((((List.replicate 8 0).set 0 33).set 1 165).set 2 219).set 3 238).set 4 21).set 5 75).set 6 143))))] H := hP
  have hD : va_D A [(x1, .inr (0, [.ref u1.1, .ref u1.2.1, .ref u1.2.2])), (u1.1, .inl (dB, 32, .inl (b8 (key8 (key8 z8 0 0 0 0 0) 1 0 0 0 0)))), (u1.2.1, .inl (dB, 8, .inl (b8 (blk8 z8 0 0)))), (u1.2.2, .inl (dB, 8, .inl (b8 (crypt true (sc (key8 (key8 z8 0 0 0 0 0) 1 0 0 0 0)) (blk8 z8 0 0) z8)))), (ar1, .inl (dN, 8, .inl (lf ((((((((List.replicate 8 0).set 0 33).set 1 165).set 2 219).set 3 238).set 4 21).set 5 75).set 6 143))))] := hD
  refine lv_dup hx hb dX0_known_81 rfl ?_
  refine lv_bipush (v := nI 7) hx hb dX0_known_82 (by decide +kernel) ?_
  refine lv_bipush (v := 109) hx hb dX0_known_84 (by decide +kernel) ?_
  refine rc_iast hx hb hK.1 hP hD hS 4 1 rfl rfl 7 rfl rfl (by omega) (by omega) dX0_known_86 (fun H locs hP hD hS => ?_)
  have hP : va_P D vwCl [(x1, .inr (0, [.ref u1.1, .ref u1.2.1, .ref u1.2.2])), (u1.1, .inl (dB, 32, .inl (b8 (key8 (key8 z8 0 0 0 0 0) 1 0 0 0 0)))), (u1.2.1, .inl (dB, 8, .inl (b8 (blk8 z8 0 0)))), (u1.2.2, .inl (dB, 8, .inl (b8 (crypt true (sc (key8 (key8 z8 0 0 0 0 0) 1 0 0 0 0)) (blk8 z8 0 0) z8)))), (ar1, .inl (dN, 8, .inl (lf (((((((((List.replicate 8 0).set 0 33).set 1 165).set 2 219).set 3 238).set 4 21).set 5 75).set 6 143).set 7 109))))] H := hP
  have hD : va_D A [(x1, .inr (0, [.ref u1.1, .ref u1.2.1, .ref u1.2.2])), (u1.1, .inl (dB, 32, .inl (b8 (key8 (key8 z8 0 0 0 0 0) 1 0 0 0 0)))), (u1.2.1, .inl (dB, 8, .inl (b8 (blk8 z8 0 0)))), (u1.2.2, .inl (dB, 8, .inl (b8 (crypt true (sc (key8 (key8 z8 0 0 0 0 0) 1 0 0 0 0)) (blk8 z8 0 0) z8)))), (ar1, .inl (dN, 8, .inl (lf (((((((((List.replicate 8 0).set 0 33).set 1 165).set 2 219).set 3 238).set 4 21).set 5 75).set 6 143).set 7 109))))] := hD
  have hP : va_P D vwCl [(x1, .inr (0, [.ref u1.1, .ref u1.2.1, .ref u1.2.2])), (u1.1, .inl (dB, 32, .inl (b8 (key8 (key8 z8 0 0 0 0 0) 1 0 0 0 0)))), (u1.2.1, .inl (dB, 8, .inl (b8 (blk8 z8 0 0)))), (u1.2.2, .inl (dB, 8, .inl (b8 (crypt true (sc (key8 (key8 z8 0 0 0 0 0) 1 0 0 0 0)) (blk8 z8 0 0) z8)))), (ar1, .inl (dN, 8, .inl (lf [33, 165, 219, 238, 21, 75, 143, 109])))] H := hP
  have hD : va_D A [(x1, .inr (0, [.ref u1.1, .ref u1.2.1, .ref u1.2.2])), (u1.1, .inl (dB, 32, .inl (b8 (key8 (key8 z8 0 0 0 0 0) 1 0 0 0 0)))), (u1.2.1, .inl (dB, 8, .inl (b8 (blk8 z8 0 0)))), (u1.2.2, .inl (dB, 8, .inl (b8 (crypt true (sc (key8 (key8 z8 0 0 0 0 0) 1 0 0 0 0)) (blk8 z8 0 0) z8)))), (ar1, .inl (dN, 8, .inl (lf [33, 165, 219, 238, 21, 75, 143, 109])))] := hD
  refine lv_astore_n (lv' := [(1, .ref ar1), (0, .ref x1)]) hx hb dX0_known_87 rfl hl (by decide) rfl (fun ls hl => ?_)
  refine lv_iconst (v := nI 0) hx hb dX0_known_88 (by decide +kernel) ?_
  refine lv_istore_n (lv' := [(2, .int (nI 0)), (1, .ref ar1), (0, .ref x1)]) hx hb dX0_known_89 rfl hl (by decide) rfl (fun ls hl => ?_)
  have loop : ∀ (n i : Nat) (ls : Array Slot), i + n = 8 → lv_has ls 5 [(2, .int (nI i)), (1, .ref ar1), (0, .ref x1)] → W p l e ({ frames := 6, cells := 22, slots := 250, locals := 150 }) s m ([] : List Value).toArray below meth c H locs 11 125 (MQ below (va_Qi (S := Unit) (fun (r : Int32) _ => r = 1) (wQ D (fun _ => []) (A)) (A)) ([] : List Value).toArray s 22 250 A) (F0 m 90 ls []) := by
    intro n
    induction n with
    | zero =>
      intro i ls hi hl
      refine lv_iload_n hx hb dX0_known_90 rfl (lv_at hl 0 rfl) ?_
      refine lv_bipush (v := nI 8) hx hb dX0_known_91 (by decide +kernel) ?_
      refine rc_ge (tgt := 115) i 8 rfl rfl (by omega) (by omega) hx hb dX0_known_93 (by decide) (fun _ => ?_) (fun h => absurd h (by omega))
      exact part2 H _ ls (hP.sub [] rfl) (hD.sub [] (by decide) rfl) hS (lv_sub hl [] rfl)
    | succ n ih =>
      intro i ls hi hl
      refine lv_iload_n hx hb dX0_known_90 rfl (lv_at hl 0 rfl) ?_
      refine lv_bipush (v := nI 8) hx hb dX0_known_91 (by decide +kernel) ?_
      refine rc_ge (tgt := 115) i 8 rfl rfl (by omega) (by omega) hx hb dX0_known_93 (by decide) (fun h => absurd h (by omega)) (fun _ => ?_)
      refine lv_aload_n hx hb dX0_known_96 rfl (lv_at hl 2 rfl) ?_
      refine lv_iload_n hx hb dX0_known_97 rfl (lv_at hl 0 rfl) ?_
      refine vp_callSi (W.runV (As := [.int (nI i)]) (rest := []) ⟨hx, hb, hml, hown, hts⟩ (met_out l D dB dN x1 u1.1 u1.2.1 u1.2.2 (key8 (key8 z8 0 0 0 0 0) 1 0 0 0 0) (blk8 z8 0 0) (crypt true (sc (key8 (key8 z8 0 0 0 0 0) 1 0 0 0 0)) (blk8 z8 0 0) z8) i (by omega)) (cwV 1 hts (lw_V q240 q241 q242 q10 q243) rfl rfl rfl (by decide +kernel) ⟨Nat.le_of_ble_eq_true rfl, Nat.le_of_ble_eq_true rfl⟩) (wS_V (ci := 0) (q0 := 0) hP hK [0, 1, 2, 3] rfl rfl rfl) rfl rfl hl.1 rfl (lv_room (Nat.le_of_ble_eq_true rfl)) dX0_known_98 ⟨Nat.le_of_ble_eq_true rfl, Nat.le_of_ble_eq_true rfl⟩) (fun r1 er1 => ?_)
      refine lv_aload_n hx hb dX0_known_101 rfl (lv_at hl 1 rfl) ?_
      refine lv_iload_n hx hb dX0_known_102 rfl (lv_at hl 0 rfl) ?_
      refine rc_iald hx hb hK.1 hP 4 1 rfl rfl i rfl (by omega) (by omega) dX0_known_103 ?_
      refine rc_eqT (tgt := 109) (er1.trans (vec_0 z8 (by omega))) hx hb dX0_known_104 (by decide) ?_
      refine lv_iinc (v := (nI (i + 1))) (lv' := [(2, .int (nI (i + 1))), (1, .ref ar1), (0, .ref x1)]) hx hb dX0_known_109 hl (k := 0) rfl (nI_1 i) (by decide) rfl (fun ls hl => ?_)
      refine lv_goto (tgt := 90) hx hb dX0_known_112 (by decide) ?_
      exact ih (i + 1) ls (by omega) (lv_sub hl [0, 1, 2] rfl)
  exact loop 8 0 ls rfl (lv_sub hl [0, 1, 2] rfl)
end
section
/-! THE CLAIM OUT OF ONE WALK OF THE LAW'S BODY. Your part is whole_start (and what it stands on); all else here is the same for every law, but numbers. -/
def R_law : String := "RcFiveDeskLaw"
def lw_P (b : Addr) (xs : List Int32) (args : Array Value) (s : State) : Prop := args = #[.ref b] ∧ s.IntsAt b xs ∧ xs.length ≤ 10 ∧ (Jvm.Cond.and given_1 narrow_1).before args s = true
def lw_Q (_ : Array Value) (s : State) (o : Outcome) (t : State) : Prop := o = .returned (some (.int 1)) ∧ Framed s o t [] 615013 7257088
def lw_Z (below : List Frame) (a : Array Value) (s : State) : State → Prop := fun t => ∃ o, t.status = .running ∧ Ended t below o ∧ lw_Q a s o t
/-- the law's own end, with 1 on the stack, nothing written that was there before, its room as the claim has it -/
theorem lw_ret {p : Program} {l : Launch} {e : Env} {s : State} {m : MethodId} {below : List Frame} {meth : Method} {c : Code} {b : Nat} (hx : p.tables.exec = Jvm.exec) (hb : c.code = code) (hr : meth.sig.returnType = ret) (hlocks : meth.locks = false) {pc : Nat} {H : Heap} {ls : Array Slot} (hdg : decode code pc = .ok (.ireturn, 1)) : W p l e room_1 s m #[Value.ref b] below meth c H [] 615013 7257088 (lw_Z below #[Value.ref b] s) (F0 m pc ls [.int 1]) := by
  intro T hT X
  obtain ⟨fs, hret, hrun, hended, hW, hframe⟩ := X.leave (v := some (.int 1)) (hlocks := hlocks) (fun h => by rw [hr] at h; cases h)
  have hmeth' : T.vm.method? m = some meth := X.method'
  refine ⟨T.setFrames fs, ?_, .returned (some (.int 1)), hrun, hended, rfl, ⟨_, rfl⟩, hW, hframe⟩
  jvm_step X.here [X.here.top, hx, hb, hdg, hmeth', hr, ret, narrow_b1]
  (try refine ⟨rfl, ?_⟩); (try refine ⟨rfl, ?_⟩)
  first | (intro acts; rw [hret _ acts rfl rfl rfl]) | rw [hret _ _ rfl rfl rfl]
  exact Steps.refl _
/-- what holds at the law's entry: the machine, the code, the tables' words (any of lw_tbl by 'hts w (by decide +kernel)'), the script of L ints xs at the cell b, what the Statement gives of the start (any of its parts by flat_of_before) -/
def lw_At (p : Program) (s : State) (m : MethodId) (meth : Method) (c : Code) (b L : Nat) (xs : Nat → Int32) : Prop :=
  p.tables.exec = Jvm.exec ∧ c.code = code ∧ meth.sig.returnType = ret ∧ c.maxLocals = 8 ∧ s.vm.findClass R_law = some m.cls ∧ (∀ w ∈ lw_tbl, w.before #[Value.ref b] s = true) ∧ va_X b L xs s s.heap ∧ b < s.heap.size ∧ meth.locks = false ∧ (Jvm.Cond.and given_1 narrow_1).before #[Value.ref b] s = true
set_option maxHeartbeats 4000000 in
set_option maxRecDepth 100000 in
/-- THE LAW, from its entry -/
theorem whole_start {p : Program} {e : Env} {s : State} {m : MethodId} {below : List Frame} {meth : Method} {c : Code} (l : Launch) (hflags : l.flags = flags0) {b L : Nat} {xs : Nat → Int32} (hL : L ≤ 10) (C0 : lw_At p s m meth c b L xs) : W p l e room_1 s m #[Value.ref b] below meth c s.heap [] 0 0 (lw_Z below #[Value.ref b] s) (entryFrame m ([Value.ref b] : List Value).toArray 8) := by
  obtain ⟨hx, hb, hr, hml, hown, hts0, hX, hbl, hlocks, hgv⟩ := C0
  have hts : ∀ w ∈ lw_all, w.before #[Value.ref b] s = true := fun w h => hts0 w (lw_all_tbl h)
  obtain ⟨A, hAe⟩ : ∃ A : Nat → Prop, A = fun q : Nat => s.heap.size ≤ q := ⟨_, rfl⟩
  have hA : ∀ q : Nat, s.heap.size ≤ q → A q := fun q h => by rw [hAe]; exact h
  have hbA : ¬ A b := by rw [hAe]; exact Nat.not_le.mpr hbl
  obtain ⟨c0, iS0, hKn0⟩ := u_known (C := RX1) (T := TX1) (N := 3) (n := 3) hts0 (fun w h => lw_all_tbl (in_X1 w h)) (hts0 _ (lw_all_tbl q25))
  obtain ⟨c1, iS1, hKn1⟩ := u_known (C := RX2) (T := TX2) (N := 3) (n := 3) hts0 (fun w h => lw_all_tbl (in_X2 w h)) (hts0 _ (lw_all_tbl q31))
  obtain ⟨c2, iS2, hKn2⟩ := u_known (C := RX3) (T := TX3) (N := 1) (n := 1) hts0 (fun w h => lw_all_tbl (in_X3 w h)) (hts0 _ (lw_all_tbl q50))
  obtain ⟨dB, hB1, hB2⟩ := rc_arr (hts _ q48)
  obtain ⟨dN, hN1, hN2⟩ := rc_arr (hts _ q167)
  obtain ⟨D, hKc⟩ : ∃ D : va_G, ∀ (k : Nat) (q : vw_C), vwCl[k]? = some q → u_Kn s q.1 q.2.1 q.2.2 (D.1 k) (D.2 k) := by
    refine ⟨(fun k => if k = 0 then c0 else if k = 1 then c1 else c2, fun k => if k = 0 then iS0 else if k = 1 then iS1 else iS2), ?_⟩
    intro k q hq
    match k, hq with
    | 0, hq => cases hq; exact hKn0
    | 1, hq => cases hq; exact hKn1
    | 2, hq => cases hq; exact hKn2
    | k + 3, hq => simp [vwCl] at hq
  have hKa : va_K D vwCl (rcT dB dN) s := by
    refine ⟨hKc, fun k q h => ?_⟩
    match k, h with
    | 0, h => cases h; exact ⟨hB1, hB2⟩
    | 1, h => cases h; exact ⟨hN1, hN2⟩
    | k + 2, h => simp [rcT] at h
  have hfl := flat_of_before _ hgv
  have hNc : va_Nc RX3 RX4 s := va_Nc.of (hfl (.not (.castable "KeyParameter" "RC5Parameters")) (by decide +kernel))
  have hK : rK D dB dN s := ⟨hKa, hNc, va_Fw.of (hts0 _ q71) (hts0 _ q70) (hts0 _ q76) (hts0 _ q74) (hts0 _ q72), va_Fw.of (hts0 _ q171) (hts0 _ q170) (hts0 _ q175) (hts0 _ q173) (hts0 _ q72)⟩
  have hS : va_S A s.heap s.heap [] := va_S.rf
  have hP : va_P D vwCl [] s.heap := fun k q h => by simp at h
  have hD : va_D A [] := ⟨fun i j p q h => by simp at h, fun k q h => by simp at h⟩
  have hl := lv_entry ([.ref b]) (n := 8) (Nat.le_of_ble_eq_true rfl)
  rw [lg_entry_eq]
  generalize (lg_sl ([.ref b]) ++ List.replicate (8 - (lg_sl ([.ref b])).length) Slot.unset).toArray = ls at hl ⊢
  have hl : lv_has ls 8 [(0, .ref b)] := hl
  refine rc_calli (wr := []) (va_runS (As := []) (rest := []) ⟨hx, hb, hml, hown, hts⟩ (met_known l D dB dN s.heap.size) (va_cwS 0 hts (lw_S q244 q245 q9 q246) rfl rfl rfl (by decide +kernel) ⟨Nat.le_of_ble_eq_true rfl, Nat.le_of_ble_eq_true rfl⟩) (wM_S hP hK hD [] rfl (by decide)) rfl rfl hl.1 rfl (lv_room (Nat.le_of_ble_eq_true rfl)) dL_law_0 ⟨Nat.le_of_ble_eq_true rfl, Nat.le_of_ble_eq_true rfl⟩) hP hD hS hA [] [] rfl rfl (by decide) (by decide) (fun r0 _ H locs hw hP hD hS => ?_)
  have hP : va_P D vwCl [] H := hP
  have hD : va_D A [] := hD
  have hw : r0 = 1 := hw
  refine lv_if_ne (tgt := 8) hx hb dL_law_3 (by decide) (fun _ => ?_) (fun h => absurd (hw.symm.trans h) (by decide))
  refine lv_iconst (v := nI 1) hx hb dL_law_8 (by decide +kernel) ?_
  refine rc_newi hx hb hts hK hP hD hS hA 1 rfl (by decide) (Nat.le_of_ble_eq_true rfl) (Nat.le_of_ble_eq_true rfl) dL_law_9 (fun ka H hP hD hS => ?_)
  have hP : va_P D vwCl [(ka, .inl (dN, 1, .inl (lf (List.replicate 1 0))))] H := hP
  have hD : va_D A [(ka, .inl (dN, 1, .inl (lf (List.replicate 1 0))))] := hD
  refine lv_dup hx hb dL_law_11 rfl ?_
  refine lv_iconst (v := nI 0) hx hb dL_law_12 (by decide +kernel) ?_
  refine lv_iconst (v := 0) hx hb dL_law_13 (by decide +kernel) ?_
  refine rc_iast hx hb hK.1 hP hD hS 0 1 rfl rfl 0 rfl rfl (by omega) (by omega) dL_law_14 (fun H locs hP hD hS => ?_)
  have hP : va_P D vwCl [(ka, .inl (dN, 1, .inl (lf ((List.replicate 1 0).set 0 0))))] H := hP
  have hD : va_D A [(ka, .inl (dN, 1, .inl (lf ((List.replicate 1 0).set 0 0))))] := hD
  have hP : va_P D vwCl [(ka, .inl (dN, 1, .inl (lf [0])))] H := hP
  have hD : va_D A [(ka, .inl (dN, 1, .inl (lf [0])))] := hD
  refine lv_astore_n (lv' := [(1, .ref ka), (0, .ref b)]) hx hb dL_law_15 rfl hl (by decide) rfl (fun ls hl => ?_)
  refine lv_aload_n hx hb dL_law_16 rfl (lv_at hl 0 rfl) ?_
  refine lv_astore_n (lv' := [(2, .ref ka), (1, .ref ka), (0, .ref b)]) hx hb dL_law_17 rfl hl (by decide) rfl (fun ls hl => ?_)
  refine lv_aload_n hx hb dL_law_18 rfl (lv_at hl 0 rfl) ?_
  refine va_alen (v := nI 1) hx hb hK.1 hP 0 1 rfl rfl rfl dL_law_19 ?_
  refine lv_istore_n (lv' := [(3, .int (nI 1)), (2, .ref ka), (1, .ref ka), (0, .ref b)]) hx hb dL_law_20 rfl hl (by decide) rfl (fun ls hl => ?_)
  refine lv_iconst (v := nI 0) hx hb dL_law_21 (by decide +kernel) ?_
  refine lv_istore (lv' := [(4, .int (nI 0)), (3, .int (nI 1)), (2, .ref ka), (1, .ref ka), (0, .ref b)]) hx hb dL_law_22 hl (by decide) rfl (fun ls hl => ?_)
  refine lv_iload hx hb dL_law_24 (lv_at hl 0 rfl) ?_
  refine lv_iload_n hx hb dL_law_26 rfl (lv_at hl 1 rfl) ?_
  refine rc_ge (tgt := 112) 0 1 rfl rfl (by omega) (by omega) hx hb dL_law_27 (by decide) (fun h => absurd h (by omega)) (fun _ => ?_)
  refine lv_aload_n hx hb dL_law_30 rfl (lv_at hl 2 rfl) ?_
  refine lv_iload hx hb dL_law_31 (lv_at hl 0 rfl) ?_
  refine rc_iald hx hb hK.1 hP 0 1 rfl rfl 0 rfl (by omega) (by omega) dL_law_33 ?_
  refine rc_top (y := 0) rfl ?_
  refine lv_istore (lv' := [(5, .int 0), (4, .int (nI 0)), (3, .int (nI 1)), (2, .ref ka), (1, .ref ka), (0, .ref b)]) hx hb dL_law_34 hl (by decide) rfl (fun ls hl => ?_)
  refine lv_aload_n hx hb dL_law_36 rfl (lv_at hl 5 rfl) ?_
  obtain ⟨KF, hKF⟩ : ∃ f : Nat → Int8, f = (key8 (key8 z8 0 (cl xs L 0) (cl xs L 1) (cl xs L 2) (cl xs L 3)) 1 (cl xs L 4) (cl xs L 5) (cl xs L 6) (cl xs L 7)) := ⟨_, rfl⟩
  obtain ⟨BF, hBF⟩ : ∃ f : Nat → Int8, f = (blk8 z8 (cl xs L 8) (cl xs L 9)) := ⟨_, rfl⟩
  have hX9 := hX.kept (hS.2.1 b hbl hbA)
  refine rc_callr (wr := [(ka, .inl (dN, 1, .inl (lf [0])))]) (va_runS (As := [.ref b]) (rest := []) ⟨hx, hb, hml, hown, hts⟩ (met_with l D dB dN b L xs hL H.size) (va_cwS 1 hts (lw_S q205 q206 q9 q207) rfl rfl rfl (by decide +kernel) ⟨Nat.le_of_ble_eq_true rfl, Nat.le_of_ble_eq_true rfl⟩) (wMX_S hP hK hD hX9 [] rfl (by decide)) rfl rfl hl.1 rfl (lv_room (Nat.le_of_ble_eq_true rfl)) dL_law_37 ⟨Nat.le_of_ble_eq_true rfl, Nat.le_of_ble_eq_true rfl⟩) hP hD hS hA [] [0] rfl rfl (by decide) (by decide) (fun u1 x1 H locs hw hP hD hS => ?_)
  have hP : va_P D vwCl [(ka, .inl (dN, 1, .inl (lf [0]))), (x1, .inr (0, [.ref u1.1, .ref u1.2.1, .ref u1.2.2])), (u1.1, .inl (dB, 32, .inl (b8 (key8 (key8 z8 0 (cl xs L 0) (cl xs L 1) (cl xs L 2) (cl xs L 3)) 1 (cl xs L 4) (cl xs L 5) (cl xs L 6) (cl xs L 7))))), (u1.2.1, .inl (dB, 8, .inl (b8 (blk8 z8 (cl xs L 8) (cl xs L 9))))), (u1.2.2, .inl (dB, 8, .inl (b8 z8)))] H := hP
  have hD : va_D A [(ka, .inl (dN, 1, .inl (lf [0]))), (x1, .inr (0, [.ref u1.1, .ref u1.2.1, .ref u1.2.2])), (u1.1, .inl (dB, 32, .inl (b8 (key8 (key8 z8 0 (cl xs L 0) (cl xs L 1) (cl xs L 2) (cl xs L 3)) 1 (cl xs L 4) (cl xs L 5) (cl xs L 6) (cl xs L 7))))), (u1.2.1, .inl (dB, 8, .inl (b8 (blk8 z8 (cl xs L 8) (cl xs L 9))))), (u1.2.2, .inl (dB, 8, .inl (b8 z8)))] := hD
  rw [← hKF, ← hBF] at hP hD
  have hP : va_P D vwCl [(ka, .inl (dN, 1, .inl (lf [0]))), (x1, .inr (0, [.ref u1.1, .ref u1.2.1, .ref u1.2.2])), (u1.1, .inl (dB, 32, .inl (b8 KF))), (u1.2.1, .inl (dB, 8, .inl (b8 BF))), (u1.2.2, .inl (dB, 8, .inl (b8 z8)))] H := hP
  have hD : va_D A [(ka, .inl (dN, 1, .inl (lf [0]))), (x1, .inr (0, [.ref u1.1, .ref u1.2.1, .ref u1.2.2])), (u1.1, .inl (dB, 32, .inl (b8 KF))), (u1.2.1, .inl (dB, 8, .inl (b8 BF))), (u1.2.2, .inl (dB, 8, .inl (b8 z8)))] := hD
  refine lv_astore (lv' := [(6, .ref x1), (5, .int 0), (4, .int (nI 0)), (3, .int (nI 1)), (2, .ref ka), (1, .ref ka), (0, .ref b)]) hx hb dL_law_40 hl (by decide) rfl (fun ls hl => ?_)
  refine lv_aload_n hx hb dL_law_42 rfl (lv_at hl 6 rfl) ?_
  have hX9 := hX.kept (hS.2.1 b hbl hbA)
  refine rc_callr (wr := [(ka, .inl (dN, 1, .inl (lf [0]))), (x1, .inr (0, [.ref u1.1, .ref u1.2.1, .ref u1.2.2])), (u1.1, .inl (dB, 32, .inl (b8 KF))), (u1.2.1, .inl (dB, 8, .inl (b8 BF))), (u1.2.2, .inl (dB, 8, .inl (b8 z8)))]) (va_runS (As := [.ref b]) (rest := []) ⟨hx, hb, hml, hown, hts⟩ (met_with l D dB dN b L xs hL H.size) (va_cwS 1 hts (lw_S q205 q206 q9 q207) rfl rfl rfl (by decide +kernel) ⟨Nat.le_of_ble_eq_true rfl, Nat.le_of_ble_eq_true rfl⟩) (wMX_S hP hK hD hX9 [] rfl (by decide)) rfl rfl hl.1 rfl (lv_room (Nat.le_of_ble_eq_true rfl)) dL_law_43 ⟨Nat.le_of_ble_eq_true rfl, Nat.le_of_ble_eq_true rfl⟩) hP hD hS hA [] [0, 1, 2, 3, 4] rfl rfl (by decide) (by decide) (fun u2 x2 H locs hw hP hD hS => ?_)
  have hP : va_P D vwCl [(ka, .inl (dN, 1, .inl (lf [0]))), (x1, .inr (0, [.ref u1.1, .ref u1.2.1, .ref u1.2.2])), (u1.1, .inl (dB, 32, .inl (b8 KF))), (u1.2.1, .inl (dB, 8, .inl (b8 BF))), (u1.2.2, .inl (dB, 8, .inl (b8 z8))), (x2, .inr (0, [.ref u2.1, .ref u2.2.1, .ref u2.2.2])), (u2.1, .inl (dB, 32, .inl (b8 (key8 (key8 z8 0 (cl xs L 0) (cl xs L 1) (cl xs L 2) (cl xs L 3)) 1 (cl xs L 4) (cl xs L 5) (cl xs L 6) (cl xs L 7))))), (u2.2.1, .inl (dB, 8, .inl (b8 (blk8 z8 (cl xs L 8) (cl xs L 9))))), (u2.2.2, .inl (dB, 8, .inl (b8 z8)))] H := hP
  have hD : va_D A [(ka, .inl (dN, 1, .inl (lf [0]))), (x1, .inr (0, [.ref u1.1, .ref u1.2.1, .ref u1.2.2])), (u1.1, .inl (dB, 32, .inl (b8 KF))), (u1.2.1, .inl (dB, 8, .inl (b8 BF))), (u1.2.2, .inl (dB, 8, .inl (b8 z8))), (x2, .inr (0, [.ref u2.1, .ref u2.2.1, .ref u2.2.2])), (u2.1, .inl (dB, 32, .inl (b8 (key8 (key8 z8 0 (cl xs L 0) (cl xs L 1) (cl xs L 2) (cl xs L 3)) 1 (cl xs L 4) (cl xs L 5) (cl xs L 6) (cl xs L 7))))), (u2.2.1, .inl (dB, 8, .inl (b8 (blk8 z8 (cl xs L 8) (cl xs L 9))))), (u2.2.2, .inl (dB, 8, .inl (b8 z8)))] := hD
  rw [← hKF, ← hBF] at hP hD
  have hP : va_P D vwCl [(ka, .inl (dN, 1, .inl (lf [0]))), (x1, .inr (0, [.ref u1.1, .ref u1.2.1, .ref u1.2.2])), (u1.1, .inl (dB, 32, .inl (b8 KF))), (u1.2.1, .inl (dB, 8, .inl (b8 BF))), (u1.2.2, .inl (dB, 8, .inl (b8 z8))), (x2, .inr (0, [.ref u2.1, .ref u2.2.1, .ref u2.2.2])), (u2.1, .inl (dB, 32, .inl (b8 KF))), (u2.2.1, .inl (dB, 8, .inl (b8 BF))), (u2.2.2, .inl (dB, 8, .inl (b8 z8)))] H := hP
  have hD : va_D A [(ka, .inl (dN, 1, .inl (lf [0]))), (x1, .inr (0, [.ref u1.1, .ref u1.2.1, .ref u1.2.2])), (u1.1, .inl (dB, 32, .inl (b8 KF))), (u1.2.1, .inl (dB, 8, .inl (b8 BF))), (u1.2.2, .inl (dB, 8, .inl (b8 z8))), (x2, .inr (0, [.ref u2.1, .ref u2.2.1, .ref u2.2.2])), (u2.1, .inl (dB, 32, .inl (b8 KF))), (u2.2.1, .inl (dB, 8, .inl (b8 BF))), (u2.2.2, .inl (dB, 8, .inl (b8 z8)))] := hD
  refine lv_astore (lv' := [(7, .ref x2), (6, .ref x1), (5, .int 0), (4, .int (nI 0)), (3, .int (nI 1)), (2, .ref ka), (1, .ref ka), (0, .ref b)]) hx hb dL_law_46 hl (by decide) rfl (fun ls hl => ?_)
  refine lv_aload hx hb dL_law_48 (lv_at hl 1 rfl) ?_
  refine lv_iload hx hb dL_law_50 (lv_at hl 2 rfl) ?_
  refine rc_callv (wr := [(ka, .inl (dN, 1, .inl (lf [0]))), (x2, .inr (0, [.ref u2.1, .ref u2.2.1, .ref u2.2.2])), (u2.1, .inl (dB, 32, .inl (b8 KF))), (u2.2.1, .inl (dB, 8, .inl (b8 BF))), (u2.2.2, .inl (dB, 8, .inl (b8 z8)))]) (va_runV (As := [.int 0]) (rest := []) ⟨hx, hb, hml, hown, hts⟩ (met_lock1 l D dB dN x1 u1.1 u1.2.1 u1.2.2 KF BF z8 0 H.size) (cwV 1 hts (lw_V q18 q19 q20 q10 q21) rfl rfl rfl (by decide +kernel) ⟨Nat.le_of_ble_eq_true rfl, Nat.le_of_ble_eq_true rfl⟩) (wM_V (ci := 0) (q0 := 1) hP hK hD [1, 2, 3, 4] rfl (by decide) rfl rfl) rfl rfl hl.1 rfl (lv_room (Nat.le_of_ble_eq_true rfl)) dL_law_52 ⟨Nat.le_of_ble_eq_true rfl, Nat.le_of_ble_eq_true rfl⟩) hP hD hS hA [1, 2, 3, 4] [0, 5, 6, 7, 8] rfl rfl (by decide) (by decide) (fun _ H locs hw hP hD hS => ?_)
  have hP : va_P D vwCl [(ka, .inl (dN, 1, .inl (lf [0]))), (x2, .inr (0, [.ref u2.1, .ref u2.2.1, .ref u2.2.2])), (u2.1, .inl (dB, 32, .inl (b8 KF))), (u2.2.1, .inl (dB, 8, .inl (b8 BF))), (u2.2.2, .inl (dB, 8, .inl (b8 z8))), (x1, .inr (0, [.ref u1.1, .ref u1.2.1, .ref u1.2.2])), (u1.1, .inl (dB, 32, .inl (b8 KF))), (u1.2.1, .inl (dB, 8, .inl (b8 BF))), (u1.2.2, .inl (dB, 8, .inl (b8 (crypt true (sc KF) BF z8))))] H := hP
  have hD : va_D A [(ka, .inl (dN, 1, .inl (lf [0]))), (x2, .inr (0, [.ref u2.1, .ref u2.2.1, .ref u2.2.2])), (u2.1, .inl (dB, 32, .inl (b8 KF))), (u2.2.1, .inl (dB, 8, .inl (b8 BF))), (u2.2.2, .inl (dB, 8, .inl (b8 z8))), (x1, .inr (0, [.ref u1.1, .ref u1.2.1, .ref u1.2.2])), (u1.1, .inl (dB, 32, .inl (b8 KF))), (u1.2.1, .inl (dB, 8, .inl (b8 BF))), (u1.2.2, .inl (dB, 8, .inl (b8 (crypt true (sc KF) BF z8))))] := hD
  refine lv_aload hx hb dL_law_55 (lv_at hl 0 rfl) ?_
  refine lv_iload hx hb dL_law_57 (lv_at hl 2 rfl) ?_
  refine rc_callv (wr := [(ka, .inl (dN, 1, .inl (lf [0]))), (x1, .inr (0, [.ref u1.1, .ref u1.2.1, .ref u1.2.2])), (u1.1, .inl (dB, 32, .inl (b8 KF))), (u1.2.1, .inl (dB, 8, .inl (b8 BF))), (u1.2.2, .inl (dB, 8, .inl (b8 (crypt true (sc KF) BF z8))))]) (va_runV (As := [.int 0]) (rest := []) ⟨hx, hb, hml, hown, hts⟩ (met_open1 l D dB dN x2 u2.1 u2.2.1 u2.2.2 KF BF z8 0 H.size) (cwV 1 hts (lw_V q197 q198 q199 q10 q200) rfl rfl rfl (by decide +kernel) ⟨Nat.le_of_ble_eq_true rfl, Nat.le_of_ble_eq_true rfl⟩) (wM_V (ci := 0) (q0 := 1) hP hK hD [1, 2, 3, 4] rfl (by decide) rfl rfl) rfl rfl hl.1 rfl (lv_room (Nat.le_of_ble_eq_true rfl)) dL_law_59 ⟨Nat.le_of_ble_eq_true rfl, Nat.le_of_ble_eq_true rfl⟩) hP hD hS hA [1, 2, 3, 4] [0, 5, 6, 7, 8] rfl rfl (by decide) (by decide) (fun _ H locs hw hP hD hS => ?_)
  have hP : va_P D vwCl [(ka, .inl (dN, 1, .inl (lf [0]))), (x1, .inr (0, [.ref u1.1, .ref u1.2.1, .ref u1.2.2])), (u1.1, .inl (dB, 32, .inl (b8 KF))), (u1.2.1, .inl (dB, 8, .inl (b8 BF))), (u1.2.2, .inl (dB, 8, .inl (b8 (crypt true (sc KF) BF z8)))), (x2, .inr (0, [.ref u2.1, .ref u2.2.1, .ref u2.2.2])), (u2.1, .inl (dB, 32, .inl (b8 KF))), (u2.2.1, .inl (dB, 8, .inl (b8 BF))), (u2.2.2, .inl (dB, 8, .inl (b8 (crypt false (sc KF) BF z8))))] H := hP
  have hD : va_D A [(ka, .inl (dN, 1, .inl (lf [0]))), (x1, .inr (0, [.ref u1.1, .ref u1.2.1, .ref u1.2.2])), (u1.1, .inl (dB, 32, .inl (b8 KF))), (u1.2.1, .inl (dB, 8, .inl (b8 BF))), (u1.2.2, .inl (dB, 8, .inl (b8 (crypt true (sc KF) BF z8)))), (x2, .inr (0, [.ref u2.1, .ref u2.2.1, .ref u2.2.2])), (u2.1, .inl (dB, 32, .inl (b8 KF))), (u2.2.1, .inl (dB, 8, .inl (b8 BF))), (u2.2.2, .inl (dB, 8, .inl (b8 (crypt false (sc KF) BF z8))))] := hD
  refine lv_aload hx hb dL_law_62 (lv_at hl 1 rfl) ?_
  refine rc_callv (wr := [(ka, .inl (dN, 1, .inl (lf [0]))), (x2, .inr (0, [.ref u2.1, .ref u2.2.1, .ref u2.2.2])), (u2.1, .inl (dB, 32, .inl (b8 KF))), (u2.2.1, .inl (dB, 8, .inl (b8 BF))), (u2.2.2, .inl (dB, 8, .inl (b8 (crypt false (sc KF) BF z8))))]) (va_runV (As := []) (rest := []) ⟨hx, hb, hml, hown, hts⟩ (met_again l D dB dN x1 u1.1 u1.2.1 u1.2.2 KF BF (crypt true (sc KF) BF z8) H.size) (cwV 0 hts (lw_V q201 q202 q203 q10 q204) rfl rfl rfl (by decide +kernel) ⟨Nat.le_of_ble_eq_true rfl, Nat.le_of_ble_eq_true rfl⟩) (wM_V (ci := 0) (q0 := 1) hP hK hD [1, 2, 3, 4] rfl (by decide) rfl rfl) rfl rfl hl.1 rfl (lv_room (Nat.le_of_ble_eq_true rfl)) dL_law_64 ⟨Nat.le_of_ble_eq_true rfl, Nat.le_of_ble_eq_true rfl⟩) hP hD hS hA [1, 2, 3, 4] [0, 5, 6, 7, 8] rfl rfl (by decide) (by decide) (fun _ H locs hw hP hD hS => ?_)
  have hP : va_P D vwCl [(ka, .inl (dN, 1, .inl (lf [0]))), (x2, .inr (0, [.ref u2.1, .ref u2.2.1, .ref u2.2.2])), (u2.1, .inl (dB, 32, .inl (b8 KF))), (u2.2.1, .inl (dB, 8, .inl (b8 BF))), (u2.2.2, .inl (dB, 8, .inl (b8 (crypt false (sc KF) BF z8)))), (x1, .inr (0, [.ref u1.1, .ref u1.2.1, .ref u1.2.2])), (u1.1, .inl (dB, 32, .inl (b8 KF))), (u1.2.1, .inl (dB, 8, .inl (b8 (crypt true (sc KF) BF z8)))), (u1.2.2, .inl (dB, 8, .inl (b8 (crypt true (sc KF) BF z8))))] H := hP
  have hD : va_D A [(ka, .inl (dN, 1, .inl (lf [0]))), (x2, .inr (0, [.ref u2.1, .ref u2.2.1, .ref u2.2.2])), (u2.1, .inl (dB, 32, .inl (b8 KF))), (u2.2.1, .inl (dB, 8, .inl (b8 BF))), (u2.2.2, .inl (dB, 8, .inl (b8 (crypt false (sc KF) BF z8)))), (x1, .inr (0, [.ref u1.1, .ref u1.2.1, .ref u1.2.2])), (u1.1, .inl (dB, 32, .inl (b8 KF))), (u1.2.1, .inl (dB, 8, .inl (b8 (crypt true (sc KF) BF z8)))), (u1.2.2, .inl (dB, 8, .inl (b8 (crypt true (sc KF) BF z8))))] := hD
  refine lv_aload hx hb dL_law_67 (lv_at hl 1 rfl) ?_
  refine lv_iload hx hb dL_law_69 (lv_at hl 2 rfl) ?_
  refine rc_callv (wr := [(ka, .inl (dN, 1, .inl (lf [0]))), (x2, .inr (0, [.ref u2.1, .ref u2.2.1, .ref u2.2.2])), (u2.1, .inl (dB, 32, .inl (b8 KF))), (u2.2.1, .inl (dB, 8, .inl (b8 BF))), (u2.2.2, .inl (dB, 8, .inl (b8 (crypt false (sc KF) BF z8))))]) (va_runV (As := [.int 0]) (rest := []) ⟨hx, hb, hml, hown, hts⟩ (met_open1 l D dB dN x1 u1.1 u1.2.1 u1.2.2 KF (crypt true (sc KF) BF z8) (crypt true (sc KF) BF z8) 0 H.size) (cwV 1 hts (lw_V q197 q198 q199 q10 q200) rfl rfl rfl (by decide +kernel) ⟨Nat.le_of_ble_eq_true rfl, Nat.le_of_ble_eq_true rfl⟩) (wM_V (ci := 0) (q0 := 5) hP hK hD [5, 6, 7, 8] rfl (by decide) rfl rfl) rfl rfl hl.1 rfl (lv_room (Nat.le_of_ble_eq_true rfl)) dL_law_71 ⟨Nat.le_of_ble_eq_true rfl, Nat.le_of_ble_eq_true rfl⟩) hP hD hS hA [5, 6, 7, 8] [0, 1, 2, 3, 4] rfl rfl (by decide) (by decide) (fun _ H locs hw hP hD hS => ?_)
  have hP : va_P D vwCl [(ka, .inl (dN, 1, .inl (lf [0]))), (x2, .inr (0, [.ref u2.1, .ref u2.2.1, .ref u2.2.2])), (u2.1, .inl (dB, 32, .inl (b8 KF))), (u2.2.1, .inl (dB, 8, .inl (b8 BF))), (u2.2.2, .inl (dB, 8, .inl (b8 (crypt false (sc KF) BF z8)))), (x1, .inr (0, [.ref u1.1, .ref u1.2.1, .ref u1.2.2])), (u1.1, .inl (dB, 32, .inl (b8 KF))), (u1.2.1, .inl (dB, 8, .inl (b8 (crypt true (sc KF) BF z8)))), (u1.2.2, .inl (dB, 8, .inl (b8 (crypt false (sc KF) (crypt true (sc KF) BF z8) (crypt true (sc KF) BF z8)))))] H := hP
  have hD : va_D A [(ka, .inl (dN, 1, .inl (lf [0]))), (x2, .inr (0, [.ref u2.1, .ref u2.2.1, .ref u2.2.2])), (u2.1, .inl (dB, 32, .inl (b8 KF))), (u2.2.1, .inl (dB, 8, .inl (b8 BF))), (u2.2.2, .inl (dB, 8, .inl (b8 (crypt false (sc KF) BF z8)))), (x1, .inr (0, [.ref u1.1, .ref u1.2.1, .ref u1.2.2])), (u1.1, .inl (dB, 32, .inl (b8 KF))), (u1.2.1, .inl (dB, 8, .inl (b8 (crypt true (sc KF) BF z8)))), (u1.2.2, .inl (dB, 8, .inl (b8 (crypt false (sc KF) (crypt true (sc KF) BF z8) (crypt true (sc KF) BF z8)))))] := hD
  refine lv_aload hx hb dL_law_74 (lv_at hl 0 rfl) ?_
  refine rc_callv (wr := [(ka, .inl (dN, 1, .inl (lf [0]))), (x1, .inr (0, [.ref u1.1, .ref u1.2.1, .ref u1.2.2])), (u1.1, .inl (dB, 32, .inl (b8 KF))), (u1.2.1, .inl (dB, 8, .inl (b8 (crypt true (sc KF) BF z8)))), (u1.2.2, .inl (dB, 8, .inl (b8 (crypt false (sc KF) (crypt true (sc KF) BF z8) (crypt true (sc KF) BF z8)))))]) (va_runV (As := []) (rest := []) ⟨hx, hb, hml, hown, hts⟩ (met_again l D dB dN x2 u2.1 u2.2.1 u2.2.2 KF BF (crypt false (sc KF) BF z8) H.size) (cwV 0 hts (lw_V q201 q202 q203 q10 q204) rfl rfl rfl (by decide +kernel) ⟨Nat.le_of_ble_eq_true rfl, Nat.le_of_ble_eq_true rfl⟩) (wM_V (ci := 0) (q0 := 1) hP hK hD [1, 2, 3, 4] rfl (by decide) rfl rfl) rfl rfl hl.1 rfl (lv_room (Nat.le_of_ble_eq_true rfl)) dL_law_76 ⟨Nat.le_of_ble_eq_true rfl, Nat.le_of_ble_eq_true rfl⟩) hP hD hS hA [1, 2, 3, 4] [0, 5, 6, 7, 8] rfl rfl (by decide) (by decide) (fun _ H locs hw hP hD hS => ?_)
  have hP : va_P D vwCl [(ka, .inl (dN, 1, .inl (lf [0]))), (x1, .inr (0, [.ref u1.1, .ref u1.2.1, .ref u1.2.2])), (u1.1, .inl (dB, 32, .inl (b8 KF))), (u1.2.1, .inl (dB, 8, .inl (b8 (crypt true (sc KF) BF z8)))), (u1.2.2, .inl (dB, 8, .inl (b8 (crypt false (sc KF) (crypt true (sc KF) BF z8) (crypt true (sc KF) BF z8))))), (x2, .inr (0, [.ref u2.1, .ref u2.2.1, .ref u2.2.2])), (u2.1, .inl (dB, 32, .inl (b8 KF))), (u2.2.1, .inl (dB, 8, .inl (b8 (crypt false (sc KF) BF z8)))), (u2.2.2, .inl (dB, 8, .inl (b8 (crypt false (sc KF) BF z8))))] H := hP
  have hD : va_D A [(ka, .inl (dN, 1, .inl (lf [0]))), (x1, .inr (0, [.ref u1.1, .ref u1.2.1, .ref u1.2.2])), (u1.1, .inl (dB, 32, .inl (b8 KF))), (u1.2.1, .inl (dB, 8, .inl (b8 (crypt true (sc KF) BF z8)))), (u1.2.2, .inl (dB, 8, .inl (b8 (crypt false (sc KF) (crypt true (sc KF) BF z8) (crypt true (sc KF) BF z8))))), (x2, .inr (0, [.ref u2.1, .ref u2.2.1, .ref u2.2.2])), (u2.1, .inl (dB, 32, .inl (b8 KF))), (u2.2.1, .inl (dB, 8, .inl (b8 (crypt false (sc KF) BF z8)))), (u2.2.2, .inl (dB, 8, .inl (b8 (crypt false (sc KF) BF z8))))] := hD
  refine lv_aload hx hb dL_law_79 (lv_at hl 0 rfl) ?_
  refine lv_iload hx hb dL_law_81 (lv_at hl 2 rfl) ?_
  refine rc_callv (wr := [(ka, .inl (dN, 1, .inl (lf [0]))), (x1, .inr (0, [.ref u1.1, .ref u1.2.1, .ref u1.2.2])), (u1.1, .inl (dB, 32, .inl (b8 KF))), (u1.2.1, .inl (dB, 8, .inl (b8 (crypt true (sc KF) BF z8)))), (u1.2.2, .inl (dB, 8, .inl (b8 (crypt false (sc KF) (crypt true (sc KF) BF z8) (crypt true (sc KF) BF z8)))))]) (va_runV (As := [.int 0]) (rest := []) ⟨hx, hb, hml, hown, hts⟩ (met_lock1 l D dB dN x2 u2.1 u2.2.1 u2.2.2 KF (crypt false (sc KF) BF z8) (crypt false (sc KF) BF z8) 0 H.size) (cwV 1 hts (lw_V q18 q19 q20 q10 q21) rfl rfl rfl (by decide +kernel) ⟨Nat.le_of_ble_eq_true rfl, Nat.le_of_ble_eq_true rfl⟩) (wM_V (ci := 0) (q0 := 5) hP hK hD [5, 6, 7, 8] rfl (by decide) rfl rfl) rfl rfl hl.1 rfl (lv_room (Nat.le_of_ble_eq_true rfl)) dL_law_83 ⟨Nat.le_of_ble_eq_true rfl, Nat.le_of_ble_eq_true rfl⟩) hP hD hS hA [5, 6, 7, 8] [0, 1, 2, 3, 4] rfl rfl (by decide) (by decide) (fun _ H locs hw hP hD hS => ?_)
  have hP : va_P D vwCl [(ka, .inl (dN, 1, .inl (lf [0]))), (x1, .inr (0, [.ref u1.1, .ref u1.2.1, .ref u1.2.2])), (u1.1, .inl (dB, 32, .inl (b8 KF))), (u1.2.1, .inl (dB, 8, .inl (b8 (crypt true (sc KF) BF z8)))), (u1.2.2, .inl (dB, 8, .inl (b8 (crypt false (sc KF) (crypt true (sc KF) BF z8) (crypt true (sc KF) BF z8))))), (x2, .inr (0, [.ref u2.1, .ref u2.2.1, .ref u2.2.2])), (u2.1, .inl (dB, 32, .inl (b8 KF))), (u2.2.1, .inl (dB, 8, .inl (b8 (crypt false (sc KF) BF z8)))), (u2.2.2, .inl (dB, 8, .inl (b8 (crypt true (sc KF) (crypt false (sc KF) BF z8) (crypt false (sc KF) BF z8)))))] H := hP
  have hD : va_D A [(ka, .inl (dN, 1, .inl (lf [0]))), (x1, .inr (0, [.ref u1.1, .ref u1.2.1, .ref u1.2.2])), (u1.1, .inl (dB, 32, .inl (b8 KF))), (u1.2.1, .inl (dB, 8, .inl (b8 (crypt true (sc KF) BF z8)))), (u1.2.2, .inl (dB, 8, .inl (b8 (crypt false (sc KF) (crypt true (sc KF) BF z8) (crypt true (sc KF) BF z8))))), (x2, .inr (0, [.ref u2.1, .ref u2.2.1, .ref u2.2.2])), (u2.1, .inl (dB, 32, .inl (b8 KF))), (u2.2.1, .inl (dB, 8, .inl (b8 (crypt false (sc KF) BF z8)))), (u2.2.2, .inl (dB, 8, .inl (b8 (crypt true (sc KF) (crypt false (sc KF) BF z8) (crypt false (sc KF) BF z8)))))] := hD
  have hX9 := hX.kept (hS.2.1 b hbl hbA)
  have hw1 : ∀ j, j < 8 → ((crypt false (sc KF) (crypt true (sc KF) BF z8) (crypt true (sc KF) BF z8)) j).toInt32 &&& 255 = want (cl xs L 8) (cl xs L 9) j := fun j hj => by rw [show (crypt false (sc KF) (crypt true (sc KF) BF z8) (crypt true (sc KF) BF z8)) j = BF j from round_trip true (sc KF) BF z8 _ hj, hBF]; exact blk_want _ _ _ hj
  have hw2 : ∀ j, j < 8 → ((crypt true (sc KF) (crypt false (sc KF) BF z8) (crypt false (sc KF) BF z8)) j).toInt32 &&& 255 = want (cl xs L 8) (cl xs L 9) j := fun j hj => by rw [show (crypt true (sc KF) (crypt false (sc KF) BF z8) (crypt false (sc KF) BF z8)) j = BF j from round_trip false (sc KF) BF z8 _ hj, hBF]; exact blk_want _ _ _ hj
  refine lv_aload hx hb dL_law_86 (lv_at hl 1 rfl) ?_
  refine lv_aload_n hx hb dL_law_88 rfl (lv_at hl 7 rfl) ?_
  refine vp_callSi (W.runS (As := [.ref x1, .ref b]) (rest := []) ⟨hx, hb, hml, hown, hts⟩ (met_same l D dB dN x1 u1.1 u1.2.1 u1.2.2 KF (crypt true (sc KF) BF z8) (crypt false (sc KF) (crypt true (sc KF) BF z8) (crypt true (sc KF) BF z8)) b L xs hL hw1) (va_cwS 2 hts (lw_S q237 q238 q9 q239) rfl rfl rfl (by decide +kernel) ⟨Nat.le_of_ble_eq_true rfl, Nat.le_of_ble_eq_true rfl⟩) (wSX_S hP hK hX9 [1, 2, 3, 4] rfl) rfl rfl hl.1 rfl (lv_room (Nat.le_of_ble_eq_true rfl)) dL_law_89 ⟨Nat.le_of_ble_eq_true rfl, Nat.le_of_ble_eq_true rfl⟩) (fun r1 er1 => ?_)
  refine lv_if_eq (tgt := 104) hx hb dL_law_92 (by decide) (fun h => absurd (er1.symm.trans h) (by decide)) (fun _ => ?_)
  refine lv_aload hx hb dL_law_95 (lv_at hl 0 rfl) ?_
  refine lv_aload_n hx hb dL_law_97 rfl (lv_at hl 7 rfl) ?_
  refine vp_callSi (W.runS (As := [.ref x2, .ref b]) (rest := []) ⟨hx, hb, hml, hown, hts⟩ (met_same l D dB dN x2 u2.1 u2.2.1 u2.2.2 KF (crypt false (sc KF) BF z8) (crypt true (sc KF) (crypt false (sc KF) BF z8) (crypt false (sc KF) BF z8)) b L xs hL hw2) (va_cwS 2 hts (lw_S q237 q238 q9 q239) rfl rfl rfl (by decide +kernel) ⟨Nat.le_of_ble_eq_true rfl, Nat.le_of_ble_eq_true rfl⟩) (wSX_S hP hK hX9 [5, 6, 7, 8] rfl) rfl rfl hl.1 rfl (lv_room (Nat.le_of_ble_eq_true rfl)) dL_law_98 ⟨Nat.le_of_ble_eq_true rfl, Nat.le_of_ble_eq_true rfl⟩) (fun r2 er2 => ?_)
  refine lv_if_ne (tgt := 106) hx hb dL_law_101 (by decide) (fun _ => ?_) (fun h => absurd (er2.symm.trans h) (by decide))
  refine lv_iinc (v := (nI 1)) (lv' := [(4, .int (nI 1)), (7, .ref x2), (6, .ref x1), (5, .int 0), (3, .int (nI 1)), (2, .ref ka), (1, .ref ka), (0, .ref b)]) hx hb dL_law_106 hl (k := 3) rfl rfl (by decide) rfl (fun ls hl => ?_)
  refine lv_goto (tgt := 24) hx hb dL_law_109 (by decide) ?_
  refine lv_iload hx hb dL_law_24 (lv_at hl 0 rfl) ?_
  refine lv_iload_n hx hb dL_law_26 rfl (lv_at hl 4 rfl) ?_
  refine rc_ge (tgt := 112) 1 1 rfl rfl (by omega) (by omega) hx hb dL_law_27 (by decide) (fun _ => ?_) (fun h => absurd h (by omega))
  refine lv_iconst (v := 1) hx hb dL_law_112 (by decide +kernel) ?_
  refine va_forget (fun q hq => by have h := hS.2.2 q hq; rw [hAe] at h; exact h) ?_
  refine W.widen (k := 615013) (n := 7257088) (Nat.le_of_ble_eq_true rfl) (Nat.le_of_ble_eq_true rfl) ?_
  exact lw_ret hx hb hr hlocks dL_law_113
set_option maxHeartbeats 4000000 in
theorem lw_walk (l : Launch) (hflags : l.flags = flags0) (b : Addr) (xs : List Int32) : MetFree l x (headSpec (Jvm.Cond.code x code maxLocals ret :: tables_1) room_1) (lw_P b xs) (fun _ _ _ _ _ => True) lw_Q := by
  refine MetFree.of_bodyS (code := code) (maxLocals := maxLocals) (ret := ret) (by decide) ?_ ?_
  · intro args s m h hn
    obtain ⟨meth, c, h1, h2, h3, h4, h5, h6, -, -⟩ := Cond.code_spec hn (atoms_spec (ws := Jvm.Cond.code x code maxLocals ret :: tables_1) h _ List.mem_cons_self)
    exact ⟨meth, c, h1, h2, h3, h4, h5, h6⟩
  · intro p e s m args below meth c s₁ B hml0 hP _
    obtain ⟨rfl, hx, hbd, hgv⟩ := hP
    obtain ⟨scr, harrAt, hlist, hof, hsmall⟩ := hx
    obtain ⟨hcb, hkn, -, -⟩ := State.arrayAt?_spec harrAt
    have hown : s.vm.findClass R_law = some m.cls := findClass_of_methodNamed B.named
    have hts0 : ∀ c ∈ (Jvm.Cond.code x code maxLocals ret :: tables_1), c.before #[Value.ref b] s = true := atoms_spec (ws := Jvm.Cond.code x code maxLocals ret :: tables_1) B.pre
    have hts : ∀ w ∈ lw_tbl, w.before #[Value.ref b] s = true := k2_hts_sels lw_privs (fun w hw => hts0 w (List.mem_cons_of_mem _ hw)) lw_privs_ok
    have hml : c.maxLocals = 8 := B.maxLocals_eq (hts0 _ List.mem_cons_self)
    have X₀ : Stand p l e room_1 s m #[Value.ref b] below meth c s₁ [] 0 0 := Stand.of_body B
    have hh0 : s₁.heap = s.heap := by rw [B.state]; rfl
    have hsz : scr.slots.size = xs.length := by rw [← Array.length_toList, hlist, List.length_map]
    have hval : ∀ j : Nat, j < xs.length → scr.slots[j]? = some (.int (xs.getD j 0)) := fun j hj => by
      rw [← Array.getElem?_toList, hlist]
      simp [hj]
    have hbl : b < s.heap.size := (Array.getElem?_eq_some_iff.mp hcb).1
    have hX : va_X b xs.length (fun j => xs.getD j 0) s s.heap := ⟨scr, hcb, hof, hkn, hsz, hval⟩
    have K : W p l e room_1 s m #[Value.ref b] below meth c s₁.heap [] 0 0 (lw_Z below #[Value.ref b] s) (entryFrame m ([Value.ref b] : List Value).toArray 8) := by
      rw [hh0]
      exact whole_start l hflags hbd ⟨B.exec, B.bytes, B.returns, hml, hown, hts, hX, hbl, B.notSynchronized, hgv⟩
    obtain ⟨t, a1, o, b1, b2, b3⟩ := K s₁ rfl X₀
    exact ⟨t, o, a1, b1, b2, b3⟩
theorem lw_pre_spec {args : Array Value} {s : State} (h : (Jvm.Cond.and given_1 narrow_1).before args s = true) (hr : rest_1_c.before args s = true) : ∃ (b : Addr) (xs : List Int32), lw_P b xs args s := by
  have hs := flat_of_before _ h
  have hq := flat_of_before _ hr
  have hc : (Cond.count 1).before args s = true := hs _ (by decide +kernel)
  have harr : (Cond.arrayOf (.arg 0) .int).before args s = true := hs _ (by decide +kernel)
  have hle : (Cond.le (.length (.arg 0)) (.int 10)).before args s = true := hs _ (by decide +kernel)
  have hlen : (Cond.isInt (.length (.arg 0))).before args s = true := hq _ (by decide +kernel)
  have hall : (Cond.all (.arg 0) (.isInt (.elem (.arg 0) (.index 0)))).before args s = true := hq _ (by decide +kernel)
  obtain ⟨b, xs, hb, hx⟩ := State.ints_of_pre rfl harr hlen hall
  have hsm : xs.length < 2 ^ 31 := hx.choose_spec.2.2.2
  have hev : (Term.length (.arg 0)).eval args s none [] s = some (.int xs.length.toInt32) := hx.length_eval hb
  have hv := Cond.le_ints hev (show (Term.int 10).eval args s none [] s = some (.int 10) from rfl)
  have hd : xs.length.toInt32 ≤ 10 := by
    simpa [Cond.before, Cond.holds, hv] using hle
  have hN : xs.length ≤ 10 := (Int32.ofNat_le_ofNat hsm (by decide)).mp (show Int32.ofNat xs.length ≤ Int32.ofNat 10 from hd)
  exact ⟨b, xs, Cond.one_arg hc (show args[0]? = some (.ref b) from hb), hx, hN, h⟩
theorem lw_comes (l : Launch) (hflags : l.flags = flags0) : Comes l x (Jvm.Cond.code x code maxLocals ret :: tables_1) room_1 (fun tb e args s => Calls_1 tb e args s ∧ rest_1 tb e args s ∧ Pre_1 tb e args s)
    (fun _ _ args s o t => lw_Q args s o t) := by
  intro p e ha hc hk s m args below hf hfit hheap happ hpre
  obtain ⟨b, xs, hP⟩ := lw_pre_spec hpre.2.2 hpre.2.1
  obtain ⟨k, o, h1, h2, h3, hQ⟩ := lw_walk l hflags b xs p e ha hc hk s m args below hf ((Spec.applies_iff_loose hf).mp happ).1 hP trivial
  exact ⟨k, o, h1, h2, h3, hQ⟩
theorem lw_frame {s t : State} {o : Outcome} {args : Array Value} (h : Framed s o t [] 615013 7257088) :
    Framed s o t (fieldLocs frame_1_writes args s ++ arrayLocs frame_1_arrays args s ++ staticLocs frame_1_statics s) 615013 7257088 := h
theorem lw_limb (L : Cond) (hL : ∀ (args : Array Value) (s t : State), L.after args s (.returned (some (.int 1))) t = true) :
    ArmFor flags0 classFile x code maxLocals ret World_1 tables_1 room_1 Calls_1 rest_1 Pre_1
      (fun tb e a s o t => postC L tb e a s o t ∧ Framed s o t (fieldLocs frame_1_writes a s ++ arrayLocs frame_1_arrays a s ++ staticLocs frame_1_statics s) 615013 7257088) := by
  intro l hflags _ _ p e ha hc hk s m args below hf hfit hheap happ hpre
  obtain ⟨k, o, h1, h2, h3, rfl, hF⟩ := lw_comes l hflags p e ha hc hk s m args below hf hfit hheap happ hpre
  exact ⟨k, _, h1, h2, h3, hL args s _, lw_frame hF⟩
theorem i_vc : Claimed_1_1 ∧ Claimed_1_2 := ⟨lw_limb limb_1_1 (fun args s t => by simp [limb_1_1, Cond.after, Cond.holds, Cond.value]), lw_limb limb_1_2 (fun args s t => Cond.after_iff.mpr (by
  first | (rw [show limb_1_2 = Cond.eq .result (.int 1) from rfl, Cond.eq_ints (x := 1) (y := 1) rfl rfl]; simp; done) | (simp [limb_1_2, Cond.value, Term.eval]; done)))⟩
end
