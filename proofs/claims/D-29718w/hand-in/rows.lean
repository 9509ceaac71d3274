section
-- ===== PART A: goes FIRST, ahead of the names: the tables' words, and 'selects' of the private methods out of them =====
/-- a private method of a class that the tables say can be made, by its rows of tables_1 -/
def lw_okq (q : MethodName × Nat) : Prop := (q.1.cls ≠ "java/lang/invoke/MethodHandle" ∧ q.1.cls ≠ "java/lang/invoke/VarHandle") ∧ Cond.instantiable q.1.cls q.2 ∈ tables_1 ∧ Cond.privateMethod q.1 ∈ tables_1 ∧ Cond.instanceMethod q.1 ∈ tables_1
set_option maxRecDepth 100000
theorem lw_t1 {w : Cond} (h : w ∈ tables_1_1) : w ∈ tables_1 := List.mem_append_left _ h
theorem lw_t2 {w : Cond} (h : w ∈ tables_1_2) : w ∈ tables_1 := List.mem_append_right _ h
theorem lw_p0 : lw_okq (⟨"RcSixDesk", "run", "(ZI)V"⟩, 3) := ⟨⟨by decide +kernel, by decide +kernel⟩, lw_t1 (List.mem_of_getElem? (i := 20) rfl), lw_t1 (List.mem_of_getElem? (i := 18) rfl), lw_t1 (List.mem_of_getElem? (i := 19) rfl)⟩
theorem lw_p1 : lw_okq (⟨"java/lang/Throwable", "fillInStackTrace", "(I)Ljava/lang/Throwable;"⟩, 6) := ⟨⟨by decide +kernel, by decide +kernel⟩, lw_t1 (List.mem_of_getElem? (i := 111) rfl), lw_t1 (List.mem_of_getElem? (i := 109) rfl), lw_t1 (List.mem_of_getElem? (i := 110) rfl)⟩
theorem lw_p2 : lw_okq (⟨"RC6Engine", "setKey", "([B)V"⟩, 2) := ⟨⟨by decide +kernel, by decide +kernel⟩, lw_t1 (List.mem_of_getElem? (i := 26) rfl), lw_t1 (List.mem_of_getElem? (i := 144) rfl), lw_t1 (List.mem_of_getElem? (i := 145) rfl)⟩
theorem lw_p3 : lw_okq (⟨"RC6Engine", "rotateLeft", "(II)I"⟩, 2) := ⟨⟨by decide +kernel, by decide +kernel⟩, lw_t1 (List.mem_of_getElem? (i := 26) rfl), lw_t1 (List.mem_of_getElem? (i := 150) rfl), lw_t1 (List.mem_of_getElem? (i := 151) rfl)⟩
theorem lw_p4 : lw_okq (⟨"RC6Engine", "encryptBlock", "([BI[BI)I"⟩, 2) := ⟨⟨by decide +kernel, by decide +kernel⟩, lw_t1 (List.mem_of_getElem? (i := 26) rfl), lw_t1 (List.mem_of_getElem? (i := 221) rfl), lw_t1 (List.mem_of_getElem? (i := 222) rfl)⟩
theorem lw_p5 : lw_okq (⟨"RC6Engine", "bytesToWord", "([BI)I"⟩, 2) := ⟨⟨by decide +kernel, by decide +kernel⟩, lw_t1 (List.mem_of_getElem? (i := 26) rfl), lw_t1 (List.mem_of_getElem? (i := 225) rfl), lw_t1 (List.mem_of_getElem? (i := 226) rfl)⟩
theorem lw_p6 : lw_okq (⟨"RC6Engine", "wordToBytes", "(I[BI)V"⟩, 2) := ⟨⟨by decide +kernel, by decide +kernel⟩, lw_t1 (List.mem_of_getElem? (i := 26) rfl), lw_t1 (List.mem_of_getElem? (i := 229) rfl), lw_t1 (List.mem_of_getElem? (i := 230) rfl)⟩
theorem lw_p7 : lw_okq (⟨"RC6Engine", "decryptBlock", "([BI[BI)I"⟩, 2) := ⟨⟨by decide +kernel, by decide +kernel⟩, lw_t1 (List.mem_of_getElem? (i := 26) rfl), lw_t1 (List.mem_of_getElem? (i := 233) rfl), lw_t1 (List.mem_of_getElem? (i := 234) rfl)⟩
theorem lw_p8 : lw_okq (⟨"RC6Engine", "rotateRight", "(II)I"⟩, 2) := ⟨⟨by decide +kernel, by decide +kernel⟩, lw_t1 (List.mem_of_getElem? (i := 26) rfl), lw_t1 (List.mem_of_getElem? (i := 237) rfl), lw_t1 (List.mem_of_getElem? (i := 238) rfl)⟩
def lw_privs_1 : List (MethodName × Nat) := [(⟨"RcSixDesk", "run", "(ZI)V"⟩, 3), (⟨"java/lang/Throwable", "fillInStackTrace", "(I)Ljava/lang/Throwable;"⟩, 6), (⟨"RC6Engine", "setKey", "([B)V"⟩, 2), (⟨"RC6Engine", "rotateLeft", "(II)I"⟩, 2), (⟨"RC6Engine", "encryptBlock", "([BI[BI)I"⟩, 2), (⟨"RC6Engine", "bytesToWord", "([BI)I"⟩, 2), (⟨"RC6Engine", "wordToBytes", "(I[BI)V"⟩, 2), (⟨"RC6Engine", "decryptBlock", "([BI[BI)I"⟩, 2), (⟨"RC6Engine", "rotateRight", "(II)I"⟩, 2)]
theorem lw_r1 : ∀ q ∈ lw_privs_1, lw_okq q := List.forall_mem_cons.mpr ⟨lw_p0, List.forall_mem_cons.mpr ⟨lw_p1, List.forall_mem_cons.mpr ⟨lw_p2, List.forall_mem_cons.mpr ⟨lw_p3, List.forall_mem_cons.mpr ⟨lw_p4, List.forall_mem_cons.mpr ⟨lw_p5, List.forall_mem_cons.mpr ⟨lw_p6, List.forall_mem_cons.mpr ⟨lw_p7, List.forall_mem_cons.mpr ⟨lw_p8, fun _ h => absurd h List.not_mem_nil⟩⟩⟩⟩⟩⟩⟩⟩⟩
def lw_privs : List (MethodName × Nat) := lw_privs_1
def lw_tbl : List Cond := k2_sels lw_privs ++ tables_1
theorem lw_privs_ok : ∀ q ∈ lw_privs, lw_okq q := lw_r1
-- ===== ONE list of words for every method: the tables' words that hold all through a run =====
def lw_all : List Cond := lw_tbl.filter goodWord
/-- a word of the tables by its place: claim/WORDS.tsv -/
theorem lw_w {w : Cond} (i : Nat) (h : lw_tbl[i]? = some w) (g : goodWord w = true) : w ∈ lw_all := List.mem_filter.mpr ⟨List.mem_of_getElem? h, g⟩
theorem lw_all_tbl {w : Cond} (h : w ∈ lw_all) : w ∈ lw_tbl := (List.mem_filter.mp h).1
theorem lw_self : GoodIn lw_all lw_all := fun w h => ⟨h, good_of_word (List.mem_filter.mp h).2⟩
/-- a class's field words, by their places -/
theorem lw_in (ws : List Cond) (ps : List Nat) (hp : ws = ps.filterMap (fun i => lw_tbl[i]?)) (hg : ws.all goodWord = true) : ∀ w ∈ ws, w ∈ lw_all := by
  intro w h
  have h1 := List.all_eq_true.mp hg w h
  rw [hp] at h
  obtain ⟨i, -, hi⟩ := List.mem_filterMap.mp h
  exact lw_w i hi h1
/-- the words of a contract for the method y with code b, L locals, answer r -/
abbrev ws_ (y : MethodName) (b : ByteArray) (L : Nat) (r : Option FieldType) : List Cond := Cond.code y b L r :: lw_all
theorem lw_meth {y : MethodName} {b : ByteArray} {L : Nat} {r : Option FieldType} (h : Cond.code y b L r ∈ lw_all) : GoodIn lw_all (ws_ y b L r) := by
  intro w hw
  rcases List.mem_cons.mp hw with e | e
  · rw [e]
    exact lw_self _ h
  · exact lw_self _ e
theorem lw_app {a c : List Cond} (ha : ∀ w ∈ a, w ∈ lw_all) (hc : GoodIn lw_all c) : GoodIn lw_all (a ++ c) := by
  intro w hw
  rcases List.mem_append.mp hw with e | e
  · exact lw_self w (ha w e)
  · exact hc w e
/-- what a call through an object asks: cwV n hts (lw_V ..) -/
theorem lw_V {own : String} {idx : Nat} {C : String} {y : MethodName} {b : ByteArray} {L : Nat} {r : Option FieldType} (h1 : Cond.methodLink own idx y ∈ lw_all) (h2 : Cond.instanceMethod y ∈ lw_all) (h3 : Cond.selects C y y ∈ lw_all) (h4 : Cond.initialized C ∈ lw_all) (h5 : Cond.code y b L r ∈ lw_all) : GoodIn lw_all (wsV own idx C y (ws_ y b L r)) := by
  refine lw_app ?_ (lw_meth h5)
  intro w hw
  simp only [List.mem_cons, List.not_mem_nil, or_false] at hw
  rcases hw with e | e | e | e
  · rw [e]; exact h1
  · rw [e]; exact h2
  · rw [e]; exact h3
  · rw [e]; exact h4
/-- what a static call asks: va_cwS n hts (lw_S ..) -/
theorem lw_S {own : String} {idx : Nat} {y : MethodName} {b : ByteArray} {L : Nat} {r : Option FieldType} (h1 : Cond.methodLink own idx y ∈ lw_all) (h2 : Cond.static y ∈ lw_all) (h3 : Cond.initialized y.cls ∈ lw_all) (h4 : Cond.code y b L r ∈ lw_all) : GoodIn lw_all (va_wsS own idx y (ws_ y b L r)) := by
  refine lw_app ?_ (lw_meth h4)
  intro w hw
  simp only [List.mem_cons, List.not_mem_nil, or_false] at hw
  rcases hw with e | e | e
  · rw [e]; exact h1
  · rw [e]; exact h2
  · rw [e]; exact h3
/-- the words of a contract for a method WITH HANDLERS (hh: its table) -/
abbrev wsW_ (y : MethodName) (b : ByteArray) (L : Nat) (r : Option FieldType) (hh : List (Nat × Nat × Nat × Nat)) : List Cond := Cond.codeWith y b L r hh :: lw_all
theorem lw_methW {y : MethodName} {b : ByteArray} {L : Nat} {r : Option FieldType} {hh : List (Nat × Nat × Nat × Nat)} (h : Cond.codeWith y b L r hh ∈ lw_all) : GoodIn lw_all (wsW_ y b L r hh) := by
  intro w hw
  rcases List.mem_cons.mp hw with e | e
  · rw [e]
    exact lw_self _ h
  · exact lw_self _ e
/-- any list of words by their places (lw_in), good -/
theorem lw_good {ws : List Cond} (h : ∀ w ∈ ws, w ∈ lw_all) : GoodIn lw_all ws := fun w hw => lw_self w (h w hw)
/-- what a call of a method with handlers asks: vx_cwVW n hts (lw_VW ..), vx_cwSW n hts (lw_SW ..) -/
theorem lw_VW {own : String} {idx : Nat} {C : String} {y : MethodName} {b : ByteArray} {L : Nat} {r : Option FieldType} {hh : List (Nat × Nat × Nat × Nat)} (h1 : Cond.methodLink own idx y ∈ lw_all) (h2 : Cond.instanceMethod y ∈ lw_all) (h3 : Cond.selects C y y ∈ lw_all) (h4 : Cond.initialized C ∈ lw_all) (h5 : Cond.codeWith y b L r hh ∈ lw_all) : GoodIn lw_all (wsV own idx C y (wsW_ y b L r hh)) := by
  refine lw_app ?_ (lw_methW h5)
  intro w hw
  simp only [List.mem_cons, List.not_mem_nil, or_false] at hw
  rcases hw with e | e | e | e
  · rw [e]; exact h1
  · rw [e]; exact h2
  · rw [e]; exact h3
  · rw [e]; exact h4
theorem lw_SW {own : String} {idx : Nat} {y : MethodName} {b : ByteArray} {L : Nat} {r : Option FieldType} {hh : List (Nat × Nat × Nat × Nat)} (h1 : Cond.methodLink own idx y ∈ lw_all) (h2 : Cond.static y ∈ lw_all) (h3 : Cond.initialized y.cls ∈ lw_all) (h4 : Cond.codeWith y b L r hh ∈ lw_all) : GoodIn lw_all (va_wsS own idx y (wsW_ y b L r hh)) := by
  refine lw_app ?_ (lw_methW h4)
  intro w hw
  simp only [List.mem_cons, List.not_mem_nil, or_false] at hw
  rcases hw with e | e | e
  · rw [e]; exact h1
  · rw [e]; exact h2
  · rw [e]; exact h3
/-- a word by its place in its run of the tables -/
theorem lw_at {r : List Cond} (hr : ∀ w ∈ r, w ∈ lw_tbl) {w : Cond} (i : Nat) (h : r[i]? = some w) : w ∈ lw_tbl := hr w (List.mem_of_getElem? h)
theorem lw_g {w : Cond} (h : w ∈ lw_tbl) (g : goodWord w = true) : w ∈ lw_all := List.mem_filter.mpr ⟨h, g⟩
theorem lw_ms : ∀ w ∈ k2_sels lw_privs, w ∈ lw_tbl := fun w h => show w ∈ k2_sels lw_privs ++ tables_1 from List.mem_append_left _ h
theorem lw_m1 : ∀ w ∈ tables_1_1, w ∈ lw_tbl := fun w h => show w ∈ k2_sels lw_privs ++ tables_1 from List.mem_append_right (k2_sels lw_privs) (show w ∈ tables_1 from List.mem_append_left _ h)
theorem lw_m2 : ∀ w ∈ tables_1_2, w ∈ lw_tbl := fun w h => show w ∈ k2_sels lw_privs ++ tables_1 from List.mem_append_right (k2_sels lw_privs) (show w ∈ tables_1 from List.mem_append_right _ h)
theorem qs0 : (Cond.selects "RcSixDesk" ⟨"RcSixDesk", "run", "(ZI)V"⟩ ⟨"RcSixDesk", "run", "(ZI)V"⟩) ∈ lw_all := lw_g (lw_at lw_ms 0 rfl) rfl
theorem qs1 : (Cond.selects "java/lang/Throwable" ⟨"java/lang/Throwable", "fillInStackTrace", "(I)Ljava/lang/Throwable;"⟩ ⟨"java/lang/Throwable", "fillInStackTrace", "(I)Ljava/lang/Throwable;"⟩) ∈ lw_all := lw_g (lw_at lw_ms 1 rfl) rfl
theorem qs2 : (Cond.selects "RC6Engine" ⟨"RC6Engine", "setKey", "([B)V"⟩ ⟨"RC6Engine", "setKey", "([B)V"⟩) ∈ lw_all := lw_g (lw_at lw_ms 2 rfl) rfl
theorem qs3 : (Cond.selects "RC6Engine" ⟨"RC6Engine", "rotateLeft", "(II)I"⟩ ⟨"RC6Engine", "rotateLeft", "(II)I"⟩) ∈ lw_all := lw_g (lw_at lw_ms 3 rfl) rfl
theorem qs4 : (Cond.selects "RC6Engine" ⟨"RC6Engine", "encryptBlock", "([BI[BI)I"⟩ ⟨"RC6Engine", "encryptBlock", "([BI[BI)I"⟩) ∈ lw_all := lw_g (lw_at lw_ms 4 rfl) rfl
theorem qs5 : (Cond.selects "RC6Engine" ⟨"RC6Engine", "bytesToWord", "([BI)I"⟩ ⟨"RC6Engine", "bytesToWord", "([BI)I"⟩) ∈ lw_all := lw_g (lw_at lw_ms 5 rfl) rfl
theorem qs6 : (Cond.selects "RC6Engine" ⟨"RC6Engine", "wordToBytes", "(I[BI)V"⟩ ⟨"RC6Engine", "wordToBytes", "(I[BI)V"⟩) ∈ lw_all := lw_g (lw_at lw_ms 6 rfl) rfl
theorem qs7 : (Cond.selects "RC6Engine" ⟨"RC6Engine", "decryptBlock", "([BI[BI)I"⟩ ⟨"RC6Engine", "decryptBlock", "([BI[BI)I"⟩) ∈ lw_all := lw_g (lw_at lw_ms 7 rfl) rfl
theorem qs8 : (Cond.selects "RC6Engine" ⟨"RC6Engine", "rotateRight", "(II)I"⟩ ⟨"RC6Engine", "rotateRight", "(II)I"⟩) ∈ lw_all := lw_g (lw_at lw_ms 8 rfl) rfl
end
section
/-! DECODE ROWS BY BYTES: one lemma an opcode; a method's code is cut into short pieces once, and a row reads its own piece alone. -/
set_option maxRecDepth 100000
/-- the code has just these bytes from pc on -/
def DkAt (code : ByteArray) (pc : Nat) (bs : List UInt8) : Prop := ∀ (j : Nat) (b : UInt8), bs[j]? = some b → code.data.toList[pc + j]? = some b
/-- the piece W has the bytes bs from its place j on -/
def dkIn (W : List UInt8) (j : Nat) (bs : List UInt8) : Bool := decide ((W.drop j).take bs.length = bs)
theorem dk_seg {l W T : List UInt8} {o o2 : Nat} (h : l.drop o = W ++ T) (n : Nat) (hn : W.length = n) (ho : o + n = o2) : l.drop o2 = T := by
  subst ho
  rw [← List.drop_drop, h, List.drop_left' hn]
theorem dk_at {code : ByteArray} {W T bs : List UInt8} {o pc : Nat} (h : code.data.toList.drop o = W ++ T) (j : Nat) (hp : o + j = pc) (hw : dkIn W j bs = true) : DkAt code pc bs := by
  subst hp
  intro i b e
  have h1 := of_decide_eq_true hw
  have h2 : i < bs.length := (List.getElem?_eq_some_iff.mp e).1
  have h3 : W[j + i]? = some b := by
    rw [← h1, List.getElem?_take, if_pos h2, List.getElem?_drop] at e
    exact e
  have h4 : j + i < W.length := (List.getElem?_eq_some_iff.mp h3).1
  have h5 : (code.data.toList.drop o)[j + i]? = some b := by
    rw [h, List.getElem?_append_left h4]
    exact h3
  rw [List.getElem?_drop, ← Nat.add_assoc] at h5
  exact h5
theorem dk_u1 {A : ByteArray} {p : Nat} {b : UInt8} (h : A.data.toList[p]? = some b) : (Reader.u1 : Reader DecodeError Nat) A p = .ok (b.toNat, p + 1) := by
  obtain ⟨h1, h2⟩ := List.getElem?_eq_some_iff.mp h
  have h3 : p < A.size := by simpa using h1
  have h4 : A[p]'h3 = b := h2
  have e : (Reader.u1 : Reader DecodeError Nat) A p = (if h : p < A.size then .ok (A[p].toNat, p + 1) else .error (HasTruncated.truncated p)) := by
    show (do if h : p < A.size then do set (p + 1); Pure.pure A[p].toNat else MonadExcept.throw (HasTruncated.truncated p) : Reader DecodeError Nat) A p = _
    by_cases hi : p < A.size
    · rw [dif_pos hi, dif_pos hi]; rfl
    · rw [dif_neg hi, dif_neg hi]; rfl
  rw [e, dif_pos h3, h4]
theorem dk_bind {α β : Type} {r : Reader DecodeError α} {f : α → Reader DecodeError β} {A : ByteArray} {p s : Nat} {a : α} (h : r A p = .ok (a, s)) : (r >>= f) A p = f a A s := by
  show (do let (a, s) ← r A p; f a A s : Except DecodeError (β × Nat)) = _
  rw [h]
  rfl
theorem dk_map {α β : Type} {r : Reader DecodeError α} {g : α → β} {A : ByteArray} {p s : Nat} {a : α} (h : r A p = .ok (a, s)) : (g <$> r) A p = .ok (g a, s) := by
  show (do let (a, s) ← r A p; .ok (g a, s) : Except DecodeError (β × Nat)) = _
  rw [h]
  rfl
theorem dk_u2 {A : ByteArray} {p : Nat} {a b : UInt8} (h : A.data.toList[p]? = some a) (h2 : A.data.toList[p + 1]? = some b) : (Reader.u2 : Reader DecodeError Nat) A p = .ok (a.toNat * 256 + b.toNat, p + 2) := by
  show (Reader.u1 >>= fun hi => Reader.u1 >>= fun lo => Pure.pure (hi * 256 + lo) : Reader DecodeError Nat) A p = _
  rw [dk_bind (dk_u1 h), dk_bind (dk_u1 h2)]
  rfl
theorem dk_of {code : ByteArray} {pc n : Nat} {i : Instr} (h : Decoder.instr pc code pc = .ok (i, pc + n)) : decode code pc = .ok (i, n) := by
  have e : decode code pc = (match Decoder.instr pc code pc with | .error x => .error x | .ok (j, s) => .ok (j, s - pc)) := by
    show (do let (j, s) ← Decoder.instr pc code pc; Pure.pure (j, s - pc) : Except DecodeError (Instr × Nat)) = _
    cases Decoder.instr pc code pc <;> rfl
  rw [e, h]
  show Except.ok (i, pc + n - pc) = _
  rw [Nat.add_sub_cancel_left]
theorem dk_1 {code : ByteArray} {pc : Nat} (h : DkAt code pc [1]) : decode code pc = .ok (.aconst_null, 1) := dk_of ((dk_bind (dk_u1 (h 0 _ rfl))).trans rfl)
theorem dk_3 {code : ByteArray} {pc : Nat} (h : DkAt code pc [3]) : decode code pc = .ok (.iconst 0, 1) := dk_of ((dk_bind (dk_u1 (h 0 _ rfl))).trans rfl)
theorem dk_4 {code : ByteArray} {pc : Nat} (h : DkAt code pc [4]) : decode code pc = .ok (.iconst 1, 1) := dk_of ((dk_bind (dk_u1 (h 0 _ rfl))).trans rfl)
theorem dk_5 {code : ByteArray} {pc : Nat} (h : DkAt code pc [5]) : decode code pc = .ok (.iconst 2, 1) := dk_of ((dk_bind (dk_u1 (h 0 _ rfl))).trans rfl)
theorem dk_6 {code : ByteArray} {pc : Nat} (h : DkAt code pc [6]) : decode code pc = .ok (.iconst 3, 1) := dk_of ((dk_bind (dk_u1 (h 0 _ rfl))).trans rfl)
theorem dk_7 {code : ByteArray} {pc : Nat} (h : DkAt code pc [7]) : decode code pc = .ok (.iconst 4, 1) := dk_of ((dk_bind (dk_u1 (h 0 _ rfl))).trans rfl)
theorem dk_8 {code : ByteArray} {pc : Nat} (h : DkAt code pc [8]) : decode code pc = .ok (.iconst 5, 1) := dk_of ((dk_bind (dk_u1 (h 0 _ rfl))).trans rfl)
theorem dk_16 {code : ByteArray} {pc : Nat} (a : UInt8) (h : DkAt code pc [16, a]) : decode code pc = .ok (.bipush (Reader.signed 8 a.toNat), 2) := dk_of ((dk_bind (dk_u1 (h 0 _ rfl))).trans ((dk_bind (dk_map (dk_u1 (h 1 _ rfl)))).trans rfl))
theorem dk_17 {code : ByteArray} {pc : Nat} (a b : UInt8) (h : DkAt code pc [17, a, b]) : decode code pc = .ok (.sipush (Reader.signed 16 (a.toNat * 256 + b.toNat)), 3) := dk_of ((dk_bind (dk_u1 (h 0 _ rfl))).trans ((dk_bind (dk_map (dk_u2 (h 1 _ rfl) (h 2 _ rfl)))).trans rfl))
theorem dk_18 {code : ByteArray} {pc : Nat} (a : UInt8) (h : DkAt code pc [18, a]) : decode code pc = .ok (.ldc a.toNat, 2) := dk_of ((dk_bind (dk_u1 (h 0 _ rfl))).trans ((dk_bind (dk_u1 (h 1 _ rfl))).trans rfl))
theorem dk_21 {code : ByteArray} {pc : Nat} (a : UInt8) (h : DkAt code pc [21, a]) : decode code pc = .ok (.iload a.toNat, 2) := dk_of ((dk_bind (dk_u1 (h 0 _ rfl))).trans ((dk_bind (dk_u1 (h 1 _ rfl))).trans rfl))
theorem dk_25 {code : ByteArray} {pc : Nat} (a : UInt8) (h : DkAt code pc [25, a]) : decode code pc = .ok (.aload a.toNat, 2) := dk_of ((dk_bind (dk_u1 (h 0 _ rfl))).trans ((dk_bind (dk_u1 (h 1 _ rfl))).trans rfl))
theorem dk_26 {code : ByteArray} {pc : Nat} (h : DkAt code pc [26]) : decode code pc = .ok (.iload_n 0, 1) := dk_of ((dk_bind (dk_u1 (h 0 _ rfl))).trans rfl)
theorem dk_27 {code : ByteArray} {pc : Nat} (h : DkAt code pc [27]) : decode code pc = .ok (.iload_n 1, 1) := dk_of ((dk_bind (dk_u1 (h 0 _ rfl))).trans rfl)
theorem dk_28 {code : ByteArray} {pc : Nat} (h : DkAt code pc [28]) : decode code pc = .ok (.iload_n 2, 1) := dk_of ((dk_bind (dk_u1 (h 0 _ rfl))).trans rfl)
theorem dk_29 {code : ByteArray} {pc : Nat} (h : DkAt code pc [29]) : decode code pc = .ok (.iload_n 3, 1) := dk_of ((dk_bind (dk_u1 (h 0 _ rfl))).trans rfl)
theorem dk_42 {code : ByteArray} {pc : Nat} (h : DkAt code pc [42]) : decode code pc = .ok (.aload_n 0, 1) := dk_of ((dk_bind (dk_u1 (h 0 _ rfl))).trans rfl)
theorem dk_43 {code : ByteArray} {pc : Nat} (h : DkAt code pc [43]) : decode code pc = .ok (.aload_n 1, 1) := dk_of ((dk_bind (dk_u1 (h 0 _ rfl))).trans rfl)
theorem dk_44 {code : ByteArray} {pc : Nat} (h : DkAt code pc [44]) : decode code pc = .ok (.aload_n 2, 1) := dk_of ((dk_bind (dk_u1 (h 0 _ rfl))).trans rfl)
theorem dk_45 {code : ByteArray} {pc : Nat} (h : DkAt code pc [45]) : decode code pc = .ok (.aload_n 3, 1) := dk_of ((dk_bind (dk_u1 (h 0 _ rfl))).trans rfl)
theorem dk_46 {code : ByteArray} {pc : Nat} (h : DkAt code pc [46]) : decode code pc = .ok (.iaload, 1) := dk_of ((dk_bind (dk_u1 (h 0 _ rfl))).trans rfl)
theorem dk_51 {code : ByteArray} {pc : Nat} (h : DkAt code pc [51]) : decode code pc = .ok (.baload, 1) := dk_of ((dk_bind (dk_u1 (h 0 _ rfl))).trans rfl)
theorem dk_54 {code : ByteArray} {pc : Nat} (a : UInt8) (h : DkAt code pc [54, a]) : decode code pc = .ok (.istore a.toNat, 2) := dk_of ((dk_bind (dk_u1 (h 0 _ rfl))).trans ((dk_bind (dk_u1 (h 1 _ rfl))).trans rfl))
theorem dk_58 {code : ByteArray} {pc : Nat} (a : UInt8) (h : DkAt code pc [58, a]) : decode code pc = .ok (.astore a.toNat, 2) := dk_of ((dk_bind (dk_u1 (h 0 _ rfl))).trans ((dk_bind (dk_u1 (h 1 _ rfl))).trans rfl))
theorem dk_60 {code : ByteArray} {pc : Nat} (h : DkAt code pc [60]) : decode code pc = .ok (.istore_n 1, 1) := dk_of ((dk_bind (dk_u1 (h 0 _ rfl))).trans rfl)
theorem dk_61 {code : ByteArray} {pc : Nat} (h : DkAt code pc [61]) : decode code pc = .ok (.istore_n 2, 1) := dk_of ((dk_bind (dk_u1 (h 0 _ rfl))).trans rfl)
theorem dk_62 {code : ByteArray} {pc : Nat} (h : DkAt code pc [62]) : decode code pc = .ok (.istore_n 3, 1) := dk_of ((dk_bind (dk_u1 (h 0 _ rfl))).trans rfl)
theorem dk_75 {code : ByteArray} {pc : Nat} (h : DkAt code pc [75]) : decode code pc = .ok (.astore_n 0, 1) := dk_of ((dk_bind (dk_u1 (h 0 _ rfl))).trans rfl)
theorem dk_76 {code : ByteArray} {pc : Nat} (h : DkAt code pc [76]) : decode code pc = .ok (.astore_n 1, 1) := dk_of ((dk_bind (dk_u1 (h 0 _ rfl))).trans rfl)
theorem dk_77 {code : ByteArray} {pc : Nat} (h : DkAt code pc [77]) : decode code pc = .ok (.astore_n 2, 1) := dk_of ((dk_bind (dk_u1 (h 0 _ rfl))).trans rfl)
theorem dk_78 {code : ByteArray} {pc : Nat} (h : DkAt code pc [78]) : decode code pc = .ok (.astore_n 3, 1) := dk_of ((dk_bind (dk_u1 (h 0 _ rfl))).trans rfl)
theorem dk_79 {code : ByteArray} {pc : Nat} (h : DkAt code pc [79]) : decode code pc = .ok (.iastore, 1) := dk_of ((dk_bind (dk_u1 (h 0 _ rfl))).trans rfl)
theorem dk_84 {code : ByteArray} {pc : Nat} (h : DkAt code pc [84]) : decode code pc = .ok (.bastore, 1) := dk_of ((dk_bind (dk_u1 (h 0 _ rfl))).trans rfl)
theorem dk_87 {code : ByteArray} {pc : Nat} (h : DkAt code pc [87]) : decode code pc = .ok (.pop, 1) := dk_of ((dk_bind (dk_u1 (h 0 _ rfl))).trans rfl)
theorem dk_89 {code : ByteArray} {pc : Nat} (h : DkAt code pc [89]) : decode code pc = .ok (.dup, 1) := dk_of ((dk_bind (dk_u1 (h 0 _ rfl))).trans rfl)
theorem dk_91 {code : ByteArray} {pc : Nat} (h : DkAt code pc [91]) : decode code pc = .ok (.dup_x2, 1) := dk_of ((dk_bind (dk_u1 (h 0 _ rfl))).trans rfl)
theorem dk_96 {code : ByteArray} {pc : Nat} (h : DkAt code pc [96]) : decode code pc = .ok (.iadd, 1) := dk_of ((dk_bind (dk_u1 (h 0 _ rfl))).trans rfl)
theorem dk_100 {code : ByteArray} {pc : Nat} (h : DkAt code pc [100]) : decode code pc = .ok (.isub, 1) := dk_of ((dk_bind (dk_u1 (h 0 _ rfl))).trans rfl)
theorem dk_104 {code : ByteArray} {pc : Nat} (h : DkAt code pc [104]) : decode code pc = .ok (.imul, 1) := dk_of ((dk_bind (dk_u1 (h 0 _ rfl))).trans rfl)
theorem dk_108 {code : ByteArray} {pc : Nat} (h : DkAt code pc [108]) : decode code pc = .ok (.idiv, 1) := dk_of ((dk_bind (dk_u1 (h 0 _ rfl))).trans rfl)
theorem dk_112 {code : ByteArray} {pc : Nat} (h : DkAt code pc [112]) : decode code pc = .ok (.irem, 1) := dk_of ((dk_bind (dk_u1 (h 0 _ rfl))).trans rfl)
theorem dk_116 {code : ByteArray} {pc : Nat} (h : DkAt code pc [116]) : decode code pc = .ok (.ineg, 1) := dk_of ((dk_bind (dk_u1 (h 0 _ rfl))).trans rfl)
theorem dk_120 {code : ByteArray} {pc : Nat} (h : DkAt code pc [120]) : decode code pc = .ok (.ishl, 1) := dk_of ((dk_bind (dk_u1 (h 0 _ rfl))).trans rfl)
theorem dk_122 {code : ByteArray} {pc : Nat} (h : DkAt code pc [122]) : decode code pc = .ok (.ishr, 1) := dk_of ((dk_bind (dk_u1 (h 0 _ rfl))).trans rfl)
theorem dk_124 {code : ByteArray} {pc : Nat} (h : DkAt code pc [124]) : decode code pc = .ok (.iushr, 1) := dk_of ((dk_bind (dk_u1 (h 0 _ rfl))).trans rfl)
theorem dk_126 {code : ByteArray} {pc : Nat} (h : DkAt code pc [126]) : decode code pc = .ok (.iand, 1) := dk_of ((dk_bind (dk_u1 (h 0 _ rfl))).trans rfl)
theorem dk_128 {code : ByteArray} {pc : Nat} (h : DkAt code pc [128]) : decode code pc = .ok (.ior, 1) := dk_of ((dk_bind (dk_u1 (h 0 _ rfl))).trans rfl)
theorem dk_130 {code : ByteArray} {pc : Nat} (h : DkAt code pc [130]) : decode code pc = .ok (.ixor, 1) := dk_of ((dk_bind (dk_u1 (h 0 _ rfl))).trans rfl)
theorem dk_132 {code : ByteArray} {pc : Nat} (a b : UInt8) (h : DkAt code pc [132, a, b]) : decode code pc = .ok (.iinc a.toNat (Reader.signed 8 b.toNat), 3) := dk_of ((dk_bind (dk_u1 (h 0 _ rfl))).trans ((dk_bind (dk_u1 (h 1 _ rfl))).trans ((dk_bind (dk_map (dk_u1 (h 2 _ rfl)))).trans rfl)))
theorem dk_145 {code : ByteArray} {pc : Nat} (h : DkAt code pc [145]) : decode code pc = .ok (.i2b, 1) := dk_of ((dk_bind (dk_u1 (h 0 _ rfl))).trans rfl)
theorem dk_153 {code : ByteArray} {pc : Nat} (a b : UInt8) (h : DkAt code pc [153, a, b]) : decode code pc = .ok (.ifCond .eq (Reader.signed 16 (a.toNat * 256 + b.toNat)), 3) := dk_of ((dk_bind (dk_u1 (h 0 _ rfl))).trans ((dk_bind (dk_map (dk_u2 (h 1 _ rfl) (h 2 _ rfl)))).trans rfl))
theorem dk_154 {code : ByteArray} {pc : Nat} (a b : UInt8) (h : DkAt code pc [154, a, b]) : decode code pc = .ok (.ifCond .ne (Reader.signed 16 (a.toNat * 256 + b.toNat)), 3) := dk_of ((dk_bind (dk_u1 (h 0 _ rfl))).trans ((dk_bind (dk_map (dk_u2 (h 1 _ rfl) (h 2 _ rfl)))).trans rfl))
theorem dk_155 {code : ByteArray} {pc : Nat} (a b : UInt8) (h : DkAt code pc [155, a, b]) : decode code pc = .ok (.ifCond .lt (Reader.signed 16 (a.toNat * 256 + b.toNat)), 3) := dk_of ((dk_bind (dk_u1 (h 0 _ rfl))).trans ((dk_bind (dk_map (dk_u2 (h 1 _ rfl) (h 2 _ rfl)))).trans rfl))
theorem dk_159 {code : ByteArray} {pc : Nat} (a b : UInt8) (h : DkAt code pc [159, a, b]) : decode code pc = .ok (.if_icmp .eq (Reader.signed 16 (a.toNat * 256 + b.toNat)), 3) := dk_of ((dk_bind (dk_u1 (h 0 _ rfl))).trans ((dk_bind (dk_map (dk_u2 (h 1 _ rfl) (h 2 _ rfl)))).trans rfl))
theorem dk_160 {code : ByteArray} {pc : Nat} (a b : UInt8) (h : DkAt code pc [160, a, b]) : decode code pc = .ok (.if_icmp .ne (Reader.signed 16 (a.toNat * 256 + b.toNat)), 3) := dk_of ((dk_bind (dk_u1 (h 0 _ rfl))).trans ((dk_bind (dk_map (dk_u2 (h 1 _ rfl) (h 2 _ rfl)))).trans rfl))
theorem dk_161 {code : ByteArray} {pc : Nat} (a b : UInt8) (h : DkAt code pc [161, a, b]) : decode code pc = .ok (.if_icmp .lt (Reader.signed 16 (a.toNat * 256 + b.toNat)), 3) := dk_of ((dk_bind (dk_u1 (h 0 _ rfl))).trans ((dk_bind (dk_map (dk_u2 (h 1 _ rfl) (h 2 _ rfl)))).trans rfl))
theorem dk_162 {code : ByteArray} {pc : Nat} (a b : UInt8) (h : DkAt code pc [162, a, b]) : decode code pc = .ok (.if_icmp .ge (Reader.signed 16 (a.toNat * 256 + b.toNat)), 3) := dk_of ((dk_bind (dk_u1 (h 0 _ rfl))).trans ((dk_bind (dk_map (dk_u2 (h 1 _ rfl) (h 2 _ rfl)))).trans rfl))
theorem dk_163 {code : ByteArray} {pc : Nat} (a b : UInt8) (h : DkAt code pc [163, a, b]) : decode code pc = .ok (.if_icmp .gt (Reader.signed 16 (a.toNat * 256 + b.toNat)), 3) := dk_of ((dk_bind (dk_u1 (h 0 _ rfl))).trans ((dk_bind (dk_map (dk_u2 (h 1 _ rfl) (h 2 _ rfl)))).trans rfl))
theorem dk_164 {code : ByteArray} {pc : Nat} (a b : UInt8) (h : DkAt code pc [164, a, b]) : decode code pc = .ok (.if_icmp .le (Reader.signed 16 (a.toNat * 256 + b.toNat)), 3) := dk_of ((dk_bind (dk_u1 (h 0 _ rfl))).trans ((dk_bind (dk_map (dk_u2 (h 1 _ rfl) (h 2 _ rfl)))).trans rfl))
theorem dk_167 {code : ByteArray} {pc : Nat} (a b : UInt8) (h : DkAt code pc [167, a, b]) : decode code pc = .ok (.goto (Reader.signed 16 (a.toNat * 256 + b.toNat)), 3) := dk_of ((dk_bind (dk_u1 (h 0 _ rfl))).trans ((dk_bind (dk_map (dk_u2 (h 1 _ rfl) (h 2 _ rfl)))).trans rfl))
theorem dk_172 {code : ByteArray} {pc : Nat} (h : DkAt code pc [172]) : decode code pc = .ok (.ireturn, 1) := dk_of ((dk_bind (dk_u1 (h 0 _ rfl))).trans rfl)
theorem dk_176 {code : ByteArray} {pc : Nat} (h : DkAt code pc [176]) : decode code pc = .ok (.areturn, 1) := dk_of ((dk_bind (dk_u1 (h 0 _ rfl))).trans rfl)
theorem dk_177 {code : ByteArray} {pc : Nat} (h : DkAt code pc [177]) : decode code pc = .ok (.return_, 1) := dk_of ((dk_bind (dk_u1 (h 0 _ rfl))).trans rfl)
theorem dk_178 {code : ByteArray} {pc : Nat} (a b : UInt8) (h : DkAt code pc [178, a, b]) : decode code pc = .ok (.getstatic (a.toNat * 256 + b.toNat), 3) := dk_of ((dk_bind (dk_u1 (h 0 _ rfl))).trans ((dk_bind (dk_u2 (h 1 _ rfl) (h 2 _ rfl))).trans rfl))
theorem dk_180 {code : ByteArray} {pc : Nat} (a b : UInt8) (h : DkAt code pc [180, a, b]) : decode code pc = .ok (.getfield (a.toNat * 256 + b.toNat), 3) := dk_of ((dk_bind (dk_u1 (h 0 _ rfl))).trans ((dk_bind (dk_u2 (h 1 _ rfl) (h 2 _ rfl))).trans rfl))
theorem dk_181 {code : ByteArray} {pc : Nat} (a b : UInt8) (h : DkAt code pc [181, a, b]) : decode code pc = .ok (.putfield (a.toNat * 256 + b.toNat), 3) := dk_of ((dk_bind (dk_u1 (h 0 _ rfl))).trans ((dk_bind (dk_u2 (h 1 _ rfl) (h 2 _ rfl))).trans rfl))
theorem dk_182 {code : ByteArray} {pc : Nat} (a b : UInt8) (h : DkAt code pc [182, a, b]) : decode code pc = .ok (.invokevirtual (a.toNat * 256 + b.toNat), 3) := dk_of ((dk_bind (dk_u1 (h 0 _ rfl))).trans ((dk_bind (dk_u2 (h 1 _ rfl) (h 2 _ rfl))).trans rfl))
theorem dk_183 {code : ByteArray} {pc : Nat} (a b : UInt8) (h : DkAt code pc [183, a, b]) : decode code pc = .ok (.invokespecial (a.toNat * 256 + b.toNat), 3) := dk_of ((dk_bind (dk_u1 (h 0 _ rfl))).trans ((dk_bind (dk_u2 (h 1 _ rfl) (h 2 _ rfl))).trans rfl))
theorem dk_184 {code : ByteArray} {pc : Nat} (a b : UInt8) (h : DkAt code pc [184, a, b]) : decode code pc = .ok (.invokestatic (a.toNat * 256 + b.toNat), 3) := dk_of ((dk_bind (dk_u1 (h 0 _ rfl))).trans ((dk_bind (dk_u2 (h 1 _ rfl) (h 2 _ rfl))).trans rfl))
theorem dk_187 {code : ByteArray} {pc : Nat} (a b : UInt8) (h : DkAt code pc [187, a, b]) : decode code pc = .ok (.new (a.toNat * 256 + b.toNat), 3) := dk_of ((dk_bind (dk_u1 (h 0 _ rfl))).trans ((dk_bind (dk_u2 (h 1 _ rfl) (h 2 _ rfl))).trans rfl))
theorem dk_188_8 {code : ByteArray} {pc : Nat} (h : DkAt code pc [188, 8]) : decode code pc = .ok (.newarray .byte, 2) := dk_of ((dk_bind (dk_u1 (h 0 _ rfl))).trans ((dk_bind (dk_u1 (h 1 _ rfl))).trans rfl))
theorem dk_188_10 {code : ByteArray} {pc : Nat} (h : DkAt code pc [188, 10]) : decode code pc = .ok (.newarray .int, 2) := dk_of ((dk_bind (dk_u1 (h 0 _ rfl))).trans ((dk_bind (dk_u1 (h 1 _ rfl))).trans rfl))
theorem dk_190 {code : ByteArray} {pc : Nat} (h : DkAt code pc [190]) : decode code pc = .ok (.arraylength, 1) := dk_of ((dk_bind (dk_u1 (h 0 _ rfl))).trans rfl)
theorem dk_191 {code : ByteArray} {pc : Nat} (h : DkAt code pc [191]) : decode code pc = .ok (.athrow, 1) := dk_of ((dk_bind (dk_u1 (h 0 _ rfl))).trans rfl)
theorem dk_192 {code : ByteArray} {pc : Nat} (a b : UInt8) (h : DkAt code pc [192, a, b]) : decode code pc = .ok (.checkcast (a.toNat * 256 + b.toNat), 3) := dk_of ((dk_bind (dk_u1 (h 0 _ rfl))).trans ((dk_bind (dk_u2 (h 1 _ rfl) (h 2 _ rfl))).trans rfl))
theorem dk_193 {code : ByteArray} {pc : Nat} (a b : UInt8) (h : DkAt code pc [193, a, b]) : decode code pc = .ok (.instanceof (a.toNat * 256 + b.toNat), 3) := dk_of ((dk_bind (dk_u1 (h 0 _ rfl))).trans ((dk_bind (dk_u2 (h 1 _ rfl) (h 2 _ rfl))).trans rfl))
theorem dk_199 {code : ByteArray} {pc : Nat} (a b : UInt8) (h : DkAt code pc [199, a, b]) : decode code pc = .ok (.ifnonnull (Reader.signed 16 (a.toNat * 256 + b.toNat)), 3) := dk_of ((dk_bind (dk_u1 (h 0 _ rfl))).trans ((dk_bind (dk_map (dk_u2 (h 1 _ rfl) (h 2 _ rfl)))).trans rfl))
/-! java/lang/Object -/
set_option maxRecDepth 100000
def RJ5 : String := "java/lang/Object"
abbrev cJ5_init : ByteArray := object_method_1_code
def yJ5_init : MethodName := ⟨RJ5, "<init>", "()V"⟩
theorem dJ5_init_0 : decode cJ5_init 0 = .ok (.return_, 1) := by decide +kernel
theorem q40 : (Jvm.Cond.instanceMethod ({ cls := "java/lang/Object", name := "<init>", desc := "()V" } : Jvm.MethodName)) ∈ lw_all := lw_g (lw_at lw_m1 31 rfl) rfl
theorem q41 : (Jvm.Cond.code ({ cls := "java/lang/Object", name := "<init>", desc := "()V" } : Jvm.MethodName) object_method_1_code (1 : Nat) (Option.none : Option Jvm.ClassFile.FieldType)) ∈ lw_all := lw_g (lw_at lw_m1 32 rfl) rfl
theorem q71 : (Jvm.Cond.interfaceMethod "BlockCipher" "BlockCipher" "init" "(ZLCipherParameters;)V") ∈ lw_tbl := lw_at lw_m1 62 rfl
set_option maxRecDepth 100000
theorem q72 : (Jvm.Cond.declares ({ cls := "BlockCipher", name := "init", desc := "(ZLCipherParameters;)V" } : Jvm.MethodName)) ∈ lw_tbl := lw_at lw_m1 63 rfl
theorem q164 : (Jvm.Cond.interfaceMethod "BlockCipher" "BlockCipher" "processBlock" "([BI[BI)I") ∈ lw_tbl := lw_at lw_m1 155 rfl
theorem q165 : (Jvm.Cond.declares ({ cls := "BlockCipher", name := "processBlock", desc := "([BI[BI)I" } : Jvm.MethodName)) ∈ lw_tbl := lw_at lw_m1 156 rfl
theorem q13 : (Jvm.Cond.initialized "java/lang/System") ∈ lw_all := lw_g (lw_at lw_m1 4 rfl) rfl
set_option maxRecDepth 100000
theorem q67 : (Jvm.Cond.static ({ cls := "java/lang/System", name := "arraycopy", desc := "(Ljava/lang/Object;ILjava/lang/Object;II)V" } : Jvm.MethodName)) ∈ lw_all := lw_g (lw_at lw_m1 58 rfl) rfl
theorem q68 : (Jvm.Cond.native ({ cls := "java/lang/System", name := "arraycopy", desc := "(Ljava/lang/Object;ILjava/lang/Object;II)V" } : Jvm.MethodName)) ∈ lw_all := lw_g (lw_at lw_m1 59 rfl) rfl
theorem q49 : (Jvm.Cond.arrayClass Jvm.ClassFile.FieldType.byte) ∈ lw_all := lw_g (lw_at lw_m1 40 rfl) rfl
set_option maxRecDepth 100000
theorem q191 : (Jvm.Cond.arrayClass Jvm.ClassFile.FieldType.int) ∈ lw_all := lw_g (lw_at lw_m1 182 rfl) rfl
/-! KeyParameter -/
set_option maxRecDepth 100000
def RX3 : String := "KeyParameter"
def TX3 : u_T := fun k => match k with
  | _ => ("KeyParameter", "key", "[B", false)
def tyX3 : Nat → FieldType := fun k => match k with
  | _ => .array .byte
abbrev wsX30 : List Cond := u_ws RX3 TX3 1
theorem nmX3 : ∀ a, a < 1 → ∀ b, b < 1 → a ≠ b → (TX3 a).2.1 ≠ (TX3 b).2.1 := by decide +kernel
theorem tyX3_ok : ∀ k, k < 1 → parseFieldDescriptor (TX3 k).2.2.1 = some (tyX3 k) := by decide +kernel
abbrev cX3_init : ByteArray := prog_4_method_1_code
def yX3_init : MethodName := ⟨RX3, "<init>", "([B)V"⟩
def dkwX3_init_0 : List UInt8 := [42, 43, 3, 43, 190, 183, 0, 1, 177]
abbrev dktX3_init_0 : List UInt8 := dkwX3_init_0 ++ []
theorem dksX3_init_0 : cX3_init.data.toList.drop 0 = dktX3_init_0 := by decide +kernel
theorem dX3_init_0 : decode cX3_init 0 = .ok (.aload_n 0, 1) := dk_42 (dk_at dksX3_init_0 0 rfl rfl)
theorem dX3_init_1 : decode cX3_init 1 = .ok (.aload_n 1, 1) := dk_43 (dk_at dksX3_init_0 1 rfl rfl)
theorem dX3_init_2 : decode cX3_init 2 = .ok (.iconst 0, 1) := dk_3 (dk_at dksX3_init_0 2 rfl rfl)
theorem dX3_init_3 : decode cX3_init 3 = .ok (.aload_n 1, 1) := dk_43 (dk_at dksX3_init_0 3 rfl rfl)
theorem dX3_init_4 : decode cX3_init 4 = .ok (.arraylength, 1) := dk_190 (dk_at dksX3_init_0 4 rfl rfl)
theorem dX3_init_5 : decode cX3_init 5 = .ok (.invokespecial 1, 3) := dk_183 0 1 (dk_at dksX3_init_0 5 rfl rfl)
theorem dX3_init_8 : decode cX3_init 8 = .ok (.return_, 1) := dk_177 (dk_at dksX3_init_0 8 rfl rfl)
abbrev cX3_init_2 : ByteArray := prog_4_method_2_code
def yX3_init_2 : MethodName := ⟨RX3, "<init>", "([BII)V"⟩
def dkwX3_init_2_0 : List UInt8 := [42, 29, 183, 0, 7, 43, 28, 42, 180, 0, 10, 3, 29, 184, 0, 14, 177]
abbrev dktX3_init_2_0 : List UInt8 := dkwX3_init_2_0 ++ []
theorem dksX3_init_2_0 : cX3_init_2.data.toList.drop 0 = dktX3_init_2_0 := by decide +kernel
theorem dX3_init_2_0 : decode cX3_init_2 0 = .ok (.aload_n 0, 1) := dk_42 (dk_at dksX3_init_2_0 0 rfl rfl)
theorem dX3_init_2_1 : decode cX3_init_2 1 = .ok (.iload_n 3, 1) := dk_29 (dk_at dksX3_init_2_0 1 rfl rfl)
theorem dX3_init_2_2 : decode cX3_init_2 2 = .ok (.invokespecial 7, 3) := dk_183 0 7 (dk_at dksX3_init_2_0 2 rfl rfl)
theorem dX3_init_2_5 : decode cX3_init_2 5 = .ok (.aload_n 1, 1) := dk_43 (dk_at dksX3_init_2_0 5 rfl rfl)
theorem dX3_init_2_6 : decode cX3_init_2 6 = .ok (.iload_n 2, 1) := dk_28 (dk_at dksX3_init_2_0 6 rfl rfl)
theorem dX3_init_2_7 : decode cX3_init_2 7 = .ok (.aload_n 0, 1) := dk_42 (dk_at dksX3_init_2_0 7 rfl rfl)
theorem dX3_init_2_8 : decode cX3_init_2 8 = .ok (.getfield 10, 3) := dk_180 0 10 (dk_at dksX3_init_2_0 8 rfl rfl)
theorem dX3_init_2_11 : decode cX3_init_2 11 = .ok (.iconst 0, 1) := dk_3 (dk_at dksX3_init_2_0 11 rfl rfl)
theorem dX3_init_2_12 : decode cX3_init_2 12 = .ok (.iload_n 3, 1) := dk_29 (dk_at dksX3_init_2_0 12 rfl rfl)
theorem dX3_init_2_13 : decode cX3_init_2 13 = .ok (.invokestatic 14, 3) := dk_184 0 14 (dk_at dksX3_init_2_0 13 rfl rfl)
theorem dX3_init_2_16 : decode cX3_init_2 16 = .ok (.return_, 1) := dk_177 (dk_at dksX3_init_2_0 16 rfl rfl)
abbrev cX3_init_3 : ByteArray := prog_4_method_3_code
def yX3_init_3 : MethodName := ⟨RX3, "<init>", "(I)V"⟩
def dkwX3_init_3_0 : List UInt8 := [42, 183, 0, 20, 42, 27, 188, 8, 181, 0, 10, 177]
abbrev dktX3_init_3_0 : List UInt8 := dkwX3_init_3_0 ++ []
theorem dksX3_init_3_0 : cX3_init_3.data.toList.drop 0 = dktX3_init_3_0 := by decide +kernel
theorem dX3_init_3_0 : decode cX3_init_3 0 = .ok (.aload_n 0, 1) := dk_42 (dk_at dksX3_init_3_0 0 rfl rfl)
theorem dX3_init_3_1 : decode cX3_init_3 1 = .ok (.invokespecial 20, 3) := dk_183 0 20 (dk_at dksX3_init_3_0 1 rfl rfl)
theorem dX3_init_3_4 : decode cX3_init_3 4 = .ok (.aload_n 0, 1) := dk_42 (dk_at dksX3_init_3_0 4 rfl rfl)
theorem dX3_init_3_5 : decode cX3_init_3 5 = .ok (.iload_n 1, 1) := dk_27 (dk_at dksX3_init_3_0 5 rfl rfl)
theorem dX3_init_3_6 : decode cX3_init_3 6 = .ok (.newarray .byte, 2) := dk_188_8 (dk_at dksX3_init_3_0 6 rfl rfl)
theorem dX3_init_3_8 : decode cX3_init_3 8 = .ok (.putfield 10, 3) := dk_181 0 10 (dk_at dksX3_init_3_0 8 rfl rfl)
theorem dX3_init_3_11 : decode cX3_init_3 11 = .ok (.return_, 1) := dk_177 (dk_at dksX3_init_3_0 11 rfl rfl)
abbrev cX3_getKey : ByteArray := prog_4_method_4_code
def yX3_getKey : MethodName := ⟨RX3, "getKey", "()[B"⟩
theorem dX3_getKey_0 : decode cX3_getKey 0 = .ok (.aload_n 0, 1) := by decide +kernel
theorem dX3_getKey_1 : decode cX3_getKey 1 = .ok (.getfield 10, 3) := by decide +kernel
theorem dX3_getKey_4 : decode cX3_getKey 4 = .ok (.areturn, 1) := by decide +kernel
theorem q12 : (Jvm.Cond.initialized "KeyParameter") ∈ lw_all := lw_g (lw_at lw_m1 3 rfl) rfl
theorem q51 : (Jvm.Cond.instantiable "KeyParameter" (1 : Nat)) ∈ lw_all := lw_g (lw_at lw_m1 42 rfl) rfl
theorem q53 : (Jvm.Cond.instanceMethod ({ cls := "KeyParameter", name := "<init>", desc := "([B)V" } : Jvm.MethodName)) ∈ lw_all := lw_g (lw_at lw_m1 44 rfl) rfl
theorem q54 : (Jvm.Cond.code ({ cls := "KeyParameter", name := "<init>", desc := "([B)V" } : Jvm.MethodName) prog_4_method_1_code (2 : Nat) (Option.none : Option Jvm.ClassFile.FieldType)) ∈ lw_all := lw_g (lw_at lw_m1 45 rfl) rfl
theorem q55 : (Jvm.Cond.methodLink "KeyParameter" (1 : Nat) ({ cls := "KeyParameter", name := "<init>", desc := "([BII)V" } : Jvm.MethodName)) ∈ lw_all := lw_g (lw_at lw_m1 46 rfl) rfl
theorem q56 : (Jvm.Cond.instanceMethod ({ cls := "KeyParameter", name := "<init>", desc := "([BII)V" } : Jvm.MethodName)) ∈ lw_all := lw_g (lw_at lw_m1 47 rfl) rfl
theorem q57 : (Jvm.Cond.code ({ cls := "KeyParameter", name := "<init>", desc := "([BII)V" } : Jvm.MethodName) prog_4_method_2_code (4 : Nat) (Option.none : Option Jvm.ClassFile.FieldType)) ∈ lw_all := lw_g (lw_at lw_m1 48 rfl) rfl
theorem q58 : (Jvm.Cond.methodLink "KeyParameter" (7 : Nat) ({ cls := "KeyParameter", name := "<init>", desc := "(I)V" } : Jvm.MethodName)) ∈ lw_all := lw_g (lw_at lw_m1 49 rfl) rfl
theorem q59 : (Jvm.Cond.instanceMethod ({ cls := "KeyParameter", name := "<init>", desc := "(I)V" } : Jvm.MethodName)) ∈ lw_all := lw_g (lw_at lw_m1 50 rfl) rfl
theorem q60 : (Jvm.Cond.code ({ cls := "KeyParameter", name := "<init>", desc := "(I)V" } : Jvm.MethodName) prog_4_method_3_code (2 : Nat) (Option.none : Option Jvm.ClassFile.FieldType)) ∈ lw_all := lw_g (lw_at lw_m1 51 rfl) rfl
theorem q61 : (Jvm.Cond.methodLink "KeyParameter" (20 : Nat) ({ cls := "java/lang/Object", name := "<init>", desc := "()V" } : Jvm.MethodName)) ∈ lw_all := lw_g (lw_at lw_m1 52 rfl) rfl
theorem q62 : (Jvm.Cond.fieldLink "KeyParameter" (10 : Nat) "KeyParameter" "key" "[B") ∈ lw_all := lw_g (lw_at lw_m1 53 rfl) rfl
theorem q63 : (Jvm.Cond.lays "KeyParameter" "KeyParameter" "key" "[B") ∈ lw_all := lw_g (lw_at lw_m1 54 rfl) rfl
theorem q64 : (Jvm.Cond.soleField "KeyParameter" "key") ∈ lw_all := lw_g (lw_at lw_m1 55 rfl) rfl
theorem q65 : (Jvm.Cond.superclass "KeyParameter" "java/lang/Object") ∈ lw_all := lw_g (lw_at lw_m1 56 rfl) rfl
theorem q66 : (Jvm.Cond.methodLink "KeyParameter" (14 : Nat) ({ cls := "java/lang/System", name := "arraycopy", desc := "(Ljava/lang/Object;ILjava/lang/Object;II)V" } : Jvm.MethodName)) ∈ lw_all := lw_g (lw_at lw_m1 57 rfl) rfl
theorem q149 : (Jvm.Cond.instanceMethod ({ cls := "KeyParameter", name := "getKey", desc := "()[B" } : Jvm.MethodName)) ∈ lw_all := lw_g (lw_at lw_m1 140 rfl) rfl
theorem q150 : (Jvm.Cond.selects "KeyParameter" ({ cls := "KeyParameter", name := "getKey", desc := "()[B" } : Jvm.MethodName) ({ cls := "KeyParameter", name := "getKey", desc := "()[B" } : Jvm.MethodName)) ∈ lw_all := lw_g (lw_at lw_m1 141 rfl) rfl
theorem q151 : (Jvm.Cond.code ({ cls := "KeyParameter", name := "getKey", desc := "()[B" } : Jvm.MethodName) prog_4_method_4_code (1 : Nat) (Option.some (Jvm.ClassFile.FieldType.array Jvm.ClassFile.FieldType.byte))) ∈ lw_all := lw_g (lw_at lw_m1 142 rfl) rfl
theorem in_X3 : ∀ w ∈ wsX30, w ∈ lw_all := lw_in wsX30 [63] (by decide +kernel) (by decide +kernel)
/-! RC6Engine -/
set_option maxRecDepth 100000
def RX2 : String := "RC6Engine"
def TX2 : u_T := fun k => match k with
  | 0 => ("RC6Engine", "_S", "[I", false)
  | _ => ("RC6Engine", "forEncryption", "Z", false)
def tyX2 : Nat → FieldType := fun k => match k with
  | 0 => .array .int
  | _ => .boolean
abbrev wsX20 : List Cond := u_ws RX2 TX2 2
theorem nmX2 : ∀ a, a < 2 → ∀ b, b < 2 → a ≠ b → (TX2 a).2.1 ≠ (TX2 b).2.1 := by decide +kernel
theorem tyX2_ok : ∀ k, k < 2 → parseFieldDescriptor (TX2 k).2.2.1 = some (tyX2 k) := by decide +kernel
abbrev cX2_init : ByteArray := prog_6_method_1_code
def yX2_init : MethodName := ⟨RX2, "<init>", "()V"⟩
def dkwX2_init_0 : List UInt8 := [42, 183, 0, 3, 42, 1, 181, 0, 9, 177]
abbrev dktX2_init_0 : List UInt8 := dkwX2_init_0 ++ []
theorem dksX2_init_0 : cX2_init.data.toList.drop 0 = dktX2_init_0 := by decide +kernel
theorem dX2_init_0 : decode cX2_init 0 = .ok (.aload_n 0, 1) := dk_42 (dk_at dksX2_init_0 0 rfl rfl)
theorem dX2_init_1 : decode cX2_init 1 = .ok (.invokespecial 3, 3) := dk_183 0 3 (dk_at dksX2_init_0 1 rfl rfl)
theorem dX2_init_4 : decode cX2_init 4 = .ok (.aload_n 0, 1) := dk_42 (dk_at dksX2_init_0 4 rfl rfl)
theorem dX2_init_5 : decode cX2_init 5 = .ok (.aconst_null, 1) := dk_1 (dk_at dksX2_init_0 5 rfl rfl)
theorem dX2_init_6 : decode cX2_init 6 = .ok (.putfield 9, 3) := dk_181 0 9 (dk_at dksX2_init_0 6 rfl rfl)
theorem dX2_init_9 : decode cX2_init 9 = .ok (.return_, 1) := dk_177 (dk_at dksX2_init_0 9 rfl rfl)
abbrev cX2_init_2 : ByteArray := prog_6_method_3_code
def yX2_init_2 : MethodName := ⟨RX2, "init", "(ZLCipherParameters;)V"⟩
def dkwX2_init_2_1 : List UInt8 := [181, 0, 22, 45, 182, 0, 26, 58, 4, 42, 25, 4, 182, 0, 30, 177]
abbrev dktX2_init_2_1 : List UInt8 := dkwX2_init_2_1 ++ []
def dkwX2_init_2_0 : List UInt8 := [44, 193, 0, 13, 154, 0, 13, 187, 0, 15, 89, 18, 17, 183, 0, 19, 191, 44, 192, 0, 13, 78, 42, 27]
abbrev dktX2_init_2_0 : List UInt8 := dkwX2_init_2_0 ++ dktX2_init_2_1
theorem dksX2_init_2_0 : cX2_init_2.data.toList.drop 0 = dktX2_init_2_0 := by decide +kernel
theorem dksX2_init_2_1 : cX2_init_2.data.toList.drop 24 = dktX2_init_2_1 := dk_seg dksX2_init_2_0 24 rfl rfl
theorem dX2_init_2_0 : decode cX2_init_2 0 = .ok (.aload_n 2, 1) := dk_44 (dk_at dksX2_init_2_0 0 rfl rfl)
theorem dX2_init_2_1 : decode cX2_init_2 1 = .ok (.instanceof 13, 3) := dk_193 0 13 (dk_at dksX2_init_2_0 1 rfl rfl)
theorem dX2_init_2_4 : decode cX2_init_2 4 = .ok (.ifCond .ne 13, 3) := dk_154 0 13 (dk_at dksX2_init_2_0 4 rfl rfl)
theorem dX2_init_2_7 : decode cX2_init_2 7 = .ok (.new 15, 3) := dk_187 0 15 (dk_at dksX2_init_2_0 7 rfl rfl)
theorem dX2_init_2_10 : decode cX2_init_2 10 = .ok (.dup, 1) := dk_89 (dk_at dksX2_init_2_0 10 rfl rfl)
theorem dX2_init_2_11 : decode cX2_init_2 11 = .ok (.ldc 17, 2) := dk_18 17 (dk_at dksX2_init_2_0 11 rfl rfl)
theorem dX2_init_2_13 : decode cX2_init_2 13 = .ok (.invokespecial 19, 3) := dk_183 0 19 (dk_at dksX2_init_2_0 13 rfl rfl)
theorem dX2_init_2_16 : decode cX2_init_2 16 = .ok (.athrow, 1) := dk_191 (dk_at dksX2_init_2_0 16 rfl rfl)
theorem dX2_init_2_17 : decode cX2_init_2 17 = .ok (.aload_n 2, 1) := dk_44 (dk_at dksX2_init_2_0 17 rfl rfl)
theorem dX2_init_2_18 : decode cX2_init_2 18 = .ok (.checkcast 13, 3) := dk_192 0 13 (dk_at dksX2_init_2_0 18 rfl rfl)
theorem dX2_init_2_21 : decode cX2_init_2 21 = .ok (.astore_n 3, 1) := dk_78 (dk_at dksX2_init_2_0 21 rfl rfl)
theorem dX2_init_2_22 : decode cX2_init_2 22 = .ok (.aload_n 0, 1) := dk_42 (dk_at dksX2_init_2_0 22 rfl rfl)
theorem dX2_init_2_23 : decode cX2_init_2 23 = .ok (.iload_n 1, 1) := dk_27 (dk_at dksX2_init_2_0 23 rfl rfl)
theorem dX2_init_2_24 : decode cX2_init_2 24 = .ok (.putfield 22, 3) := dk_181 0 22 (dk_at dksX2_init_2_1 0 rfl rfl)
theorem dX2_init_2_27 : decode cX2_init_2 27 = .ok (.aload_n 3, 1) := dk_45 (dk_at dksX2_init_2_1 3 rfl rfl)
theorem dX2_init_2_28 : decode cX2_init_2 28 = .ok (.invokevirtual 26, 3) := dk_182 0 26 (dk_at dksX2_init_2_1 4 rfl rfl)
theorem dX2_init_2_31 : decode cX2_init_2 31 = .ok (.astore 4, 2) := dk_58 4 (dk_at dksX2_init_2_1 7 rfl rfl)
theorem dX2_init_2_33 : decode cX2_init_2 33 = .ok (.aload_n 0, 1) := dk_42 (dk_at dksX2_init_2_1 9 rfl rfl)
theorem dX2_init_2_34 : decode cX2_init_2 34 = .ok (.aload 4, 2) := dk_25 4 (dk_at dksX2_init_2_1 10 rfl rfl)
theorem dX2_init_2_36 : decode cX2_init_2 36 = .ok (.invokevirtual 30, 3) := dk_182 0 30 (dk_at dksX2_init_2_1 12 rfl rfl)
theorem dX2_init_2_39 : decode cX2_init_2 39 = .ok (.return_, 1) := dk_177 (dk_at dksX2_init_2_1 15 rfl rfl)
abbrev cX2_setKey : ByteArray := prog_6_method_5_code
def yX2_setKey : MethodName := ⟨RX2, "setKey", "([B)V"⟩
def dkwX2_setKey_10 : List UInt8 := [21, 8, 4, 96, 45, 190, 112, 54, 8, 132, 9, 1, 167, 255, 171, 177]
abbrev dktX2_setKey_10 : List UInt8 := dkwX2_setKey_10 ++ []
def dkwX2_setKey_9 : List UInt8 := [21, 5, 21, 6, 96, 182, 0, 62, 91, 79, 54, 6, 21, 7, 4, 96, 42, 180, 0, 9, 190, 112, 54, 7]
abbrev dktX2_setKey_9 : List UInt8 := dkwX2_setKey_9 ++ dktX2_setKey_10
def dkwX2_setKey_8 : List UInt8 := [96, 6, 182, 0, 62, 91, 79, 54, 5, 45, 21, 8, 42, 45, 21, 8, 46, 21, 5, 96, 21, 6, 96]
abbrev dktX2_setKey_8 : List UInt8 := dkwX2_setKey_8 ++ dktX2_setKey_9
def dkwX2_setKey_7 : List UInt8 := [21, 4, 162, 0, 84, 42, 180, 0, 9, 21, 7, 42, 42, 180, 0, 9, 21, 7, 46, 21, 5, 96, 21, 6]
abbrev dktX2_setKey_7 : List UInt8 := dkwX2_setKey_7 ++ dktX2_setKey_8
def dkwX2_setKey_6 : List UInt8 := [180, 0, 9, 190, 104, 54, 4, 3, 54, 5, 3, 54, 6, 3, 54, 7, 3, 54, 8, 3, 54, 9, 21, 9]
abbrev dktX2_setKey_6 : List UInt8 := dkwX2_setKey_6 ++ dktX2_setKey_7
def dkwX2_setKey_5 : List UInt8 := [167, 255, 224, 45, 190, 42, 180, 0, 9, 190, 164, 0, 12, 6, 45, 190, 104, 54, 4, 167, 0, 12, 6, 42]
abbrev dktX2_setKey_5 : List UInt8 := dkwX2_setKey_5 ++ dktX2_setKey_6
def dkwX2_setKey_4 : List UInt8 := [42, 180, 0, 9, 21, 4, 42, 180, 0, 9, 21, 4, 4, 100, 46, 18, 61, 96, 79, 132, 4, 1]
abbrev dktX2_setKey_4 : List UInt8 := dkwX2_setKey_4 ++ dktX2_setKey_5
def dkwX2_setKey_3 : List UInt8 := [181, 0, 9, 42, 180, 0, 9, 3, 18, 60, 79, 4, 54, 4, 21, 4, 42, 180, 0, 9, 190, 162, 0, 28]
abbrev dktX2_setKey_3 : List UInt8 := dkwX2_setKey_3 ++ dktX2_setKey_4
def dkwX2_setKey_2 : List UInt8 := [120, 43, 21, 4, 51, 17, 0, 255, 126, 96, 79, 132, 4, 255, 167, 255, 224, 42, 16, 44, 188, 10]
abbrev dktX2_setKey_2 : List UInt8 := dkwX2_setKey_2 ++ dktX2_setKey_3
def dkwX2_setKey_1 : List UInt8 := [43, 190, 4, 100, 54, 4, 21, 4, 155, 0, 33, 45, 21, 4, 7, 108, 45, 21, 4, 7, 108, 46, 16, 8]
abbrev dktX2_setKey_1 : List UInt8 := dkwX2_setKey_1 ++ dktX2_setKey_2
def dkwX2_setKey_0 : List UInt8 := [43, 190, 6, 96, 7, 108, 61, 28, 154, 0, 5, 4, 61, 43, 190, 7, 96, 4, 100, 7, 108, 188, 10, 78]
abbrev dktX2_setKey_0 : List UInt8 := dkwX2_setKey_0 ++ dktX2_setKey_1
theorem dksX2_setKey_0 : cX2_setKey.data.toList.drop 0 = dktX2_setKey_0 := by decide +kernel
theorem dksX2_setKey_1 : cX2_setKey.data.toList.drop 24 = dktX2_setKey_1 := dk_seg dksX2_setKey_0 24 rfl rfl
theorem dksX2_setKey_2 : cX2_setKey.data.toList.drop 48 = dktX2_setKey_2 := dk_seg dksX2_setKey_1 24 rfl rfl
theorem dksX2_setKey_3 : cX2_setKey.data.toList.drop 70 = dktX2_setKey_3 := dk_seg dksX2_setKey_2 22 rfl rfl
theorem dksX2_setKey_4 : cX2_setKey.data.toList.drop 94 = dktX2_setKey_4 := dk_seg dksX2_setKey_3 24 rfl rfl
theorem dksX2_setKey_5 : cX2_setKey.data.toList.drop 116 = dktX2_setKey_5 := dk_seg dksX2_setKey_4 22 rfl rfl
theorem dksX2_setKey_6 : cX2_setKey.data.toList.drop 140 = dktX2_setKey_6 := dk_seg dksX2_setKey_5 24 rfl rfl
theorem dksX2_setKey_7 : cX2_setKey.data.toList.drop 164 = dktX2_setKey_7 := dk_seg dksX2_setKey_6 24 rfl rfl
theorem dksX2_setKey_8 : cX2_setKey.data.toList.drop 188 = dktX2_setKey_8 := dk_seg dksX2_setKey_7 24 rfl rfl
theorem dksX2_setKey_9 : cX2_setKey.data.toList.drop 211 = dktX2_setKey_9 := dk_seg dksX2_setKey_8 23 rfl rfl
theorem dksX2_setKey_10 : cX2_setKey.data.toList.drop 235 = dktX2_setKey_10 := dk_seg dksX2_setKey_9 24 rfl rfl
theorem dX2_setKey_0 : decode cX2_setKey 0 = .ok (.aload_n 1, 1) := dk_43 (dk_at dksX2_setKey_0 0 rfl rfl)
theorem dX2_setKey_1 : decode cX2_setKey 1 = .ok (.arraylength, 1) := dk_190 (dk_at dksX2_setKey_0 1 rfl rfl)
theorem dX2_setKey_2 : decode cX2_setKey 2 = .ok (.iconst 3, 1) := dk_6 (dk_at dksX2_setKey_0 2 rfl rfl)
theorem dX2_setKey_3 : decode cX2_setKey 3 = .ok (.iadd, 1) := dk_96 (dk_at dksX2_setKey_0 3 rfl rfl)
theorem dX2_setKey_4 : decode cX2_setKey 4 = .ok (.iconst 4, 1) := dk_7 (dk_at dksX2_setKey_0 4 rfl rfl)
theorem dX2_setKey_5 : decode cX2_setKey 5 = .ok (.idiv, 1) := dk_108 (dk_at dksX2_setKey_0 5 rfl rfl)
theorem dX2_setKey_6 : decode cX2_setKey 6 = .ok (.istore_n 2, 1) := dk_61 (dk_at dksX2_setKey_0 6 rfl rfl)
theorem dX2_setKey_7 : decode cX2_setKey 7 = .ok (.iload_n 2, 1) := dk_28 (dk_at dksX2_setKey_0 7 rfl rfl)
theorem dX2_setKey_8 : decode cX2_setKey 8 = .ok (.ifCond .ne 5, 3) := dk_154 0 5 (dk_at dksX2_setKey_0 8 rfl rfl)
theorem dX2_setKey_11 : decode cX2_setKey 11 = .ok (.iconst 1, 1) := dk_4 (dk_at dksX2_setKey_0 11 rfl rfl)
theorem dX2_setKey_12 : decode cX2_setKey 12 = .ok (.istore_n 2, 1) := dk_61 (dk_at dksX2_setKey_0 12 rfl rfl)
theorem dX2_setKey_13 : decode cX2_setKey 13 = .ok (.aload_n 1, 1) := dk_43 (dk_at dksX2_setKey_0 13 rfl rfl)
theorem dX2_setKey_14 : decode cX2_setKey 14 = .ok (.arraylength, 1) := dk_190 (dk_at dksX2_setKey_0 14 rfl rfl)
theorem dX2_setKey_15 : decode cX2_setKey 15 = .ok (.iconst 4, 1) := dk_7 (dk_at dksX2_setKey_0 15 rfl rfl)
theorem dX2_setKey_16 : decode cX2_setKey 16 = .ok (.iadd, 1) := dk_96 (dk_at dksX2_setKey_0 16 rfl rfl)
theorem dX2_setKey_17 : decode cX2_setKey 17 = .ok (.iconst 1, 1) := dk_4 (dk_at dksX2_setKey_0 17 rfl rfl)
theorem dX2_setKey_18 : decode cX2_setKey 18 = .ok (.isub, 1) := dk_100 (dk_at dksX2_setKey_0 18 rfl rfl)
theorem dX2_setKey_19 : decode cX2_setKey 19 = .ok (.iconst 4, 1) := dk_7 (dk_at dksX2_setKey_0 19 rfl rfl)
theorem dX2_setKey_20 : decode cX2_setKey 20 = .ok (.idiv, 1) := dk_108 (dk_at dksX2_setKey_0 20 rfl rfl)
theorem dX2_setKey_21 : decode cX2_setKey 21 = .ok (.newarray .int, 2) := dk_188_10 (dk_at dksX2_setKey_0 21 rfl rfl)
theorem dX2_setKey_23 : decode cX2_setKey 23 = .ok (.astore_n 3, 1) := dk_78 (dk_at dksX2_setKey_0 23 rfl rfl)
theorem dX2_setKey_24 : decode cX2_setKey 24 = .ok (.aload_n 1, 1) := dk_43 (dk_at dksX2_setKey_1 0 rfl rfl)
theorem dX2_setKey_25 : decode cX2_setKey 25 = .ok (.arraylength, 1) := dk_190 (dk_at dksX2_setKey_1 1 rfl rfl)
theorem dX2_setKey_26 : decode cX2_setKey 26 = .ok (.iconst 1, 1) := dk_4 (dk_at dksX2_setKey_1 2 rfl rfl)
theorem dX2_setKey_27 : decode cX2_setKey 27 = .ok (.isub, 1) := dk_100 (dk_at dksX2_setKey_1 3 rfl rfl)
theorem dX2_setKey_28 : decode cX2_setKey 28 = .ok (.istore 4, 2) := dk_54 4 (dk_at dksX2_setKey_1 4 rfl rfl)
theorem dX2_setKey_30 : decode cX2_setKey 30 = .ok (.iload 4, 2) := dk_21 4 (dk_at dksX2_setKey_1 6 rfl rfl)
theorem dX2_setKey_32 : decode cX2_setKey 32 = .ok (.ifCond .lt 33, 3) := dk_155 0 33 (dk_at dksX2_setKey_1 8 rfl rfl)
theorem dX2_setKey_35 : decode cX2_setKey 35 = .ok (.aload_n 3, 1) := dk_45 (dk_at dksX2_setKey_1 11 rfl rfl)
theorem dX2_setKey_36 : decode cX2_setKey 36 = .ok (.iload 4, 2) := dk_21 4 (dk_at dksX2_setKey_1 12 rfl rfl)
theorem dX2_setKey_38 : decode cX2_setKey 38 = .ok (.iconst 4, 1) := dk_7 (dk_at dksX2_setKey_1 14 rfl rfl)
theorem dX2_setKey_39 : decode cX2_setKey 39 = .ok (.idiv, 1) := dk_108 (dk_at dksX2_setKey_1 15 rfl rfl)
theorem dX2_setKey_40 : decode cX2_setKey 40 = .ok (.aload_n 3, 1) := dk_45 (dk_at dksX2_setKey_1 16 rfl rfl)
theorem dX2_setKey_41 : decode cX2_setKey 41 = .ok (.iload 4, 2) := dk_21 4 (dk_at dksX2_setKey_1 17 rfl rfl)
theorem dX2_setKey_43 : decode cX2_setKey 43 = .ok (.iconst 4, 1) := dk_7 (dk_at dksX2_setKey_1 19 rfl rfl)
theorem dX2_setKey_44 : decode cX2_setKey 44 = .ok (.idiv, 1) := dk_108 (dk_at dksX2_setKey_1 20 rfl rfl)
theorem dX2_setKey_45 : decode cX2_setKey 45 = .ok (.iaload, 1) := dk_46 (dk_at dksX2_setKey_1 21 rfl rfl)
theorem dX2_setKey_46 : decode cX2_setKey 46 = .ok (.bipush 8, 2) := dk_16 8 (dk_at dksX2_setKey_1 22 rfl rfl)
theorem dX2_setKey_48 : decode cX2_setKey 48 = .ok (.ishl, 1) := dk_120 (dk_at dksX2_setKey_2 0 rfl rfl)
theorem dX2_setKey_49 : decode cX2_setKey 49 = .ok (.aload_n 1, 1) := dk_43 (dk_at dksX2_setKey_2 1 rfl rfl)
theorem dX2_setKey_50 : decode cX2_setKey 50 = .ok (.iload 4, 2) := dk_21 4 (dk_at dksX2_setKey_2 2 rfl rfl)
theorem dX2_setKey_52 : decode cX2_setKey 52 = .ok (.baload, 1) := dk_51 (dk_at dksX2_setKey_2 4 rfl rfl)
theorem dX2_setKey_53 : decode cX2_setKey 53 = .ok (.sipush 255, 3) := dk_17 0 255 (dk_at dksX2_setKey_2 5 rfl rfl)
theorem dX2_setKey_56 : decode cX2_setKey 56 = .ok (.iand, 1) := dk_126 (dk_at dksX2_setKey_2 8 rfl rfl)
theorem dX2_setKey_57 : decode cX2_setKey 57 = .ok (.iadd, 1) := dk_96 (dk_at dksX2_setKey_2 9 rfl rfl)
theorem dX2_setKey_58 : decode cX2_setKey 58 = .ok (.iastore, 1) := dk_79 (dk_at dksX2_setKey_2 10 rfl rfl)
theorem dX2_setKey_59 : decode cX2_setKey 59 = .ok (.iinc 4 (-1), 3) := dk_132 4 255 (dk_at dksX2_setKey_2 11 rfl rfl)
theorem dX2_setKey_62 : decode cX2_setKey 62 = .ok (.goto (-32), 3) := dk_167 255 224 (dk_at dksX2_setKey_2 14 rfl rfl)
theorem dX2_setKey_65 : decode cX2_setKey 65 = .ok (.aload_n 0, 1) := dk_42 (dk_at dksX2_setKey_2 17 rfl rfl)
theorem dX2_setKey_66 : decode cX2_setKey 66 = .ok (.bipush 44, 2) := dk_16 44 (dk_at dksX2_setKey_2 18 rfl rfl)
theorem dX2_setKey_68 : decode cX2_setKey 68 = .ok (.newarray .int, 2) := dk_188_10 (dk_at dksX2_setKey_2 20 rfl rfl)
theorem dX2_setKey_70 : decode cX2_setKey 70 = .ok (.putfield 9, 3) := dk_181 0 9 (dk_at dksX2_setKey_3 0 rfl rfl)
theorem dX2_setKey_73 : decode cX2_setKey 73 = .ok (.aload_n 0, 1) := dk_42 (dk_at dksX2_setKey_3 3 rfl rfl)
theorem dX2_setKey_74 : decode cX2_setKey 74 = .ok (.getfield 9, 3) := dk_180 0 9 (dk_at dksX2_setKey_3 4 rfl rfl)
theorem dX2_setKey_77 : decode cX2_setKey 77 = .ok (.iconst 0, 1) := dk_3 (dk_at dksX2_setKey_3 7 rfl rfl)
theorem dX2_setKey_78 : decode cX2_setKey 78 = .ok (.ldc 60, 2) := dk_18 60 (dk_at dksX2_setKey_3 8 rfl rfl)
theorem dX2_setKey_80 : decode cX2_setKey 80 = .ok (.iastore, 1) := dk_79 (dk_at dksX2_setKey_3 10 rfl rfl)
theorem dX2_setKey_81 : decode cX2_setKey 81 = .ok (.iconst 1, 1) := dk_4 (dk_at dksX2_setKey_3 11 rfl rfl)
theorem dX2_setKey_82 : decode cX2_setKey 82 = .ok (.istore 4, 2) := dk_54 4 (dk_at dksX2_setKey_3 12 rfl rfl)
theorem dX2_setKey_84 : decode cX2_setKey 84 = .ok (.iload 4, 2) := dk_21 4 (dk_at dksX2_setKey_3 14 rfl rfl)
theorem dX2_setKey_86 : decode cX2_setKey 86 = .ok (.aload_n 0, 1) := dk_42 (dk_at dksX2_setKey_3 16 rfl rfl)
theorem dX2_setKey_87 : decode cX2_setKey 87 = .ok (.getfield 9, 3) := dk_180 0 9 (dk_at dksX2_setKey_3 17 rfl rfl)
theorem dX2_setKey_90 : decode cX2_setKey 90 = .ok (.arraylength, 1) := dk_190 (dk_at dksX2_setKey_3 20 rfl rfl)
theorem dX2_setKey_91 : decode cX2_setKey 91 = .ok (.if_icmp .ge 28, 3) := dk_162 0 28 (dk_at dksX2_setKey_3 21 rfl rfl)
theorem dX2_setKey_94 : decode cX2_setKey 94 = .ok (.aload_n 0, 1) := dk_42 (dk_at dksX2_setKey_4 0 rfl rfl)
theorem dX2_setKey_95 : decode cX2_setKey 95 = .ok (.getfield 9, 3) := dk_180 0 9 (dk_at dksX2_setKey_4 1 rfl rfl)
theorem dX2_setKey_98 : decode cX2_setKey 98 = .ok (.iload 4, 2) := dk_21 4 (dk_at dksX2_setKey_4 4 rfl rfl)
theorem dX2_setKey_100 : decode cX2_setKey 100 = .ok (.aload_n 0, 1) := dk_42 (dk_at dksX2_setKey_4 6 rfl rfl)
theorem dX2_setKey_101 : decode cX2_setKey 101 = .ok (.getfield 9, 3) := dk_180 0 9 (dk_at dksX2_setKey_4 7 rfl rfl)
theorem dX2_setKey_104 : decode cX2_setKey 104 = .ok (.iload 4, 2) := dk_21 4 (dk_at dksX2_setKey_4 10 rfl rfl)
theorem dX2_setKey_106 : decode cX2_setKey 106 = .ok (.iconst 1, 1) := dk_4 (dk_at dksX2_setKey_4 12 rfl rfl)
theorem dX2_setKey_107 : decode cX2_setKey 107 = .ok (.isub, 1) := dk_100 (dk_at dksX2_setKey_4 13 rfl rfl)
theorem dX2_setKey_108 : decode cX2_setKey 108 = .ok (.iaload, 1) := dk_46 (dk_at dksX2_setKey_4 14 rfl rfl)
theorem dX2_setKey_109 : decode cX2_setKey 109 = .ok (.ldc 61, 2) := dk_18 61 (dk_at dksX2_setKey_4 15 rfl rfl)
theorem dX2_setKey_111 : decode cX2_setKey 111 = .ok (.iadd, 1) := dk_96 (dk_at dksX2_setKey_4 17 rfl rfl)
theorem dX2_setKey_112 : decode cX2_setKey 112 = .ok (.iastore, 1) := dk_79 (dk_at dksX2_setKey_4 18 rfl rfl)
theorem dX2_setKey_113 : decode cX2_setKey 113 = .ok (.iinc 4 1, 3) := dk_132 4 1 (dk_at dksX2_setKey_4 19 rfl rfl)
theorem dX2_setKey_116 : decode cX2_setKey 116 = .ok (.goto (-32), 3) := dk_167 255 224 (dk_at dksX2_setKey_5 0 rfl rfl)
theorem dX2_setKey_119 : decode cX2_setKey 119 = .ok (.aload_n 3, 1) := dk_45 (dk_at dksX2_setKey_5 3 rfl rfl)
theorem dX2_setKey_120 : decode cX2_setKey 120 = .ok (.arraylength, 1) := dk_190 (dk_at dksX2_setKey_5 4 rfl rfl)
theorem dX2_setKey_121 : decode cX2_setKey 121 = .ok (.aload_n 0, 1) := dk_42 (dk_at dksX2_setKey_5 5 rfl rfl)
theorem dX2_setKey_122 : decode cX2_setKey 122 = .ok (.getfield 9, 3) := dk_180 0 9 (dk_at dksX2_setKey_5 6 rfl rfl)
theorem dX2_setKey_125 : decode cX2_setKey 125 = .ok (.arraylength, 1) := dk_190 (dk_at dksX2_setKey_5 9 rfl rfl)
theorem dX2_setKey_126 : decode cX2_setKey 126 = .ok (.if_icmp .le 12, 3) := dk_164 0 12 (dk_at dksX2_setKey_5 10 rfl rfl)
theorem dX2_setKey_129 : decode cX2_setKey 129 = .ok (.iconst 3, 1) := dk_6 (dk_at dksX2_setKey_5 13 rfl rfl)
theorem dX2_setKey_130 : decode cX2_setKey 130 = .ok (.aload_n 3, 1) := dk_45 (dk_at dksX2_setKey_5 14 rfl rfl)
theorem dX2_setKey_131 : decode cX2_setKey 131 = .ok (.arraylength, 1) := dk_190 (dk_at dksX2_setKey_5 15 rfl rfl)
theorem dX2_setKey_132 : decode cX2_setKey 132 = .ok (.imul, 1) := dk_104 (dk_at dksX2_setKey_5 16 rfl rfl)
theorem dX2_setKey_133 : decode cX2_setKey 133 = .ok (.istore 4, 2) := dk_54 4 (dk_at dksX2_setKey_5 17 rfl rfl)
theorem dX2_setKey_135 : decode cX2_setKey 135 = .ok (.goto 12, 3) := dk_167 0 12 (dk_at dksX2_setKey_5 19 rfl rfl)
theorem dX2_setKey_138 : decode cX2_setKey 138 = .ok (.iconst 3, 1) := dk_6 (dk_at dksX2_setKey_5 22 rfl rfl)
theorem dX2_setKey_139 : decode cX2_setKey 139 = .ok (.aload_n 0, 1) := dk_42 (dk_at dksX2_setKey_5 23 rfl rfl)
theorem dX2_setKey_140 : decode cX2_setKey 140 = .ok (.getfield 9, 3) := dk_180 0 9 (dk_at dksX2_setKey_6 0 rfl rfl)
theorem dX2_setKey_143 : decode cX2_setKey 143 = .ok (.arraylength, 1) := dk_190 (dk_at dksX2_setKey_6 3 rfl rfl)
theorem dX2_setKey_144 : decode cX2_setKey 144 = .ok (.imul, 1) := dk_104 (dk_at dksX2_setKey_6 4 rfl rfl)
theorem dX2_setKey_145 : decode cX2_setKey 145 = .ok (.istore 4, 2) := dk_54 4 (dk_at dksX2_setKey_6 5 rfl rfl)
theorem dX2_setKey_147 : decode cX2_setKey 147 = .ok (.iconst 0, 1) := dk_3 (dk_at dksX2_setKey_6 7 rfl rfl)
theorem dX2_setKey_148 : decode cX2_setKey 148 = .ok (.istore 5, 2) := dk_54 5 (dk_at dksX2_setKey_6 8 rfl rfl)
theorem dX2_setKey_150 : decode cX2_setKey 150 = .ok (.iconst 0, 1) := dk_3 (dk_at dksX2_setKey_6 10 rfl rfl)
theorem dX2_setKey_151 : decode cX2_setKey 151 = .ok (.istore 6, 2) := dk_54 6 (dk_at dksX2_setKey_6 11 rfl rfl)
theorem dX2_setKey_153 : decode cX2_setKey 153 = .ok (.iconst 0, 1) := dk_3 (dk_at dksX2_setKey_6 13 rfl rfl)
theorem dX2_setKey_154 : decode cX2_setKey 154 = .ok (.istore 7, 2) := dk_54 7 (dk_at dksX2_setKey_6 14 rfl rfl)
theorem dX2_setKey_156 : decode cX2_setKey 156 = .ok (.iconst 0, 1) := dk_3 (dk_at dksX2_setKey_6 16 rfl rfl)
theorem dX2_setKey_157 : decode cX2_setKey 157 = .ok (.istore 8, 2) := dk_54 8 (dk_at dksX2_setKey_6 17 rfl rfl)
theorem dX2_setKey_159 : decode cX2_setKey 159 = .ok (.iconst 0, 1) := dk_3 (dk_at dksX2_setKey_6 19 rfl rfl)
theorem dX2_setKey_160 : decode cX2_setKey 160 = .ok (.istore 9, 2) := dk_54 9 (dk_at dksX2_setKey_6 20 rfl rfl)
theorem dX2_setKey_162 : decode cX2_setKey 162 = .ok (.iload 9, 2) := dk_21 9 (dk_at dksX2_setKey_6 22 rfl rfl)
theorem dX2_setKey_164 : decode cX2_setKey 164 = .ok (.iload 4, 2) := dk_21 4 (dk_at dksX2_setKey_7 0 rfl rfl)
theorem dX2_setKey_166 : decode cX2_setKey 166 = .ok (.if_icmp .ge 84, 3) := dk_162 0 84 (dk_at dksX2_setKey_7 2 rfl rfl)
theorem dX2_setKey_169 : decode cX2_setKey 169 = .ok (.aload_n 0, 1) := dk_42 (dk_at dksX2_setKey_7 5 rfl rfl)
theorem dX2_setKey_170 : decode cX2_setKey 170 = .ok (.getfield 9, 3) := dk_180 0 9 (dk_at dksX2_setKey_7 6 rfl rfl)
theorem dX2_setKey_173 : decode cX2_setKey 173 = .ok (.iload 7, 2) := dk_21 7 (dk_at dksX2_setKey_7 9 rfl rfl)
theorem dX2_setKey_175 : decode cX2_setKey 175 = .ok (.aload_n 0, 1) := dk_42 (dk_at dksX2_setKey_7 11 rfl rfl)
theorem dX2_setKey_176 : decode cX2_setKey 176 = .ok (.aload_n 0, 1) := dk_42 (dk_at dksX2_setKey_7 12 rfl rfl)
theorem dX2_setKey_177 : decode cX2_setKey 177 = .ok (.getfield 9, 3) := dk_180 0 9 (dk_at dksX2_setKey_7 13 rfl rfl)
theorem dX2_setKey_180 : decode cX2_setKey 180 = .ok (.iload 7, 2) := dk_21 7 (dk_at dksX2_setKey_7 16 rfl rfl)
theorem dX2_setKey_182 : decode cX2_setKey 182 = .ok (.iaload, 1) := dk_46 (dk_at dksX2_setKey_7 18 rfl rfl)
theorem dX2_setKey_183 : decode cX2_setKey 183 = .ok (.iload 5, 2) := dk_21 5 (dk_at dksX2_setKey_7 19 rfl rfl)
theorem dX2_setKey_185 : decode cX2_setKey 185 = .ok (.iadd, 1) := dk_96 (dk_at dksX2_setKey_7 21 rfl rfl)
theorem dX2_setKey_186 : decode cX2_setKey 186 = .ok (.iload 6, 2) := dk_21 6 (dk_at dksX2_setKey_7 22 rfl rfl)
theorem dX2_setKey_188 : decode cX2_setKey 188 = .ok (.iadd, 1) := dk_96 (dk_at dksX2_setKey_8 0 rfl rfl)
theorem dX2_setKey_189 : decode cX2_setKey 189 = .ok (.iconst 3, 1) := dk_6 (dk_at dksX2_setKey_8 1 rfl rfl)
theorem dX2_setKey_190 : decode cX2_setKey 190 = .ok (.invokevirtual 62, 3) := dk_182 0 62 (dk_at dksX2_setKey_8 2 rfl rfl)
theorem dX2_setKey_193 : decode cX2_setKey 193 = .ok (.dup_x2, 1) := dk_91 (dk_at dksX2_setKey_8 5 rfl rfl)
theorem dX2_setKey_194 : decode cX2_setKey 194 = .ok (.iastore, 1) := dk_79 (dk_at dksX2_setKey_8 6 rfl rfl)
theorem dX2_setKey_195 : decode cX2_setKey 195 = .ok (.istore 5, 2) := dk_54 5 (dk_at dksX2_setKey_8 7 rfl rfl)
theorem dX2_setKey_197 : decode cX2_setKey 197 = .ok (.aload_n 3, 1) := dk_45 (dk_at dksX2_setKey_8 9 rfl rfl)
theorem dX2_setKey_198 : decode cX2_setKey 198 = .ok (.iload 8, 2) := dk_21 8 (dk_at dksX2_setKey_8 10 rfl rfl)
theorem dX2_setKey_200 : decode cX2_setKey 200 = .ok (.aload_n 0, 1) := dk_42 (dk_at dksX2_setKey_8 12 rfl rfl)
theorem dX2_setKey_201 : decode cX2_setKey 201 = .ok (.aload_n 3, 1) := dk_45 (dk_at dksX2_setKey_8 13 rfl rfl)
theorem dX2_setKey_202 : decode cX2_setKey 202 = .ok (.iload 8, 2) := dk_21 8 (dk_at dksX2_setKey_8 14 rfl rfl)
theorem dX2_setKey_204 : decode cX2_setKey 204 = .ok (.iaload, 1) := dk_46 (dk_at dksX2_setKey_8 16 rfl rfl)
theorem dX2_setKey_205 : decode cX2_setKey 205 = .ok (.iload 5, 2) := dk_21 5 (dk_at dksX2_setKey_8 17 rfl rfl)
theorem dX2_setKey_207 : decode cX2_setKey 207 = .ok (.iadd, 1) := dk_96 (dk_at dksX2_setKey_8 19 rfl rfl)
theorem dX2_setKey_208 : decode cX2_setKey 208 = .ok (.iload 6, 2) := dk_21 6 (dk_at dksX2_setKey_8 20 rfl rfl)
theorem dX2_setKey_210 : decode cX2_setKey 210 = .ok (.iadd, 1) := dk_96 (dk_at dksX2_setKey_8 22 rfl rfl)
theorem dX2_setKey_211 : decode cX2_setKey 211 = .ok (.iload 5, 2) := dk_21 5 (dk_at dksX2_setKey_9 0 rfl rfl)
theorem dX2_setKey_213 : decode cX2_setKey 213 = .ok (.iload 6, 2) := dk_21 6 (dk_at dksX2_setKey_9 2 rfl rfl)
theorem dX2_setKey_215 : decode cX2_setKey 215 = .ok (.iadd, 1) := dk_96 (dk_at dksX2_setKey_9 4 rfl rfl)
theorem dX2_setKey_216 : decode cX2_setKey 216 = .ok (.invokevirtual 62, 3) := dk_182 0 62 (dk_at dksX2_setKey_9 5 rfl rfl)
theorem dX2_setKey_219 : decode cX2_setKey 219 = .ok (.dup_x2, 1) := dk_91 (dk_at dksX2_setKey_9 8 rfl rfl)
theorem dX2_setKey_220 : decode cX2_setKey 220 = .ok (.iastore, 1) := dk_79 (dk_at dksX2_setKey_9 9 rfl rfl)
theorem dX2_setKey_221 : decode cX2_setKey 221 = .ok (.istore 6, 2) := dk_54 6 (dk_at dksX2_setKey_9 10 rfl rfl)
theorem dX2_setKey_223 : decode cX2_setKey 223 = .ok (.iload 7, 2) := dk_21 7 (dk_at dksX2_setKey_9 12 rfl rfl)
theorem dX2_setKey_225 : decode cX2_setKey 225 = .ok (.iconst 1, 1) := dk_4 (dk_at dksX2_setKey_9 14 rfl rfl)
theorem dX2_setKey_226 : decode cX2_setKey 226 = .ok (.iadd, 1) := dk_96 (dk_at dksX2_setKey_9 15 rfl rfl)
theorem dX2_setKey_227 : decode cX2_setKey 227 = .ok (.aload_n 0, 1) := dk_42 (dk_at dksX2_setKey_9 16 rfl rfl)
theorem dX2_setKey_228 : decode cX2_setKey 228 = .ok (.getfield 9, 3) := dk_180 0 9 (dk_at dksX2_setKey_9 17 rfl rfl)
theorem dX2_setKey_231 : decode cX2_setKey 231 = .ok (.arraylength, 1) := dk_190 (dk_at dksX2_setKey_9 20 rfl rfl)
theorem dX2_setKey_232 : decode cX2_setKey 232 = .ok (.irem, 1) := dk_112 (dk_at dksX2_setKey_9 21 rfl rfl)
theorem dX2_setKey_233 : decode cX2_setKey 233 = .ok (.istore 7, 2) := dk_54 7 (dk_at dksX2_setKey_9 22 rfl rfl)
theorem dX2_setKey_235 : decode cX2_setKey 235 = .ok (.iload 8, 2) := dk_21 8 (dk_at dksX2_setKey_10 0 rfl rfl)
theorem dX2_setKey_237 : decode cX2_setKey 237 = .ok (.iconst 1, 1) := dk_4 (dk_at dksX2_setKey_10 2 rfl rfl)
theorem dX2_setKey_238 : decode cX2_setKey 238 = .ok (.iadd, 1) := dk_96 (dk_at dksX2_setKey_10 3 rfl rfl)
theorem dX2_setKey_239 : decode cX2_setKey 239 = .ok (.aload_n 3, 1) := dk_45 (dk_at dksX2_setKey_10 4 rfl rfl)
theorem dX2_setKey_240 : decode cX2_setKey 240 = .ok (.arraylength, 1) := dk_190 (dk_at dksX2_setKey_10 5 rfl rfl)
theorem dX2_setKey_241 : decode cX2_setKey 241 = .ok (.irem, 1) := dk_112 (dk_at dksX2_setKey_10 6 rfl rfl)
theorem dX2_setKey_242 : decode cX2_setKey 242 = .ok (.istore 8, 2) := dk_54 8 (dk_at dksX2_setKey_10 7 rfl rfl)
theorem dX2_setKey_244 : decode cX2_setKey 244 = .ok (.iinc 9 1, 3) := dk_132 9 1 (dk_at dksX2_setKey_10 9 rfl rfl)
theorem dX2_setKey_247 : decode cX2_setKey 247 = .ok (.goto (-85), 3) := dk_167 255 171 (dk_at dksX2_setKey_10 12 rfl rfl)
theorem dX2_setKey_250 : decode cX2_setKey 250 = .ok (.return_, 1) := dk_177 (dk_at dksX2_setKey_10 15 rfl rfl)
abbrev cX2_rotateLeft : ByteArray := prog_6_method_8_code
def yX2_rotateLeft : MethodName := ⟨RX2, "rotateLeft", "(II)I"⟩
def dkwX2_rotateLeft_0 : List UInt8 := [27, 28, 120, 27, 28, 116, 124, 128, 172]
abbrev dktX2_rotateLeft_0 : List UInt8 := dkwX2_rotateLeft_0 ++ []
theorem dksX2_rotateLeft_0 : cX2_rotateLeft.data.toList.drop 0 = dktX2_rotateLeft_0 := by decide +kernel
theorem dX2_rotateLeft_0 : decode cX2_rotateLeft 0 = .ok (.iload_n 1, 1) := dk_27 (dk_at dksX2_rotateLeft_0 0 rfl rfl)
theorem dX2_rotateLeft_1 : decode cX2_rotateLeft 1 = .ok (.iload_n 2, 1) := dk_28 (dk_at dksX2_rotateLeft_0 1 rfl rfl)
theorem dX2_rotateLeft_2 : decode cX2_rotateLeft 2 = .ok (.ishl, 1) := dk_120 (dk_at dksX2_rotateLeft_0 2 rfl rfl)
theorem dX2_rotateLeft_3 : decode cX2_rotateLeft 3 = .ok (.iload_n 1, 1) := dk_27 (dk_at dksX2_rotateLeft_0 3 rfl rfl)
theorem dX2_rotateLeft_4 : decode cX2_rotateLeft 4 = .ok (.iload_n 2, 1) := dk_28 (dk_at dksX2_rotateLeft_0 4 rfl rfl)
theorem dX2_rotateLeft_5 : decode cX2_rotateLeft 5 = .ok (.ineg, 1) := dk_116 (dk_at dksX2_rotateLeft_0 5 rfl rfl)
theorem dX2_rotateLeft_6 : decode cX2_rotateLeft 6 = .ok (.iushr, 1) := dk_124 (dk_at dksX2_rotateLeft_0 6 rfl rfl)
theorem dX2_rotateLeft_7 : decode cX2_rotateLeft 7 = .ok (.ior, 1) := dk_128 (dk_at dksX2_rotateLeft_0 7 rfl rfl)
theorem dX2_rotateLeft_8 : decode cX2_rotateLeft 8 = .ok (.ireturn, 1) := dk_172 (dk_at dksX2_rotateLeft_0 8 rfl rfl)
abbrev cX2_processBlock : ByteArray := prog_6_method_4_code
def yX2_processBlock : MethodName := ⟨RX2, "processBlock", "([BI[BI)I"⟩
def dkwX2_processBlock_3 : List UInt8 := [45, 21, 4, 182, 0, 53, 167, 0, 12, 42, 43, 28, 45, 21, 4, 182, 0, 57, 172]
abbrev dktX2_processBlock_3 : List UInt8 := dkwX2_processBlock_3 ++ []
def dkwX2_processBlock_2 : List UInt8 := [190, 164, 0, 13, 187, 0, 48, 89, 18, 50, 183, 0, 52, 191, 42, 180, 0, 22, 153, 0, 15, 42, 43, 28]
abbrev dktX2_processBlock_2 : List UInt8 := dkwX2_processBlock_2 ++ dktX2_processBlock_3
def dkwX2_processBlock_1 : List UInt8 := [21, 5, 96, 43, 190, 164, 0, 13, 187, 0, 43, 89, 18, 45, 183, 0, 47, 191, 21, 4, 21, 5, 96, 45]
abbrev dktX2_processBlock_1 : List UInt8 := dkwX2_processBlock_1 ++ dktX2_processBlock_2
def dkwX2_processBlock_0 : List UInt8 := [42, 182, 0, 34, 54, 5, 42, 180, 0, 9, 199, 0, 13, 187, 0, 38, 89, 18, 40, 183, 0, 42, 191, 28]
abbrev dktX2_processBlock_0 : List UInt8 := dkwX2_processBlock_0 ++ dktX2_processBlock_1
theorem dksX2_processBlock_0 : cX2_processBlock.data.toList.drop 0 = dktX2_processBlock_0 := by decide +kernel
theorem dksX2_processBlock_1 : cX2_processBlock.data.toList.drop 24 = dktX2_processBlock_1 := dk_seg dksX2_processBlock_0 24 rfl rfl
theorem dksX2_processBlock_2 : cX2_processBlock.data.toList.drop 48 = dktX2_processBlock_2 := dk_seg dksX2_processBlock_1 24 rfl rfl
theorem dksX2_processBlock_3 : cX2_processBlock.data.toList.drop 72 = dktX2_processBlock_3 := dk_seg dksX2_processBlock_2 24 rfl rfl
theorem dX2_processBlock_0 : decode cX2_processBlock 0 = .ok (.aload_n 0, 1) := dk_42 (dk_at dksX2_processBlock_0 0 rfl rfl)
theorem dX2_processBlock_1 : decode cX2_processBlock 1 = .ok (.invokevirtual 34, 3) := dk_182 0 34 (dk_at dksX2_processBlock_0 1 rfl rfl)
theorem dX2_processBlock_4 : decode cX2_processBlock 4 = .ok (.istore 5, 2) := dk_54 5 (dk_at dksX2_processBlock_0 4 rfl rfl)
theorem dX2_processBlock_6 : decode cX2_processBlock 6 = .ok (.aload_n 0, 1) := dk_42 (dk_at dksX2_processBlock_0 6 rfl rfl)
theorem dX2_processBlock_7 : decode cX2_processBlock 7 = .ok (.getfield 9, 3) := dk_180 0 9 (dk_at dksX2_processBlock_0 7 rfl rfl)
theorem dX2_processBlock_10 : decode cX2_processBlock 10 = .ok (.ifnonnull 13, 3) := dk_199 0 13 (dk_at dksX2_processBlock_0 10 rfl rfl)
theorem dX2_processBlock_13 : decode cX2_processBlock 13 = .ok (.new 38, 3) := dk_187 0 38 (dk_at dksX2_processBlock_0 13 rfl rfl)
theorem dX2_processBlock_16 : decode cX2_processBlock 16 = .ok (.dup, 1) := dk_89 (dk_at dksX2_processBlock_0 16 rfl rfl)
theorem dX2_processBlock_17 : decode cX2_processBlock 17 = .ok (.ldc 40, 2) := dk_18 40 (dk_at dksX2_processBlock_0 17 rfl rfl)
theorem dX2_processBlock_19 : decode cX2_processBlock 19 = .ok (.invokespecial 42, 3) := dk_183 0 42 (dk_at dksX2_processBlock_0 19 rfl rfl)
theorem dX2_processBlock_22 : decode cX2_processBlock 22 = .ok (.athrow, 1) := dk_191 (dk_at dksX2_processBlock_0 22 rfl rfl)
theorem dX2_processBlock_23 : decode cX2_processBlock 23 = .ok (.iload_n 2, 1) := dk_28 (dk_at dksX2_processBlock_0 23 rfl rfl)
theorem dX2_processBlock_24 : decode cX2_processBlock 24 = .ok (.iload 5, 2) := dk_21 5 (dk_at dksX2_processBlock_1 0 rfl rfl)
theorem dX2_processBlock_26 : decode cX2_processBlock 26 = .ok (.iadd, 1) := dk_96 (dk_at dksX2_processBlock_1 2 rfl rfl)
theorem dX2_processBlock_27 : decode cX2_processBlock 27 = .ok (.aload_n 1, 1) := dk_43 (dk_at dksX2_processBlock_1 3 rfl rfl)
theorem dX2_processBlock_28 : decode cX2_processBlock 28 = .ok (.arraylength, 1) := dk_190 (dk_at dksX2_processBlock_1 4 rfl rfl)
theorem dX2_processBlock_29 : decode cX2_processBlock 29 = .ok (.if_icmp .le 13, 3) := dk_164 0 13 (dk_at dksX2_processBlock_1 5 rfl rfl)
theorem dX2_processBlock_32 : decode cX2_processBlock 32 = .ok (.new 43, 3) := dk_187 0 43 (dk_at dksX2_processBlock_1 8 rfl rfl)
theorem dX2_processBlock_35 : decode cX2_processBlock 35 = .ok (.dup, 1) := dk_89 (dk_at dksX2_processBlock_1 11 rfl rfl)
theorem dX2_processBlock_36 : decode cX2_processBlock 36 = .ok (.ldc 45, 2) := dk_18 45 (dk_at dksX2_processBlock_1 12 rfl rfl)
theorem dX2_processBlock_38 : decode cX2_processBlock 38 = .ok (.invokespecial 47, 3) := dk_183 0 47 (dk_at dksX2_processBlock_1 14 rfl rfl)
theorem dX2_processBlock_41 : decode cX2_processBlock 41 = .ok (.athrow, 1) := dk_191 (dk_at dksX2_processBlock_1 17 rfl rfl)
theorem dX2_processBlock_42 : decode cX2_processBlock 42 = .ok (.iload 4, 2) := dk_21 4 (dk_at dksX2_processBlock_1 18 rfl rfl)
theorem dX2_processBlock_44 : decode cX2_processBlock 44 = .ok (.iload 5, 2) := dk_21 5 (dk_at dksX2_processBlock_1 20 rfl rfl)
theorem dX2_processBlock_46 : decode cX2_processBlock 46 = .ok (.iadd, 1) := dk_96 (dk_at dksX2_processBlock_1 22 rfl rfl)
theorem dX2_processBlock_47 : decode cX2_processBlock 47 = .ok (.aload_n 3, 1) := dk_45 (dk_at dksX2_processBlock_1 23 rfl rfl)
theorem dX2_processBlock_48 : decode cX2_processBlock 48 = .ok (.arraylength, 1) := dk_190 (dk_at dksX2_processBlock_2 0 rfl rfl)
theorem dX2_processBlock_49 : decode cX2_processBlock 49 = .ok (.if_icmp .le 13, 3) := dk_164 0 13 (dk_at dksX2_processBlock_2 1 rfl rfl)
theorem dX2_processBlock_52 : decode cX2_processBlock 52 = .ok (.new 48, 3) := dk_187 0 48 (dk_at dksX2_processBlock_2 4 rfl rfl)
theorem dX2_processBlock_55 : decode cX2_processBlock 55 = .ok (.dup, 1) := dk_89 (dk_at dksX2_processBlock_2 7 rfl rfl)
theorem dX2_processBlock_56 : decode cX2_processBlock 56 = .ok (.ldc 50, 2) := dk_18 50 (dk_at dksX2_processBlock_2 8 rfl rfl)
theorem dX2_processBlock_58 : decode cX2_processBlock 58 = .ok (.invokespecial 52, 3) := dk_183 0 52 (dk_at dksX2_processBlock_2 10 rfl rfl)
theorem dX2_processBlock_61 : decode cX2_processBlock 61 = .ok (.athrow, 1) := dk_191 (dk_at dksX2_processBlock_2 13 rfl rfl)
theorem dX2_processBlock_62 : decode cX2_processBlock 62 = .ok (.aload_n 0, 1) := dk_42 (dk_at dksX2_processBlock_2 14 rfl rfl)
theorem dX2_processBlock_63 : decode cX2_processBlock 63 = .ok (.getfield 22, 3) := dk_180 0 22 (dk_at dksX2_processBlock_2 15 rfl rfl)
theorem dX2_processBlock_66 : decode cX2_processBlock 66 = .ok (.ifCond .eq 15, 3) := dk_153 0 15 (dk_at dksX2_processBlock_2 18 rfl rfl)
theorem dX2_processBlock_69 : decode cX2_processBlock 69 = .ok (.aload_n 0, 1) := dk_42 (dk_at dksX2_processBlock_2 21 rfl rfl)
theorem dX2_processBlock_70 : decode cX2_processBlock 70 = .ok (.aload_n 1, 1) := dk_43 (dk_at dksX2_processBlock_2 22 rfl rfl)
theorem dX2_processBlock_71 : decode cX2_processBlock 71 = .ok (.iload_n 2, 1) := dk_28 (dk_at dksX2_processBlock_2 23 rfl rfl)
theorem dX2_processBlock_72 : decode cX2_processBlock 72 = .ok (.aload_n 3, 1) := dk_45 (dk_at dksX2_processBlock_3 0 rfl rfl)
theorem dX2_processBlock_73 : decode cX2_processBlock 73 = .ok (.iload 4, 2) := dk_21 4 (dk_at dksX2_processBlock_3 1 rfl rfl)
theorem dX2_processBlock_75 : decode cX2_processBlock 75 = .ok (.invokevirtual 53, 3) := dk_182 0 53 (dk_at dksX2_processBlock_3 3 rfl rfl)
theorem dX2_processBlock_78 : decode cX2_processBlock 78 = .ok (.goto 12, 3) := dk_167 0 12 (dk_at dksX2_processBlock_3 6 rfl rfl)
theorem dX2_processBlock_81 : decode cX2_processBlock 81 = .ok (.aload_n 0, 1) := dk_42 (dk_at dksX2_processBlock_3 9 rfl rfl)
theorem dX2_processBlock_82 : decode cX2_processBlock 82 = .ok (.aload_n 1, 1) := dk_43 (dk_at dksX2_processBlock_3 10 rfl rfl)
theorem dX2_processBlock_83 : decode cX2_processBlock 83 = .ok (.iload_n 2, 1) := dk_28 (dk_at dksX2_processBlock_3 11 rfl rfl)
theorem dX2_processBlock_84 : decode cX2_processBlock 84 = .ok (.aload_n 3, 1) := dk_45 (dk_at dksX2_processBlock_3 12 rfl rfl)
theorem dX2_processBlock_85 : decode cX2_processBlock 85 = .ok (.iload 4, 2) := dk_21 4 (dk_at dksX2_processBlock_3 13 rfl rfl)
theorem dX2_processBlock_87 : decode cX2_processBlock 87 = .ok (.invokevirtual 57, 3) := dk_182 0 57 (dk_at dksX2_processBlock_3 15 rfl rfl)
theorem dX2_processBlock_90 : decode cX2_processBlock 90 = .ok (.ireturn, 1) := dk_172 (dk_at dksX2_processBlock_3 18 rfl rfl)
abbrev cX2_getBlockSize : ByteArray := prog_6_method_2_code
def yX2_getBlockSize : MethodName := ⟨RX2, "getBlockSize", "()I"⟩
theorem dX2_getBlockSize_0 : decode cX2_getBlockSize 0 = .ok (.bipush 16, 2) := by decide +kernel
theorem dX2_getBlockSize_2 : decode cX2_getBlockSize 2 = .ok (.ireturn, 1) := by decide +kernel
abbrev cX2_encryptBlock : ByteArray := prog_6_method_6_code
def yX2_encryptBlock : MethodName := ⟨RX2, "encryptBlock", "([BI[BI)I"⟩
def dkwX2_encryptBlock_11 : List UInt8 := [182, 0, 70, 42, 21, 8, 45, 21, 4, 16, 12, 96, 182, 0, 70, 16, 16, 172]
abbrev dktX2_encryptBlock_11 : List UInt8 := dkwX2_encryptBlock_11 ++ []
def dkwX2_encryptBlock_10 : List UInt8 := [182, 0, 70, 42, 21, 6, 45, 21, 4, 7, 96, 182, 0, 70, 42, 21, 7, 45, 21, 4, 16, 8, 96]
abbrev dktX2_encryptBlock_10 : List UInt8 := dkwX2_encryptBlock_10 ++ dktX2_encryptBlock_11
def dkwX2_encryptBlock_9 : List UInt8 := [46, 96, 54, 5, 21, 7, 42, 180, 0, 9, 16, 43, 46, 96, 54, 7, 42, 21, 5, 45, 21, 4]
abbrev dktX2_encryptBlock_9 : List UInt8 := dkwX2_encryptBlock_9 ++ dktX2_encryptBlock_10
def dkwX2_encryptBlock_8 : List UInt8 := [54, 6, 21, 8, 54, 7, 21, 12, 54, 8, 132, 9, 1, 167, 255, 116, 21, 5, 42, 180, 0, 9, 16, 42]
abbrev dktX2_encryptBlock_8 : List UInt8 := dkwX2_encryptBlock_8 ++ dktX2_encryptBlock_9
def dkwX2_encryptBlock_7 : List UInt8 := [42, 180, 0, 9, 5, 21, 9, 104, 4, 96, 46, 96, 54, 7, 21, 5, 54, 12, 21, 6, 54, 5, 21, 7]
abbrev dktX2_encryptBlock_7 : List UInt8 := dkwX2_encryptBlock_7 ++ dktX2_encryptBlock_8
def dkwX2_encryptBlock_6 : List UInt8 := [104, 46, 96, 54, 5, 21, 7, 21, 11, 130, 54, 7, 42, 21, 7, 21, 10, 182, 0, 62, 54, 7, 21, 7]
abbrev dktX2_encryptBlock_6 : List UInt8 := dkwX2_encryptBlock_6 ++ dktX2_encryptBlock_7
def dkwX2_encryptBlock_5 : List UInt8 := [21, 10, 130, 54, 5, 42, 21, 5, 21, 11, 182, 0, 62, 54, 5, 21, 5, 42, 180, 0, 9, 5, 21, 9]
abbrev dktX2_encryptBlock_5 : List UInt8 := dkwX2_encryptBlock_5 ++ dktX2_encryptBlock_6
def dkwX2_encryptBlock_4 : List UInt8 := [54, 10, 21, 8, 5, 21, 8, 104, 4, 96, 104, 54, 11, 42, 21, 11, 8, 182, 0, 62, 54, 11, 21, 5]
abbrev dktX2_encryptBlock_4 : List UInt8 := dkwX2_encryptBlock_4 ++ dktX2_encryptBlock_5
def dkwX2_encryptBlock_3 : List UInt8 := [3, 54, 10, 3, 54, 11, 21, 6, 5, 21, 6, 104, 4, 96, 104, 54, 10, 42, 21, 10, 8, 182, 0, 62]
abbrev dktX2_encryptBlock_3 : List UInt8 := dkwX2_encryptBlock_3 ++ dktX2_encryptBlock_4
def dkwX2_encryptBlock_2 : List UInt8 := [96, 54, 6, 21, 8, 42, 180, 0, 9, 4, 46, 96, 54, 8, 4, 54, 9, 21, 9, 16, 20, 163, 0, 139]
abbrev dktX2_encryptBlock_2 : List UInt8 := dkwX2_encryptBlock_2 ++ dktX2_encryptBlock_3
def dkwX2_encryptBlock_1 : List UInt8 := [182, 0, 66, 54, 7, 42, 43, 28, 16, 12, 96, 182, 0, 66, 54, 8, 21, 6, 42, 180, 0, 9, 3, 46]
abbrev dktX2_encryptBlock_1 : List UInt8 := dkwX2_encryptBlock_1 ++ dktX2_encryptBlock_2
def dkwX2_encryptBlock_0 : List UInt8 := [42, 43, 28, 182, 0, 66, 54, 5, 42, 43, 28, 7, 96, 182, 0, 66, 54, 6, 42, 43, 28, 16, 8, 96]
abbrev dktX2_encryptBlock_0 : List UInt8 := dkwX2_encryptBlock_0 ++ dktX2_encryptBlock_1
theorem dksX2_encryptBlock_0 : cX2_encryptBlock.data.toList.drop 0 = dktX2_encryptBlock_0 := by decide +kernel
theorem dksX2_encryptBlock_1 : cX2_encryptBlock.data.toList.drop 24 = dktX2_encryptBlock_1 := dk_seg dksX2_encryptBlock_0 24 rfl rfl
theorem dksX2_encryptBlock_2 : cX2_encryptBlock.data.toList.drop 48 = dktX2_encryptBlock_2 := dk_seg dksX2_encryptBlock_1 24 rfl rfl
theorem dksX2_encryptBlock_3 : cX2_encryptBlock.data.toList.drop 72 = dktX2_encryptBlock_3 := dk_seg dksX2_encryptBlock_2 24 rfl rfl
theorem dksX2_encryptBlock_4 : cX2_encryptBlock.data.toList.drop 96 = dktX2_encryptBlock_4 := dk_seg dksX2_encryptBlock_3 24 rfl rfl
theorem dksX2_encryptBlock_5 : cX2_encryptBlock.data.toList.drop 120 = dktX2_encryptBlock_5 := dk_seg dksX2_encryptBlock_4 24 rfl rfl
theorem dksX2_encryptBlock_6 : cX2_encryptBlock.data.toList.drop 144 = dktX2_encryptBlock_6 := dk_seg dksX2_encryptBlock_5 24 rfl rfl
theorem dksX2_encryptBlock_7 : cX2_encryptBlock.data.toList.drop 168 = dktX2_encryptBlock_7 := dk_seg dksX2_encryptBlock_6 24 rfl rfl
theorem dksX2_encryptBlock_8 : cX2_encryptBlock.data.toList.drop 192 = dktX2_encryptBlock_8 := dk_seg dksX2_encryptBlock_7 24 rfl rfl
theorem dksX2_encryptBlock_9 : cX2_encryptBlock.data.toList.drop 216 = dktX2_encryptBlock_9 := dk_seg dksX2_encryptBlock_8 24 rfl rfl
theorem dksX2_encryptBlock_10 : cX2_encryptBlock.data.toList.drop 238 = dktX2_encryptBlock_10 := dk_seg dksX2_encryptBlock_9 22 rfl rfl
theorem dksX2_encryptBlock_11 : cX2_encryptBlock.data.toList.drop 261 = dktX2_encryptBlock_11 := dk_seg dksX2_encryptBlock_10 23 rfl rfl
theorem dX2_encryptBlock_0 : decode cX2_encryptBlock 0 = .ok (.aload_n 0, 1) := dk_42 (dk_at dksX2_encryptBlock_0 0 rfl rfl)
theorem dX2_encryptBlock_1 : decode cX2_encryptBlock 1 = .ok (.aload_n 1, 1) := dk_43 (dk_at dksX2_encryptBlock_0 1 rfl rfl)
theorem dX2_encryptBlock_2 : decode cX2_encryptBlock 2 = .ok (.iload_n 2, 1) := dk_28 (dk_at dksX2_encryptBlock_0 2 rfl rfl)
theorem dX2_encryptBlock_3 : decode cX2_encryptBlock 3 = .ok (.invokevirtual 66, 3) := dk_182 0 66 (dk_at dksX2_encryptBlock_0 3 rfl rfl)
theorem dX2_encryptBlock_6 : decode cX2_encryptBlock 6 = .ok (.istore 5, 2) := dk_54 5 (dk_at dksX2_encryptBlock_0 6 rfl rfl)
theorem dX2_encryptBlock_8 : decode cX2_encryptBlock 8 = .ok (.aload_n 0, 1) := dk_42 (dk_at dksX2_encryptBlock_0 8 rfl rfl)
theorem dX2_encryptBlock_9 : decode cX2_encryptBlock 9 = .ok (.aload_n 1, 1) := dk_43 (dk_at dksX2_encryptBlock_0 9 rfl rfl)
theorem dX2_encryptBlock_10 : decode cX2_encryptBlock 10 = .ok (.iload_n 2, 1) := dk_28 (dk_at dksX2_encryptBlock_0 10 rfl rfl)
theorem dX2_encryptBlock_11 : decode cX2_encryptBlock 11 = .ok (.iconst 4, 1) := dk_7 (dk_at dksX2_encryptBlock_0 11 rfl rfl)
theorem dX2_encryptBlock_12 : decode cX2_encryptBlock 12 = .ok (.iadd, 1) := dk_96 (dk_at dksX2_encryptBlock_0 12 rfl rfl)
theorem dX2_encryptBlock_13 : decode cX2_encryptBlock 13 = .ok (.invokevirtual 66, 3) := dk_182 0 66 (dk_at dksX2_encryptBlock_0 13 rfl rfl)
theorem dX2_encryptBlock_16 : decode cX2_encryptBlock 16 = .ok (.istore 6, 2) := dk_54 6 (dk_at dksX2_encryptBlock_0 16 rfl rfl)
theorem dX2_encryptBlock_18 : decode cX2_encryptBlock 18 = .ok (.aload_n 0, 1) := dk_42 (dk_at dksX2_encryptBlock_0 18 rfl rfl)
theorem dX2_encryptBlock_19 : decode cX2_encryptBlock 19 = .ok (.aload_n 1, 1) := dk_43 (dk_at dksX2_encryptBlock_0 19 rfl rfl)
theorem dX2_encryptBlock_20 : decode cX2_encryptBlock 20 = .ok (.iload_n 2, 1) := dk_28 (dk_at dksX2_encryptBlock_0 20 rfl rfl)
theorem dX2_encryptBlock_21 : decode cX2_encryptBlock 21 = .ok (.bipush 8, 2) := dk_16 8 (dk_at dksX2_encryptBlock_0 21 rfl rfl)
theorem dX2_encryptBlock_23 : decode cX2_encryptBlock 23 = .ok (.iadd, 1) := dk_96 (dk_at dksX2_encryptBlock_0 23 rfl rfl)
theorem dX2_encryptBlock_24 : decode cX2_encryptBlock 24 = .ok (.invokevirtual 66, 3) := dk_182 0 66 (dk_at dksX2_encryptBlock_1 0 rfl rfl)
theorem dX2_encryptBlock_27 : decode cX2_encryptBlock 27 = .ok (.istore 7, 2) := dk_54 7 (dk_at dksX2_encryptBlock_1 3 rfl rfl)
theorem dX2_encryptBlock_29 : decode cX2_encryptBlock 29 = .ok (.aload_n 0, 1) := dk_42 (dk_at dksX2_encryptBlock_1 5 rfl rfl)
theorem dX2_encryptBlock_30 : decode cX2_encryptBlock 30 = .ok (.aload_n 1, 1) := dk_43 (dk_at dksX2_encryptBlock_1 6 rfl rfl)
theorem dX2_encryptBlock_31 : decode cX2_encryptBlock 31 = .ok (.iload_n 2, 1) := dk_28 (dk_at dksX2_encryptBlock_1 7 rfl rfl)
theorem dX2_encryptBlock_32 : decode cX2_encryptBlock 32 = .ok (.bipush 12, 2) := dk_16 12 (dk_at dksX2_encryptBlock_1 8 rfl rfl)
theorem dX2_encryptBlock_34 : decode cX2_encryptBlock 34 = .ok (.iadd, 1) := dk_96 (dk_at dksX2_encryptBlock_1 10 rfl rfl)
theorem dX2_encryptBlock_35 : decode cX2_encryptBlock 35 = .ok (.invokevirtual 66, 3) := dk_182 0 66 (dk_at dksX2_encryptBlock_1 11 rfl rfl)
theorem dX2_encryptBlock_38 : decode cX2_encryptBlock 38 = .ok (.istore 8, 2) := dk_54 8 (dk_at dksX2_encryptBlock_1 14 rfl rfl)
theorem dX2_encryptBlock_40 : decode cX2_encryptBlock 40 = .ok (.iload 6, 2) := dk_21 6 (dk_at dksX2_encryptBlock_1 16 rfl rfl)
theorem dX2_encryptBlock_42 : decode cX2_encryptBlock 42 = .ok (.aload_n 0, 1) := dk_42 (dk_at dksX2_encryptBlock_1 18 rfl rfl)
theorem dX2_encryptBlock_43 : decode cX2_encryptBlock 43 = .ok (.getfield 9, 3) := dk_180 0 9 (dk_at dksX2_encryptBlock_1 19 rfl rfl)
theorem dX2_encryptBlock_46 : decode cX2_encryptBlock 46 = .ok (.iconst 0, 1) := dk_3 (dk_at dksX2_encryptBlock_1 22 rfl rfl)
theorem dX2_encryptBlock_47 : decode cX2_encryptBlock 47 = .ok (.iaload, 1) := dk_46 (dk_at dksX2_encryptBlock_1 23 rfl rfl)
theorem dX2_encryptBlock_48 : decode cX2_encryptBlock 48 = .ok (.iadd, 1) := dk_96 (dk_at dksX2_encryptBlock_2 0 rfl rfl)
theorem dX2_encryptBlock_49 : decode cX2_encryptBlock 49 = .ok (.istore 6, 2) := dk_54 6 (dk_at dksX2_encryptBlock_2 1 rfl rfl)
theorem dX2_encryptBlock_51 : decode cX2_encryptBlock 51 = .ok (.iload 8, 2) := dk_21 8 (dk_at dksX2_encryptBlock_2 3 rfl rfl)
theorem dX2_encryptBlock_53 : decode cX2_encryptBlock 53 = .ok (.aload_n 0, 1) := dk_42 (dk_at dksX2_encryptBlock_2 5 rfl rfl)
theorem dX2_encryptBlock_54 : decode cX2_encryptBlock 54 = .ok (.getfield 9, 3) := dk_180 0 9 (dk_at dksX2_encryptBlock_2 6 rfl rfl)
theorem dX2_encryptBlock_57 : decode cX2_encryptBlock 57 = .ok (.iconst 1, 1) := dk_4 (dk_at dksX2_encryptBlock_2 9 rfl rfl)
theorem dX2_encryptBlock_58 : decode cX2_encryptBlock 58 = .ok (.iaload, 1) := dk_46 (dk_at dksX2_encryptBlock_2 10 rfl rfl)
theorem dX2_encryptBlock_59 : decode cX2_encryptBlock 59 = .ok (.iadd, 1) := dk_96 (dk_at dksX2_encryptBlock_2 11 rfl rfl)
theorem dX2_encryptBlock_60 : decode cX2_encryptBlock 60 = .ok (.istore 8, 2) := dk_54 8 (dk_at dksX2_encryptBlock_2 12 rfl rfl)
theorem dX2_encryptBlock_62 : decode cX2_encryptBlock 62 = .ok (.iconst 1, 1) := dk_4 (dk_at dksX2_encryptBlock_2 14 rfl rfl)
theorem dX2_encryptBlock_63 : decode cX2_encryptBlock 63 = .ok (.istore 9, 2) := dk_54 9 (dk_at dksX2_encryptBlock_2 15 rfl rfl)
theorem dX2_encryptBlock_65 : decode cX2_encryptBlock 65 = .ok (.iload 9, 2) := dk_21 9 (dk_at dksX2_encryptBlock_2 17 rfl rfl)
theorem dX2_encryptBlock_67 : decode cX2_encryptBlock 67 = .ok (.bipush 20, 2) := dk_16 20 (dk_at dksX2_encryptBlock_2 19 rfl rfl)
theorem dX2_encryptBlock_69 : decode cX2_encryptBlock 69 = .ok (.if_icmp .gt 139, 3) := dk_163 0 139 (dk_at dksX2_encryptBlock_2 21 rfl rfl)
theorem dX2_encryptBlock_72 : decode cX2_encryptBlock 72 = .ok (.iconst 0, 1) := dk_3 (dk_at dksX2_encryptBlock_3 0 rfl rfl)
theorem dX2_encryptBlock_73 : decode cX2_encryptBlock 73 = .ok (.istore 10, 2) := dk_54 10 (dk_at dksX2_encryptBlock_3 1 rfl rfl)
theorem dX2_encryptBlock_75 : decode cX2_encryptBlock 75 = .ok (.iconst 0, 1) := dk_3 (dk_at dksX2_encryptBlock_3 3 rfl rfl)
theorem dX2_encryptBlock_76 : decode cX2_encryptBlock 76 = .ok (.istore 11, 2) := dk_54 11 (dk_at dksX2_encryptBlock_3 4 rfl rfl)
theorem dX2_encryptBlock_78 : decode cX2_encryptBlock 78 = .ok (.iload 6, 2) := dk_21 6 (dk_at dksX2_encryptBlock_3 6 rfl rfl)
theorem dX2_encryptBlock_80 : decode cX2_encryptBlock 80 = .ok (.iconst 2, 1) := dk_5 (dk_at dksX2_encryptBlock_3 8 rfl rfl)
theorem dX2_encryptBlock_81 : decode cX2_encryptBlock 81 = .ok (.iload 6, 2) := dk_21 6 (dk_at dksX2_encryptBlock_3 9 rfl rfl)
theorem dX2_encryptBlock_83 : decode cX2_encryptBlock 83 = .ok (.imul, 1) := dk_104 (dk_at dksX2_encryptBlock_3 11 rfl rfl)
theorem dX2_encryptBlock_84 : decode cX2_encryptBlock 84 = .ok (.iconst 1, 1) := dk_4 (dk_at dksX2_encryptBlock_3 12 rfl rfl)
theorem dX2_encryptBlock_85 : decode cX2_encryptBlock 85 = .ok (.iadd, 1) := dk_96 (dk_at dksX2_encryptBlock_3 13 rfl rfl)
theorem dX2_encryptBlock_86 : decode cX2_encryptBlock 86 = .ok (.imul, 1) := dk_104 (dk_at dksX2_encryptBlock_3 14 rfl rfl)
theorem dX2_encryptBlock_87 : decode cX2_encryptBlock 87 = .ok (.istore 10, 2) := dk_54 10 (dk_at dksX2_encryptBlock_3 15 rfl rfl)
theorem dX2_encryptBlock_89 : decode cX2_encryptBlock 89 = .ok (.aload_n 0, 1) := dk_42 (dk_at dksX2_encryptBlock_3 17 rfl rfl)
theorem dX2_encryptBlock_90 : decode cX2_encryptBlock 90 = .ok (.iload 10, 2) := dk_21 10 (dk_at dksX2_encryptBlock_3 18 rfl rfl)
theorem dX2_encryptBlock_92 : decode cX2_encryptBlock 92 = .ok (.iconst 5, 1) := dk_8 (dk_at dksX2_encryptBlock_3 20 rfl rfl)
theorem dX2_encryptBlock_93 : decode cX2_encryptBlock 93 = .ok (.invokevirtual 62, 3) := dk_182 0 62 (dk_at dksX2_encryptBlock_3 21 rfl rfl)
theorem dX2_encryptBlock_96 : decode cX2_encryptBlock 96 = .ok (.istore 10, 2) := dk_54 10 (dk_at dksX2_encryptBlock_4 0 rfl rfl)
theorem dX2_encryptBlock_98 : decode cX2_encryptBlock 98 = .ok (.iload 8, 2) := dk_21 8 (dk_at dksX2_encryptBlock_4 2 rfl rfl)
theorem dX2_encryptBlock_100 : decode cX2_encryptBlock 100 = .ok (.iconst 2, 1) := dk_5 (dk_at dksX2_encryptBlock_4 4 rfl rfl)
theorem dX2_encryptBlock_101 : decode cX2_encryptBlock 101 = .ok (.iload 8, 2) := dk_21 8 (dk_at dksX2_encryptBlock_4 5 rfl rfl)
theorem dX2_encryptBlock_103 : decode cX2_encryptBlock 103 = .ok (.imul, 1) := dk_104 (dk_at dksX2_encryptBlock_4 7 rfl rfl)
theorem dX2_encryptBlock_104 : decode cX2_encryptBlock 104 = .ok (.iconst 1, 1) := dk_4 (dk_at dksX2_encryptBlock_4 8 rfl rfl)
theorem dX2_encryptBlock_105 : decode cX2_encryptBlock 105 = .ok (.iadd, 1) := dk_96 (dk_at dksX2_encryptBlock_4 9 rfl rfl)
theorem dX2_encryptBlock_106 : decode cX2_encryptBlock 106 = .ok (.imul, 1) := dk_104 (dk_at dksX2_encryptBlock_4 10 rfl rfl)
theorem dX2_encryptBlock_107 : decode cX2_encryptBlock 107 = .ok (.istore 11, 2) := dk_54 11 (dk_at dksX2_encryptBlock_4 11 rfl rfl)
theorem dX2_encryptBlock_109 : decode cX2_encryptBlock 109 = .ok (.aload_n 0, 1) := dk_42 (dk_at dksX2_encryptBlock_4 13 rfl rfl)
theorem dX2_encryptBlock_110 : decode cX2_encryptBlock 110 = .ok (.iload 11, 2) := dk_21 11 (dk_at dksX2_encryptBlock_4 14 rfl rfl)
theorem dX2_encryptBlock_112 : decode cX2_encryptBlock 112 = .ok (.iconst 5, 1) := dk_8 (dk_at dksX2_encryptBlock_4 16 rfl rfl)
theorem dX2_encryptBlock_113 : decode cX2_encryptBlock 113 = .ok (.invokevirtual 62, 3) := dk_182 0 62 (dk_at dksX2_encryptBlock_4 17 rfl rfl)
theorem dX2_encryptBlock_116 : decode cX2_encryptBlock 116 = .ok (.istore 11, 2) := dk_54 11 (dk_at dksX2_encryptBlock_4 20 rfl rfl)
theorem dX2_encryptBlock_118 : decode cX2_encryptBlock 118 = .ok (.iload 5, 2) := dk_21 5 (dk_at dksX2_encryptBlock_4 22 rfl rfl)
theorem dX2_encryptBlock_120 : decode cX2_encryptBlock 120 = .ok (.iload 10, 2) := dk_21 10 (dk_at dksX2_encryptBlock_5 0 rfl rfl)
theorem dX2_encryptBlock_122 : decode cX2_encryptBlock 122 = .ok (.ixor, 1) := dk_130 (dk_at dksX2_encryptBlock_5 2 rfl rfl)
theorem dX2_encryptBlock_123 : decode cX2_encryptBlock 123 = .ok (.istore 5, 2) := dk_54 5 (dk_at dksX2_encryptBlock_5 3 rfl rfl)
theorem dX2_encryptBlock_125 : decode cX2_encryptBlock 125 = .ok (.aload_n 0, 1) := dk_42 (dk_at dksX2_encryptBlock_5 5 rfl rfl)
theorem dX2_encryptBlock_126 : decode cX2_encryptBlock 126 = .ok (.iload 5, 2) := dk_21 5 (dk_at dksX2_encryptBlock_5 6 rfl rfl)
theorem dX2_encryptBlock_128 : decode cX2_encryptBlock 128 = .ok (.iload 11, 2) := dk_21 11 (dk_at dksX2_encryptBlock_5 8 rfl rfl)
theorem dX2_encryptBlock_130 : decode cX2_encryptBlock 130 = .ok (.invokevirtual 62, 3) := dk_182 0 62 (dk_at dksX2_encryptBlock_5 10 rfl rfl)
theorem dX2_encryptBlock_133 : decode cX2_encryptBlock 133 = .ok (.istore 5, 2) := dk_54 5 (dk_at dksX2_encryptBlock_5 13 rfl rfl)
theorem dX2_encryptBlock_135 : decode cX2_encryptBlock 135 = .ok (.iload 5, 2) := dk_21 5 (dk_at dksX2_encryptBlock_5 15 rfl rfl)
theorem dX2_encryptBlock_137 : decode cX2_encryptBlock 137 = .ok (.aload_n 0, 1) := dk_42 (dk_at dksX2_encryptBlock_5 17 rfl rfl)
theorem dX2_encryptBlock_138 : decode cX2_encryptBlock 138 = .ok (.getfield 9, 3) := dk_180 0 9 (dk_at dksX2_encryptBlock_5 18 rfl rfl)
theorem dX2_encryptBlock_141 : decode cX2_encryptBlock 141 = .ok (.iconst 2, 1) := dk_5 (dk_at dksX2_encryptBlock_5 21 rfl rfl)
theorem dX2_encryptBlock_142 : decode cX2_encryptBlock 142 = .ok (.iload 9, 2) := dk_21 9 (dk_at dksX2_encryptBlock_5 22 rfl rfl)
theorem dX2_encryptBlock_144 : decode cX2_encryptBlock 144 = .ok (.imul, 1) := dk_104 (dk_at dksX2_encryptBlock_6 0 rfl rfl)
theorem dX2_encryptBlock_145 : decode cX2_encryptBlock 145 = .ok (.iaload, 1) := dk_46 (dk_at dksX2_encryptBlock_6 1 rfl rfl)
theorem dX2_encryptBlock_146 : decode cX2_encryptBlock 146 = .ok (.iadd, 1) := dk_96 (dk_at dksX2_encryptBlock_6 2 rfl rfl)
theorem dX2_encryptBlock_147 : decode cX2_encryptBlock 147 = .ok (.istore 5, 2) := dk_54 5 (dk_at dksX2_encryptBlock_6 3 rfl rfl)
theorem dX2_encryptBlock_149 : decode cX2_encryptBlock 149 = .ok (.iload 7, 2) := dk_21 7 (dk_at dksX2_encryptBlock_6 5 rfl rfl)
theorem dX2_encryptBlock_151 : decode cX2_encryptBlock 151 = .ok (.iload 11, 2) := dk_21 11 (dk_at dksX2_encryptBlock_6 7 rfl rfl)
theorem dX2_encryptBlock_153 : decode cX2_encryptBlock 153 = .ok (.ixor, 1) := dk_130 (dk_at dksX2_encryptBlock_6 9 rfl rfl)
theorem dX2_encryptBlock_154 : decode cX2_encryptBlock 154 = .ok (.istore 7, 2) := dk_54 7 (dk_at dksX2_encryptBlock_6 10 rfl rfl)
theorem dX2_encryptBlock_156 : decode cX2_encryptBlock 156 = .ok (.aload_n 0, 1) := dk_42 (dk_at dksX2_encryptBlock_6 12 rfl rfl)
theorem dX2_encryptBlock_157 : decode cX2_encryptBlock 157 = .ok (.iload 7, 2) := dk_21 7 (dk_at dksX2_encryptBlock_6 13 rfl rfl)
theorem dX2_encryptBlock_159 : decode cX2_encryptBlock 159 = .ok (.iload 10, 2) := dk_21 10 (dk_at dksX2_encryptBlock_6 15 rfl rfl)
theorem dX2_encryptBlock_161 : decode cX2_encryptBlock 161 = .ok (.invokevirtual 62, 3) := dk_182 0 62 (dk_at dksX2_encryptBlock_6 17 rfl rfl)
theorem dX2_encryptBlock_164 : decode cX2_encryptBlock 164 = .ok (.istore 7, 2) := dk_54 7 (dk_at dksX2_encryptBlock_6 20 rfl rfl)
theorem dX2_encryptBlock_166 : decode cX2_encryptBlock 166 = .ok (.iload 7, 2) := dk_21 7 (dk_at dksX2_encryptBlock_6 22 rfl rfl)
theorem dX2_encryptBlock_168 : decode cX2_encryptBlock 168 = .ok (.aload_n 0, 1) := dk_42 (dk_at dksX2_encryptBlock_7 0 rfl rfl)
theorem dX2_encryptBlock_169 : decode cX2_encryptBlock 169 = .ok (.getfield 9, 3) := dk_180 0 9 (dk_at dksX2_encryptBlock_7 1 rfl rfl)
theorem dX2_encryptBlock_172 : decode cX2_encryptBlock 172 = .ok (.iconst 2, 1) := dk_5 (dk_at dksX2_encryptBlock_7 4 rfl rfl)
theorem dX2_encryptBlock_173 : decode cX2_encryptBlock 173 = .ok (.iload 9, 2) := dk_21 9 (dk_at dksX2_encryptBlock_7 5 rfl rfl)
theorem dX2_encryptBlock_175 : decode cX2_encryptBlock 175 = .ok (.imul, 1) := dk_104 (dk_at dksX2_encryptBlock_7 7 rfl rfl)
theorem dX2_encryptBlock_176 : decode cX2_encryptBlock 176 = .ok (.iconst 1, 1) := dk_4 (dk_at dksX2_encryptBlock_7 8 rfl rfl)
theorem dX2_encryptBlock_177 : decode cX2_encryptBlock 177 = .ok (.iadd, 1) := dk_96 (dk_at dksX2_encryptBlock_7 9 rfl rfl)
theorem dX2_encryptBlock_178 : decode cX2_encryptBlock 178 = .ok (.iaload, 1) := dk_46 (dk_at dksX2_encryptBlock_7 10 rfl rfl)
theorem dX2_encryptBlock_179 : decode cX2_encryptBlock 179 = .ok (.iadd, 1) := dk_96 (dk_at dksX2_encryptBlock_7 11 rfl rfl)
theorem dX2_encryptBlock_180 : decode cX2_encryptBlock 180 = .ok (.istore 7, 2) := dk_54 7 (dk_at dksX2_encryptBlock_7 12 rfl rfl)
theorem dX2_encryptBlock_182 : decode cX2_encryptBlock 182 = .ok (.iload 5, 2) := dk_21 5 (dk_at dksX2_encryptBlock_7 14 rfl rfl)
theorem dX2_encryptBlock_184 : decode cX2_encryptBlock 184 = .ok (.istore 12, 2) := dk_54 12 (dk_at dksX2_encryptBlock_7 16 rfl rfl)
theorem dX2_encryptBlock_186 : decode cX2_encryptBlock 186 = .ok (.iload 6, 2) := dk_21 6 (dk_at dksX2_encryptBlock_7 18 rfl rfl)
theorem dX2_encryptBlock_188 : decode cX2_encryptBlock 188 = .ok (.istore 5, 2) := dk_54 5 (dk_at dksX2_encryptBlock_7 20 rfl rfl)
theorem dX2_encryptBlock_190 : decode cX2_encryptBlock 190 = .ok (.iload 7, 2) := dk_21 7 (dk_at dksX2_encryptBlock_7 22 rfl rfl)
theorem dX2_encryptBlock_192 : decode cX2_encryptBlock 192 = .ok (.istore 6, 2) := dk_54 6 (dk_at dksX2_encryptBlock_8 0 rfl rfl)
theorem dX2_encryptBlock_194 : decode cX2_encryptBlock 194 = .ok (.iload 8, 2) := dk_21 8 (dk_at dksX2_encryptBlock_8 2 rfl rfl)
theorem dX2_encryptBlock_196 : decode cX2_encryptBlock 196 = .ok (.istore 7, 2) := dk_54 7 (dk_at dksX2_encryptBlock_8 4 rfl rfl)
theorem dX2_encryptBlock_198 : decode cX2_encryptBlock 198 = .ok (.iload 12, 2) := dk_21 12 (dk_at dksX2_encryptBlock_8 6 rfl rfl)
theorem dX2_encryptBlock_200 : decode cX2_encryptBlock 200 = .ok (.istore 8, 2) := dk_54 8 (dk_at dksX2_encryptBlock_8 8 rfl rfl)
theorem dX2_encryptBlock_202 : decode cX2_encryptBlock 202 = .ok (.iinc 9 1, 3) := dk_132 9 1 (dk_at dksX2_encryptBlock_8 10 rfl rfl)
theorem dX2_encryptBlock_205 : decode cX2_encryptBlock 205 = .ok (.goto (-140), 3) := dk_167 255 116 (dk_at dksX2_encryptBlock_8 13 rfl rfl)
theorem dX2_encryptBlock_208 : decode cX2_encryptBlock 208 = .ok (.iload 5, 2) := dk_21 5 (dk_at dksX2_encryptBlock_8 16 rfl rfl)
theorem dX2_encryptBlock_210 : decode cX2_encryptBlock 210 = .ok (.aload_n 0, 1) := dk_42 (dk_at dksX2_encryptBlock_8 18 rfl rfl)
theorem dX2_encryptBlock_211 : decode cX2_encryptBlock 211 = .ok (.getfield 9, 3) := dk_180 0 9 (dk_at dksX2_encryptBlock_8 19 rfl rfl)
theorem dX2_encryptBlock_214 : decode cX2_encryptBlock 214 = .ok (.bipush 42, 2) := dk_16 42 (dk_at dksX2_encryptBlock_8 22 rfl rfl)
theorem dX2_encryptBlock_216 : decode cX2_encryptBlock 216 = .ok (.iaload, 1) := dk_46 (dk_at dksX2_encryptBlock_9 0 rfl rfl)
theorem dX2_encryptBlock_217 : decode cX2_encryptBlock 217 = .ok (.iadd, 1) := dk_96 (dk_at dksX2_encryptBlock_9 1 rfl rfl)
theorem dX2_encryptBlock_218 : decode cX2_encryptBlock 218 = .ok (.istore 5, 2) := dk_54 5 (dk_at dksX2_encryptBlock_9 2 rfl rfl)
theorem dX2_encryptBlock_220 : decode cX2_encryptBlock 220 = .ok (.iload 7, 2) := dk_21 7 (dk_at dksX2_encryptBlock_9 4 rfl rfl)
theorem dX2_encryptBlock_222 : decode cX2_encryptBlock 222 = .ok (.aload_n 0, 1) := dk_42 (dk_at dksX2_encryptBlock_9 6 rfl rfl)
theorem dX2_encryptBlock_223 : decode cX2_encryptBlock 223 = .ok (.getfield 9, 3) := dk_180 0 9 (dk_at dksX2_encryptBlock_9 7 rfl rfl)
theorem dX2_encryptBlock_226 : decode cX2_encryptBlock 226 = .ok (.bipush 43, 2) := dk_16 43 (dk_at dksX2_encryptBlock_9 10 rfl rfl)
theorem dX2_encryptBlock_228 : decode cX2_encryptBlock 228 = .ok (.iaload, 1) := dk_46 (dk_at dksX2_encryptBlock_9 12 rfl rfl)
theorem dX2_encryptBlock_229 : decode cX2_encryptBlock 229 = .ok (.iadd, 1) := dk_96 (dk_at dksX2_encryptBlock_9 13 rfl rfl)
theorem dX2_encryptBlock_230 : decode cX2_encryptBlock 230 = .ok (.istore 7, 2) := dk_54 7 (dk_at dksX2_encryptBlock_9 14 rfl rfl)
theorem dX2_encryptBlock_232 : decode cX2_encryptBlock 232 = .ok (.aload_n 0, 1) := dk_42 (dk_at dksX2_encryptBlock_9 16 rfl rfl)
theorem dX2_encryptBlock_233 : decode cX2_encryptBlock 233 = .ok (.iload 5, 2) := dk_21 5 (dk_at dksX2_encryptBlock_9 17 rfl rfl)
theorem dX2_encryptBlock_235 : decode cX2_encryptBlock 235 = .ok (.aload_n 3, 1) := dk_45 (dk_at dksX2_encryptBlock_9 19 rfl rfl)
theorem dX2_encryptBlock_236 : decode cX2_encryptBlock 236 = .ok (.iload 4, 2) := dk_21 4 (dk_at dksX2_encryptBlock_9 20 rfl rfl)
theorem dX2_encryptBlock_238 : decode cX2_encryptBlock 238 = .ok (.invokevirtual 70, 3) := dk_182 0 70 (dk_at dksX2_encryptBlock_10 0 rfl rfl)
theorem dX2_encryptBlock_241 : decode cX2_encryptBlock 241 = .ok (.aload_n 0, 1) := dk_42 (dk_at dksX2_encryptBlock_10 3 rfl rfl)
theorem dX2_encryptBlock_242 : decode cX2_encryptBlock 242 = .ok (.iload 6, 2) := dk_21 6 (dk_at dksX2_encryptBlock_10 4 rfl rfl)
theorem dX2_encryptBlock_244 : decode cX2_encryptBlock 244 = .ok (.aload_n 3, 1) := dk_45 (dk_at dksX2_encryptBlock_10 6 rfl rfl)
theorem dX2_encryptBlock_245 : decode cX2_encryptBlock 245 = .ok (.iload 4, 2) := dk_21 4 (dk_at dksX2_encryptBlock_10 7 rfl rfl)
theorem dX2_encryptBlock_247 : decode cX2_encryptBlock 247 = .ok (.iconst 4, 1) := dk_7 (dk_at dksX2_encryptBlock_10 9 rfl rfl)
theorem dX2_encryptBlock_248 : decode cX2_encryptBlock 248 = .ok (.iadd, 1) := dk_96 (dk_at dksX2_encryptBlock_10 10 rfl rfl)
theorem dX2_encryptBlock_249 : decode cX2_encryptBlock 249 = .ok (.invokevirtual 70, 3) := dk_182 0 70 (dk_at dksX2_encryptBlock_10 11 rfl rfl)
theorem dX2_encryptBlock_252 : decode cX2_encryptBlock 252 = .ok (.aload_n 0, 1) := dk_42 (dk_at dksX2_encryptBlock_10 14 rfl rfl)
theorem dX2_encryptBlock_253 : decode cX2_encryptBlock 253 = .ok (.iload 7, 2) := dk_21 7 (dk_at dksX2_encryptBlock_10 15 rfl rfl)
theorem dX2_encryptBlock_255 : decode cX2_encryptBlock 255 = .ok (.aload_n 3, 1) := dk_45 (dk_at dksX2_encryptBlock_10 17 rfl rfl)
theorem dX2_encryptBlock_256 : decode cX2_encryptBlock 256 = .ok (.iload 4, 2) := dk_21 4 (dk_at dksX2_encryptBlock_10 18 rfl rfl)
theorem dX2_encryptBlock_258 : decode cX2_encryptBlock 258 = .ok (.bipush 8, 2) := dk_16 8 (dk_at dksX2_encryptBlock_10 20 rfl rfl)
theorem dX2_encryptBlock_260 : decode cX2_encryptBlock 260 = .ok (.iadd, 1) := dk_96 (dk_at dksX2_encryptBlock_10 22 rfl rfl)
theorem dX2_encryptBlock_261 : decode cX2_encryptBlock 261 = .ok (.invokevirtual 70, 3) := dk_182 0 70 (dk_at dksX2_encryptBlock_11 0 rfl rfl)
theorem dX2_encryptBlock_264 : decode cX2_encryptBlock 264 = .ok (.aload_n 0, 1) := dk_42 (dk_at dksX2_encryptBlock_11 3 rfl rfl)
theorem dX2_encryptBlock_265 : decode cX2_encryptBlock 265 = .ok (.iload 8, 2) := dk_21 8 (dk_at dksX2_encryptBlock_11 4 rfl rfl)
theorem dX2_encryptBlock_267 : decode cX2_encryptBlock 267 = .ok (.aload_n 3, 1) := dk_45 (dk_at dksX2_encryptBlock_11 6 rfl rfl)
theorem dX2_encryptBlock_268 : decode cX2_encryptBlock 268 = .ok (.iload 4, 2) := dk_21 4 (dk_at dksX2_encryptBlock_11 7 rfl rfl)
theorem dX2_encryptBlock_270 : decode cX2_encryptBlock 270 = .ok (.bipush 12, 2) := dk_16 12 (dk_at dksX2_encryptBlock_11 9 rfl rfl)
theorem dX2_encryptBlock_272 : decode cX2_encryptBlock 272 = .ok (.iadd, 1) := dk_96 (dk_at dksX2_encryptBlock_11 11 rfl rfl)
theorem dX2_encryptBlock_273 : decode cX2_encryptBlock 273 = .ok (.invokevirtual 70, 3) := dk_182 0 70 (dk_at dksX2_encryptBlock_11 12 rfl rfl)
theorem dX2_encryptBlock_276 : decode cX2_encryptBlock 276 = .ok (.bipush 16, 2) := dk_16 16 (dk_at dksX2_encryptBlock_11 15 rfl rfl)
theorem dX2_encryptBlock_278 : decode cX2_encryptBlock 278 = .ok (.ireturn, 1) := dk_172 (dk_at dksX2_encryptBlock_11 17 rfl rfl)
abbrev cX2_bytesToWord : ByteArray := prog_6_method_10_code
def yX2_bytesToWord : MethodName := ⟨RX2, "bytesToWord", "([BI)I"⟩
def dkwX2_bytesToWord_1 : List UInt8 := [96, 62, 132, 4, 255, 167, 255, 232, 29, 172]
abbrev dktX2_bytesToWord_1 : List UInt8 := dkwX2_bytesToWord_1 ++ []
def dkwX2_bytesToWord_0 : List UInt8 := [3, 62, 6, 54, 4, 21, 4, 155, 0, 25, 29, 16, 8, 120, 43, 21, 4, 28, 96, 51, 17, 0, 255, 126]
abbrev dktX2_bytesToWord_0 : List UInt8 := dkwX2_bytesToWord_0 ++ dktX2_bytesToWord_1
theorem dksX2_bytesToWord_0 : cX2_bytesToWord.data.toList.drop 0 = dktX2_bytesToWord_0 := by decide +kernel
theorem dksX2_bytesToWord_1 : cX2_bytesToWord.data.toList.drop 24 = dktX2_bytesToWord_1 := dk_seg dksX2_bytesToWord_0 24 rfl rfl
theorem dX2_bytesToWord_0 : decode cX2_bytesToWord 0 = .ok (.iconst 0, 1) := dk_3 (dk_at dksX2_bytesToWord_0 0 rfl rfl)
theorem dX2_bytesToWord_1 : decode cX2_bytesToWord 1 = .ok (.istore_n 3, 1) := dk_62 (dk_at dksX2_bytesToWord_0 1 rfl rfl)
theorem dX2_bytesToWord_2 : decode cX2_bytesToWord 2 = .ok (.iconst 3, 1) := dk_6 (dk_at dksX2_bytesToWord_0 2 rfl rfl)
theorem dX2_bytesToWord_3 : decode cX2_bytesToWord 3 = .ok (.istore 4, 2) := dk_54 4 (dk_at dksX2_bytesToWord_0 3 rfl rfl)
theorem dX2_bytesToWord_5 : decode cX2_bytesToWord 5 = .ok (.iload 4, 2) := dk_21 4 (dk_at dksX2_bytesToWord_0 5 rfl rfl)
theorem dX2_bytesToWord_7 : decode cX2_bytesToWord 7 = .ok (.ifCond .lt 25, 3) := dk_155 0 25 (dk_at dksX2_bytesToWord_0 7 rfl rfl)
theorem dX2_bytesToWord_10 : decode cX2_bytesToWord 10 = .ok (.iload_n 3, 1) := dk_29 (dk_at dksX2_bytesToWord_0 10 rfl rfl)
theorem dX2_bytesToWord_11 : decode cX2_bytesToWord 11 = .ok (.bipush 8, 2) := dk_16 8 (dk_at dksX2_bytesToWord_0 11 rfl rfl)
theorem dX2_bytesToWord_13 : decode cX2_bytesToWord 13 = .ok (.ishl, 1) := dk_120 (dk_at dksX2_bytesToWord_0 13 rfl rfl)
theorem dX2_bytesToWord_14 : decode cX2_bytesToWord 14 = .ok (.aload_n 1, 1) := dk_43 (dk_at dksX2_bytesToWord_0 14 rfl rfl)
theorem dX2_bytesToWord_15 : decode cX2_bytesToWord 15 = .ok (.iload 4, 2) := dk_21 4 (dk_at dksX2_bytesToWord_0 15 rfl rfl)
theorem dX2_bytesToWord_17 : decode cX2_bytesToWord 17 = .ok (.iload_n 2, 1) := dk_28 (dk_at dksX2_bytesToWord_0 17 rfl rfl)
theorem dX2_bytesToWord_18 : decode cX2_bytesToWord 18 = .ok (.iadd, 1) := dk_96 (dk_at dksX2_bytesToWord_0 18 rfl rfl)
theorem dX2_bytesToWord_19 : decode cX2_bytesToWord 19 = .ok (.baload, 1) := dk_51 (dk_at dksX2_bytesToWord_0 19 rfl rfl)
theorem dX2_bytesToWord_20 : decode cX2_bytesToWord 20 = .ok (.sipush 255, 3) := dk_17 0 255 (dk_at dksX2_bytesToWord_0 20 rfl rfl)
theorem dX2_bytesToWord_23 : decode cX2_bytesToWord 23 = .ok (.iand, 1) := dk_126 (dk_at dksX2_bytesToWord_0 23 rfl rfl)
theorem dX2_bytesToWord_24 : decode cX2_bytesToWord 24 = .ok (.iadd, 1) := dk_96 (dk_at dksX2_bytesToWord_1 0 rfl rfl)
theorem dX2_bytesToWord_25 : decode cX2_bytesToWord 25 = .ok (.istore_n 3, 1) := dk_62 (dk_at dksX2_bytesToWord_1 1 rfl rfl)
theorem dX2_bytesToWord_26 : decode cX2_bytesToWord 26 = .ok (.iinc 4 (-1), 3) := dk_132 4 255 (dk_at dksX2_bytesToWord_1 2 rfl rfl)
theorem dX2_bytesToWord_29 : decode cX2_bytesToWord 29 = .ok (.goto (-24), 3) := dk_167 255 232 (dk_at dksX2_bytesToWord_1 5 rfl rfl)
theorem dX2_bytesToWord_32 : decode cX2_bytesToWord 32 = .ok (.iload_n 3, 1) := dk_29 (dk_at dksX2_bytesToWord_1 8 rfl rfl)
theorem dX2_bytesToWord_33 : decode cX2_bytesToWord 33 = .ok (.ireturn, 1) := dk_172 (dk_at dksX2_bytesToWord_1 9 rfl rfl)
abbrev cX2_wordToBytes : ByteArray := prog_6_method_11_code
def yX2_wordToBytes : MethodName := ⟨RX2, "wordToBytes", "(I[BI)V"⟩
def dkwX2_wordToBytes_1 : List UInt8 := [132, 4, 1, 167, 255, 234, 177]
abbrev dktX2_wordToBytes_1 : List UInt8 := dkwX2_wordToBytes_1 ++ []
def dkwX2_wordToBytes_0 : List UInt8 := [3, 54, 4, 21, 4, 7, 162, 0, 22, 44, 21, 4, 29, 96, 27, 145, 84, 27, 16, 8, 124, 60]
abbrev dktX2_wordToBytes_0 : List UInt8 := dkwX2_wordToBytes_0 ++ dktX2_wordToBytes_1
theorem dksX2_wordToBytes_0 : cX2_wordToBytes.data.toList.drop 0 = dktX2_wordToBytes_0 := by decide +kernel
theorem dksX2_wordToBytes_1 : cX2_wordToBytes.data.toList.drop 22 = dktX2_wordToBytes_1 := dk_seg dksX2_wordToBytes_0 22 rfl rfl
theorem dX2_wordToBytes_0 : decode cX2_wordToBytes 0 = .ok (.iconst 0, 1) := dk_3 (dk_at dksX2_wordToBytes_0 0 rfl rfl)
theorem dX2_wordToBytes_1 : decode cX2_wordToBytes 1 = .ok (.istore 4, 2) := dk_54 4 (dk_at dksX2_wordToBytes_0 1 rfl rfl)
theorem dX2_wordToBytes_3 : decode cX2_wordToBytes 3 = .ok (.iload 4, 2) := dk_21 4 (dk_at dksX2_wordToBytes_0 3 rfl rfl)
theorem dX2_wordToBytes_5 : decode cX2_wordToBytes 5 = .ok (.iconst 4, 1) := dk_7 (dk_at dksX2_wordToBytes_0 5 rfl rfl)
theorem dX2_wordToBytes_6 : decode cX2_wordToBytes 6 = .ok (.if_icmp .ge 22, 3) := dk_162 0 22 (dk_at dksX2_wordToBytes_0 6 rfl rfl)
theorem dX2_wordToBytes_9 : decode cX2_wordToBytes 9 = .ok (.aload_n 2, 1) := dk_44 (dk_at dksX2_wordToBytes_0 9 rfl rfl)
theorem dX2_wordToBytes_10 : decode cX2_wordToBytes 10 = .ok (.iload 4, 2) := dk_21 4 (dk_at dksX2_wordToBytes_0 10 rfl rfl)
theorem dX2_wordToBytes_12 : decode cX2_wordToBytes 12 = .ok (.iload_n 3, 1) := dk_29 (dk_at dksX2_wordToBytes_0 12 rfl rfl)
theorem dX2_wordToBytes_13 : decode cX2_wordToBytes 13 = .ok (.iadd, 1) := dk_96 (dk_at dksX2_wordToBytes_0 13 rfl rfl)
theorem dX2_wordToBytes_14 : decode cX2_wordToBytes 14 = .ok (.iload_n 1, 1) := dk_27 (dk_at dksX2_wordToBytes_0 14 rfl rfl)
theorem dX2_wordToBytes_15 : decode cX2_wordToBytes 15 = .ok (.i2b, 1) := dk_145 (dk_at dksX2_wordToBytes_0 15 rfl rfl)
theorem dX2_wordToBytes_16 : decode cX2_wordToBytes 16 = .ok (.bastore, 1) := dk_84 (dk_at dksX2_wordToBytes_0 16 rfl rfl)
theorem dX2_wordToBytes_17 : decode cX2_wordToBytes 17 = .ok (.iload_n 1, 1) := dk_27 (dk_at dksX2_wordToBytes_0 17 rfl rfl)
theorem dX2_wordToBytes_18 : decode cX2_wordToBytes 18 = .ok (.bipush 8, 2) := dk_16 8 (dk_at dksX2_wordToBytes_0 18 rfl rfl)
theorem dX2_wordToBytes_20 : decode cX2_wordToBytes 20 = .ok (.iushr, 1) := dk_124 (dk_at dksX2_wordToBytes_0 20 rfl rfl)
theorem dX2_wordToBytes_21 : decode cX2_wordToBytes 21 = .ok (.istore_n 1, 1) := dk_60 (dk_at dksX2_wordToBytes_0 21 rfl rfl)
theorem dX2_wordToBytes_22 : decode cX2_wordToBytes 22 = .ok (.iinc 4 1, 3) := dk_132 4 1 (dk_at dksX2_wordToBytes_1 0 rfl rfl)
theorem dX2_wordToBytes_25 : decode cX2_wordToBytes 25 = .ok (.goto (-22), 3) := dk_167 255 234 (dk_at dksX2_wordToBytes_1 3 rfl rfl)
theorem dX2_wordToBytes_28 : decode cX2_wordToBytes 28 = .ok (.return_, 1) := dk_177 (dk_at dksX2_wordToBytes_1 6 rfl rfl)
abbrev cX2_decryptBlock : ByteArray := prog_6_method_7_code
def yX2_decryptBlock : MethodName := ⟨RX2, "decryptBlock", "([BI[BI)I"⟩
def dkwX2_decryptBlock_11 : List UInt8 := [96, 182, 0, 70, 42, 21, 8, 45, 21, 4, 16, 12, 96, 182, 0, 70, 16, 16, 172]
abbrev dktX2_decryptBlock_11 : List UInt8 := dkwX2_decryptBlock_11 ++ []
def dkwX2_decryptBlock_10 : List UInt8 := [21, 4, 182, 0, 70, 42, 21, 6, 45, 21, 4, 7, 96, 182, 0, 70, 42, 21, 7, 45, 21, 4, 16, 8]
abbrev dktX2_decryptBlock_10 : List UInt8 := dkwX2_decryptBlock_10 ++ dktX2_decryptBlock_11
def dkwX2_decryptBlock_9 : List UInt8 := [180, 0, 9, 4, 46, 100, 54, 8, 21, 6, 42, 180, 0, 9, 3, 46, 100, 54, 6, 42, 21, 5, 45]
abbrev dktX2_decryptBlock_9 : List UInt8 := dkwX2_decryptBlock_9 ++ dktX2_decryptBlock_10
def dkwX2_decryptBlock_8 : List UInt8 := [21, 11, 182, 0, 74, 54, 5, 21, 5, 21, 10, 130, 54, 5, 132, 9, 255, 167, 255, 117, 21, 8, 42]
abbrev dktX2_decryptBlock_8 : List UInt8 := dkwX2_decryptBlock_8 ++ dktX2_decryptBlock_9
def dkwX2_decryptBlock_7 : List UInt8 := [21, 7, 21, 11, 130, 54, 7, 21, 5, 42, 180, 0, 9, 5, 21, 9, 104, 46, 100, 54, 5, 42, 21, 5]
abbrev dktX2_decryptBlock_7 : List UInt8 := dkwX2_decryptBlock_7 ++ dktX2_decryptBlock_8
def dkwX2_decryptBlock_6 : List UInt8 := [42, 180, 0, 9, 5, 21, 9, 104, 4, 96, 46, 100, 54, 7, 42, 21, 7, 21, 10, 182, 0, 74, 54, 7]
abbrev dktX2_decryptBlock_6 : List UInt8 := dkwX2_decryptBlock_6 ++ dktX2_decryptBlock_7
def dkwX2_decryptBlock_5 : List UInt8 := [54, 10, 21, 8, 5, 21, 8, 104, 4, 96, 104, 54, 11, 42, 21, 11, 8, 182, 0, 62, 54, 11, 21, 7]
abbrev dktX2_decryptBlock_5 : List UInt8 := dkwX2_decryptBlock_5 ++ dktX2_decryptBlock_6
def dkwX2_decryptBlock_4 : List UInt8 := [54, 6, 21, 12, 54, 5, 21, 6, 5, 21, 6, 104, 4, 96, 104, 54, 10, 42, 21, 10, 8, 182, 0, 62]
abbrev dktX2_decryptBlock_4 : List UInt8 := dkwX2_decryptBlock_4 ++ dktX2_decryptBlock_5
def dkwX2_decryptBlock_3 : List UInt8 := [161, 0, 139, 3, 54, 10, 3, 54, 11, 21, 8, 54, 12, 21, 7, 54, 8, 21, 6, 54, 7, 21, 5]
abbrev dktX2_decryptBlock_3 : List UInt8 := dkwX2_decryptBlock_3 ++ dktX2_decryptBlock_4
def dkwX2_decryptBlock_2 : List UInt8 := [46, 100, 54, 7, 21, 5, 42, 180, 0, 9, 16, 42, 46, 100, 54, 5, 16, 20, 54, 9, 21, 9, 4]
abbrev dktX2_decryptBlock_2 : List UInt8 := dkwX2_decryptBlock_2 ++ dktX2_decryptBlock_3
def dkwX2_decryptBlock_1 : List UInt8 := [182, 0, 66, 54, 7, 42, 43, 28, 16, 12, 96, 182, 0, 66, 54, 8, 21, 7, 42, 180, 0, 9, 16, 43]
abbrev dktX2_decryptBlock_1 : List UInt8 := dkwX2_decryptBlock_1 ++ dktX2_decryptBlock_2
def dkwX2_decryptBlock_0 : List UInt8 := [42, 43, 28, 182, 0, 66, 54, 5, 42, 43, 28, 7, 96, 182, 0, 66, 54, 6, 42, 43, 28, 16, 8, 96]
abbrev dktX2_decryptBlock_0 : List UInt8 := dkwX2_decryptBlock_0 ++ dktX2_decryptBlock_1
theorem dksX2_decryptBlock_0 : cX2_decryptBlock.data.toList.drop 0 = dktX2_decryptBlock_0 := by decide +kernel
theorem dksX2_decryptBlock_1 : cX2_decryptBlock.data.toList.drop 24 = dktX2_decryptBlock_1 := dk_seg dksX2_decryptBlock_0 24 rfl rfl
theorem dksX2_decryptBlock_2 : cX2_decryptBlock.data.toList.drop 48 = dktX2_decryptBlock_2 := dk_seg dksX2_decryptBlock_1 24 rfl rfl
theorem dksX2_decryptBlock_3 : cX2_decryptBlock.data.toList.drop 71 = dktX2_decryptBlock_3 := dk_seg dksX2_decryptBlock_2 23 rfl rfl
theorem dksX2_decryptBlock_4 : cX2_decryptBlock.data.toList.drop 94 = dktX2_decryptBlock_4 := dk_seg dksX2_decryptBlock_3 23 rfl rfl
theorem dksX2_decryptBlock_5 : cX2_decryptBlock.data.toList.drop 118 = dktX2_decryptBlock_5 := dk_seg dksX2_decryptBlock_4 24 rfl rfl
theorem dksX2_decryptBlock_6 : cX2_decryptBlock.data.toList.drop 142 = dktX2_decryptBlock_6 := dk_seg dksX2_decryptBlock_5 24 rfl rfl
theorem dksX2_decryptBlock_7 : cX2_decryptBlock.data.toList.drop 166 = dktX2_decryptBlock_7 := dk_seg dksX2_decryptBlock_6 24 rfl rfl
theorem dksX2_decryptBlock_8 : cX2_decryptBlock.data.toList.drop 190 = dktX2_decryptBlock_8 := dk_seg dksX2_decryptBlock_7 24 rfl rfl
theorem dksX2_decryptBlock_9 : cX2_decryptBlock.data.toList.drop 213 = dktX2_decryptBlock_9 := dk_seg dksX2_decryptBlock_8 23 rfl rfl
theorem dksX2_decryptBlock_10 : cX2_decryptBlock.data.toList.drop 236 = dktX2_decryptBlock_10 := dk_seg dksX2_decryptBlock_9 23 rfl rfl
theorem dksX2_decryptBlock_11 : cX2_decryptBlock.data.toList.drop 260 = dktX2_decryptBlock_11 := dk_seg dksX2_decryptBlock_10 24 rfl rfl
theorem dX2_decryptBlock_0 : decode cX2_decryptBlock 0 = .ok (.aload_n 0, 1) := dk_42 (dk_at dksX2_decryptBlock_0 0 rfl rfl)
theorem dX2_decryptBlock_1 : decode cX2_decryptBlock 1 = .ok (.aload_n 1, 1) := dk_43 (dk_at dksX2_decryptBlock_0 1 rfl rfl)
theorem dX2_decryptBlock_2 : decode cX2_decryptBlock 2 = .ok (.iload_n 2, 1) := dk_28 (dk_at dksX2_decryptBlock_0 2 rfl rfl)
theorem dX2_decryptBlock_3 : decode cX2_decryptBlock 3 = .ok (.invokevirtual 66, 3) := dk_182 0 66 (dk_at dksX2_decryptBlock_0 3 rfl rfl)
theorem dX2_decryptBlock_6 : decode cX2_decryptBlock 6 = .ok (.istore 5, 2) := dk_54 5 (dk_at dksX2_decryptBlock_0 6 rfl rfl)
theorem dX2_decryptBlock_8 : decode cX2_decryptBlock 8 = .ok (.aload_n 0, 1) := dk_42 (dk_at dksX2_decryptBlock_0 8 rfl rfl)
theorem dX2_decryptBlock_9 : decode cX2_decryptBlock 9 = .ok (.aload_n 1, 1) := dk_43 (dk_at dksX2_decryptBlock_0 9 rfl rfl)
theorem dX2_decryptBlock_10 : decode cX2_decryptBlock 10 = .ok (.iload_n 2, 1) := dk_28 (dk_at dksX2_decryptBlock_0 10 rfl rfl)
theorem dX2_decryptBlock_11 : decode cX2_decryptBlock 11 = .ok (.iconst 4, 1) := dk_7 (dk_at dksX2_decryptBlock_0 11 rfl rfl)
theorem dX2_decryptBlock_12 : decode cX2_decryptBlock 12 = .ok (.iadd, 1) := dk_96 (dk_at dksX2_decryptBlock_0 12 rfl rfl)
theorem dX2_decryptBlock_13 : decode cX2_decryptBlock 13 = .ok (.invokevirtual 66, 3) := dk_182 0 66 (dk_at dksX2_decryptBlock_0 13 rfl rfl)
theorem dX2_decryptBlock_16 : decode cX2_decryptBlock 16 = .ok (.istore 6, 2) := dk_54 6 (dk_at dksX2_decryptBlock_0 16 rfl rfl)
theorem dX2_decryptBlock_18 : decode cX2_decryptBlock 18 = .ok (.aload_n 0, 1) := dk_42 (dk_at dksX2_decryptBlock_0 18 rfl rfl)
theorem dX2_decryptBlock_19 : decode cX2_decryptBlock 19 = .ok (.aload_n 1, 1) := dk_43 (dk_at dksX2_decryptBlock_0 19 rfl rfl)
theorem dX2_decryptBlock_20 : decode cX2_decryptBlock 20 = .ok (.iload_n 2, 1) := dk_28 (dk_at dksX2_decryptBlock_0 20 rfl rfl)
theorem dX2_decryptBlock_21 : decode cX2_decryptBlock 21 = .ok (.bipush 8, 2) := dk_16 8 (dk_at dksX2_decryptBlock_0 21 rfl rfl)
theorem dX2_decryptBlock_23 : decode cX2_decryptBlock 23 = .ok (.iadd, 1) := dk_96 (dk_at dksX2_decryptBlock_0 23 rfl rfl)
theorem dX2_decryptBlock_24 : decode cX2_decryptBlock 24 = .ok (.invokevirtual 66, 3) := dk_182 0 66 (dk_at dksX2_decryptBlock_1 0 rfl rfl)
theorem dX2_decryptBlock_27 : decode cX2_decryptBlock 27 = .ok (.istore 7, 2) := dk_54 7 (dk_at dksX2_decryptBlock_1 3 rfl rfl)
theorem dX2_decryptBlock_29 : decode cX2_decryptBlock 29 = .ok (.aload_n 0, 1) := dk_42 (dk_at dksX2_decryptBlock_1 5 rfl rfl)
theorem dX2_decryptBlock_30 : decode cX2_decryptBlock 30 = .ok (.aload_n 1, 1) := dk_43 (dk_at dksX2_decryptBlock_1 6 rfl rfl)
theorem dX2_decryptBlock_31 : decode cX2_decryptBlock 31 = .ok (.iload_n 2, 1) := dk_28 (dk_at dksX2_decryptBlock_1 7 rfl rfl)
theorem dX2_decryptBlock_32 : decode cX2_decryptBlock 32 = .ok (.bipush 12, 2) := dk_16 12 (dk_at dksX2_decryptBlock_1 8 rfl rfl)
theorem dX2_decryptBlock_34 : decode cX2_decryptBlock 34 = .ok (.iadd, 1) := dk_96 (dk_at dksX2_decryptBlock_1 10 rfl rfl)
theorem dX2_decryptBlock_35 : decode cX2_decryptBlock 35 = .ok (.invokevirtual 66, 3) := dk_182 0 66 (dk_at dksX2_decryptBlock_1 11 rfl rfl)
theorem dX2_decryptBlock_38 : decode cX2_decryptBlock 38 = .ok (.istore 8, 2) := dk_54 8 (dk_at dksX2_decryptBlock_1 14 rfl rfl)
theorem dX2_decryptBlock_40 : decode cX2_decryptBlock 40 = .ok (.iload 7, 2) := dk_21 7 (dk_at dksX2_decryptBlock_1 16 rfl rfl)
theorem dX2_decryptBlock_42 : decode cX2_decryptBlock 42 = .ok (.aload_n 0, 1) := dk_42 (dk_at dksX2_decryptBlock_1 18 rfl rfl)
theorem dX2_decryptBlock_43 : decode cX2_decryptBlock 43 = .ok (.getfield 9, 3) := dk_180 0 9 (dk_at dksX2_decryptBlock_1 19 rfl rfl)
theorem dX2_decryptBlock_46 : decode cX2_decryptBlock 46 = .ok (.bipush 43, 2) := dk_16 43 (dk_at dksX2_decryptBlock_1 22 rfl rfl)
theorem dX2_decryptBlock_48 : decode cX2_decryptBlock 48 = .ok (.iaload, 1) := dk_46 (dk_at dksX2_decryptBlock_2 0 rfl rfl)
theorem dX2_decryptBlock_49 : decode cX2_decryptBlock 49 = .ok (.isub, 1) := dk_100 (dk_at dksX2_decryptBlock_2 1 rfl rfl)
theorem dX2_decryptBlock_50 : decode cX2_decryptBlock 50 = .ok (.istore 7, 2) := dk_54 7 (dk_at dksX2_decryptBlock_2 2 rfl rfl)
theorem dX2_decryptBlock_52 : decode cX2_decryptBlock 52 = .ok (.iload 5, 2) := dk_21 5 (dk_at dksX2_decryptBlock_2 4 rfl rfl)
theorem dX2_decryptBlock_54 : decode cX2_decryptBlock 54 = .ok (.aload_n 0, 1) := dk_42 (dk_at dksX2_decryptBlock_2 6 rfl rfl)
theorem dX2_decryptBlock_55 : decode cX2_decryptBlock 55 = .ok (.getfield 9, 3) := dk_180 0 9 (dk_at dksX2_decryptBlock_2 7 rfl rfl)
theorem dX2_decryptBlock_58 : decode cX2_decryptBlock 58 = .ok (.bipush 42, 2) := dk_16 42 (dk_at dksX2_decryptBlock_2 10 rfl rfl)
theorem dX2_decryptBlock_60 : decode cX2_decryptBlock 60 = .ok (.iaload, 1) := dk_46 (dk_at dksX2_decryptBlock_2 12 rfl rfl)
theorem dX2_decryptBlock_61 : decode cX2_decryptBlock 61 = .ok (.isub, 1) := dk_100 (dk_at dksX2_decryptBlock_2 13 rfl rfl)
theorem dX2_decryptBlock_62 : decode cX2_decryptBlock 62 = .ok (.istore 5, 2) := dk_54 5 (dk_at dksX2_decryptBlock_2 14 rfl rfl)
theorem dX2_decryptBlock_64 : decode cX2_decryptBlock 64 = .ok (.bipush 20, 2) := dk_16 20 (dk_at dksX2_decryptBlock_2 16 rfl rfl)
theorem dX2_decryptBlock_66 : decode cX2_decryptBlock 66 = .ok (.istore 9, 2) := dk_54 9 (dk_at dksX2_decryptBlock_2 18 rfl rfl)
theorem dX2_decryptBlock_68 : decode cX2_decryptBlock 68 = .ok (.iload 9, 2) := dk_21 9 (dk_at dksX2_decryptBlock_2 20 rfl rfl)
theorem dX2_decryptBlock_70 : decode cX2_decryptBlock 70 = .ok (.iconst 1, 1) := dk_4 (dk_at dksX2_decryptBlock_2 22 rfl rfl)
theorem dX2_decryptBlock_71 : decode cX2_decryptBlock 71 = .ok (.if_icmp .lt 139, 3) := dk_161 0 139 (dk_at dksX2_decryptBlock_3 0 rfl rfl)
theorem dX2_decryptBlock_74 : decode cX2_decryptBlock 74 = .ok (.iconst 0, 1) := dk_3 (dk_at dksX2_decryptBlock_3 3 rfl rfl)
theorem dX2_decryptBlock_75 : decode cX2_decryptBlock 75 = .ok (.istore 10, 2) := dk_54 10 (dk_at dksX2_decryptBlock_3 4 rfl rfl)
theorem dX2_decryptBlock_77 : decode cX2_decryptBlock 77 = .ok (.iconst 0, 1) := dk_3 (dk_at dksX2_decryptBlock_3 6 rfl rfl)
theorem dX2_decryptBlock_78 : decode cX2_decryptBlock 78 = .ok (.istore 11, 2) := dk_54 11 (dk_at dksX2_decryptBlock_3 7 rfl rfl)
theorem dX2_decryptBlock_80 : decode cX2_decryptBlock 80 = .ok (.iload 8, 2) := dk_21 8 (dk_at dksX2_decryptBlock_3 9 rfl rfl)
theorem dX2_decryptBlock_82 : decode cX2_decryptBlock 82 = .ok (.istore 12, 2) := dk_54 12 (dk_at dksX2_decryptBlock_3 11 rfl rfl)
theorem dX2_decryptBlock_84 : decode cX2_decryptBlock 84 = .ok (.iload 7, 2) := dk_21 7 (dk_at dksX2_decryptBlock_3 13 rfl rfl)
theorem dX2_decryptBlock_86 : decode cX2_decryptBlock 86 = .ok (.istore 8, 2) := dk_54 8 (dk_at dksX2_decryptBlock_3 15 rfl rfl)
theorem dX2_decryptBlock_88 : decode cX2_decryptBlock 88 = .ok (.iload 6, 2) := dk_21 6 (dk_at dksX2_decryptBlock_3 17 rfl rfl)
theorem dX2_decryptBlock_90 : decode cX2_decryptBlock 90 = .ok (.istore 7, 2) := dk_54 7 (dk_at dksX2_decryptBlock_3 19 rfl rfl)
theorem dX2_decryptBlock_92 : decode cX2_decryptBlock 92 = .ok (.iload 5, 2) := dk_21 5 (dk_at dksX2_decryptBlock_3 21 rfl rfl)
theorem dX2_decryptBlock_94 : decode cX2_decryptBlock 94 = .ok (.istore 6, 2) := dk_54 6 (dk_at dksX2_decryptBlock_4 0 rfl rfl)
theorem dX2_decryptBlock_96 : decode cX2_decryptBlock 96 = .ok (.iload 12, 2) := dk_21 12 (dk_at dksX2_decryptBlock_4 2 rfl rfl)
theorem dX2_decryptBlock_98 : decode cX2_decryptBlock 98 = .ok (.istore 5, 2) := dk_54 5 (dk_at dksX2_decryptBlock_4 4 rfl rfl)
theorem dX2_decryptBlock_100 : decode cX2_decryptBlock 100 = .ok (.iload 6, 2) := dk_21 6 (dk_at dksX2_decryptBlock_4 6 rfl rfl)
theorem dX2_decryptBlock_102 : decode cX2_decryptBlock 102 = .ok (.iconst 2, 1) := dk_5 (dk_at dksX2_decryptBlock_4 8 rfl rfl)
theorem dX2_decryptBlock_103 : decode cX2_decryptBlock 103 = .ok (.iload 6, 2) := dk_21 6 (dk_at dksX2_decryptBlock_4 9 rfl rfl)
theorem dX2_decryptBlock_105 : decode cX2_decryptBlock 105 = .ok (.imul, 1) := dk_104 (dk_at dksX2_decryptBlock_4 11 rfl rfl)
theorem dX2_decryptBlock_106 : decode cX2_decryptBlock 106 = .ok (.iconst 1, 1) := dk_4 (dk_at dksX2_decryptBlock_4 12 rfl rfl)
theorem dX2_decryptBlock_107 : decode cX2_decryptBlock 107 = .ok (.iadd, 1) := dk_96 (dk_at dksX2_decryptBlock_4 13 rfl rfl)
theorem dX2_decryptBlock_108 : decode cX2_decryptBlock 108 = .ok (.imul, 1) := dk_104 (dk_at dksX2_decryptBlock_4 14 rfl rfl)
theorem dX2_decryptBlock_109 : decode cX2_decryptBlock 109 = .ok (.istore 10, 2) := dk_54 10 (dk_at dksX2_decryptBlock_4 15 rfl rfl)
theorem dX2_decryptBlock_111 : decode cX2_decryptBlock 111 = .ok (.aload_n 0, 1) := dk_42 (dk_at dksX2_decryptBlock_4 17 rfl rfl)
theorem dX2_decryptBlock_112 : decode cX2_decryptBlock 112 = .ok (.iload 10, 2) := dk_21 10 (dk_at dksX2_decryptBlock_4 18 rfl rfl)
theorem dX2_decryptBlock_114 : decode cX2_decryptBlock 114 = .ok (.iconst 5, 1) := dk_8 (dk_at dksX2_decryptBlock_4 20 rfl rfl)
theorem dX2_decryptBlock_115 : decode cX2_decryptBlock 115 = .ok (.invokevirtual 62, 3) := dk_182 0 62 (dk_at dksX2_decryptBlock_4 21 rfl rfl)
theorem dX2_decryptBlock_118 : decode cX2_decryptBlock 118 = .ok (.istore 10, 2) := dk_54 10 (dk_at dksX2_decryptBlock_5 0 rfl rfl)
theorem dX2_decryptBlock_120 : decode cX2_decryptBlock 120 = .ok (.iload 8, 2) := dk_21 8 (dk_at dksX2_decryptBlock_5 2 rfl rfl)
theorem dX2_decryptBlock_122 : decode cX2_decryptBlock 122 = .ok (.iconst 2, 1) := dk_5 (dk_at dksX2_decryptBlock_5 4 rfl rfl)
theorem dX2_decryptBlock_123 : decode cX2_decryptBlock 123 = .ok (.iload 8, 2) := dk_21 8 (dk_at dksX2_decryptBlock_5 5 rfl rfl)
theorem dX2_decryptBlock_125 : decode cX2_decryptBlock 125 = .ok (.imul, 1) := dk_104 (dk_at dksX2_decryptBlock_5 7 rfl rfl)
theorem dX2_decryptBlock_126 : decode cX2_decryptBlock 126 = .ok (.iconst 1, 1) := dk_4 (dk_at dksX2_decryptBlock_5 8 rfl rfl)
theorem dX2_decryptBlock_127 : decode cX2_decryptBlock 127 = .ok (.iadd, 1) := dk_96 (dk_at dksX2_decryptBlock_5 9 rfl rfl)
theorem dX2_decryptBlock_128 : decode cX2_decryptBlock 128 = .ok (.imul, 1) := dk_104 (dk_at dksX2_decryptBlock_5 10 rfl rfl)
theorem dX2_decryptBlock_129 : decode cX2_decryptBlock 129 = .ok (.istore 11, 2) := dk_54 11 (dk_at dksX2_decryptBlock_5 11 rfl rfl)
theorem dX2_decryptBlock_131 : decode cX2_decryptBlock 131 = .ok (.aload_n 0, 1) := dk_42 (dk_at dksX2_decryptBlock_5 13 rfl rfl)
theorem dX2_decryptBlock_132 : decode cX2_decryptBlock 132 = .ok (.iload 11, 2) := dk_21 11 (dk_at dksX2_decryptBlock_5 14 rfl rfl)
theorem dX2_decryptBlock_134 : decode cX2_decryptBlock 134 = .ok (.iconst 5, 1) := dk_8 (dk_at dksX2_decryptBlock_5 16 rfl rfl)
theorem dX2_decryptBlock_135 : decode cX2_decryptBlock 135 = .ok (.invokevirtual 62, 3) := dk_182 0 62 (dk_at dksX2_decryptBlock_5 17 rfl rfl)
theorem dX2_decryptBlock_138 : decode cX2_decryptBlock 138 = .ok (.istore 11, 2) := dk_54 11 (dk_at dksX2_decryptBlock_5 20 rfl rfl)
theorem dX2_decryptBlock_140 : decode cX2_decryptBlock 140 = .ok (.iload 7, 2) := dk_21 7 (dk_at dksX2_decryptBlock_5 22 rfl rfl)
theorem dX2_decryptBlock_142 : decode cX2_decryptBlock 142 = .ok (.aload_n 0, 1) := dk_42 (dk_at dksX2_decryptBlock_6 0 rfl rfl)
theorem dX2_decryptBlock_143 : decode cX2_decryptBlock 143 = .ok (.getfield 9, 3) := dk_180 0 9 (dk_at dksX2_decryptBlock_6 1 rfl rfl)
theorem dX2_decryptBlock_146 : decode cX2_decryptBlock 146 = .ok (.iconst 2, 1) := dk_5 (dk_at dksX2_decryptBlock_6 4 rfl rfl)
theorem dX2_decryptBlock_147 : decode cX2_decryptBlock 147 = .ok (.iload 9, 2) := dk_21 9 (dk_at dksX2_decryptBlock_6 5 rfl rfl)
theorem dX2_decryptBlock_149 : decode cX2_decryptBlock 149 = .ok (.imul, 1) := dk_104 (dk_at dksX2_decryptBlock_6 7 rfl rfl)
theorem dX2_decryptBlock_150 : decode cX2_decryptBlock 150 = .ok (.iconst 1, 1) := dk_4 (dk_at dksX2_decryptBlock_6 8 rfl rfl)
theorem dX2_decryptBlock_151 : decode cX2_decryptBlock 151 = .ok (.iadd, 1) := dk_96 (dk_at dksX2_decryptBlock_6 9 rfl rfl)
theorem dX2_decryptBlock_152 : decode cX2_decryptBlock 152 = .ok (.iaload, 1) := dk_46 (dk_at dksX2_decryptBlock_6 10 rfl rfl)
theorem dX2_decryptBlock_153 : decode cX2_decryptBlock 153 = .ok (.isub, 1) := dk_100 (dk_at dksX2_decryptBlock_6 11 rfl rfl)
theorem dX2_decryptBlock_154 : decode cX2_decryptBlock 154 = .ok (.istore 7, 2) := dk_54 7 (dk_at dksX2_decryptBlock_6 12 rfl rfl)
theorem dX2_decryptBlock_156 : decode cX2_decryptBlock 156 = .ok (.aload_n 0, 1) := dk_42 (dk_at dksX2_decryptBlock_6 14 rfl rfl)
theorem dX2_decryptBlock_157 : decode cX2_decryptBlock 157 = .ok (.iload 7, 2) := dk_21 7 (dk_at dksX2_decryptBlock_6 15 rfl rfl)
theorem dX2_decryptBlock_159 : decode cX2_decryptBlock 159 = .ok (.iload 10, 2) := dk_21 10 (dk_at dksX2_decryptBlock_6 17 rfl rfl)
theorem dX2_decryptBlock_161 : decode cX2_decryptBlock 161 = .ok (.invokevirtual 74, 3) := dk_182 0 74 (dk_at dksX2_decryptBlock_6 19 rfl rfl)
theorem dX2_decryptBlock_164 : decode cX2_decryptBlock 164 = .ok (.istore 7, 2) := dk_54 7 (dk_at dksX2_decryptBlock_6 22 rfl rfl)
theorem dX2_decryptBlock_166 : decode cX2_decryptBlock 166 = .ok (.iload 7, 2) := dk_21 7 (dk_at dksX2_decryptBlock_7 0 rfl rfl)
theorem dX2_decryptBlock_168 : decode cX2_decryptBlock 168 = .ok (.iload 11, 2) := dk_21 11 (dk_at dksX2_decryptBlock_7 2 rfl rfl)
theorem dX2_decryptBlock_170 : decode cX2_decryptBlock 170 = .ok (.ixor, 1) := dk_130 (dk_at dksX2_decryptBlock_7 4 rfl rfl)
theorem dX2_decryptBlock_171 : decode cX2_decryptBlock 171 = .ok (.istore 7, 2) := dk_54 7 (dk_at dksX2_decryptBlock_7 5 rfl rfl)
theorem dX2_decryptBlock_173 : decode cX2_decryptBlock 173 = .ok (.iload 5, 2) := dk_21 5 (dk_at dksX2_decryptBlock_7 7 rfl rfl)
theorem dX2_decryptBlock_175 : decode cX2_decryptBlock 175 = .ok (.aload_n 0, 1) := dk_42 (dk_at dksX2_decryptBlock_7 9 rfl rfl)
theorem dX2_decryptBlock_176 : decode cX2_decryptBlock 176 = .ok (.getfield 9, 3) := dk_180 0 9 (dk_at dksX2_decryptBlock_7 10 rfl rfl)
theorem dX2_decryptBlock_179 : decode cX2_decryptBlock 179 = .ok (.iconst 2, 1) := dk_5 (dk_at dksX2_decryptBlock_7 13 rfl rfl)
theorem dX2_decryptBlock_180 : decode cX2_decryptBlock 180 = .ok (.iload 9, 2) := dk_21 9 (dk_at dksX2_decryptBlock_7 14 rfl rfl)
theorem dX2_decryptBlock_182 : decode cX2_decryptBlock 182 = .ok (.imul, 1) := dk_104 (dk_at dksX2_decryptBlock_7 16 rfl rfl)
theorem dX2_decryptBlock_183 : decode cX2_decryptBlock 183 = .ok (.iaload, 1) := dk_46 (dk_at dksX2_decryptBlock_7 17 rfl rfl)
theorem dX2_decryptBlock_184 : decode cX2_decryptBlock 184 = .ok (.isub, 1) := dk_100 (dk_at dksX2_decryptBlock_7 18 rfl rfl)
theorem dX2_decryptBlock_185 : decode cX2_decryptBlock 185 = .ok (.istore 5, 2) := dk_54 5 (dk_at dksX2_decryptBlock_7 19 rfl rfl)
theorem dX2_decryptBlock_187 : decode cX2_decryptBlock 187 = .ok (.aload_n 0, 1) := dk_42 (dk_at dksX2_decryptBlock_7 21 rfl rfl)
theorem dX2_decryptBlock_188 : decode cX2_decryptBlock 188 = .ok (.iload 5, 2) := dk_21 5 (dk_at dksX2_decryptBlock_7 22 rfl rfl)
theorem dX2_decryptBlock_190 : decode cX2_decryptBlock 190 = .ok (.iload 11, 2) := dk_21 11 (dk_at dksX2_decryptBlock_8 0 rfl rfl)
theorem dX2_decryptBlock_192 : decode cX2_decryptBlock 192 = .ok (.invokevirtual 74, 3) := dk_182 0 74 (dk_at dksX2_decryptBlock_8 2 rfl rfl)
theorem dX2_decryptBlock_195 : decode cX2_decryptBlock 195 = .ok (.istore 5, 2) := dk_54 5 (dk_at dksX2_decryptBlock_8 5 rfl rfl)
theorem dX2_decryptBlock_197 : decode cX2_decryptBlock 197 = .ok (.iload 5, 2) := dk_21 5 (dk_at dksX2_decryptBlock_8 7 rfl rfl)
theorem dX2_decryptBlock_199 : decode cX2_decryptBlock 199 = .ok (.iload 10, 2) := dk_21 10 (dk_at dksX2_decryptBlock_8 9 rfl rfl)
theorem dX2_decryptBlock_201 : decode cX2_decryptBlock 201 = .ok (.ixor, 1) := dk_130 (dk_at dksX2_decryptBlock_8 11 rfl rfl)
theorem dX2_decryptBlock_202 : decode cX2_decryptBlock 202 = .ok (.istore 5, 2) := dk_54 5 (dk_at dksX2_decryptBlock_8 12 rfl rfl)
theorem dX2_decryptBlock_204 : decode cX2_decryptBlock 204 = .ok (.iinc 9 (-1), 3) := dk_132 9 255 (dk_at dksX2_decryptBlock_8 14 rfl rfl)
theorem dX2_decryptBlock_207 : decode cX2_decryptBlock 207 = .ok (.goto (-139), 3) := dk_167 255 117 (dk_at dksX2_decryptBlock_8 17 rfl rfl)
theorem dX2_decryptBlock_210 : decode cX2_decryptBlock 210 = .ok (.iload 8, 2) := dk_21 8 (dk_at dksX2_decryptBlock_8 20 rfl rfl)
theorem dX2_decryptBlock_212 : decode cX2_decryptBlock 212 = .ok (.aload_n 0, 1) := dk_42 (dk_at dksX2_decryptBlock_8 22 rfl rfl)
theorem dX2_decryptBlock_213 : decode cX2_decryptBlock 213 = .ok (.getfield 9, 3) := dk_180 0 9 (dk_at dksX2_decryptBlock_9 0 rfl rfl)
theorem dX2_decryptBlock_216 : decode cX2_decryptBlock 216 = .ok (.iconst 1, 1) := dk_4 (dk_at dksX2_decryptBlock_9 3 rfl rfl)
theorem dX2_decryptBlock_217 : decode cX2_decryptBlock 217 = .ok (.iaload, 1) := dk_46 (dk_at dksX2_decryptBlock_9 4 rfl rfl)
theorem dX2_decryptBlock_218 : decode cX2_decryptBlock 218 = .ok (.isub, 1) := dk_100 (dk_at dksX2_decryptBlock_9 5 rfl rfl)
theorem dX2_decryptBlock_219 : decode cX2_decryptBlock 219 = .ok (.istore 8, 2) := dk_54 8 (dk_at dksX2_decryptBlock_9 6 rfl rfl)
theorem dX2_decryptBlock_221 : decode cX2_decryptBlock 221 = .ok (.iload 6, 2) := dk_21 6 (dk_at dksX2_decryptBlock_9 8 rfl rfl)
theorem dX2_decryptBlock_223 : decode cX2_decryptBlock 223 = .ok (.aload_n 0, 1) := dk_42 (dk_at dksX2_decryptBlock_9 10 rfl rfl)
theorem dX2_decryptBlock_224 : decode cX2_decryptBlock 224 = .ok (.getfield 9, 3) := dk_180 0 9 (dk_at dksX2_decryptBlock_9 11 rfl rfl)
theorem dX2_decryptBlock_227 : decode cX2_decryptBlock 227 = .ok (.iconst 0, 1) := dk_3 (dk_at dksX2_decryptBlock_9 14 rfl rfl)
theorem dX2_decryptBlock_228 : decode cX2_decryptBlock 228 = .ok (.iaload, 1) := dk_46 (dk_at dksX2_decryptBlock_9 15 rfl rfl)
theorem dX2_decryptBlock_229 : decode cX2_decryptBlock 229 = .ok (.isub, 1) := dk_100 (dk_at dksX2_decryptBlock_9 16 rfl rfl)
theorem dX2_decryptBlock_230 : decode cX2_decryptBlock 230 = .ok (.istore 6, 2) := dk_54 6 (dk_at dksX2_decryptBlock_9 17 rfl rfl)
theorem dX2_decryptBlock_232 : decode cX2_decryptBlock 232 = .ok (.aload_n 0, 1) := dk_42 (dk_at dksX2_decryptBlock_9 19 rfl rfl)
theorem dX2_decryptBlock_233 : decode cX2_decryptBlock 233 = .ok (.iload 5, 2) := dk_21 5 (dk_at dksX2_decryptBlock_9 20 rfl rfl)
theorem dX2_decryptBlock_235 : decode cX2_decryptBlock 235 = .ok (.aload_n 3, 1) := dk_45 (dk_at dksX2_decryptBlock_9 22 rfl rfl)
theorem dX2_decryptBlock_236 : decode cX2_decryptBlock 236 = .ok (.iload 4, 2) := dk_21 4 (dk_at dksX2_decryptBlock_10 0 rfl rfl)
theorem dX2_decryptBlock_238 : decode cX2_decryptBlock 238 = .ok (.invokevirtual 70, 3) := dk_182 0 70 (dk_at dksX2_decryptBlock_10 2 rfl rfl)
theorem dX2_decryptBlock_241 : decode cX2_decryptBlock 241 = .ok (.aload_n 0, 1) := dk_42 (dk_at dksX2_decryptBlock_10 5 rfl rfl)
theorem dX2_decryptBlock_242 : decode cX2_decryptBlock 242 = .ok (.iload 6, 2) := dk_21 6 (dk_at dksX2_decryptBlock_10 6 rfl rfl)
theorem dX2_decryptBlock_244 : decode cX2_decryptBlock 244 = .ok (.aload_n 3, 1) := dk_45 (dk_at dksX2_decryptBlock_10 8 rfl rfl)
theorem dX2_decryptBlock_245 : decode cX2_decryptBlock 245 = .ok (.iload 4, 2) := dk_21 4 (dk_at dksX2_decryptBlock_10 9 rfl rfl)
theorem dX2_decryptBlock_247 : decode cX2_decryptBlock 247 = .ok (.iconst 4, 1) := dk_7 (dk_at dksX2_decryptBlock_10 11 rfl rfl)
theorem dX2_decryptBlock_248 : decode cX2_decryptBlock 248 = .ok (.iadd, 1) := dk_96 (dk_at dksX2_decryptBlock_10 12 rfl rfl)
theorem dX2_decryptBlock_249 : decode cX2_decryptBlock 249 = .ok (.invokevirtual 70, 3) := dk_182 0 70 (dk_at dksX2_decryptBlock_10 13 rfl rfl)
theorem dX2_decryptBlock_252 : decode cX2_decryptBlock 252 = .ok (.aload_n 0, 1) := dk_42 (dk_at dksX2_decryptBlock_10 16 rfl rfl)
theorem dX2_decryptBlock_253 : decode cX2_decryptBlock 253 = .ok (.iload 7, 2) := dk_21 7 (dk_at dksX2_decryptBlock_10 17 rfl rfl)
theorem dX2_decryptBlock_255 : decode cX2_decryptBlock 255 = .ok (.aload_n 3, 1) := dk_45 (dk_at dksX2_decryptBlock_10 19 rfl rfl)
theorem dX2_decryptBlock_256 : decode cX2_decryptBlock 256 = .ok (.iload 4, 2) := dk_21 4 (dk_at dksX2_decryptBlock_10 20 rfl rfl)
theorem dX2_decryptBlock_258 : decode cX2_decryptBlock 258 = .ok (.bipush 8, 2) := dk_16 8 (dk_at dksX2_decryptBlock_10 22 rfl rfl)
theorem dX2_decryptBlock_260 : decode cX2_decryptBlock 260 = .ok (.iadd, 1) := dk_96 (dk_at dksX2_decryptBlock_11 0 rfl rfl)
theorem dX2_decryptBlock_261 : decode cX2_decryptBlock 261 = .ok (.invokevirtual 70, 3) := dk_182 0 70 (dk_at dksX2_decryptBlock_11 1 rfl rfl)
theorem dX2_decryptBlock_264 : decode cX2_decryptBlock 264 = .ok (.aload_n 0, 1) := dk_42 (dk_at dksX2_decryptBlock_11 4 rfl rfl)
theorem dX2_decryptBlock_265 : decode cX2_decryptBlock 265 = .ok (.iload 8, 2) := dk_21 8 (dk_at dksX2_decryptBlock_11 5 rfl rfl)
theorem dX2_decryptBlock_267 : decode cX2_decryptBlock 267 = .ok (.aload_n 3, 1) := dk_45 (dk_at dksX2_decryptBlock_11 7 rfl rfl)
theorem dX2_decryptBlock_268 : decode cX2_decryptBlock 268 = .ok (.iload 4, 2) := dk_21 4 (dk_at dksX2_decryptBlock_11 8 rfl rfl)
theorem dX2_decryptBlock_270 : decode cX2_decryptBlock 270 = .ok (.bipush 12, 2) := dk_16 12 (dk_at dksX2_decryptBlock_11 10 rfl rfl)
theorem dX2_decryptBlock_272 : decode cX2_decryptBlock 272 = .ok (.iadd, 1) := dk_96 (dk_at dksX2_decryptBlock_11 12 rfl rfl)
theorem dX2_decryptBlock_273 : decode cX2_decryptBlock 273 = .ok (.invokevirtual 70, 3) := dk_182 0 70 (dk_at dksX2_decryptBlock_11 13 rfl rfl)
theorem dX2_decryptBlock_276 : decode cX2_decryptBlock 276 = .ok (.bipush 16, 2) := dk_16 16 (dk_at dksX2_decryptBlock_11 16 rfl rfl)
theorem dX2_decryptBlock_278 : decode cX2_decryptBlock 278 = .ok (.ireturn, 1) := dk_172 (dk_at dksX2_decryptBlock_11 18 rfl rfl)
abbrev cX2_rotateRight : ByteArray := prog_6_method_9_code
def yX2_rotateRight : MethodName := ⟨RX2, "rotateRight", "(II)I"⟩
def dkwX2_rotateRight_0 : List UInt8 := [27, 28, 124, 27, 28, 116, 120, 128, 172]
abbrev dktX2_rotateRight_0 : List UInt8 := dkwX2_rotateRight_0 ++ []
theorem dksX2_rotateRight_0 : cX2_rotateRight.data.toList.drop 0 = dktX2_rotateRight_0 := by decide +kernel
theorem dX2_rotateRight_0 : decode cX2_rotateRight 0 = .ok (.iload_n 1, 1) := dk_27 (dk_at dksX2_rotateRight_0 0 rfl rfl)
theorem dX2_rotateRight_1 : decode cX2_rotateRight 1 = .ok (.iload_n 2, 1) := dk_28 (dk_at dksX2_rotateRight_0 1 rfl rfl)
theorem dX2_rotateRight_2 : decode cX2_rotateRight 2 = .ok (.iushr, 1) := dk_124 (dk_at dksX2_rotateRight_0 2 rfl rfl)
theorem dX2_rotateRight_3 : decode cX2_rotateRight 3 = .ok (.iload_n 1, 1) := dk_27 (dk_at dksX2_rotateRight_0 3 rfl rfl)
theorem dX2_rotateRight_4 : decode cX2_rotateRight 4 = .ok (.iload_n 2, 1) := dk_28 (dk_at dksX2_rotateRight_0 4 rfl rfl)
theorem dX2_rotateRight_5 : decode cX2_rotateRight 5 = .ok (.ineg, 1) := dk_116 (dk_at dksX2_rotateRight_0 5 rfl rfl)
theorem dX2_rotateRight_6 : decode cX2_rotateRight 6 = .ok (.ishl, 1) := dk_120 (dk_at dksX2_rotateRight_0 6 rfl rfl)
theorem dX2_rotateRight_7 : decode cX2_rotateRight 7 = .ok (.ior, 1) := dk_128 (dk_at dksX2_rotateRight_0 7 rfl rfl)
theorem dX2_rotateRight_8 : decode cX2_rotateRight 8 = .ok (.ireturn, 1) := dk_172 (dk_at dksX2_rotateRight_0 8 rfl rfl)
theorem q11 : (Jvm.Cond.initialized "RC6Engine") ∈ lw_all := lw_g (lw_at lw_m1 2 rfl) rfl
theorem q35 : (Jvm.Cond.instantiable "RC6Engine" (2 : Nat)) ∈ lw_all := lw_g (lw_at lw_m1 26 rfl) rfl
theorem q37 : (Jvm.Cond.instanceMethod ({ cls := "RC6Engine", name := "<init>", desc := "()V" } : Jvm.MethodName)) ∈ lw_all := lw_g (lw_at lw_m1 28 rfl) rfl
theorem q38 : (Jvm.Cond.code ({ cls := "RC6Engine", name := "<init>", desc := "()V" } : Jvm.MethodName) prog_6_method_1_code (1 : Nat) (Option.none : Option Jvm.ClassFile.FieldType)) ∈ lw_all := lw_g (lw_at lw_m1 29 rfl) rfl
theorem q39 : (Jvm.Cond.methodLink "RC6Engine" (3 : Nat) ({ cls := "java/lang/Object", name := "<init>", desc := "()V" } : Jvm.MethodName)) ∈ lw_all := lw_g (lw_at lw_m1 30 rfl) rfl
theorem q42 : (Jvm.Cond.fieldLink "RC6Engine" (9 : Nat) "RC6Engine" "_S" "[I") ∈ lw_all := lw_g (lw_at lw_m1 33 rfl) rfl
theorem q43 : (Jvm.Cond.fieldLink "RC6Engine" (22 : Nat) "RC6Engine" "forEncryption" "Z") ∈ lw_all := lw_g (lw_at lw_m1 34 rfl) rfl
theorem q44 : (Jvm.Cond.lays "RC6Engine" "RC6Engine" "_S" "[I") ∈ lw_all := lw_g (lw_at lw_m1 35 rfl) rfl
theorem q45 : (Jvm.Cond.soleField "RC6Engine" "_S") ∈ lw_all := lw_g (lw_at lw_m1 36 rfl) rfl
theorem q46 : (Jvm.Cond.lays "RC6Engine" "RC6Engine" "forEncryption" "Z") ∈ lw_all := lw_g (lw_at lw_m1 37 rfl) rfl
theorem q47 : (Jvm.Cond.soleField "RC6Engine" "forEncryption") ∈ lw_all := lw_g (lw_at lw_m1 38 rfl) rfl
theorem q48 : (Jvm.Cond.superclass "RC6Engine" "java/lang/Object") ∈ lw_all := lw_g (lw_at lw_m1 39 rfl) rfl
theorem q73 : (Jvm.Cond.castable "RC6Engine" "BlockCipher") ∈ lw_tbl := lw_at lw_m1 64 rfl
theorem q74 : (Jvm.Cond.selects "RC6Engine" ({ cls := "BlockCipher", name := "init", desc := "(ZLCipherParameters;)V" } : Jvm.MethodName) ({ cls := "RC6Engine", name := "init", desc := "(ZLCipherParameters;)V" } : Jvm.MethodName)) ∈ lw_all := lw_g (lw_at lw_m1 65 rfl) rfl
theorem q75 : (Jvm.Cond.unhidden "RC6Engine" "init" "(ZLCipherParameters;)V") ∈ lw_tbl := lw_at lw_m1 66 rfl
theorem q76 : (Jvm.Cond.instanceMethod ({ cls := "RC6Engine", name := "init", desc := "(ZLCipherParameters;)V" } : Jvm.MethodName)) ∈ lw_all := lw_g (lw_at lw_m1 67 rfl) rfl
theorem q77 : (Jvm.Cond.publicMethod ({ cls := "RC6Engine", name := "init", desc := "(ZLCipherParameters;)V" } : Jvm.MethodName)) ∈ lw_tbl := lw_at lw_m1 68 rfl
theorem q78 : (Jvm.Cond.code ({ cls := "RC6Engine", name := "init", desc := "(ZLCipherParameters;)V" } : Jvm.MethodName) prog_6_method_3_code (5 : Nat) (Option.none : Option Jvm.ClassFile.FieldType)) ∈ lw_all := lw_g (lw_at lw_m1 69 rfl) rfl
theorem q79 : (Jvm.Cond.classLink "RC6Engine" (13 : Nat) "KeyParameter") ∈ lw_all := lw_g (lw_at lw_m1 70 rfl) rfl
theorem q80 : (Jvm.Cond.classLink "RC6Engine" (15 : Nat) "java/lang/IllegalArgumentException") ∈ lw_all := lw_g (lw_at lw_m1 71 rfl) rfl
theorem q122 : (Jvm.Cond.stringRef "RC6Engine" (17 : Nat) "left out") ∈ lw_tbl := lw_at lw_m1 113 rfl
theorem q123 : (Jvm.Cond.methodLink "RC6Engine" (19 : Nat) ({ cls := "java/lang/IllegalArgumentException", name := "<init>", desc := "(Ljava/lang/String;)V" } : Jvm.MethodName)) ∈ lw_all := lw_g (lw_at lw_m1 114 rfl) rfl
theorem q148 : (Jvm.Cond.methodLink "RC6Engine" (26 : Nat) ({ cls := "KeyParameter", name := "getKey", desc := "()[B" } : Jvm.MethodName)) ∈ lw_all := lw_g (lw_at lw_m1 139 rfl) rfl
theorem q152 : (Jvm.Cond.methodLink "RC6Engine" (30 : Nat) ({ cls := "RC6Engine", name := "setKey", desc := "([B)V" } : Jvm.MethodName)) ∈ lw_all := lw_g (lw_at lw_m1 143 rfl) rfl
theorem q153 : (Jvm.Cond.privateMethod ({ cls := "RC6Engine", name := "setKey", desc := "([B)V" } : Jvm.MethodName)) ∈ lw_tbl := lw_at lw_m1 144 rfl
theorem q154 : (Jvm.Cond.instanceMethod ({ cls := "RC6Engine", name := "setKey", desc := "([B)V" } : Jvm.MethodName)) ∈ lw_all := lw_g (lw_at lw_m1 145 rfl) rfl
theorem q155 : (Jvm.Cond.code ({ cls := "RC6Engine", name := "setKey", desc := "([B)V" } : Jvm.MethodName) prog_6_method_5_code (10 : Nat) (Option.none : Option Jvm.ClassFile.FieldType)) ∈ lw_all := lw_g (lw_at lw_m1 146 rfl) rfl
theorem q156 : (Jvm.Cond.constant "RC6Engine" (60 : Nat) (-1209970333 : Int32)) ∈ lw_all := lw_g (lw_at lw_m1 147 rfl) rfl
theorem q157 : (Jvm.Cond.constant "RC6Engine" (61 : Nat) (-1640531527 : Int32)) ∈ lw_all := lw_g (lw_at lw_m1 148 rfl) rfl
theorem q158 : (Jvm.Cond.methodLink "RC6Engine" (62 : Nat) ({ cls := "RC6Engine", name := "rotateLeft", desc := "(II)I" } : Jvm.MethodName)) ∈ lw_all := lw_g (lw_at lw_m1 149 rfl) rfl
theorem q159 : (Jvm.Cond.privateMethod ({ cls := "RC6Engine", name := "rotateLeft", desc := "(II)I" } : Jvm.MethodName)) ∈ lw_tbl := lw_at lw_m1 150 rfl
theorem q160 : (Jvm.Cond.instanceMethod ({ cls := "RC6Engine", name := "rotateLeft", desc := "(II)I" } : Jvm.MethodName)) ∈ lw_all := lw_g (lw_at lw_m1 151 rfl) rfl
theorem q161 : (Jvm.Cond.code ({ cls := "RC6Engine", name := "rotateLeft", desc := "(II)I" } : Jvm.MethodName) prog_6_method_8_code (3 : Nat) (Option.some Jvm.ClassFile.FieldType.int)) ∈ lw_all := lw_g (lw_at lw_m1 152 rfl) rfl
theorem q166 : (Jvm.Cond.selects "RC6Engine" ({ cls := "BlockCipher", name := "processBlock", desc := "([BI[BI)I" } : Jvm.MethodName) ({ cls := "RC6Engine", name := "processBlock", desc := "([BI[BI)I" } : Jvm.MethodName)) ∈ lw_all := lw_g (lw_at lw_m1 157 rfl) rfl
theorem q167 : (Jvm.Cond.unhidden "RC6Engine" "processBlock" "([BI[BI)I") ∈ lw_tbl := lw_at lw_m1 158 rfl
theorem q168 : (Jvm.Cond.instanceMethod ({ cls := "RC6Engine", name := "processBlock", desc := "([BI[BI)I" } : Jvm.MethodName)) ∈ lw_all := lw_g (lw_at lw_m1 159 rfl) rfl
theorem q169 : (Jvm.Cond.publicMethod ({ cls := "RC6Engine", name := "processBlock", desc := "([BI[BI)I" } : Jvm.MethodName)) ∈ lw_tbl := lw_at lw_m1 160 rfl
theorem q170 : (Jvm.Cond.code ({ cls := "RC6Engine", name := "processBlock", desc := "([BI[BI)I" } : Jvm.MethodName) prog_6_method_4_code (6 : Nat) (Option.some Jvm.ClassFile.FieldType.int)) ∈ lw_all := lw_g (lw_at lw_m1 161 rfl) rfl
theorem q171 : (Jvm.Cond.methodLink "RC6Engine" (34 : Nat) ({ cls := "RC6Engine", name := "getBlockSize", desc := "()I" } : Jvm.MethodName)) ∈ lw_all := lw_g (lw_at lw_m1 162 rfl) rfl
theorem q172 : (Jvm.Cond.instanceMethod ({ cls := "RC6Engine", name := "getBlockSize", desc := "()I" } : Jvm.MethodName)) ∈ lw_all := lw_g (lw_at lw_m1 163 rfl) rfl
theorem q173 : (Jvm.Cond.selects "RC6Engine" ({ cls := "RC6Engine", name := "getBlockSize", desc := "()I" } : Jvm.MethodName) ({ cls := "RC6Engine", name := "getBlockSize", desc := "()I" } : Jvm.MethodName)) ∈ lw_all := lw_g (lw_at lw_m1 164 rfl) rfl
theorem q174 : (Jvm.Cond.code ({ cls := "RC6Engine", name := "getBlockSize", desc := "()I" } : Jvm.MethodName) prog_6_method_2_code (1 : Nat) (Option.some Jvm.ClassFile.FieldType.int)) ∈ lw_all := lw_g (lw_at lw_m1 165 rfl) rfl
theorem q175 : (Jvm.Cond.classLink "RC6Engine" (38 : Nat) "java/lang/IllegalStateException") ∈ lw_all := lw_g (lw_at lw_m1 166 rfl) rfl
theorem q184 : (Jvm.Cond.stringRef "RC6Engine" (40 : Nat) "RC6 engine not initialised") ∈ lw_tbl := lw_at lw_m1 175 rfl
theorem q185 : (Jvm.Cond.methodLink "RC6Engine" (42 : Nat) ({ cls := "java/lang/IllegalStateException", name := "<init>", desc := "(Ljava/lang/String;)V" } : Jvm.MethodName)) ∈ lw_all := lw_g (lw_at lw_m1 176 rfl) rfl
theorem q192 : (Jvm.Cond.classLink "RC6Engine" (43 : Nat) "DataLengthException") ∈ lw_all := lw_g (lw_at lw_m1 183 rfl) rfl
theorem q202 : (Jvm.Cond.stringRef "RC6Engine" (45 : Nat) "input buffer too short") ∈ lw_tbl := lw_at lw_m1 193 rfl
theorem q203 : (Jvm.Cond.methodLink "RC6Engine" (47 : Nat) ({ cls := "DataLengthException", name := "<init>", desc := "(Ljava/lang/String;)V" } : Jvm.MethodName)) ∈ lw_all := lw_g (lw_at lw_m1 194 rfl) rfl
theorem q212 : (Jvm.Cond.classLink "RC6Engine" (48 : Nat) "OutputLengthException") ∈ lw_all := lw_g (lw_at lw_m1 203 rfl) rfl
theorem q222 : (Jvm.Cond.stringRef "RC6Engine" (50 : Nat) "output buffer too short") ∈ lw_tbl := lw_at lw_m1 213 rfl
theorem q223 : (Jvm.Cond.methodLink "RC6Engine" (52 : Nat) ({ cls := "OutputLengthException", name := "<init>", desc := "(Ljava/lang/String;)V" } : Jvm.MethodName)) ∈ lw_all := lw_g (lw_at lw_m1 214 rfl) rfl
theorem q229 : (Jvm.Cond.methodLink "RC6Engine" (53 : Nat) ({ cls := "RC6Engine", name := "encryptBlock", desc := "([BI[BI)I" } : Jvm.MethodName)) ∈ lw_all := lw_g (lw_at lw_m1 220 rfl) rfl
theorem q230 : (Jvm.Cond.privateMethod ({ cls := "RC6Engine", name := "encryptBlock", desc := "([BI[BI)I" } : Jvm.MethodName)) ∈ lw_tbl := lw_at lw_m1 221 rfl
theorem q231 : (Jvm.Cond.instanceMethod ({ cls := "RC6Engine", name := "encryptBlock", desc := "([BI[BI)I" } : Jvm.MethodName)) ∈ lw_all := lw_g (lw_at lw_m1 222 rfl) rfl
theorem q232 : (Jvm.Cond.code ({ cls := "RC6Engine", name := "encryptBlock", desc := "([BI[BI)I" } : Jvm.MethodName) prog_6_method_6_code (13 : Nat) (Option.some Jvm.ClassFile.FieldType.int)) ∈ lw_all := lw_g (lw_at lw_m1 223 rfl) rfl
theorem q233 : (Jvm.Cond.methodLink "RC6Engine" (66 : Nat) ({ cls := "RC6Engine", name := "bytesToWord", desc := "([BI)I" } : Jvm.MethodName)) ∈ lw_all := lw_g (lw_at lw_m1 224 rfl) rfl
theorem q234 : (Jvm.Cond.privateMethod ({ cls := "RC6Engine", name := "bytesToWord", desc := "([BI)I" } : Jvm.MethodName)) ∈ lw_tbl := lw_at lw_m1 225 rfl
theorem q235 : (Jvm.Cond.instanceMethod ({ cls := "RC6Engine", name := "bytesToWord", desc := "([BI)I" } : Jvm.MethodName)) ∈ lw_all := lw_g (lw_at lw_m1 226 rfl) rfl
theorem q236 : (Jvm.Cond.code ({ cls := "RC6Engine", name := "bytesToWord", desc := "([BI)I" } : Jvm.MethodName) prog_6_method_10_code (5 : Nat) (Option.some Jvm.ClassFile.FieldType.int)) ∈ lw_all := lw_g (lw_at lw_m1 227 rfl) rfl
theorem q237 : (Jvm.Cond.methodLink "RC6Engine" (70 : Nat) ({ cls := "RC6Engine", name := "wordToBytes", desc := "(I[BI)V" } : Jvm.MethodName)) ∈ lw_all := lw_g (lw_at lw_m1 228 rfl) rfl
theorem q238 : (Jvm.Cond.privateMethod ({ cls := "RC6Engine", name := "wordToBytes", desc := "(I[BI)V" } : Jvm.MethodName)) ∈ lw_tbl := lw_at lw_m1 229 rfl
theorem q239 : (Jvm.Cond.instanceMethod ({ cls := "RC6Engine", name := "wordToBytes", desc := "(I[BI)V" } : Jvm.MethodName)) ∈ lw_all := lw_g (lw_at lw_m1 230 rfl) rfl
theorem q240 : (Jvm.Cond.code ({ cls := "RC6Engine", name := "wordToBytes", desc := "(I[BI)V" } : Jvm.MethodName) prog_6_method_11_code (5 : Nat) (Option.none : Option Jvm.ClassFile.FieldType)) ∈ lw_all := lw_g (lw_at lw_m1 231 rfl) rfl
theorem q241 : (Jvm.Cond.methodLink "RC6Engine" (57 : Nat) ({ cls := "RC6Engine", name := "decryptBlock", desc := "([BI[BI)I" } : Jvm.MethodName)) ∈ lw_all := lw_g (lw_at lw_m1 232 rfl) rfl
theorem q242 : (Jvm.Cond.privateMethod ({ cls := "RC6Engine", name := "decryptBlock", desc := "([BI[BI)I" } : Jvm.MethodName)) ∈ lw_tbl := lw_at lw_m1 233 rfl
theorem q243 : (Jvm.Cond.instanceMethod ({ cls := "RC6Engine", name := "decryptBlock", desc := "([BI[BI)I" } : Jvm.MethodName)) ∈ lw_all := lw_g (lw_at lw_m1 234 rfl) rfl
theorem q244 : (Jvm.Cond.code ({ cls := "RC6Engine", name := "decryptBlock", desc := "([BI[BI)I" } : Jvm.MethodName) prog_6_method_7_code (13 : Nat) (Option.some Jvm.ClassFile.FieldType.int)) ∈ lw_all := lw_g (lw_at lw_m1 235 rfl) rfl
theorem q245 : (Jvm.Cond.methodLink "RC6Engine" (74 : Nat) ({ cls := "RC6Engine", name := "rotateRight", desc := "(II)I" } : Jvm.MethodName)) ∈ lw_all := lw_g (lw_at lw_m1 236 rfl) rfl
theorem q246 : (Jvm.Cond.privateMethod ({ cls := "RC6Engine", name := "rotateRight", desc := "(II)I" } : Jvm.MethodName)) ∈ lw_tbl := lw_at lw_m1 237 rfl
theorem q247 : (Jvm.Cond.instanceMethod ({ cls := "RC6Engine", name := "rotateRight", desc := "(II)I" } : Jvm.MethodName)) ∈ lw_all := lw_g (lw_at lw_m1 238 rfl) rfl
theorem q248 : (Jvm.Cond.code ({ cls := "RC6Engine", name := "rotateRight", desc := "(II)I" } : Jvm.MethodName) prog_6_method_9_code (3 : Nat) (Option.some Jvm.ClassFile.FieldType.int)) ∈ lw_all := lw_g (lw_at lw_m1 239 rfl) rfl
theorem in_X2 : ∀ w ∈ wsX20, w ∈ lw_all := lw_in wsX20 [44, 46] (by decide +kernel) (by decide +kernel)
/-! RcSixDesk -/
set_option maxRecDepth 100000
def RX1 : String := "RcSixDesk"
def TX1 : u_T := fun k => match k with
  | 0 => ("RcSixDesk", "key", "[B", true)
  | 1 => ("RcSixDesk", "block", "[B", true)
  | _ => ("RcSixDesk", "out", "[B", true)
def tyX1 : Nat → FieldType := fun k => match k with
  | 0 => .array .byte
  | 1 => .array .byte
  | _ => .array .byte
abbrev wsX10 : List Cond := u_ws RX1 TX1 3
theorem nmX1 : ∀ a, a < 3 → ∀ b, b < 3 → a ≠ b → (TX1 a).2.1 ≠ (TX1 b).2.1 := by decide +kernel
theorem tyX1_ok : ∀ k, k < 3 → parseFieldDescriptor (TX1 k).2.2.1 = some (tyX1 k) := by decide +kernel
abbrev cX1_lock : ByteArray := prog_7_method_7_code
def yX1_lock : MethodName := ⟨RX1, "lock", "(I)V"⟩
def dkwX1_lock_0 : List UInt8 := [42, 4, 27, 182, 0, 45, 177]
abbrev dktX1_lock_0 : List UInt8 := dkwX1_lock_0 ++ []
theorem dksX1_lock_0 : cX1_lock.data.toList.drop 0 = dktX1_lock_0 := by decide +kernel
theorem dX1_lock_0 : decode cX1_lock 0 = .ok (.aload_n 0, 1) := dk_42 (dk_at dksX1_lock_0 0 rfl rfl)
theorem dX1_lock_1 : decode cX1_lock 1 = .ok (.iconst 1, 1) := dk_4 (dk_at dksX1_lock_0 1 rfl rfl)
theorem dX1_lock_2 : decode cX1_lock 2 = .ok (.iload_n 1, 1) := dk_27 (dk_at dksX1_lock_0 2 rfl rfl)
theorem dX1_lock_3 : decode cX1_lock 3 = .ok (.invokevirtual 45, 3) := dk_182 0 45 (dk_at dksX1_lock_0 3 rfl rfl)
theorem dX1_lock_6 : decode cX1_lock 6 = .ok (.return_, 1) := dk_177 (dk_at dksX1_lock_0 6 rfl rfl)
abbrev cX1_run : ByteArray := prog_7_method_5_code
def yX1_run : MethodName := ⟨RX1, "run", "(ZI)V"⟩
def dkwX1_run_3 : List UInt8 := [180, 0, 13, 3, 42, 180, 0, 16, 3, 185, 0, 41, 5, 0, 87, 177]
abbrev dktX1_run_3 : List UInt8 := dkwX1_run_3 ++ []
def dkwX1_run_2 : List UInt8 := [58, 5, 25, 5, 27, 187, 0, 30, 89, 25, 4, 183, 0, 32, 185, 0, 35, 3, 0, 25, 5, 42]
abbrev dktX1_run_2 : List UInt8 := dkwX1_run_2 ++ dktX1_run_3
def dkwX1_run_1 : List UInt8 := [21, 5, 42, 180, 0, 7, 21, 5, 51, 84, 132, 5, 1, 167, 255, 235, 187, 0, 27, 89, 183, 0, 29]
abbrev dktX1_run_1 : List UInt8 := dkwX1_run_1 ++ dktX1_run_2
def dkwX1_run_0 : List UInt8 := [28, 6, 126, 184, 0, 23, 62, 29, 188, 8, 58, 4, 3, 54, 5, 21, 5, 29, 162, 0, 21, 25, 4]
abbrev dktX1_run_0 : List UInt8 := dkwX1_run_0 ++ dktX1_run_1
theorem dksX1_run_0 : cX1_run.data.toList.drop 0 = dktX1_run_0 := by decide +kernel
theorem dksX1_run_1 : cX1_run.data.toList.drop 23 = dktX1_run_1 := dk_seg dksX1_run_0 23 rfl rfl
theorem dksX1_run_2 : cX1_run.data.toList.drop 46 = dktX1_run_2 := dk_seg dksX1_run_1 23 rfl rfl
theorem dksX1_run_3 : cX1_run.data.toList.drop 68 = dktX1_run_3 := dk_seg dksX1_run_2 22 rfl rfl
theorem dX1_run_0 : decode cX1_run 0 = .ok (.iload_n 2, 1) := dk_28 (dk_at dksX1_run_0 0 rfl rfl)
theorem dX1_run_1 : decode cX1_run 1 = .ok (.iconst 3, 1) := dk_6 (dk_at dksX1_run_0 1 rfl rfl)
theorem dX1_run_2 : decode cX1_run 2 = .ok (.iand, 1) := dk_126 (dk_at dksX1_run_0 2 rfl rfl)
theorem dX1_run_3 : decode cX1_run 3 = .ok (.invokestatic 23, 3) := dk_184 0 23 (dk_at dksX1_run_0 3 rfl rfl)
theorem dX1_run_6 : decode cX1_run 6 = .ok (.istore_n 3, 1) := dk_62 (dk_at dksX1_run_0 6 rfl rfl)
theorem dX1_run_7 : decode cX1_run 7 = .ok (.iload_n 3, 1) := dk_29 (dk_at dksX1_run_0 7 rfl rfl)
theorem dX1_run_8 : decode cX1_run 8 = .ok (.newarray .byte, 2) := dk_188_8 (dk_at dksX1_run_0 8 rfl rfl)
theorem dX1_run_10 : decode cX1_run 10 = .ok (.astore 4, 2) := dk_58 4 (dk_at dksX1_run_0 10 rfl rfl)
theorem dX1_run_12 : decode cX1_run 12 = .ok (.iconst 0, 1) := dk_3 (dk_at dksX1_run_0 12 rfl rfl)
theorem dX1_run_13 : decode cX1_run 13 = .ok (.istore 5, 2) := dk_54 5 (dk_at dksX1_run_0 13 rfl rfl)
theorem dX1_run_15 : decode cX1_run 15 = .ok (.iload 5, 2) := dk_21 5 (dk_at dksX1_run_0 15 rfl rfl)
theorem dX1_run_17 : decode cX1_run 17 = .ok (.iload_n 3, 1) := dk_29 (dk_at dksX1_run_0 17 rfl rfl)
theorem dX1_run_18 : decode cX1_run 18 = .ok (.if_icmp .ge 21, 3) := dk_162 0 21 (dk_at dksX1_run_0 18 rfl rfl)
theorem dX1_run_21 : decode cX1_run 21 = .ok (.aload 4, 2) := dk_25 4 (dk_at dksX1_run_0 21 rfl rfl)
theorem dX1_run_23 : decode cX1_run 23 = .ok (.iload 5, 2) := dk_21 5 (dk_at dksX1_run_1 0 rfl rfl)
theorem dX1_run_25 : decode cX1_run 25 = .ok (.aload_n 0, 1) := dk_42 (dk_at dksX1_run_1 2 rfl rfl)
theorem dX1_run_26 : decode cX1_run 26 = .ok (.getfield 7, 3) := dk_180 0 7 (dk_at dksX1_run_1 3 rfl rfl)
theorem dX1_run_29 : decode cX1_run 29 = .ok (.iload 5, 2) := dk_21 5 (dk_at dksX1_run_1 6 rfl rfl)
theorem dX1_run_31 : decode cX1_run 31 = .ok (.baload, 1) := dk_51 (dk_at dksX1_run_1 8 rfl rfl)
theorem dX1_run_32 : decode cX1_run 32 = .ok (.bastore, 1) := dk_84 (dk_at dksX1_run_1 9 rfl rfl)
theorem dX1_run_33 : decode cX1_run 33 = .ok (.iinc 5 1, 3) := dk_132 5 1 (dk_at dksX1_run_1 10 rfl rfl)
theorem dX1_run_36 : decode cX1_run 36 = .ok (.goto (-21), 3) := dk_167 255 235 (dk_at dksX1_run_1 13 rfl rfl)
theorem dX1_run_39 : decode cX1_run 39 = .ok (.new 27, 3) := dk_187 0 27 (dk_at dksX1_run_1 16 rfl rfl)
theorem dX1_run_42 : decode cX1_run 42 = .ok (.dup, 1) := dk_89 (dk_at dksX1_run_1 19 rfl rfl)
theorem dX1_run_43 : decode cX1_run 43 = .ok (.invokespecial 29, 3) := dk_183 0 29 (dk_at dksX1_run_1 20 rfl rfl)
theorem dX1_run_46 : decode cX1_run 46 = .ok (.astore 5, 2) := dk_58 5 (dk_at dksX1_run_2 0 rfl rfl)
theorem dX1_run_48 : decode cX1_run 48 = .ok (.aload 5, 2) := dk_25 5 (dk_at dksX1_run_2 2 rfl rfl)
theorem dX1_run_50 : decode cX1_run 50 = .ok (.iload_n 1, 1) := dk_27 (dk_at dksX1_run_2 4 rfl rfl)
theorem dX1_run_51 : decode cX1_run 51 = .ok (.new 30, 3) := dk_187 0 30 (dk_at dksX1_run_2 5 rfl rfl)
theorem dX1_run_54 : decode cX1_run 54 = .ok (.dup, 1) := dk_89 (dk_at dksX1_run_2 8 rfl rfl)
theorem dX1_run_55 : decode cX1_run 55 = .ok (.aload 4, 2) := dk_25 4 (dk_at dksX1_run_2 9 rfl rfl)
theorem dX1_run_57 : decode cX1_run 57 = .ok (.invokespecial 32, 3) := dk_183 0 32 (dk_at dksX1_run_2 11 rfl rfl)
theorem dX1_run_60 : decode cX1_run 60 = .ok (.invokeinterface 35 3, 5) := by decide +kernel
theorem dX1_run_65 : decode cX1_run 65 = .ok (.aload 5, 2) := dk_25 5 (dk_at dksX1_run_2 19 rfl rfl)
theorem dX1_run_67 : decode cX1_run 67 = .ok (.aload_n 0, 1) := dk_42 (dk_at dksX1_run_2 21 rfl rfl)
theorem dX1_run_68 : decode cX1_run 68 = .ok (.getfield 13, 3) := dk_180 0 13 (dk_at dksX1_run_3 0 rfl rfl)
theorem dX1_run_71 : decode cX1_run 71 = .ok (.iconst 0, 1) := dk_3 (dk_at dksX1_run_3 3 rfl rfl)
theorem dX1_run_72 : decode cX1_run 72 = .ok (.aload_n 0, 1) := dk_42 (dk_at dksX1_run_3 4 rfl rfl)
theorem dX1_run_73 : decode cX1_run 73 = .ok (.getfield 16, 3) := dk_180 0 16 (dk_at dksX1_run_3 5 rfl rfl)
theorem dX1_run_76 : decode cX1_run 76 = .ok (.iconst 0, 1) := dk_3 (dk_at dksX1_run_3 8 rfl rfl)
theorem dX1_run_77 : decode cX1_run 77 = .ok (.invokeinterface 41 5, 5) := by decide +kernel
theorem dX1_run_82 : decode cX1_run 82 = .ok (.pop, 1) := dk_87 (dk_at dksX1_run_3 14 rfl rfl)
theorem dX1_run_83 : decode cX1_run 83 = .ok (.return_, 1) := dk_177 (dk_at dksX1_run_3 15 rfl rfl)
abbrev cX1_size : ByteArray := prog_7_method_6_code
def yX1_size : MethodName := ⟨RX1, "size", "(I)I"⟩
def dkwX1_size_1 : List UInt8 := [167, 0, 5, 16, 32, 172]
abbrev dktX1_size_1 : List UInt8 := dkwX1_size_1 ++ []
def dkwX1_size_0 : List UInt8 := [26, 6, 126, 6, 112, 154, 0, 8, 16, 16, 167, 0, 19, 26, 6, 126, 6, 112, 4, 160, 0, 8, 16, 24]
abbrev dktX1_size_0 : List UInt8 := dkwX1_size_0 ++ dktX1_size_1
theorem dksX1_size_0 : cX1_size.data.toList.drop 0 = dktX1_size_0 := by decide +kernel
theorem dksX1_size_1 : cX1_size.data.toList.drop 24 = dktX1_size_1 := dk_seg dksX1_size_0 24 rfl rfl
theorem dX1_size_0 : decode cX1_size 0 = .ok (.iload_n 0, 1) := dk_26 (dk_at dksX1_size_0 0 rfl rfl)
theorem dX1_size_1 : decode cX1_size 1 = .ok (.iconst 3, 1) := dk_6 (dk_at dksX1_size_0 1 rfl rfl)
theorem dX1_size_2 : decode cX1_size 2 = .ok (.iand, 1) := dk_126 (dk_at dksX1_size_0 2 rfl rfl)
theorem dX1_size_3 : decode cX1_size 3 = .ok (.iconst 3, 1) := dk_6 (dk_at dksX1_size_0 3 rfl rfl)
theorem dX1_size_4 : decode cX1_size 4 = .ok (.irem, 1) := dk_112 (dk_at dksX1_size_0 4 rfl rfl)
theorem dX1_size_5 : decode cX1_size 5 = .ok (.ifCond .ne 8, 3) := dk_154 0 8 (dk_at dksX1_size_0 5 rfl rfl)
theorem dX1_size_8 : decode cX1_size 8 = .ok (.bipush 16, 2) := dk_16 16 (dk_at dksX1_size_0 8 rfl rfl)
theorem dX1_size_10 : decode cX1_size 10 = .ok (.goto 19, 3) := dk_167 0 19 (dk_at dksX1_size_0 10 rfl rfl)
theorem dX1_size_13 : decode cX1_size 13 = .ok (.iload_n 0, 1) := dk_26 (dk_at dksX1_size_0 13 rfl rfl)
theorem dX1_size_14 : decode cX1_size 14 = .ok (.iconst 3, 1) := dk_6 (dk_at dksX1_size_0 14 rfl rfl)
theorem dX1_size_15 : decode cX1_size 15 = .ok (.iand, 1) := dk_126 (dk_at dksX1_size_0 15 rfl rfl)
theorem dX1_size_16 : decode cX1_size 16 = .ok (.iconst 3, 1) := dk_6 (dk_at dksX1_size_0 16 rfl rfl)
theorem dX1_size_17 : decode cX1_size 17 = .ok (.irem, 1) := dk_112 (dk_at dksX1_size_0 17 rfl rfl)
theorem dX1_size_18 : decode cX1_size 18 = .ok (.iconst 1, 1) := dk_4 (dk_at dksX1_size_0 18 rfl rfl)
theorem dX1_size_19 : decode cX1_size 19 = .ok (.if_icmp .ne 8, 3) := dk_160 0 8 (dk_at dksX1_size_0 19 rfl rfl)
theorem dX1_size_22 : decode cX1_size 22 = .ok (.bipush 24, 2) := dk_16 24 (dk_at dksX1_size_0 22 rfl rfl)
theorem dX1_size_24 : decode cX1_size 24 = .ok (.goto 5, 3) := dk_167 0 5 (dk_at dksX1_size_1 0 rfl rfl)
theorem dX1_size_27 : decode cX1_size 27 = .ok (.bipush 32, 2) := dk_16 32 (dk_at dksX1_size_1 3 rfl rfl)
theorem dX1_size_29 : decode cX1_size 29 = .ok (.ireturn, 1) := dk_172 (dk_at dksX1_size_1 5 rfl rfl)
abbrev cX1_open : ByteArray := prog_7_method_8_code
def yX1_open : MethodName := ⟨RX1, "open", "(I)V"⟩
def dkwX1_open_0 : List UInt8 := [42, 3, 27, 182, 0, 45, 177]
abbrev dktX1_open_0 : List UInt8 := dkwX1_open_0 ++ []
theorem dksX1_open_0 : cX1_open.data.toList.drop 0 = dktX1_open_0 := by decide +kernel
theorem dX1_open_0 : decode cX1_open 0 = .ok (.aload_n 0, 1) := dk_42 (dk_at dksX1_open_0 0 rfl rfl)
theorem dX1_open_1 : decode cX1_open 1 = .ok (.iconst 0, 1) := dk_3 (dk_at dksX1_open_0 1 rfl rfl)
theorem dX1_open_2 : decode cX1_open 2 = .ok (.iload_n 1, 1) := dk_27 (dk_at dksX1_open_0 2 rfl rfl)
theorem dX1_open_3 : decode cX1_open 3 = .ok (.invokevirtual 45, 3) := dk_182 0 45 (dk_at dksX1_open_0 3 rfl rfl)
theorem dX1_open_6 : decode cX1_open 6 = .ok (.return_, 1) := dk_177 (dk_at dksX1_open_0 6 rfl rfl)
abbrev cX1_again : ByteArray := prog_7_method_9_code
def yX1_again : MethodName := ⟨RX1, "again", "()V"⟩
def dkwX1_again_1 : List UInt8 := [167, 255, 235, 177]
abbrev dktX1_again_1 : List UInt8 := dkwX1_again_1 ++ []
def dkwX1_again_0 : List UInt8 := [3, 60, 27, 16, 16, 162, 0, 21, 42, 180, 0, 13, 27, 42, 180, 0, 16, 27, 51, 84, 132, 1, 1]
abbrev dktX1_again_0 : List UInt8 := dkwX1_again_0 ++ dktX1_again_1
theorem dksX1_again_0 : cX1_again.data.toList.drop 0 = dktX1_again_0 := by decide +kernel
theorem dksX1_again_1 : cX1_again.data.toList.drop 23 = dktX1_again_1 := dk_seg dksX1_again_0 23 rfl rfl
theorem dX1_again_0 : decode cX1_again 0 = .ok (.iconst 0, 1) := dk_3 (dk_at dksX1_again_0 0 rfl rfl)
theorem dX1_again_1 : decode cX1_again 1 = .ok (.istore_n 1, 1) := dk_60 (dk_at dksX1_again_0 1 rfl rfl)
theorem dX1_again_2 : decode cX1_again 2 = .ok (.iload_n 1, 1) := dk_27 (dk_at dksX1_again_0 2 rfl rfl)
theorem dX1_again_3 : decode cX1_again 3 = .ok (.bipush 16, 2) := dk_16 16 (dk_at dksX1_again_0 3 rfl rfl)
theorem dX1_again_5 : decode cX1_again 5 = .ok (.if_icmp .ge 21, 3) := dk_162 0 21 (dk_at dksX1_again_0 5 rfl rfl)
theorem dX1_again_8 : decode cX1_again 8 = .ok (.aload_n 0, 1) := dk_42 (dk_at dksX1_again_0 8 rfl rfl)
theorem dX1_again_9 : decode cX1_again 9 = .ok (.getfield 13, 3) := dk_180 0 13 (dk_at dksX1_again_0 9 rfl rfl)
theorem dX1_again_12 : decode cX1_again 12 = .ok (.iload_n 1, 1) := dk_27 (dk_at dksX1_again_0 12 rfl rfl)
theorem dX1_again_13 : decode cX1_again 13 = .ok (.aload_n 0, 1) := dk_42 (dk_at dksX1_again_0 13 rfl rfl)
theorem dX1_again_14 : decode cX1_again 14 = .ok (.getfield 16, 3) := dk_180 0 16 (dk_at dksX1_again_0 14 rfl rfl)
theorem dX1_again_17 : decode cX1_again 17 = .ok (.iload_n 1, 1) := dk_27 (dk_at dksX1_again_0 17 rfl rfl)
theorem dX1_again_18 : decode cX1_again 18 = .ok (.baload, 1) := dk_51 (dk_at dksX1_again_0 18 rfl rfl)
theorem dX1_again_19 : decode cX1_again 19 = .ok (.bastore, 1) := dk_84 (dk_at dksX1_again_0 19 rfl rfl)
theorem dX1_again_20 : decode cX1_again 20 = .ok (.iinc 1 1, 3) := dk_132 1 1 (dk_at dksX1_again_0 20 rfl rfl)
theorem dX1_again_23 : decode cX1_again 23 = .ok (.goto (-21), 3) := dk_167 255 235 (dk_at dksX1_again_1 0 rfl rfl)
theorem dX1_again_26 : decode cX1_again 26 = .ok (.return_, 1) := dk_177 (dk_at dksX1_again_1 3 rfl rfl)
abbrev cX1_init : ByteArray := prog_7_method_1_code
def yX1_init : MethodName := ⟨RX1, "<init>", "()V"⟩
def dkwX1_init_1 : List UInt8 := [188, 8, 181, 0, 16, 177]
abbrev dktX1_init_1 : List UInt8 := dkwX1_init_1 ++ []
def dkwX1_init_0 : List UInt8 := [42, 183, 0, 1, 42, 16, 32, 188, 8, 181, 0, 7, 42, 16, 16, 188, 8, 181, 0, 13, 42, 16, 16]
abbrev dktX1_init_0 : List UInt8 := dkwX1_init_0 ++ dktX1_init_1
theorem dksX1_init_0 : cX1_init.data.toList.drop 0 = dktX1_init_0 := by decide +kernel
theorem dksX1_init_1 : cX1_init.data.toList.drop 23 = dktX1_init_1 := dk_seg dksX1_init_0 23 rfl rfl
theorem dX1_init_0 : decode cX1_init 0 = .ok (.aload_n 0, 1) := dk_42 (dk_at dksX1_init_0 0 rfl rfl)
theorem dX1_init_1 : decode cX1_init 1 = .ok (.invokespecial 1, 3) := dk_183 0 1 (dk_at dksX1_init_0 1 rfl rfl)
theorem dX1_init_4 : decode cX1_init 4 = .ok (.aload_n 0, 1) := dk_42 (dk_at dksX1_init_0 4 rfl rfl)
theorem dX1_init_5 : decode cX1_init 5 = .ok (.bipush 32, 2) := dk_16 32 (dk_at dksX1_init_0 5 rfl rfl)
theorem dX1_init_7 : decode cX1_init 7 = .ok (.newarray .byte, 2) := dk_188_8 (dk_at dksX1_init_0 7 rfl rfl)
theorem dX1_init_9 : decode cX1_init 9 = .ok (.putfield 7, 3) := dk_181 0 7 (dk_at dksX1_init_0 9 rfl rfl)
theorem dX1_init_12 : decode cX1_init 12 = .ok (.aload_n 0, 1) := dk_42 (dk_at dksX1_init_0 12 rfl rfl)
theorem dX1_init_13 : decode cX1_init 13 = .ok (.bipush 16, 2) := dk_16 16 (dk_at dksX1_init_0 13 rfl rfl)
theorem dX1_init_15 : decode cX1_init 15 = .ok (.newarray .byte, 2) := dk_188_8 (dk_at dksX1_init_0 15 rfl rfl)
theorem dX1_init_17 : decode cX1_init 17 = .ok (.putfield 13, 3) := dk_181 0 13 (dk_at dksX1_init_0 17 rfl rfl)
theorem dX1_init_20 : decode cX1_init 20 = .ok (.aload_n 0, 1) := dk_42 (dk_at dksX1_init_0 20 rfl rfl)
theorem dX1_init_21 : decode cX1_init 21 = .ok (.bipush 16, 2) := dk_16 16 (dk_at dksX1_init_0 21 rfl rfl)
theorem dX1_init_23 : decode cX1_init 23 = .ok (.newarray .byte, 2) := dk_188_8 (dk_at dksX1_init_1 0 rfl rfl)
theorem dX1_init_25 : decode cX1_init 25 = .ok (.putfield 16, 3) := dk_181 0 16 (dk_at dksX1_init_1 2 rfl rfl)
theorem dX1_init_28 : decode cX1_init 28 = .ok (.return_, 1) := dk_177 (dk_at dksX1_init_1 5 rfl rfl)
abbrev cX1_key : ByteArray := prog_7_method_3_code
def yX1_key : MethodName := ⟨RX1, "key", "(IIIII)V"⟩
def dkwX1_key_2 : List UInt8 := [21, 6, 16, 12, 96, 21, 5, 184, 0, 19, 177]
abbrev dktX1_key_2 : List UInt8 := dkwX1_key_2 ++ []
def dkwX1_key_1 : List UInt8 := [96, 29, 184, 0, 19, 42, 180, 0, 7, 21, 6, 16, 8, 96, 21, 4, 184, 0, 19, 42, 180, 0, 7]
abbrev dktX1_key_1 : List UInt8 := dkwX1_key_1 ++ dktX1_key_2
def dkwX1_key_0 : List UInt8 := [27, 4, 126, 7, 120, 54, 6, 42, 180, 0, 7, 21, 6, 28, 184, 0, 19, 42, 180, 0, 7, 21, 6, 7]
abbrev dktX1_key_0 : List UInt8 := dkwX1_key_0 ++ dktX1_key_1
theorem dksX1_key_0 : cX1_key.data.toList.drop 0 = dktX1_key_0 := by decide +kernel
theorem dksX1_key_1 : cX1_key.data.toList.drop 24 = dktX1_key_1 := dk_seg dksX1_key_0 24 rfl rfl
theorem dksX1_key_2 : cX1_key.data.toList.drop 47 = dktX1_key_2 := dk_seg dksX1_key_1 23 rfl rfl
theorem dX1_key_0 : decode cX1_key 0 = .ok (.iload_n 1, 1) := dk_27 (dk_at dksX1_key_0 0 rfl rfl)
theorem dX1_key_1 : decode cX1_key 1 = .ok (.iconst 1, 1) := dk_4 (dk_at dksX1_key_0 1 rfl rfl)
theorem dX1_key_2 : decode cX1_key 2 = .ok (.iand, 1) := dk_126 (dk_at dksX1_key_0 2 rfl rfl)
theorem dX1_key_3 : decode cX1_key 3 = .ok (.iconst 4, 1) := dk_7 (dk_at dksX1_key_0 3 rfl rfl)
theorem dX1_key_4 : decode cX1_key 4 = .ok (.ishl, 1) := dk_120 (dk_at dksX1_key_0 4 rfl rfl)
theorem dX1_key_5 : decode cX1_key 5 = .ok (.istore 6, 2) := dk_54 6 (dk_at dksX1_key_0 5 rfl rfl)
theorem dX1_key_7 : decode cX1_key 7 = .ok (.aload_n 0, 1) := dk_42 (dk_at dksX1_key_0 7 rfl rfl)
theorem dX1_key_8 : decode cX1_key 8 = .ok (.getfield 7, 3) := dk_180 0 7 (dk_at dksX1_key_0 8 rfl rfl)
theorem dX1_key_11 : decode cX1_key 11 = .ok (.iload 6, 2) := dk_21 6 (dk_at dksX1_key_0 11 rfl rfl)
theorem dX1_key_13 : decode cX1_key 13 = .ok (.iload_n 2, 1) := dk_28 (dk_at dksX1_key_0 13 rfl rfl)
theorem dX1_key_14 : decode cX1_key 14 = .ok (.invokestatic 19, 3) := dk_184 0 19 (dk_at dksX1_key_0 14 rfl rfl)
theorem dX1_key_17 : decode cX1_key 17 = .ok (.aload_n 0, 1) := dk_42 (dk_at dksX1_key_0 17 rfl rfl)
theorem dX1_key_18 : decode cX1_key 18 = .ok (.getfield 7, 3) := dk_180 0 7 (dk_at dksX1_key_0 18 rfl rfl)
theorem dX1_key_21 : decode cX1_key 21 = .ok (.iload 6, 2) := dk_21 6 (dk_at dksX1_key_0 21 rfl rfl)
theorem dX1_key_23 : decode cX1_key 23 = .ok (.iconst 4, 1) := dk_7 (dk_at dksX1_key_0 23 rfl rfl)
theorem dX1_key_24 : decode cX1_key 24 = .ok (.iadd, 1) := dk_96 (dk_at dksX1_key_1 0 rfl rfl)
theorem dX1_key_25 : decode cX1_key 25 = .ok (.iload_n 3, 1) := dk_29 (dk_at dksX1_key_1 1 rfl rfl)
theorem dX1_key_26 : decode cX1_key 26 = .ok (.invokestatic 19, 3) := dk_184 0 19 (dk_at dksX1_key_1 2 rfl rfl)
theorem dX1_key_29 : decode cX1_key 29 = .ok (.aload_n 0, 1) := dk_42 (dk_at dksX1_key_1 5 rfl rfl)
theorem dX1_key_30 : decode cX1_key 30 = .ok (.getfield 7, 3) := dk_180 0 7 (dk_at dksX1_key_1 6 rfl rfl)
theorem dX1_key_33 : decode cX1_key 33 = .ok (.iload 6, 2) := dk_21 6 (dk_at dksX1_key_1 9 rfl rfl)
theorem dX1_key_35 : decode cX1_key 35 = .ok (.bipush 8, 2) := dk_16 8 (dk_at dksX1_key_1 11 rfl rfl)
theorem dX1_key_37 : decode cX1_key 37 = .ok (.iadd, 1) := dk_96 (dk_at dksX1_key_1 13 rfl rfl)
theorem dX1_key_38 : decode cX1_key 38 = .ok (.iload 4, 2) := dk_21 4 (dk_at dksX1_key_1 14 rfl rfl)
theorem dX1_key_40 : decode cX1_key 40 = .ok (.invokestatic 19, 3) := dk_184 0 19 (dk_at dksX1_key_1 16 rfl rfl)
theorem dX1_key_43 : decode cX1_key 43 = .ok (.aload_n 0, 1) := dk_42 (dk_at dksX1_key_1 19 rfl rfl)
theorem dX1_key_44 : decode cX1_key 44 = .ok (.getfield 7, 3) := dk_180 0 7 (dk_at dksX1_key_1 20 rfl rfl)
theorem dX1_key_47 : decode cX1_key 47 = .ok (.iload 6, 2) := dk_21 6 (dk_at dksX1_key_2 0 rfl rfl)
theorem dX1_key_49 : decode cX1_key 49 = .ok (.bipush 12, 2) := dk_16 12 (dk_at dksX1_key_2 2 rfl rfl)
theorem dX1_key_51 : decode cX1_key 51 = .ok (.iadd, 1) := dk_96 (dk_at dksX1_key_2 4 rfl rfl)
theorem dX1_key_52 : decode cX1_key 52 = .ok (.iload 5, 2) := dk_21 5 (dk_at dksX1_key_2 5 rfl rfl)
theorem dX1_key_54 : decode cX1_key 54 = .ok (.invokestatic 19, 3) := dk_184 0 19 (dk_at dksX1_key_2 7 rfl rfl)
theorem dX1_key_57 : decode cX1_key 57 = .ok (.return_, 1) := dk_177 (dk_at dksX1_key_2 10 rfl rfl)
abbrev cX1_word : ByteArray := prog_7_method_2_code
def yX1_word : MethodName := ⟨RX1, "word", "([BII)V"⟩
def dkwX1_word_1 : List UInt8 := [16, 8, 122, 145, 84, 42, 27, 6, 96, 28, 145, 84, 177]
abbrev dktX1_word_1 : List UInt8 := dkwX1_word_1 ++ []
def dkwX1_word_0 : List UInt8 := [42, 27, 28, 16, 24, 122, 145, 84, 42, 27, 4, 96, 28, 16, 16, 122, 145, 84, 42, 27, 5, 96, 28]
abbrev dktX1_word_0 : List UInt8 := dkwX1_word_0 ++ dktX1_word_1
theorem dksX1_word_0 : cX1_word.data.toList.drop 0 = dktX1_word_0 := by decide +kernel
theorem dksX1_word_1 : cX1_word.data.toList.drop 23 = dktX1_word_1 := dk_seg dksX1_word_0 23 rfl rfl
theorem dX1_word_0 : decode cX1_word 0 = .ok (.aload_n 0, 1) := dk_42 (dk_at dksX1_word_0 0 rfl rfl)
theorem dX1_word_1 : decode cX1_word 1 = .ok (.iload_n 1, 1) := dk_27 (dk_at dksX1_word_0 1 rfl rfl)
theorem dX1_word_2 : decode cX1_word 2 = .ok (.iload_n 2, 1) := dk_28 (dk_at dksX1_word_0 2 rfl rfl)
theorem dX1_word_3 : decode cX1_word 3 = .ok (.bipush 24, 2) := dk_16 24 (dk_at dksX1_word_0 3 rfl rfl)
theorem dX1_word_5 : decode cX1_word 5 = .ok (.ishr, 1) := dk_122 (dk_at dksX1_word_0 5 rfl rfl)
theorem dX1_word_6 : decode cX1_word 6 = .ok (.i2b, 1) := dk_145 (dk_at dksX1_word_0 6 rfl rfl)
theorem dX1_word_7 : decode cX1_word 7 = .ok (.bastore, 1) := dk_84 (dk_at dksX1_word_0 7 rfl rfl)
theorem dX1_word_8 : decode cX1_word 8 = .ok (.aload_n 0, 1) := dk_42 (dk_at dksX1_word_0 8 rfl rfl)
theorem dX1_word_9 : decode cX1_word 9 = .ok (.iload_n 1, 1) := dk_27 (dk_at dksX1_word_0 9 rfl rfl)
theorem dX1_word_10 : decode cX1_word 10 = .ok (.iconst 1, 1) := dk_4 (dk_at dksX1_word_0 10 rfl rfl)
theorem dX1_word_11 : decode cX1_word 11 = .ok (.iadd, 1) := dk_96 (dk_at dksX1_word_0 11 rfl rfl)
theorem dX1_word_12 : decode cX1_word 12 = .ok (.iload_n 2, 1) := dk_28 (dk_at dksX1_word_0 12 rfl rfl)
theorem dX1_word_13 : decode cX1_word 13 = .ok (.bipush 16, 2) := dk_16 16 (dk_at dksX1_word_0 13 rfl rfl)
theorem dX1_word_15 : decode cX1_word 15 = .ok (.ishr, 1) := dk_122 (dk_at dksX1_word_0 15 rfl rfl)
theorem dX1_word_16 : decode cX1_word 16 = .ok (.i2b, 1) := dk_145 (dk_at dksX1_word_0 16 rfl rfl)
theorem dX1_word_17 : decode cX1_word 17 = .ok (.bastore, 1) := dk_84 (dk_at dksX1_word_0 17 rfl rfl)
theorem dX1_word_18 : decode cX1_word 18 = .ok (.aload_n 0, 1) := dk_42 (dk_at dksX1_word_0 18 rfl rfl)
theorem dX1_word_19 : decode cX1_word 19 = .ok (.iload_n 1, 1) := dk_27 (dk_at dksX1_word_0 19 rfl rfl)
theorem dX1_word_20 : decode cX1_word 20 = .ok (.iconst 2, 1) := dk_5 (dk_at dksX1_word_0 20 rfl rfl)
theorem dX1_word_21 : decode cX1_word 21 = .ok (.iadd, 1) := dk_96 (dk_at dksX1_word_0 21 rfl rfl)
theorem dX1_word_22 : decode cX1_word 22 = .ok (.iload_n 2, 1) := dk_28 (dk_at dksX1_word_0 22 rfl rfl)
theorem dX1_word_23 : decode cX1_word 23 = .ok (.bipush 8, 2) := dk_16 8 (dk_at dksX1_word_1 0 rfl rfl)
theorem dX1_word_25 : decode cX1_word 25 = .ok (.ishr, 1) := dk_122 (dk_at dksX1_word_1 2 rfl rfl)
theorem dX1_word_26 : decode cX1_word 26 = .ok (.i2b, 1) := dk_145 (dk_at dksX1_word_1 3 rfl rfl)
theorem dX1_word_27 : decode cX1_word 27 = .ok (.bastore, 1) := dk_84 (dk_at dksX1_word_1 4 rfl rfl)
theorem dX1_word_28 : decode cX1_word 28 = .ok (.aload_n 0, 1) := dk_42 (dk_at dksX1_word_1 5 rfl rfl)
theorem dX1_word_29 : decode cX1_word 29 = .ok (.iload_n 1, 1) := dk_27 (dk_at dksX1_word_1 6 rfl rfl)
theorem dX1_word_30 : decode cX1_word 30 = .ok (.iconst 3, 1) := dk_6 (dk_at dksX1_word_1 7 rfl rfl)
theorem dX1_word_31 : decode cX1_word 31 = .ok (.iadd, 1) := dk_96 (dk_at dksX1_word_1 8 rfl rfl)
theorem dX1_word_32 : decode cX1_word 32 = .ok (.iload_n 2, 1) := dk_28 (dk_at dksX1_word_1 9 rfl rfl)
theorem dX1_word_33 : decode cX1_word 33 = .ok (.i2b, 1) := dk_145 (dk_at dksX1_word_1 10 rfl rfl)
theorem dX1_word_34 : decode cX1_word 34 = .ok (.bastore, 1) := dk_84 (dk_at dksX1_word_1 11 rfl rfl)
theorem dX1_word_35 : decode cX1_word 35 = .ok (.return_, 1) := dk_177 (dk_at dksX1_word_1 12 rfl rfl)
abbrev cX1_block : ByteArray := prog_7_method_4_code
def yX1_block : MethodName := ⟨RX1, "block", "(IIII)V"⟩
def dkwX1_block_1 : List UInt8 := [29, 184, 0, 19, 42, 180, 0, 13, 16, 12, 21, 4, 184, 0, 19, 177]
abbrev dktX1_block_1 : List UInt8 := dkwX1_block_1 ++ []
def dkwX1_block_0 : List UInt8 := [42, 180, 0, 13, 3, 27, 184, 0, 19, 42, 180, 0, 13, 7, 28, 184, 0, 19, 42, 180, 0, 13, 16, 8]
abbrev dktX1_block_0 : List UInt8 := dkwX1_block_0 ++ dktX1_block_1
theorem dksX1_block_0 : cX1_block.data.toList.drop 0 = dktX1_block_0 := by decide +kernel
theorem dksX1_block_1 : cX1_block.data.toList.drop 24 = dktX1_block_1 := dk_seg dksX1_block_0 24 rfl rfl
theorem dX1_block_0 : decode cX1_block 0 = .ok (.aload_n 0, 1) := dk_42 (dk_at dksX1_block_0 0 rfl rfl)
theorem dX1_block_1 : decode cX1_block 1 = .ok (.getfield 13, 3) := dk_180 0 13 (dk_at dksX1_block_0 1 rfl rfl)
theorem dX1_block_4 : decode cX1_block 4 = .ok (.iconst 0, 1) := dk_3 (dk_at dksX1_block_0 4 rfl rfl)
theorem dX1_block_5 : decode cX1_block 5 = .ok (.iload_n 1, 1) := dk_27 (dk_at dksX1_block_0 5 rfl rfl)
theorem dX1_block_6 : decode cX1_block 6 = .ok (.invokestatic 19, 3) := dk_184 0 19 (dk_at dksX1_block_0 6 rfl rfl)
theorem dX1_block_9 : decode cX1_block 9 = .ok (.aload_n 0, 1) := dk_42 (dk_at dksX1_block_0 9 rfl rfl)
theorem dX1_block_10 : decode cX1_block 10 = .ok (.getfield 13, 3) := dk_180 0 13 (dk_at dksX1_block_0 10 rfl rfl)
theorem dX1_block_13 : decode cX1_block 13 = .ok (.iconst 4, 1) := dk_7 (dk_at dksX1_block_0 13 rfl rfl)
theorem dX1_block_14 : decode cX1_block 14 = .ok (.iload_n 2, 1) := dk_28 (dk_at dksX1_block_0 14 rfl rfl)
theorem dX1_block_15 : decode cX1_block 15 = .ok (.invokestatic 19, 3) := dk_184 0 19 (dk_at dksX1_block_0 15 rfl rfl)
theorem dX1_block_18 : decode cX1_block 18 = .ok (.aload_n 0, 1) := dk_42 (dk_at dksX1_block_0 18 rfl rfl)
theorem dX1_block_19 : decode cX1_block 19 = .ok (.getfield 13, 3) := dk_180 0 13 (dk_at dksX1_block_0 19 rfl rfl)
theorem dX1_block_22 : decode cX1_block 22 = .ok (.bipush 8, 2) := dk_16 8 (dk_at dksX1_block_0 22 rfl rfl)
theorem dX1_block_24 : decode cX1_block 24 = .ok (.iload_n 3, 1) := dk_29 (dk_at dksX1_block_1 0 rfl rfl)
theorem dX1_block_25 : decode cX1_block 25 = .ok (.invokestatic 19, 3) := dk_184 0 19 (dk_at dksX1_block_1 1 rfl rfl)
theorem dX1_block_28 : decode cX1_block 28 = .ok (.aload_n 0, 1) := dk_42 (dk_at dksX1_block_1 4 rfl rfl)
theorem dX1_block_29 : decode cX1_block 29 = .ok (.getfield 13, 3) := dk_180 0 13 (dk_at dksX1_block_1 5 rfl rfl)
theorem dX1_block_32 : decode cX1_block 32 = .ok (.bipush 12, 2) := dk_16 12 (dk_at dksX1_block_1 8 rfl rfl)
theorem dX1_block_34 : decode cX1_block 34 = .ok (.iload 4, 2) := dk_21 4 (dk_at dksX1_block_1 10 rfl rfl)
theorem dX1_block_36 : decode cX1_block 36 = .ok (.invokestatic 19, 3) := dk_184 0 19 (dk_at dksX1_block_1 12 rfl rfl)
theorem dX1_block_39 : decode cX1_block 39 = .ok (.return_, 1) := dk_177 (dk_at dksX1_block_1 15 rfl rfl)
abbrev cX1_out : ByteArray := prog_7_method_10_code
def yX1_out : MethodName := ⟨RX1, "out", "(I)I"⟩
def dkwX1_out_0 : List UInt8 := [42, 180, 0, 16, 27, 16, 15, 126, 51, 17, 0, 255, 126, 172]
abbrev dktX1_out_0 : List UInt8 := dkwX1_out_0 ++ []
theorem dksX1_out_0 : cX1_out.data.toList.drop 0 = dktX1_out_0 := by decide +kernel
theorem dX1_out_0 : decode cX1_out 0 = .ok (.aload_n 0, 1) := dk_42 (dk_at dksX1_out_0 0 rfl rfl)
theorem dX1_out_1 : decode cX1_out 1 = .ok (.getfield 16, 3) := dk_180 0 16 (dk_at dksX1_out_0 1 rfl rfl)
theorem dX1_out_4 : decode cX1_out 4 = .ok (.iload_n 1, 1) := dk_27 (dk_at dksX1_out_0 4 rfl rfl)
theorem dX1_out_5 : decode cX1_out 5 = .ok (.bipush 15, 2) := dk_16 15 (dk_at dksX1_out_0 5 rfl rfl)
theorem dX1_out_7 : decode cX1_out 7 = .ok (.iand, 1) := dk_126 (dk_at dksX1_out_0 7 rfl rfl)
theorem dX1_out_8 : decode cX1_out 8 = .ok (.baload, 1) := dk_51 (dk_at dksX1_out_0 8 rfl rfl)
theorem dX1_out_9 : decode cX1_out 9 = .ok (.sipush 255, 3) := dk_17 0 255 (dk_at dksX1_out_0 9 rfl rfl)
theorem dX1_out_12 : decode cX1_out 12 = .ok (.iand, 1) := dk_126 (dk_at dksX1_out_0 12 rfl rfl)
theorem dX1_out_13 : decode cX1_out 13 = .ok (.ireturn, 1) := dk_172 (dk_at dksX1_out_0 13 rfl rfl)
theorem q10 : (Jvm.Cond.initialized "RcSixDesk") ∈ lw_all := lw_g (lw_at lw_m1 1 rfl) rfl
theorem q23 : (Jvm.Cond.instanceMethod ({ cls := "RcSixDesk", name := "lock", desc := "(I)V" } : Jvm.MethodName)) ∈ lw_all := lw_g (lw_at lw_m1 14 rfl) rfl
theorem q24 : (Jvm.Cond.selects "RcSixDesk" ({ cls := "RcSixDesk", name := "lock", desc := "(I)V" } : Jvm.MethodName) ({ cls := "RcSixDesk", name := "lock", desc := "(I)V" } : Jvm.MethodName)) ∈ lw_all := lw_g (lw_at lw_m1 15 rfl) rfl
theorem q25 : (Jvm.Cond.code ({ cls := "RcSixDesk", name := "lock", desc := "(I)V" } : Jvm.MethodName) prog_7_method_7_code (2 : Nat) (Option.none : Option Jvm.ClassFile.FieldType)) ∈ lw_all := lw_g (lw_at lw_m1 16 rfl) rfl
theorem q26 : (Jvm.Cond.methodLink "RcSixDesk" (45 : Nat) ({ cls := "RcSixDesk", name := "run", desc := "(ZI)V" } : Jvm.MethodName)) ∈ lw_all := lw_g (lw_at lw_m1 17 rfl) rfl
theorem q27 : (Jvm.Cond.privateMethod ({ cls := "RcSixDesk", name := "run", desc := "(ZI)V" } : Jvm.MethodName)) ∈ lw_tbl := lw_at lw_m1 18 rfl
theorem q28 : (Jvm.Cond.instanceMethod ({ cls := "RcSixDesk", name := "run", desc := "(ZI)V" } : Jvm.MethodName)) ∈ lw_all := lw_g (lw_at lw_m1 19 rfl) rfl
theorem q29 : (Jvm.Cond.instantiable "RcSixDesk" (3 : Nat)) ∈ lw_all := lw_g (lw_at lw_m1 20 rfl) rfl
theorem q30 : (Jvm.Cond.code ({ cls := "RcSixDesk", name := "run", desc := "(ZI)V" } : Jvm.MethodName) prog_7_method_5_code (6 : Nat) (Option.none : Option Jvm.ClassFile.FieldType)) ∈ lw_all := lw_g (lw_at lw_m1 21 rfl) rfl
theorem q31 : (Jvm.Cond.methodLink "RcSixDesk" (23 : Nat) ({ cls := "RcSixDesk", name := "size", desc := "(I)I" } : Jvm.MethodName)) ∈ lw_all := lw_g (lw_at lw_m1 22 rfl) rfl
theorem q32 : (Jvm.Cond.static ({ cls := "RcSixDesk", name := "size", desc := "(I)I" } : Jvm.MethodName)) ∈ lw_all := lw_g (lw_at lw_m1 23 rfl) rfl
theorem q33 : (Jvm.Cond.code ({ cls := "RcSixDesk", name := "size", desc := "(I)I" } : Jvm.MethodName) prog_7_method_6_code (1 : Nat) (Option.some Jvm.ClassFile.FieldType.int)) ∈ lw_all := lw_g (lw_at lw_m1 24 rfl) rfl
theorem q34 : (Jvm.Cond.classLink "RcSixDesk" (27 : Nat) "RC6Engine") ∈ lw_all := lw_g (lw_at lw_m1 25 rfl) rfl
theorem q36 : (Jvm.Cond.methodLink "RcSixDesk" (29 : Nat) ({ cls := "RC6Engine", name := "<init>", desc := "()V" } : Jvm.MethodName)) ∈ lw_all := lw_g (lw_at lw_m1 27 rfl) rfl
theorem q50 : (Jvm.Cond.classLink "RcSixDesk" (30 : Nat) "KeyParameter") ∈ lw_all := lw_g (lw_at lw_m1 41 rfl) rfl
theorem q52 : (Jvm.Cond.methodLink "RcSixDesk" (32 : Nat) ({ cls := "KeyParameter", name := "<init>", desc := "([B)V" } : Jvm.MethodName)) ∈ lw_all := lw_g (lw_at lw_m1 43 rfl) rfl
theorem q69 : (Jvm.Cond.interfaceEntry "RcSixDesk" (35 : Nat)) ∈ lw_tbl := lw_at lw_m1 60 rfl
theorem q70 : (Jvm.Cond.methodLink "RcSixDesk" (35 : Nat) ({ cls := "BlockCipher", name := "init", desc := "(ZLCipherParameters;)V" } : Jvm.MethodName)) ∈ lw_all := lw_g (lw_at lw_m1 61 rfl) rfl
theorem q162 : (Jvm.Cond.interfaceEntry "RcSixDesk" (41 : Nat)) ∈ lw_tbl := lw_at lw_m1 153 rfl
theorem q163 : (Jvm.Cond.methodLink "RcSixDesk" (41 : Nat) ({ cls := "BlockCipher", name := "processBlock", desc := "([BI[BI)I" } : Jvm.MethodName)) ∈ lw_all := lw_g (lw_at lw_m1 154 rfl) rfl
theorem q250 : (Jvm.Cond.instanceMethod ({ cls := "RcSixDesk", name := "open", desc := "(I)V" } : Jvm.MethodName)) ∈ lw_all := lw_g (lw_at lw_m2 1 rfl) rfl
theorem q251 : (Jvm.Cond.selects "RcSixDesk" ({ cls := "RcSixDesk", name := "open", desc := "(I)V" } : Jvm.MethodName) ({ cls := "RcSixDesk", name := "open", desc := "(I)V" } : Jvm.MethodName)) ∈ lw_all := lw_g (lw_at lw_m2 2 rfl) rfl
theorem q252 : (Jvm.Cond.code ({ cls := "RcSixDesk", name := "open", desc := "(I)V" } : Jvm.MethodName) prog_7_method_8_code (2 : Nat) (Option.none : Option Jvm.ClassFile.FieldType)) ∈ lw_all := lw_g (lw_at lw_m2 3 rfl) rfl
theorem q254 : (Jvm.Cond.instanceMethod ({ cls := "RcSixDesk", name := "again", desc := "()V" } : Jvm.MethodName)) ∈ lw_all := lw_g (lw_at lw_m2 5 rfl) rfl
theorem q255 : (Jvm.Cond.selects "RcSixDesk" ({ cls := "RcSixDesk", name := "again", desc := "()V" } : Jvm.MethodName) ({ cls := "RcSixDesk", name := "again", desc := "()V" } : Jvm.MethodName)) ∈ lw_all := lw_g (lw_at lw_m2 6 rfl) rfl
theorem q256 : (Jvm.Cond.code ({ cls := "RcSixDesk", name := "again", desc := "()V" } : Jvm.MethodName) prog_7_method_9_code (2 : Nat) (Option.none : Option Jvm.ClassFile.FieldType)) ∈ lw_all := lw_g (lw_at lw_m2 7 rfl) rfl
theorem q262 : (Jvm.Cond.instanceMethod ({ cls := "RcSixDesk", name := "<init>", desc := "()V" } : Jvm.MethodName)) ∈ lw_all := lw_g (lw_at lw_m2 13 rfl) rfl
theorem q263 : (Jvm.Cond.code ({ cls := "RcSixDesk", name := "<init>", desc := "()V" } : Jvm.MethodName) prog_7_method_1_code (1 : Nat) (Option.none : Option Jvm.ClassFile.FieldType)) ∈ lw_all := lw_g (lw_at lw_m2 14 rfl) rfl
theorem q264 : (Jvm.Cond.methodLink "RcSixDesk" (1 : Nat) ({ cls := "java/lang/Object", name := "<init>", desc := "()V" } : Jvm.MethodName)) ∈ lw_all := lw_g (lw_at lw_m2 15 rfl) rfl
theorem q265 : (Jvm.Cond.fieldLink "RcSixDesk" (7 : Nat) "RcSixDesk" "key" "[B") ∈ lw_all := lw_g (lw_at lw_m2 16 rfl) rfl
theorem q266 : (Jvm.Cond.fieldLink "RcSixDesk" (13 : Nat) "RcSixDesk" "block" "[B") ∈ lw_all := lw_g (lw_at lw_m2 17 rfl) rfl
theorem q267 : (Jvm.Cond.fieldLink "RcSixDesk" (16 : Nat) "RcSixDesk" "out" "[B") ∈ lw_all := lw_g (lw_at lw_m2 18 rfl) rfl
theorem q268 : (Jvm.Cond.laysFinal "RcSixDesk" "RcSixDesk" "key" "[B") ∈ lw_all := lw_g (lw_at lw_m2 19 rfl) rfl
theorem q269 : (Jvm.Cond.soleField "RcSixDesk" "key") ∈ lw_all := lw_g (lw_at lw_m2 20 rfl) rfl
theorem q270 : (Jvm.Cond.laysFinal "RcSixDesk" "RcSixDesk" "block" "[B") ∈ lw_all := lw_g (lw_at lw_m2 21 rfl) rfl
theorem q271 : (Jvm.Cond.soleField "RcSixDesk" "block") ∈ lw_all := lw_g (lw_at lw_m2 22 rfl) rfl
theorem q272 : (Jvm.Cond.laysFinal "RcSixDesk" "RcSixDesk" "out" "[B") ∈ lw_all := lw_g (lw_at lw_m2 23 rfl) rfl
theorem q273 : (Jvm.Cond.soleField "RcSixDesk" "out") ∈ lw_all := lw_g (lw_at lw_m2 24 rfl) rfl
theorem q274 : (Jvm.Cond.superclass "RcSixDesk" "java/lang/Object") ∈ lw_all := lw_g (lw_at lw_m2 25 rfl) rfl
theorem q279 : (Jvm.Cond.instanceMethod ({ cls := "RcSixDesk", name := "key", desc := "(IIIII)V" } : Jvm.MethodName)) ∈ lw_all := lw_g (lw_at lw_m2 30 rfl) rfl
theorem q280 : (Jvm.Cond.selects "RcSixDesk" ({ cls := "RcSixDesk", name := "key", desc := "(IIIII)V" } : Jvm.MethodName) ({ cls := "RcSixDesk", name := "key", desc := "(IIIII)V" } : Jvm.MethodName)) ∈ lw_all := lw_g (lw_at lw_m2 31 rfl) rfl
theorem q281 : (Jvm.Cond.code ({ cls := "RcSixDesk", name := "key", desc := "(IIIII)V" } : Jvm.MethodName) prog_7_method_3_code (7 : Nat) (Option.none : Option Jvm.ClassFile.FieldType)) ∈ lw_all := lw_g (lw_at lw_m2 32 rfl) rfl
theorem q282 : (Jvm.Cond.methodLink "RcSixDesk" (19 : Nat) ({ cls := "RcSixDesk", name := "word", desc := "([BII)V" } : Jvm.MethodName)) ∈ lw_all := lw_g (lw_at lw_m2 33 rfl) rfl
theorem q283 : (Jvm.Cond.static ({ cls := "RcSixDesk", name := "word", desc := "([BII)V" } : Jvm.MethodName)) ∈ lw_all := lw_g (lw_at lw_m2 34 rfl) rfl
theorem q284 : (Jvm.Cond.code ({ cls := "RcSixDesk", name := "word", desc := "([BII)V" } : Jvm.MethodName) prog_7_method_2_code (3 : Nat) (Option.none : Option Jvm.ClassFile.FieldType)) ∈ lw_all := lw_g (lw_at lw_m2 35 rfl) rfl
theorem q286 : (Jvm.Cond.instanceMethod ({ cls := "RcSixDesk", name := "block", desc := "(IIII)V" } : Jvm.MethodName)) ∈ lw_all := lw_g (lw_at lw_m2 37 rfl) rfl
theorem q287 : (Jvm.Cond.selects "RcSixDesk" ({ cls := "RcSixDesk", name := "block", desc := "(IIII)V" } : Jvm.MethodName) ({ cls := "RcSixDesk", name := "block", desc := "(IIII)V" } : Jvm.MethodName)) ∈ lw_all := lw_g (lw_at lw_m2 38 rfl) rfl
theorem q288 : (Jvm.Cond.code ({ cls := "RcSixDesk", name := "block", desc := "(IIII)V" } : Jvm.MethodName) prog_7_method_4_code (5 : Nat) (Option.none : Option Jvm.ClassFile.FieldType)) ∈ lw_all := lw_g (lw_at lw_m2 39 rfl) rfl
theorem q293 : (Jvm.Cond.instanceMethod ({ cls := "RcSixDesk", name := "out", desc := "(I)I" } : Jvm.MethodName)) ∈ lw_all := lw_g (lw_at lw_m2 44 rfl) rfl
theorem q294 : (Jvm.Cond.selects "RcSixDesk" ({ cls := "RcSixDesk", name := "out", desc := "(I)I" } : Jvm.MethodName) ({ cls := "RcSixDesk", name := "out", desc := "(I)I" } : Jvm.MethodName)) ∈ lw_all := lw_g (lw_at lw_m2 45 rfl) rfl
theorem q295 : (Jvm.Cond.code ({ cls := "RcSixDesk", name := "out", desc := "(I)I" } : Jvm.MethodName) prog_7_method_10_code (2 : Nat) (Option.some Jvm.ClassFile.FieldType.int)) ∈ lw_all := lw_g (lw_at lw_m2 46 rfl) rfl
theorem in_X1 : ∀ w ∈ wsX10, w ∈ lw_all := lw_in wsX10 [268, 270, 272] (by decide +kernel) (by decide +kernel)
/-! RcSixDeskLaw -/
set_option maxRecDepth 100000
def RX0 : String := "RcSixDeskLaw"
abbrev cX0_with : ByteArray := method_3_code
def yX0_with : MethodName := ⟨RX0, "with", "([I)LRcSixDesk;"⟩
def dkwX0_with_3 : List UInt8 := [184, 0, 10, 42, 16, 10, 184, 0, 10, 42, 16, 11, 184, 0, 10, 182, 0, 20, 43, 176]
abbrev dktX0_with_3 : List UInt8 := dkwX0_with_3 ++ []
def dkwX0_with_2 : List UInt8 := [16, 6, 184, 0, 10, 42, 16, 7, 184, 0, 10, 182, 0, 16, 43, 42, 16, 8, 184, 0, 10, 42, 16, 9]
abbrev dktX0_with_2 : List UInt8 := dkwX0_with_2 ++ dktX0_with_3
def dkwX0_with_1 : List UInt8 := [184, 0, 10, 42, 6, 184, 0, 10, 182, 0, 16, 43, 4, 42, 7, 184, 0, 10, 42, 8, 184, 0, 10, 42]
abbrev dktX0_with_1 : List UInt8 := dkwX0_with_1 ++ dktX0_with_2
def dkwX0_with_0 : List UInt8 := [187, 0, 7, 89, 183, 0, 9, 76, 43, 3, 42, 3, 184, 0, 10, 42, 4, 184, 0, 10, 42, 5]
abbrev dktX0_with_0 : List UInt8 := dkwX0_with_0 ++ dktX0_with_1
theorem dksX0_with_0 : cX0_with.data.toList.drop 0 = dktX0_with_0 := by decide +kernel
theorem dksX0_with_1 : cX0_with.data.toList.drop 22 = dktX0_with_1 := dk_seg dksX0_with_0 22 rfl rfl
theorem dksX0_with_2 : cX0_with.data.toList.drop 46 = dktX0_with_2 := dk_seg dksX0_with_1 24 rfl rfl
theorem dksX0_with_3 : cX0_with.data.toList.drop 70 = dktX0_with_3 := dk_seg dksX0_with_2 24 rfl rfl
theorem dX0_with_0 : decode cX0_with 0 = .ok (.new 7, 3) := dk_187 0 7 (dk_at dksX0_with_0 0 rfl rfl)
theorem dX0_with_3 : decode cX0_with 3 = .ok (.dup, 1) := dk_89 (dk_at dksX0_with_0 3 rfl rfl)
theorem dX0_with_4 : decode cX0_with 4 = .ok (.invokespecial 9, 3) := dk_183 0 9 (dk_at dksX0_with_0 4 rfl rfl)
theorem dX0_with_7 : decode cX0_with 7 = .ok (.astore_n 1, 1) := dk_76 (dk_at dksX0_with_0 7 rfl rfl)
theorem dX0_with_8 : decode cX0_with 8 = .ok (.aload_n 1, 1) := dk_43 (dk_at dksX0_with_0 8 rfl rfl)
theorem dX0_with_9 : decode cX0_with 9 = .ok (.iconst 0, 1) := dk_3 (dk_at dksX0_with_0 9 rfl rfl)
theorem dX0_with_10 : decode cX0_with 10 = .ok (.aload_n 0, 1) := dk_42 (dk_at dksX0_with_0 10 rfl rfl)
theorem dX0_with_11 : decode cX0_with 11 = .ok (.iconst 0, 1) := dk_3 (dk_at dksX0_with_0 11 rfl rfl)
theorem dX0_with_12 : decode cX0_with 12 = .ok (.invokestatic 10, 3) := dk_184 0 10 (dk_at dksX0_with_0 12 rfl rfl)
theorem dX0_with_15 : decode cX0_with 15 = .ok (.aload_n 0, 1) := dk_42 (dk_at dksX0_with_0 15 rfl rfl)
theorem dX0_with_16 : decode cX0_with 16 = .ok (.iconst 1, 1) := dk_4 (dk_at dksX0_with_0 16 rfl rfl)
theorem dX0_with_17 : decode cX0_with 17 = .ok (.invokestatic 10, 3) := dk_184 0 10 (dk_at dksX0_with_0 17 rfl rfl)
theorem dX0_with_20 : decode cX0_with 20 = .ok (.aload_n 0, 1) := dk_42 (dk_at dksX0_with_0 20 rfl rfl)
theorem dX0_with_21 : decode cX0_with 21 = .ok (.iconst 2, 1) := dk_5 (dk_at dksX0_with_0 21 rfl rfl)
theorem dX0_with_22 : decode cX0_with 22 = .ok (.invokestatic 10, 3) := dk_184 0 10 (dk_at dksX0_with_1 0 rfl rfl)
theorem dX0_with_25 : decode cX0_with 25 = .ok (.aload_n 0, 1) := dk_42 (dk_at dksX0_with_1 3 rfl rfl)
theorem dX0_with_26 : decode cX0_with 26 = .ok (.iconst 3, 1) := dk_6 (dk_at dksX0_with_1 4 rfl rfl)
theorem dX0_with_27 : decode cX0_with 27 = .ok (.invokestatic 10, 3) := dk_184 0 10 (dk_at dksX0_with_1 5 rfl rfl)
theorem dX0_with_30 : decode cX0_with 30 = .ok (.invokevirtual 16, 3) := dk_182 0 16 (dk_at dksX0_with_1 8 rfl rfl)
theorem dX0_with_33 : decode cX0_with 33 = .ok (.aload_n 1, 1) := dk_43 (dk_at dksX0_with_1 11 rfl rfl)
theorem dX0_with_34 : decode cX0_with 34 = .ok (.iconst 1, 1) := dk_4 (dk_at dksX0_with_1 12 rfl rfl)
theorem dX0_with_35 : decode cX0_with 35 = .ok (.aload_n 0, 1) := dk_42 (dk_at dksX0_with_1 13 rfl rfl)
theorem dX0_with_36 : decode cX0_with 36 = .ok (.iconst 4, 1) := dk_7 (dk_at dksX0_with_1 14 rfl rfl)
theorem dX0_with_37 : decode cX0_with 37 = .ok (.invokestatic 10, 3) := dk_184 0 10 (dk_at dksX0_with_1 15 rfl rfl)
theorem dX0_with_40 : decode cX0_with 40 = .ok (.aload_n 0, 1) := dk_42 (dk_at dksX0_with_1 18 rfl rfl)
theorem dX0_with_41 : decode cX0_with 41 = .ok (.iconst 5, 1) := dk_8 (dk_at dksX0_with_1 19 rfl rfl)
theorem dX0_with_42 : decode cX0_with 42 = .ok (.invokestatic 10, 3) := dk_184 0 10 (dk_at dksX0_with_1 20 rfl rfl)
theorem dX0_with_45 : decode cX0_with 45 = .ok (.aload_n 0, 1) := dk_42 (dk_at dksX0_with_1 23 rfl rfl)
theorem dX0_with_46 : decode cX0_with 46 = .ok (.bipush 6, 2) := dk_16 6 (dk_at dksX0_with_2 0 rfl rfl)
theorem dX0_with_48 : decode cX0_with 48 = .ok (.invokestatic 10, 3) := dk_184 0 10 (dk_at dksX0_with_2 2 rfl rfl)
theorem dX0_with_51 : decode cX0_with 51 = .ok (.aload_n 0, 1) := dk_42 (dk_at dksX0_with_2 5 rfl rfl)
theorem dX0_with_52 : decode cX0_with 52 = .ok (.bipush 7, 2) := dk_16 7 (dk_at dksX0_with_2 6 rfl rfl)
theorem dX0_with_54 : decode cX0_with 54 = .ok (.invokestatic 10, 3) := dk_184 0 10 (dk_at dksX0_with_2 8 rfl rfl)
theorem dX0_with_57 : decode cX0_with 57 = .ok (.invokevirtual 16, 3) := dk_182 0 16 (dk_at dksX0_with_2 11 rfl rfl)
theorem dX0_with_60 : decode cX0_with 60 = .ok (.aload_n 1, 1) := dk_43 (dk_at dksX0_with_2 14 rfl rfl)
theorem dX0_with_61 : decode cX0_with 61 = .ok (.aload_n 0, 1) := dk_42 (dk_at dksX0_with_2 15 rfl rfl)
theorem dX0_with_62 : decode cX0_with 62 = .ok (.bipush 8, 2) := dk_16 8 (dk_at dksX0_with_2 16 rfl rfl)
theorem dX0_with_64 : decode cX0_with 64 = .ok (.invokestatic 10, 3) := dk_184 0 10 (dk_at dksX0_with_2 18 rfl rfl)
theorem dX0_with_67 : decode cX0_with 67 = .ok (.aload_n 0, 1) := dk_42 (dk_at dksX0_with_2 21 rfl rfl)
theorem dX0_with_68 : decode cX0_with 68 = .ok (.bipush 9, 2) := dk_16 9 (dk_at dksX0_with_2 22 rfl rfl)
theorem dX0_with_70 : decode cX0_with 70 = .ok (.invokestatic 10, 3) := dk_184 0 10 (dk_at dksX0_with_3 0 rfl rfl)
theorem dX0_with_73 : decode cX0_with 73 = .ok (.aload_n 0, 1) := dk_42 (dk_at dksX0_with_3 3 rfl rfl)
theorem dX0_with_74 : decode cX0_with 74 = .ok (.bipush 10, 2) := dk_16 10 (dk_at dksX0_with_3 4 rfl rfl)
theorem dX0_with_76 : decode cX0_with 76 = .ok (.invokestatic 10, 3) := dk_184 0 10 (dk_at dksX0_with_3 6 rfl rfl)
theorem dX0_with_79 : decode cX0_with 79 = .ok (.aload_n 0, 1) := dk_42 (dk_at dksX0_with_3 9 rfl rfl)
theorem dX0_with_80 : decode cX0_with 80 = .ok (.bipush 11, 2) := dk_16 11 (dk_at dksX0_with_3 10 rfl rfl)
theorem dX0_with_82 : decode cX0_with 82 = .ok (.invokestatic 10, 3) := dk_184 0 10 (dk_at dksX0_with_3 12 rfl rfl)
theorem dX0_with_85 : decode cX0_with 85 = .ok (.invokevirtual 20, 3) := dk_182 0 20 (dk_at dksX0_with_3 15 rfl rfl)
theorem dX0_with_88 : decode cX0_with 88 = .ok (.aload_n 1, 1) := dk_43 (dk_at dksX0_with_3 18 rfl rfl)
theorem dX0_with_89 : decode cX0_with 89 = .ok (.areturn, 1) := dk_176 (dk_at dksX0_with_3 19 rfl rfl)
abbrev cX0_cell : ByteArray := method_2_code
def yX0_cell : MethodName := ⟨RX0, "cell", "([II)I"⟩
def dkwX0_cell_0 : List UInt8 := [27, 42, 190, 162, 0, 9, 42, 27, 46, 167, 0, 4, 3, 172]
abbrev dktX0_cell_0 : List UInt8 := dkwX0_cell_0 ++ []
theorem dksX0_cell_0 : cX0_cell.data.toList.drop 0 = dktX0_cell_0 := by decide +kernel
theorem dX0_cell_0 : decode cX0_cell 0 = .ok (.iload_n 1, 1) := dk_27 (dk_at dksX0_cell_0 0 rfl rfl)
theorem dX0_cell_1 : decode cX0_cell 1 = .ok (.aload_n 0, 1) := dk_42 (dk_at dksX0_cell_0 1 rfl rfl)
theorem dX0_cell_2 : decode cX0_cell 2 = .ok (.arraylength, 1) := dk_190 (dk_at dksX0_cell_0 2 rfl rfl)
theorem dX0_cell_3 : decode cX0_cell 3 = .ok (.if_icmp .ge 9, 3) := dk_162 0 9 (dk_at dksX0_cell_0 3 rfl rfl)
theorem dX0_cell_6 : decode cX0_cell 6 = .ok (.aload_n 0, 1) := dk_42 (dk_at dksX0_cell_0 6 rfl rfl)
theorem dX0_cell_7 : decode cX0_cell 7 = .ok (.iload_n 1, 1) := dk_27 (dk_at dksX0_cell_0 7 rfl rfl)
theorem dX0_cell_8 : decode cX0_cell 8 = .ok (.iaload, 1) := dk_46 (dk_at dksX0_cell_0 8 rfl rfl)
theorem dX0_cell_9 : decode cX0_cell 9 = .ok (.goto 4, 3) := dk_167 0 4 (dk_at dksX0_cell_0 9 rfl rfl)
theorem dX0_cell_12 : decode cX0_cell 12 = .ok (.iconst 0, 1) := dk_3 (dk_at dksX0_cell_0 12 rfl rfl)
theorem dX0_cell_13 : decode cX0_cell 13 = .ok (.ireturn, 1) := dk_172 (dk_at dksX0_cell_0 13 rfl rfl)
abbrev cX0_same : ByteArray := method_4_code
def yX0_same : MethodName := ⟨RX0, "same", "(LRcSixDesk;[I)Z"⟩
def dkwX0_same_2 : List UInt8 := [167, 255, 213, 4, 172]
abbrev dktX0_same_2 : List UInt8 := dkwX0_same_2 ++ []
def dkwX0_same_1 : List UInt8 := [16, 24, 16, 8, 28, 7, 112, 104, 100, 124, 17, 0, 255, 126, 159, 0, 5, 3, 172, 132, 2, 1]
abbrev dktX0_same_1 : List UInt8 := dkwX0_same_1 ++ dktX0_same_2
def dkwX0_same_0 : List UInt8 := [3, 61, 28, 16, 16, 162, 0, 43, 42, 28, 182, 0, 24, 43, 16, 8, 28, 7, 108, 96, 184, 0, 10]
abbrev dktX0_same_0 : List UInt8 := dkwX0_same_0 ++ dktX0_same_1
theorem dksX0_same_0 : cX0_same.data.toList.drop 0 = dktX0_same_0 := by decide +kernel
theorem dksX0_same_1 : cX0_same.data.toList.drop 23 = dktX0_same_1 := dk_seg dksX0_same_0 23 rfl rfl
theorem dksX0_same_2 : cX0_same.data.toList.drop 45 = dktX0_same_2 := dk_seg dksX0_same_1 22 rfl rfl
theorem dX0_same_0 : decode cX0_same 0 = .ok (.iconst 0, 1) := dk_3 (dk_at dksX0_same_0 0 rfl rfl)
theorem dX0_same_1 : decode cX0_same 1 = .ok (.istore_n 2, 1) := dk_61 (dk_at dksX0_same_0 1 rfl rfl)
theorem dX0_same_2 : decode cX0_same 2 = .ok (.iload_n 2, 1) := dk_28 (dk_at dksX0_same_0 2 rfl rfl)
theorem dX0_same_3 : decode cX0_same 3 = .ok (.bipush 16, 2) := dk_16 16 (dk_at dksX0_same_0 3 rfl rfl)
theorem dX0_same_5 : decode cX0_same 5 = .ok (.if_icmp .ge 43, 3) := dk_162 0 43 (dk_at dksX0_same_0 5 rfl rfl)
theorem dX0_same_8 : decode cX0_same 8 = .ok (.aload_n 0, 1) := dk_42 (dk_at dksX0_same_0 8 rfl rfl)
theorem dX0_same_9 : decode cX0_same 9 = .ok (.iload_n 2, 1) := dk_28 (dk_at dksX0_same_0 9 rfl rfl)
theorem dX0_same_10 : decode cX0_same 10 = .ok (.invokevirtual 24, 3) := dk_182 0 24 (dk_at dksX0_same_0 10 rfl rfl)
theorem dX0_same_13 : decode cX0_same 13 = .ok (.aload_n 1, 1) := dk_43 (dk_at dksX0_same_0 13 rfl rfl)
theorem dX0_same_14 : decode cX0_same 14 = .ok (.bipush 8, 2) := dk_16 8 (dk_at dksX0_same_0 14 rfl rfl)
theorem dX0_same_16 : decode cX0_same 16 = .ok (.iload_n 2, 1) := dk_28 (dk_at dksX0_same_0 16 rfl rfl)
theorem dX0_same_17 : decode cX0_same 17 = .ok (.iconst 4, 1) := dk_7 (dk_at dksX0_same_0 17 rfl rfl)
theorem dX0_same_18 : decode cX0_same 18 = .ok (.idiv, 1) := dk_108 (dk_at dksX0_same_0 18 rfl rfl)
theorem dX0_same_19 : decode cX0_same 19 = .ok (.iadd, 1) := dk_96 (dk_at dksX0_same_0 19 rfl rfl)
theorem dX0_same_20 : decode cX0_same 20 = .ok (.invokestatic 10, 3) := dk_184 0 10 (dk_at dksX0_same_0 20 rfl rfl)
theorem dX0_same_23 : decode cX0_same 23 = .ok (.bipush 24, 2) := dk_16 24 (dk_at dksX0_same_1 0 rfl rfl)
theorem dX0_same_25 : decode cX0_same 25 = .ok (.bipush 8, 2) := dk_16 8 (dk_at dksX0_same_1 2 rfl rfl)
theorem dX0_same_27 : decode cX0_same 27 = .ok (.iload_n 2, 1) := dk_28 (dk_at dksX0_same_1 4 rfl rfl)
theorem dX0_same_28 : decode cX0_same 28 = .ok (.iconst 4, 1) := dk_7 (dk_at dksX0_same_1 5 rfl rfl)
theorem dX0_same_29 : decode cX0_same 29 = .ok (.irem, 1) := dk_112 (dk_at dksX0_same_1 6 rfl rfl)
theorem dX0_same_30 : decode cX0_same 30 = .ok (.imul, 1) := dk_104 (dk_at dksX0_same_1 7 rfl rfl)
theorem dX0_same_31 : decode cX0_same 31 = .ok (.isub, 1) := dk_100 (dk_at dksX0_same_1 8 rfl rfl)
theorem dX0_same_32 : decode cX0_same 32 = .ok (.iushr, 1) := dk_124 (dk_at dksX0_same_1 9 rfl rfl)
theorem dX0_same_33 : decode cX0_same 33 = .ok (.sipush 255, 3) := dk_17 0 255 (dk_at dksX0_same_1 10 rfl rfl)
theorem dX0_same_36 : decode cX0_same 36 = .ok (.iand, 1) := dk_126 (dk_at dksX0_same_1 13 rfl rfl)
theorem dX0_same_37 : decode cX0_same 37 = .ok (.if_icmp .eq 5, 3) := dk_159 0 5 (dk_at dksX0_same_1 14 rfl rfl)
theorem dX0_same_40 : decode cX0_same 40 = .ok (.iconst 0, 1) := dk_3 (dk_at dksX0_same_1 17 rfl rfl)
theorem dX0_same_41 : decode cX0_same 41 = .ok (.ireturn, 1) := dk_172 (dk_at dksX0_same_1 18 rfl rfl)
theorem dX0_same_42 : decode cX0_same 42 = .ok (.iinc 2 1, 3) := dk_132 2 1 (dk_at dksX0_same_1 19 rfl rfl)
theorem dX0_same_45 : decode cX0_same 45 = .ok (.goto (-43), 3) := dk_167 255 213 (dk_at dksX0_same_2 0 rfl rfl)
theorem dX0_same_48 : decode cX0_same 48 = .ok (.iconst 1, 1) := dk_4 (dk_at dksX0_same_2 3 rfl rfl)
theorem dX0_same_49 : decode cX0_same 49 = .ok (.ireturn, 1) := dk_172 (dk_at dksX0_same_2 4 rfl rfl)
abbrev cX0_known : ByteArray := method_5_code
def yX0_known : MethodName := ⟨RX0, "known", "()Z"⟩
def dkwX0_known_22 : List UInt8 := [132, 6, 1, 167, 255, 229, 4, 172]
abbrev dktX0_known_22 : List UInt8 := dkwX0_known_22 ++ []
def dkwX0_known_21 : List UInt8 := [16, 16, 162, 0, 26, 25, 4, 21, 6, 182, 0, 24, 25, 5, 21, 6, 46, 159, 0, 5, 3, 172]
abbrev dktX0_known_21 : List UInt8 := dkwX0_known_21 ++ dktX0_known_22
def dkwX0_known_20 : List UInt8 := [17, 0, 133, 79, 89, 16, 14, 16, 126, 79, 89, 16, 15, 17, 0, 194, 79, 58, 5, 3, 54, 6, 21, 6]
abbrev dktX0_known_20 : List UInt8 := dkwX0_known_20 ++ dktX0_known_21
def dkwX0_known_19 : List UInt8 := [89, 16, 10, 16, 63, 79, 89, 16, 11, 17, 0, 218, 79, 89, 16, 12, 16, 110, 79, 89, 16, 13]
abbrev dktX0_known_19 : List UInt8 := dkwX0_known_19 ++ dktX0_known_20
def dkwX0_known_18 : List UInt8 := [16, 95, 79, 89, 16, 7, 17, 0, 168, 79, 89, 16, 8, 17, 0, 147, 79, 89, 16, 9, 17, 0, 250, 79]
abbrev dktX0_known_18 : List UInt8 := dkwX0_known_18 ++ dktX0_known_19
def dkwX0_known_17 : List UInt8 := [89, 5, 17, 0, 189, 79, 89, 6, 8, 79, 89, 7, 16, 16, 79, 89, 8, 17, 0, 209, 79, 89, 16, 6]
abbrev dktX0_known_17 : List UInt8 := dkwX0_known_17 ++ dktX0_known_18
def dkwX0_known_16 : List UInt8 := [182, 0, 20, 25, 4, 5, 182, 0, 28, 16, 16, 188, 10, 89, 3, 17, 0, 143, 79, 89, 4, 16, 95, 79]
abbrev dktX0_known_16 : List UInt8 := dkwX0_known_16 ++ dktX0_known_17
def dkwX0_known_15 : List UInt8 := [3, 3, 3, 3, 182, 0, 16, 25, 4, 4, 3, 3, 3, 3, 182, 0, 16, 25, 4, 3, 3, 3, 3]
abbrev dktX0_known_15 : List UInt8 := dkwX0_known_15 ++ dktX0_known_16
def dkwX0_known_14 : List UInt8 := [46, 159, 0, 5, 3, 172, 132, 4, 1, 167, 255, 231, 187, 0, 7, 89, 183, 0, 9, 58, 4, 25, 4, 3]
abbrev dktX0_known_14 : List UInt8 := dkwX0_known_14 ++ dktX0_known_15
def dkwX0_known_13 : List UInt8 := [17, 0, 130, 79, 78, 3, 54, 4, 21, 4, 16, 16, 162, 0, 24, 44, 21, 4, 182, 0, 24, 45, 21, 4]
abbrev dktX0_known_13 : List UInt8 := dkwX0_known_13 ++ dktX0_known_14
def dkwX0_known_12 : List UInt8 := [89, 16, 12, 17, 0, 134, 79, 89, 16, 13, 17, 0, 144, 79, 89, 16, 14, 17, 0, 174, 79, 89, 16, 15]
abbrev dktX0_known_12 : List UInt8 := dkwX0_known_12 ++ dktX0_known_13
def dkwX0_known_11 : List UInt8 := [16, 8, 16, 78, 79, 89, 16, 9, 17, 0, 138, 79, 89, 16, 10, 16, 63, 79, 89, 16, 11, 16, 22, 79]
abbrev dktX0_known_11 : List UInt8 := dkwX0_known_11 ++ dktX0_known_12
def dkwX0_known_10 : List UInt8 := [89, 7, 16, 25, 79, 89, 8, 16, 11, 79, 89, 16, 6, 16, 48, 79, 89, 16, 7, 16, 56, 79, 89]
abbrev dktX0_known_10 : List UInt8 := dkwX0_known_10 ++ dktX0_known_11
def dkwX0_known_9 : List UInt8 := [188, 10, 89, 3, 16, 108, 79, 89, 4, 17, 0, 214, 79, 89, 5, 16, 27, 79, 89, 6, 17, 0, 203, 79]
abbrev dktX0_known_9 : List UInt8 := dkwX0_known_9 ++ dktX0_known_10
def dkwX0_known_8 : List UInt8 := [44, 4, 3, 3, 3, 3, 182, 0, 16, 44, 3, 3, 3, 3, 182, 0, 20, 44, 4, 182, 0, 28, 16, 16]
abbrev dktX0_known_8 : List UInt8 := dkwX0_known_8 ++ dktX0_known_9
def dkwX0_known_7 : List UInt8 := [172, 132, 2, 1, 167, 255, 234, 187, 0, 7, 89, 183, 0, 9, 77, 44, 3, 3, 3, 3, 3, 182, 0, 16]
abbrev dktX0_known_7 : List UInt8 := dkwX0_known_7 ++ dktX0_known_8
def dkwX0_known_6 : List UInt8 := [16, 30, 79, 76, 3, 61, 28, 16, 16, 162, 0, 22, 42, 28, 182, 0, 24, 43, 28, 46, 159, 0, 5, 3]
abbrev dktX0_known_6 : List UInt8 := dkwX0_known_6 ++ dktX0_known_7
def dkwX0_known_5 : List UInt8 := [79, 89, 16, 12, 17, 0, 152, 79, 89, 16, 13, 16, 72, 79, 89, 16, 14, 17, 0, 164, 79, 89, 16, 15]
abbrev dktX0_known_5 : List UInt8 := dkwX0_known_5 ++ dktX0_known_6
def dkwX0_known_4 : List UInt8 := [16, 8, 17, 0, 193, 79, 89, 16, 9, 16, 41, 79, 89, 16, 10, 17, 0, 223, 79, 89, 16, 11, 16, 78]
abbrev dktX0_known_4 : List UInt8 := dkwX0_known_4 ++ dktX0_known_5
def dkwX0_known_3 : List UInt8 := [16, 86, 79, 89, 8, 17, 0, 177, 79, 89, 16, 6, 17, 0, 247, 79, 89, 16, 7, 16, 120, 79, 89]
abbrev dktX0_known_3 : List UInt8 := dkwX0_known_3 ++ dktX0_known_4
def dkwX0_known_2 : List UInt8 := [17, 0, 143, 79, 89, 4, 17, 0, 195, 79, 89, 5, 17, 0, 165, 79, 89, 6, 16, 54, 79, 89, 7]
abbrev dktX0_known_2 : List UInt8 := dkwX0_known_2 ++ dktX0_known_3
def dkwX0_known_1 : List UInt8 := [182, 0, 16, 42, 3, 3, 3, 3, 182, 0, 20, 42, 3, 182, 0, 28, 16, 16, 188, 10, 89, 3]
abbrev dktX0_known_1 : List UInt8 := dkwX0_known_1 ++ dktX0_known_2
def dkwX0_known_0 : List UInt8 := [187, 0, 7, 89, 183, 0, 9, 75, 42, 3, 3, 3, 3, 3, 182, 0, 16, 42, 4, 3, 3, 3, 3]
abbrev dktX0_known_0 : List UInt8 := dkwX0_known_0 ++ dktX0_known_1
theorem dksX0_known_0 : cX0_known.data.toList.drop 0 = dktX0_known_0 := by decide +kernel
theorem dksX0_known_1 : cX0_known.data.toList.drop 23 = dktX0_known_1 := dk_seg dksX0_known_0 23 rfl rfl
theorem dksX0_known_2 : cX0_known.data.toList.drop 45 = dktX0_known_2 := dk_seg dksX0_known_1 22 rfl rfl
theorem dksX0_known_3 : cX0_known.data.toList.drop 68 = dktX0_known_3 := dk_seg dksX0_known_2 23 rfl rfl
theorem dksX0_known_4 : cX0_known.data.toList.drop 91 = dktX0_known_4 := dk_seg dksX0_known_3 23 rfl rfl
theorem dksX0_known_5 : cX0_known.data.toList.drop 115 = dktX0_known_5 := dk_seg dksX0_known_4 24 rfl rfl
theorem dksX0_known_6 : cX0_known.data.toList.drop 139 = dktX0_known_6 := dk_seg dksX0_known_5 24 rfl rfl
theorem dksX0_known_7 : cX0_known.data.toList.drop 163 = dktX0_known_7 := dk_seg dksX0_known_6 24 rfl rfl
theorem dksX0_known_8 : cX0_known.data.toList.drop 187 = dktX0_known_8 := dk_seg dksX0_known_7 24 rfl rfl
theorem dksX0_known_9 : cX0_known.data.toList.drop 211 = dktX0_known_9 := dk_seg dksX0_known_8 24 rfl rfl
theorem dksX0_known_10 : cX0_known.data.toList.drop 235 = dktX0_known_10 := dk_seg dksX0_known_9 24 rfl rfl
theorem dksX0_known_11 : cX0_known.data.toList.drop 258 = dktX0_known_11 := dk_seg dksX0_known_10 23 rfl rfl
theorem dksX0_known_12 : cX0_known.data.toList.drop 282 = dktX0_known_12 := dk_seg dksX0_known_11 24 rfl rfl
theorem dksX0_known_13 : cX0_known.data.toList.drop 306 = dktX0_known_13 := dk_seg dksX0_known_12 24 rfl rfl
theorem dksX0_known_14 : cX0_known.data.toList.drop 330 = dktX0_known_14 := dk_seg dksX0_known_13 24 rfl rfl
theorem dksX0_known_15 : cX0_known.data.toList.drop 354 = dktX0_known_15 := dk_seg dksX0_known_14 24 rfl rfl
theorem dksX0_known_16 : cX0_known.data.toList.drop 377 = dktX0_known_16 := dk_seg dksX0_known_15 23 rfl rfl
theorem dksX0_known_17 : cX0_known.data.toList.drop 401 = dktX0_known_17 := dk_seg dksX0_known_16 24 rfl rfl
theorem dksX0_known_18 : cX0_known.data.toList.drop 425 = dktX0_known_18 := dk_seg dksX0_known_17 24 rfl rfl
theorem dksX0_known_19 : cX0_known.data.toList.drop 449 = dktX0_known_19 := dk_seg dksX0_known_18 24 rfl rfl
theorem dksX0_known_20 : cX0_known.data.toList.drop 471 = dktX0_known_20 := dk_seg dksX0_known_19 22 rfl rfl
theorem dksX0_known_21 : cX0_known.data.toList.drop 495 = dktX0_known_21 := dk_seg dksX0_known_20 24 rfl rfl
theorem dksX0_known_22 : cX0_known.data.toList.drop 517 = dktX0_known_22 := dk_seg dksX0_known_21 22 rfl rfl
theorem dX0_known_0 : decode cX0_known 0 = .ok (.new 7, 3) := dk_187 0 7 (dk_at dksX0_known_0 0 rfl rfl)
theorem dX0_known_3 : decode cX0_known 3 = .ok (.dup, 1) := dk_89 (dk_at dksX0_known_0 3 rfl rfl)
theorem dX0_known_4 : decode cX0_known 4 = .ok (.invokespecial 9, 3) := dk_183 0 9 (dk_at dksX0_known_0 4 rfl rfl)
theorem dX0_known_7 : decode cX0_known 7 = .ok (.astore_n 0, 1) := dk_75 (dk_at dksX0_known_0 7 rfl rfl)
theorem dX0_known_8 : decode cX0_known 8 = .ok (.aload_n 0, 1) := dk_42 (dk_at dksX0_known_0 8 rfl rfl)
theorem dX0_known_9 : decode cX0_known 9 = .ok (.iconst 0, 1) := dk_3 (dk_at dksX0_known_0 9 rfl rfl)
theorem dX0_known_10 : decode cX0_known 10 = .ok (.iconst 0, 1) := dk_3 (dk_at dksX0_known_0 10 rfl rfl)
theorem dX0_known_11 : decode cX0_known 11 = .ok (.iconst 0, 1) := dk_3 (dk_at dksX0_known_0 11 rfl rfl)
theorem dX0_known_12 : decode cX0_known 12 = .ok (.iconst 0, 1) := dk_3 (dk_at dksX0_known_0 12 rfl rfl)
theorem dX0_known_13 : decode cX0_known 13 = .ok (.iconst 0, 1) := dk_3 (dk_at dksX0_known_0 13 rfl rfl)
theorem dX0_known_14 : decode cX0_known 14 = .ok (.invokevirtual 16, 3) := dk_182 0 16 (dk_at dksX0_known_0 14 rfl rfl)
theorem dX0_known_17 : decode cX0_known 17 = .ok (.aload_n 0, 1) := dk_42 (dk_at dksX0_known_0 17 rfl rfl)
theorem dX0_known_18 : decode cX0_known 18 = .ok (.iconst 1, 1) := dk_4 (dk_at dksX0_known_0 18 rfl rfl)
theorem dX0_known_19 : decode cX0_known 19 = .ok (.iconst 0, 1) := dk_3 (dk_at dksX0_known_0 19 rfl rfl)
theorem dX0_known_20 : decode cX0_known 20 = .ok (.iconst 0, 1) := dk_3 (dk_at dksX0_known_0 20 rfl rfl)
theorem dX0_known_21 : decode cX0_known 21 = .ok (.iconst 0, 1) := dk_3 (dk_at dksX0_known_0 21 rfl rfl)
theorem dX0_known_22 : decode cX0_known 22 = .ok (.iconst 0, 1) := dk_3 (dk_at dksX0_known_0 22 rfl rfl)
theorem dX0_known_23 : decode cX0_known 23 = .ok (.invokevirtual 16, 3) := dk_182 0 16 (dk_at dksX0_known_1 0 rfl rfl)
theorem dX0_known_26 : decode cX0_known 26 = .ok (.aload_n 0, 1) := dk_42 (dk_at dksX0_known_1 3 rfl rfl)
theorem dX0_known_27 : decode cX0_known 27 = .ok (.iconst 0, 1) := dk_3 (dk_at dksX0_known_1 4 rfl rfl)
theorem dX0_known_28 : decode cX0_known 28 = .ok (.iconst 0, 1) := dk_3 (dk_at dksX0_known_1 5 rfl rfl)
theorem dX0_known_29 : decode cX0_known 29 = .ok (.iconst 0, 1) := dk_3 (dk_at dksX0_known_1 6 rfl rfl)
theorem dX0_known_30 : decode cX0_known 30 = .ok (.iconst 0, 1) := dk_3 (dk_at dksX0_known_1 7 rfl rfl)
theorem dX0_known_31 : decode cX0_known 31 = .ok (.invokevirtual 20, 3) := dk_182 0 20 (dk_at dksX0_known_1 8 rfl rfl)
theorem dX0_known_34 : decode cX0_known 34 = .ok (.aload_n 0, 1) := dk_42 (dk_at dksX0_known_1 11 rfl rfl)
theorem dX0_known_35 : decode cX0_known 35 = .ok (.iconst 0, 1) := dk_3 (dk_at dksX0_known_1 12 rfl rfl)
theorem dX0_known_36 : decode cX0_known 36 = .ok (.invokevirtual 28, 3) := dk_182 0 28 (dk_at dksX0_known_1 13 rfl rfl)
theorem dX0_known_39 : decode cX0_known 39 = .ok (.bipush 16, 2) := dk_16 16 (dk_at dksX0_known_1 16 rfl rfl)
theorem dX0_known_41 : decode cX0_known 41 = .ok (.newarray .int, 2) := dk_188_10 (dk_at dksX0_known_1 18 rfl rfl)
theorem dX0_known_43 : decode cX0_known 43 = .ok (.dup, 1) := dk_89 (dk_at dksX0_known_1 20 rfl rfl)
theorem dX0_known_44 : decode cX0_known 44 = .ok (.iconst 0, 1) := dk_3 (dk_at dksX0_known_1 21 rfl rfl)
theorem dX0_known_45 : decode cX0_known 45 = .ok (.sipush 143, 3) := dk_17 0 143 (dk_at dksX0_known_2 0 rfl rfl)
theorem dX0_known_48 : decode cX0_known 48 = .ok (.iastore, 1) := dk_79 (dk_at dksX0_known_2 3 rfl rfl)
theorem dX0_known_49 : decode cX0_known 49 = .ok (.dup, 1) := dk_89 (dk_at dksX0_known_2 4 rfl rfl)
theorem dX0_known_50 : decode cX0_known 50 = .ok (.iconst 1, 1) := dk_4 (dk_at dksX0_known_2 5 rfl rfl)
theorem dX0_known_51 : decode cX0_known 51 = .ok (.sipush 195, 3) := dk_17 0 195 (dk_at dksX0_known_2 6 rfl rfl)
theorem dX0_known_54 : decode cX0_known 54 = .ok (.iastore, 1) := dk_79 (dk_at dksX0_known_2 9 rfl rfl)
theorem dX0_known_55 : decode cX0_known 55 = .ok (.dup, 1) := dk_89 (dk_at dksX0_known_2 10 rfl rfl)
theorem dX0_known_56 : decode cX0_known 56 = .ok (.iconst 2, 1) := dk_5 (dk_at dksX0_known_2 11 rfl rfl)
theorem dX0_known_57 : decode cX0_known 57 = .ok (.sipush 165, 3) := dk_17 0 165 (dk_at dksX0_known_2 12 rfl rfl)
theorem dX0_known_60 : decode cX0_known 60 = .ok (.iastore, 1) := dk_79 (dk_at dksX0_known_2 15 rfl rfl)
theorem dX0_known_61 : decode cX0_known 61 = .ok (.dup, 1) := dk_89 (dk_at dksX0_known_2 16 rfl rfl)
theorem dX0_known_62 : decode cX0_known 62 = .ok (.iconst 3, 1) := dk_6 (dk_at dksX0_known_2 17 rfl rfl)
theorem dX0_known_63 : decode cX0_known 63 = .ok (.bipush 54, 2) := dk_16 54 (dk_at dksX0_known_2 18 rfl rfl)
theorem dX0_known_65 : decode cX0_known 65 = .ok (.iastore, 1) := dk_79 (dk_at dksX0_known_2 20 rfl rfl)
theorem dX0_known_66 : decode cX0_known 66 = .ok (.dup, 1) := dk_89 (dk_at dksX0_known_2 21 rfl rfl)
theorem dX0_known_67 : decode cX0_known 67 = .ok (.iconst 4, 1) := dk_7 (dk_at dksX0_known_2 22 rfl rfl)
theorem dX0_known_68 : decode cX0_known 68 = .ok (.bipush 86, 2) := dk_16 86 (dk_at dksX0_known_3 0 rfl rfl)
theorem dX0_known_70 : decode cX0_known 70 = .ok (.iastore, 1) := dk_79 (dk_at dksX0_known_3 2 rfl rfl)
theorem dX0_known_71 : decode cX0_known 71 = .ok (.dup, 1) := dk_89 (dk_at dksX0_known_3 3 rfl rfl)
theorem dX0_known_72 : decode cX0_known 72 = .ok (.iconst 5, 1) := dk_8 (dk_at dksX0_known_3 4 rfl rfl)
theorem dX0_known_73 : decode cX0_known 73 = .ok (.sipush 177, 3) := dk_17 0 177 (dk_at dksX0_known_3 5 rfl rfl)
theorem dX0_known_76 : decode cX0_known 76 = .ok (.iastore, 1) := dk_79 (dk_at dksX0_known_3 8 rfl rfl)
theorem dX0_known_77 : decode cX0_known 77 = .ok (.dup, 1) := dk_89 (dk_at dksX0_known_3 9 rfl rfl)
theorem dX0_known_78 : decode cX0_known 78 = .ok (.bipush 6, 2) := dk_16 6 (dk_at dksX0_known_3 10 rfl rfl)
theorem dX0_known_80 : decode cX0_known 80 = .ok (.sipush 247, 3) := dk_17 0 247 (dk_at dksX0_known_3 12 rfl rfl)
theorem dX0_known_83 : decode cX0_known 83 = .ok (.iastore, 1) := dk_79 (dk_at dksX0_known_3 15 rfl rfl)
theorem dX0_known_84 : decode cX0_known 84 = .ok (.dup, 1) := dk_89 (dk_at dksX0_known_3 16 rfl rfl)
theorem dX0_known_85 : decode cX0_known 85 = .ok (.bipush 7, 2) := dk_16 7 (dk_at dksX0_known_3 17 rfl rfl)
theorem dX0_known_87 : decode cX0_known 87 = .ok (.bipush 120, 2) := dk_16 120 (dk_at dksX0_known_3 19 rfl rfl)
theorem dX0_known_89 : decode cX0_known 89 = .ok (.iastore, 1) := dk_79 (dk_at dksX0_known_3 21 rfl rfl)
theorem dX0_known_90 : decode cX0_known 90 = .ok (.dup, 1) := dk_89 (dk_at dksX0_known_3 22 rfl rfl)
theorem dX0_known_91 : decode cX0_known 91 = .ok (.bipush 8, 2) := dk_16 8 (dk_at dksX0_known_4 0 rfl rfl)
theorem dX0_known_93 : decode cX0_known 93 = .ok (.sipush 193, 3) := dk_17 0 193 (dk_at dksX0_known_4 2 rfl rfl)
theorem dX0_known_96 : decode cX0_known 96 = .ok (.iastore, 1) := dk_79 (dk_at dksX0_known_4 5 rfl rfl)
theorem dX0_known_97 : decode cX0_known 97 = .ok (.dup, 1) := dk_89 (dk_at dksX0_known_4 6 rfl rfl)
theorem dX0_known_98 : decode cX0_known 98 = .ok (.bipush 9, 2) := dk_16 9 (dk_at dksX0_known_4 7 rfl rfl)
theorem dX0_known_100 : decode cX0_known 100 = .ok (.bipush 41, 2) := dk_16 41 (dk_at dksX0_known_4 9 rfl rfl)
theorem dX0_known_102 : decode cX0_known 102 = .ok (.iastore, 1) := dk_79 (dk_at dksX0_known_4 11 rfl rfl)
theorem dX0_known_103 : decode cX0_known 103 = .ok (.dup, 1) := dk_89 (dk_at dksX0_known_4 12 rfl rfl)
theorem dX0_known_104 : decode cX0_known 104 = .ok (.bipush 10, 2) := dk_16 10 (dk_at dksX0_known_4 13 rfl rfl)
theorem dX0_known_106 : decode cX0_known 106 = .ok (.sipush 223, 3) := dk_17 0 223 (dk_at dksX0_known_4 15 rfl rfl)
theorem dX0_known_109 : decode cX0_known 109 = .ok (.iastore, 1) := dk_79 (dk_at dksX0_known_4 18 rfl rfl)
theorem dX0_known_110 : decode cX0_known 110 = .ok (.dup, 1) := dk_89 (dk_at dksX0_known_4 19 rfl rfl)
theorem dX0_known_111 : decode cX0_known 111 = .ok (.bipush 11, 2) := dk_16 11 (dk_at dksX0_known_4 20 rfl rfl)
theorem dX0_known_113 : decode cX0_known 113 = .ok (.bipush 78, 2) := dk_16 78 (dk_at dksX0_known_4 22 rfl rfl)
theorem dX0_known_115 : decode cX0_known 115 = .ok (.iastore, 1) := dk_79 (dk_at dksX0_known_5 0 rfl rfl)
theorem dX0_known_116 : decode cX0_known 116 = .ok (.dup, 1) := dk_89 (dk_at dksX0_known_5 1 rfl rfl)
theorem dX0_known_117 : decode cX0_known 117 = .ok (.bipush 12, 2) := dk_16 12 (dk_at dksX0_known_5 2 rfl rfl)
theorem dX0_known_119 : decode cX0_known 119 = .ok (.sipush 152, 3) := dk_17 0 152 (dk_at dksX0_known_5 4 rfl rfl)
theorem dX0_known_122 : decode cX0_known 122 = .ok (.iastore, 1) := dk_79 (dk_at dksX0_known_5 7 rfl rfl)
theorem dX0_known_123 : decode cX0_known 123 = .ok (.dup, 1) := dk_89 (dk_at dksX0_known_5 8 rfl rfl)
theorem dX0_known_124 : decode cX0_known 124 = .ok (.bipush 13, 2) := dk_16 13 (dk_at dksX0_known_5 9 rfl rfl)
theorem dX0_known_126 : decode cX0_known 126 = .ok (.bipush 72, 2) := dk_16 72 (dk_at dksX0_known_5 11 rfl rfl)
theorem dX0_known_128 : decode cX0_known 128 = .ok (.iastore, 1) := dk_79 (dk_at dksX0_known_5 13 rfl rfl)
theorem dX0_known_129 : decode cX0_known 129 = .ok (.dup, 1) := dk_89 (dk_at dksX0_known_5 14 rfl rfl)
theorem dX0_known_130 : decode cX0_known 130 = .ok (.bipush 14, 2) := dk_16 14 (dk_at dksX0_known_5 15 rfl rfl)
theorem dX0_known_132 : decode cX0_known 132 = .ok (.sipush 164, 3) := dk_17 0 164 (dk_at dksX0_known_5 17 rfl rfl)
theorem dX0_known_135 : decode cX0_known 135 = .ok (.iastore, 1) := dk_79 (dk_at dksX0_known_5 20 rfl rfl)
theorem dX0_known_136 : decode cX0_known 136 = .ok (.dup, 1) := dk_89 (dk_at dksX0_known_5 21 rfl rfl)
theorem dX0_known_137 : decode cX0_known 137 = .ok (.bipush 15, 2) := dk_16 15 (dk_at dksX0_known_5 22 rfl rfl)
theorem dX0_known_139 : decode cX0_known 139 = .ok (.bipush 30, 2) := dk_16 30 (dk_at dksX0_known_6 0 rfl rfl)
theorem dX0_known_141 : decode cX0_known 141 = .ok (.iastore, 1) := dk_79 (dk_at dksX0_known_6 2 rfl rfl)
theorem dX0_known_142 : decode cX0_known 142 = .ok (.astore_n 1, 1) := dk_76 (dk_at dksX0_known_6 3 rfl rfl)
theorem dX0_known_143 : decode cX0_known 143 = .ok (.iconst 0, 1) := dk_3 (dk_at dksX0_known_6 4 rfl rfl)
theorem dX0_known_144 : decode cX0_known 144 = .ok (.istore_n 2, 1) := dk_61 (dk_at dksX0_known_6 5 rfl rfl)
theorem dX0_known_145 : decode cX0_known 145 = .ok (.iload_n 2, 1) := dk_28 (dk_at dksX0_known_6 6 rfl rfl)
theorem dX0_known_146 : decode cX0_known 146 = .ok (.bipush 16, 2) := dk_16 16 (dk_at dksX0_known_6 7 rfl rfl)
theorem dX0_known_148 : decode cX0_known 148 = .ok (.if_icmp .ge 22, 3) := dk_162 0 22 (dk_at dksX0_known_6 9 rfl rfl)
theorem dX0_known_151 : decode cX0_known 151 = .ok (.aload_n 0, 1) := dk_42 (dk_at dksX0_known_6 12 rfl rfl)
theorem dX0_known_152 : decode cX0_known 152 = .ok (.iload_n 2, 1) := dk_28 (dk_at dksX0_known_6 13 rfl rfl)
theorem dX0_known_153 : decode cX0_known 153 = .ok (.invokevirtual 24, 3) := dk_182 0 24 (dk_at dksX0_known_6 14 rfl rfl)
theorem dX0_known_156 : decode cX0_known 156 = .ok (.aload_n 1, 1) := dk_43 (dk_at dksX0_known_6 17 rfl rfl)
theorem dX0_known_157 : decode cX0_known 157 = .ok (.iload_n 2, 1) := dk_28 (dk_at dksX0_known_6 18 rfl rfl)
theorem dX0_known_158 : decode cX0_known 158 = .ok (.iaload, 1) := dk_46 (dk_at dksX0_known_6 19 rfl rfl)
theorem dX0_known_159 : decode cX0_known 159 = .ok (.if_icmp .eq 5, 3) := dk_159 0 5 (dk_at dksX0_known_6 20 rfl rfl)
theorem dX0_known_162 : decode cX0_known 162 = .ok (.iconst 0, 1) := dk_3 (dk_at dksX0_known_6 23 rfl rfl)
theorem dX0_known_163 : decode cX0_known 163 = .ok (.ireturn, 1) := dk_172 (dk_at dksX0_known_7 0 rfl rfl)
theorem dX0_known_164 : decode cX0_known 164 = .ok (.iinc 2 1, 3) := dk_132 2 1 (dk_at dksX0_known_7 1 rfl rfl)
theorem dX0_known_167 : decode cX0_known 167 = .ok (.goto (-22), 3) := dk_167 255 234 (dk_at dksX0_known_7 4 rfl rfl)
theorem dX0_known_170 : decode cX0_known 170 = .ok (.new 7, 3) := dk_187 0 7 (dk_at dksX0_known_7 7 rfl rfl)
theorem dX0_known_173 : decode cX0_known 173 = .ok (.dup, 1) := dk_89 (dk_at dksX0_known_7 10 rfl rfl)
theorem dX0_known_174 : decode cX0_known 174 = .ok (.invokespecial 9, 3) := dk_183 0 9 (dk_at dksX0_known_7 11 rfl rfl)
theorem dX0_known_177 : decode cX0_known 177 = .ok (.astore_n 2, 1) := dk_77 (dk_at dksX0_known_7 14 rfl rfl)
theorem dX0_known_178 : decode cX0_known 178 = .ok (.aload_n 2, 1) := dk_44 (dk_at dksX0_known_7 15 rfl rfl)
theorem dX0_known_179 : decode cX0_known 179 = .ok (.iconst 0, 1) := dk_3 (dk_at dksX0_known_7 16 rfl rfl)
theorem dX0_known_180 : decode cX0_known 180 = .ok (.iconst 0, 1) := dk_3 (dk_at dksX0_known_7 17 rfl rfl)
theorem dX0_known_181 : decode cX0_known 181 = .ok (.iconst 0, 1) := dk_3 (dk_at dksX0_known_7 18 rfl rfl)
theorem dX0_known_182 : decode cX0_known 182 = .ok (.iconst 0, 1) := dk_3 (dk_at dksX0_known_7 19 rfl rfl)
theorem dX0_known_183 : decode cX0_known 183 = .ok (.iconst 0, 1) := dk_3 (dk_at dksX0_known_7 20 rfl rfl)
theorem dX0_known_184 : decode cX0_known 184 = .ok (.invokevirtual 16, 3) := dk_182 0 16 (dk_at dksX0_known_7 21 rfl rfl)
theorem dX0_known_187 : decode cX0_known 187 = .ok (.aload_n 2, 1) := dk_44 (dk_at dksX0_known_8 0 rfl rfl)
theorem dX0_known_188 : decode cX0_known 188 = .ok (.iconst 1, 1) := dk_4 (dk_at dksX0_known_8 1 rfl rfl)
theorem dX0_known_189 : decode cX0_known 189 = .ok (.iconst 0, 1) := dk_3 (dk_at dksX0_known_8 2 rfl rfl)
theorem dX0_known_190 : decode cX0_known 190 = .ok (.iconst 0, 1) := dk_3 (dk_at dksX0_known_8 3 rfl rfl)
theorem dX0_known_191 : decode cX0_known 191 = .ok (.iconst 0, 1) := dk_3 (dk_at dksX0_known_8 4 rfl rfl)
theorem dX0_known_192 : decode cX0_known 192 = .ok (.iconst 0, 1) := dk_3 (dk_at dksX0_known_8 5 rfl rfl)
theorem dX0_known_193 : decode cX0_known 193 = .ok (.invokevirtual 16, 3) := dk_182 0 16 (dk_at dksX0_known_8 6 rfl rfl)
theorem dX0_known_196 : decode cX0_known 196 = .ok (.aload_n 2, 1) := dk_44 (dk_at dksX0_known_8 9 rfl rfl)
theorem dX0_known_197 : decode cX0_known 197 = .ok (.iconst 0, 1) := dk_3 (dk_at dksX0_known_8 10 rfl rfl)
theorem dX0_known_198 : decode cX0_known 198 = .ok (.iconst 0, 1) := dk_3 (dk_at dksX0_known_8 11 rfl rfl)
theorem dX0_known_199 : decode cX0_known 199 = .ok (.iconst 0, 1) := dk_3 (dk_at dksX0_known_8 12 rfl rfl)
theorem dX0_known_200 : decode cX0_known 200 = .ok (.iconst 0, 1) := dk_3 (dk_at dksX0_known_8 13 rfl rfl)
theorem dX0_known_201 : decode cX0_known 201 = .ok (.invokevirtual 20, 3) := dk_182 0 20 (dk_at dksX0_known_8 14 rfl rfl)
theorem dX0_known_204 : decode cX0_known 204 = .ok (.aload_n 2, 1) := dk_44 (dk_at dksX0_known_8 17 rfl rfl)
theorem dX0_known_205 : decode cX0_known 205 = .ok (.iconst 1, 1) := dk_4 (dk_at dksX0_known_8 18 rfl rfl)
theorem dX0_known_206 : decode cX0_known 206 = .ok (.invokevirtual 28, 3) := dk_182 0 28 (dk_at dksX0_known_8 19 rfl rfl)
theorem dX0_known_209 : decode cX0_known 209 = .ok (.bipush 16, 2) := dk_16 16 (dk_at dksX0_known_8 22 rfl rfl)
theorem dX0_known_211 : decode cX0_known 211 = .ok (.newarray .int, 2) := dk_188_10 (dk_at dksX0_known_9 0 rfl rfl)
theorem dX0_known_213 : decode cX0_known 213 = .ok (.dup, 1) := dk_89 (dk_at dksX0_known_9 2 rfl rfl)
theorem dX0_known_214 : decode cX0_known 214 = .ok (.iconst 0, 1) := dk_3 (dk_at dksX0_known_9 3 rfl rfl)
theorem dX0_known_215 : decode cX0_known 215 = .ok (.bipush 108, 2) := dk_16 108 (dk_at dksX0_known_9 4 rfl rfl)
theorem dX0_known_217 : decode cX0_known 217 = .ok (.iastore, 1) := dk_79 (dk_at dksX0_known_9 6 rfl rfl)
theorem dX0_known_218 : decode cX0_known 218 = .ok (.dup, 1) := dk_89 (dk_at dksX0_known_9 7 rfl rfl)
theorem dX0_known_219 : decode cX0_known 219 = .ok (.iconst 1, 1) := dk_4 (dk_at dksX0_known_9 8 rfl rfl)
theorem dX0_known_220 : decode cX0_known 220 = .ok (.sipush 214, 3) := dk_17 0 214 (dk_at dksX0_known_9 9 rfl rfl)
theorem dX0_known_223 : decode cX0_known 223 = .ok (.iastore, 1) := dk_79 (dk_at dksX0_known_9 12 rfl rfl)
theorem dX0_known_224 : decode cX0_known 224 = .ok (.dup, 1) := dk_89 (dk_at dksX0_known_9 13 rfl rfl)
theorem dX0_known_225 : decode cX0_known 225 = .ok (.iconst 2, 1) := dk_5 (dk_at dksX0_known_9 14 rfl rfl)
theorem dX0_known_226 : decode cX0_known 226 = .ok (.bipush 27, 2) := dk_16 27 (dk_at dksX0_known_9 15 rfl rfl)
theorem dX0_known_228 : decode cX0_known 228 = .ok (.iastore, 1) := dk_79 (dk_at dksX0_known_9 17 rfl rfl)
theorem dX0_known_229 : decode cX0_known 229 = .ok (.dup, 1) := dk_89 (dk_at dksX0_known_9 18 rfl rfl)
theorem dX0_known_230 : decode cX0_known 230 = .ok (.iconst 3, 1) := dk_6 (dk_at dksX0_known_9 19 rfl rfl)
theorem dX0_known_231 : decode cX0_known 231 = .ok (.sipush 203, 3) := dk_17 0 203 (dk_at dksX0_known_9 20 rfl rfl)
theorem dX0_known_234 : decode cX0_known 234 = .ok (.iastore, 1) := dk_79 (dk_at dksX0_known_9 23 rfl rfl)
theorem dX0_known_235 : decode cX0_known 235 = .ok (.dup, 1) := dk_89 (dk_at dksX0_known_10 0 rfl rfl)
theorem dX0_known_236 : decode cX0_known 236 = .ok (.iconst 4, 1) := dk_7 (dk_at dksX0_known_10 1 rfl rfl)
theorem dX0_known_237 : decode cX0_known 237 = .ok (.bipush 25, 2) := dk_16 25 (dk_at dksX0_known_10 2 rfl rfl)
theorem dX0_known_239 : decode cX0_known 239 = .ok (.iastore, 1) := dk_79 (dk_at dksX0_known_10 4 rfl rfl)
theorem dX0_known_240 : decode cX0_known 240 = .ok (.dup, 1) := dk_89 (dk_at dksX0_known_10 5 rfl rfl)
theorem dX0_known_241 : decode cX0_known 241 = .ok (.iconst 5, 1) := dk_8 (dk_at dksX0_known_10 6 rfl rfl)
theorem dX0_known_242 : decode cX0_known 242 = .ok (.bipush 11, 2) := dk_16 11 (dk_at dksX0_known_10 7 rfl rfl)
theorem dX0_known_244 : decode cX0_known 244 = .ok (.iastore, 1) := dk_79 (dk_at dksX0_known_10 9 rfl rfl)
theorem dX0_known_245 : decode cX0_known 245 = .ok (.dup, 1) := dk_89 (dk_at dksX0_known_10 10 rfl rfl)
theorem dX0_known_246 : decode cX0_known 246 = .ok (.bipush 6, 2) := dk_16 6 (dk_at dksX0_known_10 11 rfl rfl)
theorem dX0_known_248 : decode cX0_known 248 = .ok (.bipush 48, 2) := dk_16 48 (dk_at dksX0_known_10 13 rfl rfl)
theorem dX0_known_250 : decode cX0_known 250 = .ok (.iastore, 1) := dk_79 (dk_at dksX0_known_10 15 rfl rfl)
theorem dX0_known_251 : decode cX0_known 251 = .ok (.dup, 1) := dk_89 (dk_at dksX0_known_10 16 rfl rfl)
theorem dX0_known_252 : decode cX0_known 252 = .ok (.bipush 7, 2) := dk_16 7 (dk_at dksX0_known_10 17 rfl rfl)
theorem dX0_known_254 : decode cX0_known 254 = .ok (.bipush 56, 2) := dk_16 56 (dk_at dksX0_known_10 19 rfl rfl)
theorem dX0_known_256 : decode cX0_known 256 = .ok (.iastore, 1) := dk_79 (dk_at dksX0_known_10 21 rfl rfl)
theorem dX0_known_257 : decode cX0_known 257 = .ok (.dup, 1) := dk_89 (dk_at dksX0_known_10 22 rfl rfl)
theorem dX0_known_258 : decode cX0_known 258 = .ok (.bipush 8, 2) := dk_16 8 (dk_at dksX0_known_11 0 rfl rfl)
theorem dX0_known_260 : decode cX0_known 260 = .ok (.bipush 78, 2) := dk_16 78 (dk_at dksX0_known_11 2 rfl rfl)
theorem dX0_known_262 : decode cX0_known 262 = .ok (.iastore, 1) := dk_79 (dk_at dksX0_known_11 4 rfl rfl)
theorem dX0_known_263 : decode cX0_known 263 = .ok (.dup, 1) := dk_89 (dk_at dksX0_known_11 5 rfl rfl)
theorem dX0_known_264 : decode cX0_known 264 = .ok (.bipush 9, 2) := dk_16 9 (dk_at dksX0_known_11 6 rfl rfl)
theorem dX0_known_266 : decode cX0_known 266 = .ok (.sipush 138, 3) := dk_17 0 138 (dk_at dksX0_known_11 8 rfl rfl)
theorem dX0_known_269 : decode cX0_known 269 = .ok (.iastore, 1) := dk_79 (dk_at dksX0_known_11 11 rfl rfl)
theorem dX0_known_270 : decode cX0_known 270 = .ok (.dup, 1) := dk_89 (dk_at dksX0_known_11 12 rfl rfl)
theorem dX0_known_271 : decode cX0_known 271 = .ok (.bipush 10, 2) := dk_16 10 (dk_at dksX0_known_11 13 rfl rfl)
theorem dX0_known_273 : decode cX0_known 273 = .ok (.bipush 63, 2) := dk_16 63 (dk_at dksX0_known_11 15 rfl rfl)
theorem dX0_known_275 : decode cX0_known 275 = .ok (.iastore, 1) := dk_79 (dk_at dksX0_known_11 17 rfl rfl)
theorem dX0_known_276 : decode cX0_known 276 = .ok (.dup, 1) := dk_89 (dk_at dksX0_known_11 18 rfl rfl)
theorem dX0_known_277 : decode cX0_known 277 = .ok (.bipush 11, 2) := dk_16 11 (dk_at dksX0_known_11 19 rfl rfl)
theorem dX0_known_279 : decode cX0_known 279 = .ok (.bipush 22, 2) := dk_16 22 (dk_at dksX0_known_11 21 rfl rfl)
theorem dX0_known_281 : decode cX0_known 281 = .ok (.iastore, 1) := dk_79 (dk_at dksX0_known_11 23 rfl rfl)
theorem dX0_known_282 : decode cX0_known 282 = .ok (.dup, 1) := dk_89 (dk_at dksX0_known_12 0 rfl rfl)
theorem dX0_known_283 : decode cX0_known 283 = .ok (.bipush 12, 2) := dk_16 12 (dk_at dksX0_known_12 1 rfl rfl)
theorem dX0_known_285 : decode cX0_known 285 = .ok (.sipush 134, 3) := dk_17 0 134 (dk_at dksX0_known_12 3 rfl rfl)
theorem dX0_known_288 : decode cX0_known 288 = .ok (.iastore, 1) := dk_79 (dk_at dksX0_known_12 6 rfl rfl)
theorem dX0_known_289 : decode cX0_known 289 = .ok (.dup, 1) := dk_89 (dk_at dksX0_known_12 7 rfl rfl)
theorem dX0_known_290 : decode cX0_known 290 = .ok (.bipush 13, 2) := dk_16 13 (dk_at dksX0_known_12 8 rfl rfl)
theorem dX0_known_292 : decode cX0_known 292 = .ok (.sipush 144, 3) := dk_17 0 144 (dk_at dksX0_known_12 10 rfl rfl)
theorem dX0_known_295 : decode cX0_known 295 = .ok (.iastore, 1) := dk_79 (dk_at dksX0_known_12 13 rfl rfl)
theorem dX0_known_296 : decode cX0_known 296 = .ok (.dup, 1) := dk_89 (dk_at dksX0_known_12 14 rfl rfl)
theorem dX0_known_297 : decode cX0_known 297 = .ok (.bipush 14, 2) := dk_16 14 (dk_at dksX0_known_12 15 rfl rfl)
theorem dX0_known_299 : decode cX0_known 299 = .ok (.sipush 174, 3) := dk_17 0 174 (dk_at dksX0_known_12 17 rfl rfl)
theorem dX0_known_302 : decode cX0_known 302 = .ok (.iastore, 1) := dk_79 (dk_at dksX0_known_12 20 rfl rfl)
theorem dX0_known_303 : decode cX0_known 303 = .ok (.dup, 1) := dk_89 (dk_at dksX0_known_12 21 rfl rfl)
theorem dX0_known_304 : decode cX0_known 304 = .ok (.bipush 15, 2) := dk_16 15 (dk_at dksX0_known_12 22 rfl rfl)
theorem dX0_known_306 : decode cX0_known 306 = .ok (.sipush 130, 3) := dk_17 0 130 (dk_at dksX0_known_13 0 rfl rfl)
theorem dX0_known_309 : decode cX0_known 309 = .ok (.iastore, 1) := dk_79 (dk_at dksX0_known_13 3 rfl rfl)
theorem dX0_known_310 : decode cX0_known 310 = .ok (.astore_n 3, 1) := dk_78 (dk_at dksX0_known_13 4 rfl rfl)
theorem dX0_known_311 : decode cX0_known 311 = .ok (.iconst 0, 1) := dk_3 (dk_at dksX0_known_13 5 rfl rfl)
theorem dX0_known_312 : decode cX0_known 312 = .ok (.istore 4, 2) := dk_54 4 (dk_at dksX0_known_13 6 rfl rfl)
theorem dX0_known_314 : decode cX0_known 314 = .ok (.iload 4, 2) := dk_21 4 (dk_at dksX0_known_13 8 rfl rfl)
theorem dX0_known_316 : decode cX0_known 316 = .ok (.bipush 16, 2) := dk_16 16 (dk_at dksX0_known_13 10 rfl rfl)
theorem dX0_known_318 : decode cX0_known 318 = .ok (.if_icmp .ge 24, 3) := dk_162 0 24 (dk_at dksX0_known_13 12 rfl rfl)
theorem dX0_known_321 : decode cX0_known 321 = .ok (.aload_n 2, 1) := dk_44 (dk_at dksX0_known_13 15 rfl rfl)
theorem dX0_known_322 : decode cX0_known 322 = .ok (.iload 4, 2) := dk_21 4 (dk_at dksX0_known_13 16 rfl rfl)
theorem dX0_known_324 : decode cX0_known 324 = .ok (.invokevirtual 24, 3) := dk_182 0 24 (dk_at dksX0_known_13 18 rfl rfl)
theorem dX0_known_327 : decode cX0_known 327 = .ok (.aload_n 3, 1) := dk_45 (dk_at dksX0_known_13 21 rfl rfl)
theorem dX0_known_328 : decode cX0_known 328 = .ok (.iload 4, 2) := dk_21 4 (dk_at dksX0_known_13 22 rfl rfl)
theorem dX0_known_330 : decode cX0_known 330 = .ok (.iaload, 1) := dk_46 (dk_at dksX0_known_14 0 rfl rfl)
theorem dX0_known_331 : decode cX0_known 331 = .ok (.if_icmp .eq 5, 3) := dk_159 0 5 (dk_at dksX0_known_14 1 rfl rfl)
theorem dX0_known_334 : decode cX0_known 334 = .ok (.iconst 0, 1) := dk_3 (dk_at dksX0_known_14 4 rfl rfl)
theorem dX0_known_335 : decode cX0_known 335 = .ok (.ireturn, 1) := dk_172 (dk_at dksX0_known_14 5 rfl rfl)
theorem dX0_known_336 : decode cX0_known 336 = .ok (.iinc 4 1, 3) := dk_132 4 1 (dk_at dksX0_known_14 6 rfl rfl)
theorem dX0_known_339 : decode cX0_known 339 = .ok (.goto (-25), 3) := dk_167 255 231 (dk_at dksX0_known_14 9 rfl rfl)
theorem dX0_known_342 : decode cX0_known 342 = .ok (.new 7, 3) := dk_187 0 7 (dk_at dksX0_known_14 12 rfl rfl)
theorem dX0_known_345 : decode cX0_known 345 = .ok (.dup, 1) := dk_89 (dk_at dksX0_known_14 15 rfl rfl)
theorem dX0_known_346 : decode cX0_known 346 = .ok (.invokespecial 9, 3) := dk_183 0 9 (dk_at dksX0_known_14 16 rfl rfl)
theorem dX0_known_349 : decode cX0_known 349 = .ok (.astore 4, 2) := dk_58 4 (dk_at dksX0_known_14 19 rfl rfl)
theorem dX0_known_351 : decode cX0_known 351 = .ok (.aload 4, 2) := dk_25 4 (dk_at dksX0_known_14 21 rfl rfl)
theorem dX0_known_353 : decode cX0_known 353 = .ok (.iconst 0, 1) := dk_3 (dk_at dksX0_known_14 23 rfl rfl)
theorem dX0_known_354 : decode cX0_known 354 = .ok (.iconst 0, 1) := dk_3 (dk_at dksX0_known_15 0 rfl rfl)
theorem dX0_known_355 : decode cX0_known 355 = .ok (.iconst 0, 1) := dk_3 (dk_at dksX0_known_15 1 rfl rfl)
theorem dX0_known_356 : decode cX0_known 356 = .ok (.iconst 0, 1) := dk_3 (dk_at dksX0_known_15 2 rfl rfl)
theorem dX0_known_357 : decode cX0_known 357 = .ok (.iconst 0, 1) := dk_3 (dk_at dksX0_known_15 3 rfl rfl)
theorem dX0_known_358 : decode cX0_known 358 = .ok (.invokevirtual 16, 3) := dk_182 0 16 (dk_at dksX0_known_15 4 rfl rfl)
theorem dX0_known_361 : decode cX0_known 361 = .ok (.aload 4, 2) := dk_25 4 (dk_at dksX0_known_15 7 rfl rfl)
theorem dX0_known_363 : decode cX0_known 363 = .ok (.iconst 1, 1) := dk_4 (dk_at dksX0_known_15 9 rfl rfl)
theorem dX0_known_364 : decode cX0_known 364 = .ok (.iconst 0, 1) := dk_3 (dk_at dksX0_known_15 10 rfl rfl)
theorem dX0_known_365 : decode cX0_known 365 = .ok (.iconst 0, 1) := dk_3 (dk_at dksX0_known_15 11 rfl rfl)
theorem dX0_known_366 : decode cX0_known 366 = .ok (.iconst 0, 1) := dk_3 (dk_at dksX0_known_15 12 rfl rfl)
theorem dX0_known_367 : decode cX0_known 367 = .ok (.iconst 0, 1) := dk_3 (dk_at dksX0_known_15 13 rfl rfl)
theorem dX0_known_368 : decode cX0_known 368 = .ok (.invokevirtual 16, 3) := dk_182 0 16 (dk_at dksX0_known_15 14 rfl rfl)
theorem dX0_known_371 : decode cX0_known 371 = .ok (.aload 4, 2) := dk_25 4 (dk_at dksX0_known_15 17 rfl rfl)
theorem dX0_known_373 : decode cX0_known 373 = .ok (.iconst 0, 1) := dk_3 (dk_at dksX0_known_15 19 rfl rfl)
theorem dX0_known_374 : decode cX0_known 374 = .ok (.iconst 0, 1) := dk_3 (dk_at dksX0_known_15 20 rfl rfl)
theorem dX0_known_375 : decode cX0_known 375 = .ok (.iconst 0, 1) := dk_3 (dk_at dksX0_known_15 21 rfl rfl)
theorem dX0_known_376 : decode cX0_known 376 = .ok (.iconst 0, 1) := dk_3 (dk_at dksX0_known_15 22 rfl rfl)
theorem dX0_known_377 : decode cX0_known 377 = .ok (.invokevirtual 20, 3) := dk_182 0 20 (dk_at dksX0_known_16 0 rfl rfl)
theorem dX0_known_380 : decode cX0_known 380 = .ok (.aload 4, 2) := dk_25 4 (dk_at dksX0_known_16 3 rfl rfl)
theorem dX0_known_382 : decode cX0_known 382 = .ok (.iconst 2, 1) := dk_5 (dk_at dksX0_known_16 5 rfl rfl)
theorem dX0_known_383 : decode cX0_known 383 = .ok (.invokevirtual 28, 3) := dk_182 0 28 (dk_at dksX0_known_16 6 rfl rfl)
theorem dX0_known_386 : decode cX0_known 386 = .ok (.bipush 16, 2) := dk_16 16 (dk_at dksX0_known_16 9 rfl rfl)
theorem dX0_known_388 : decode cX0_known 388 = .ok (.newarray .int, 2) := dk_188_10 (dk_at dksX0_known_16 11 rfl rfl)
theorem dX0_known_390 : decode cX0_known 390 = .ok (.dup, 1) := dk_89 (dk_at dksX0_known_16 13 rfl rfl)
theorem dX0_known_391 : decode cX0_known 391 = .ok (.iconst 0, 1) := dk_3 (dk_at dksX0_known_16 14 rfl rfl)
theorem dX0_known_392 : decode cX0_known 392 = .ok (.sipush 143, 3) := dk_17 0 143 (dk_at dksX0_known_16 15 rfl rfl)
theorem dX0_known_395 : decode cX0_known 395 = .ok (.iastore, 1) := dk_79 (dk_at dksX0_known_16 18 rfl rfl)
theorem dX0_known_396 : decode cX0_known 396 = .ok (.dup, 1) := dk_89 (dk_at dksX0_known_16 19 rfl rfl)
theorem dX0_known_397 : decode cX0_known 397 = .ok (.iconst 1, 1) := dk_4 (dk_at dksX0_known_16 20 rfl rfl)
theorem dX0_known_398 : decode cX0_known 398 = .ok (.bipush 95, 2) := dk_16 95 (dk_at dksX0_known_16 21 rfl rfl)
theorem dX0_known_400 : decode cX0_known 400 = .ok (.iastore, 1) := dk_79 (dk_at dksX0_known_16 23 rfl rfl)
theorem dX0_known_401 : decode cX0_known 401 = .ok (.dup, 1) := dk_89 (dk_at dksX0_known_17 0 rfl rfl)
theorem dX0_known_402 : decode cX0_known 402 = .ok (.iconst 2, 1) := dk_5 (dk_at dksX0_known_17 1 rfl rfl)
theorem dX0_known_403 : decode cX0_known 403 = .ok (.sipush 189, 3) := dk_17 0 189 (dk_at dksX0_known_17 2 rfl rfl)
theorem dX0_known_406 : decode cX0_known 406 = .ok (.iastore, 1) := dk_79 (dk_at dksX0_known_17 5 rfl rfl)
theorem dX0_known_407 : decode cX0_known 407 = .ok (.dup, 1) := dk_89 (dk_at dksX0_known_17 6 rfl rfl)
theorem dX0_known_408 : decode cX0_known 408 = .ok (.iconst 3, 1) := dk_6 (dk_at dksX0_known_17 7 rfl rfl)
theorem dX0_known_409 : decode cX0_known 409 = .ok (.iconst 5, 1) := dk_8 (dk_at dksX0_known_17 8 rfl rfl)
theorem dX0_known_410 : decode cX0_known 410 = .ok (.iastore, 1) := dk_79 (dk_at dksX0_known_17 9 rfl rfl)
theorem dX0_known_411 : decode cX0_known 411 = .ok (.dup, 1) := dk_89 (dk_at dksX0_known_17 10 rfl rfl)
theorem dX0_known_412 : decode cX0_known 412 = .ok (.iconst 4, 1) := dk_7 (dk_at dksX0_known_17 11 rfl rfl)
theorem dX0_known_413 : decode cX0_known 413 = .ok (.bipush 16, 2) := dk_16 16 (dk_at dksX0_known_17 12 rfl rfl)
theorem dX0_known_415 : decode cX0_known 415 = .ok (.iastore, 1) := dk_79 (dk_at dksX0_known_17 14 rfl rfl)
theorem dX0_known_416 : decode cX0_known 416 = .ok (.dup, 1) := dk_89 (dk_at dksX0_known_17 15 rfl rfl)
theorem dX0_known_417 : decode cX0_known 417 = .ok (.iconst 5, 1) := dk_8 (dk_at dksX0_known_17 16 rfl rfl)
theorem dX0_known_418 : decode cX0_known 418 = .ok (.sipush 209, 3) := dk_17 0 209 (dk_at dksX0_known_17 17 rfl rfl)
theorem dX0_known_421 : decode cX0_known 421 = .ok (.iastore, 1) := dk_79 (dk_at dksX0_known_17 20 rfl rfl)
theorem dX0_known_422 : decode cX0_known 422 = .ok (.dup, 1) := dk_89 (dk_at dksX0_known_17 21 rfl rfl)
theorem dX0_known_423 : decode cX0_known 423 = .ok (.bipush 6, 2) := dk_16 6 (dk_at dksX0_known_17 22 rfl rfl)
theorem dX0_known_425 : decode cX0_known 425 = .ok (.bipush 95, 2) := dk_16 95 (dk_at dksX0_known_18 0 rfl rfl)
theorem dX0_known_427 : decode cX0_known 427 = .ok (.iastore, 1) := dk_79 (dk_at dksX0_known_18 2 rfl rfl)
theorem dX0_known_428 : decode cX0_known 428 = .ok (.dup, 1) := dk_89 (dk_at dksX0_known_18 3 rfl rfl)
theorem dX0_known_429 : decode cX0_known 429 = .ok (.bipush 7, 2) := dk_16 7 (dk_at dksX0_known_18 4 rfl rfl)
theorem dX0_known_431 : decode cX0_known 431 = .ok (.sipush 168, 3) := dk_17 0 168 (dk_at dksX0_known_18 6 rfl rfl)
theorem dX0_known_434 : decode cX0_known 434 = .ok (.iastore, 1) := dk_79 (dk_at dksX0_known_18 9 rfl rfl)
theorem dX0_known_435 : decode cX0_known 435 = .ok (.dup, 1) := dk_89 (dk_at dksX0_known_18 10 rfl rfl)
theorem dX0_known_436 : decode cX0_known 436 = .ok (.bipush 8, 2) := dk_16 8 (dk_at dksX0_known_18 11 rfl rfl)
theorem dX0_known_438 : decode cX0_known 438 = .ok (.sipush 147, 3) := dk_17 0 147 (dk_at dksX0_known_18 13 rfl rfl)
theorem dX0_known_441 : decode cX0_known 441 = .ok (.iastore, 1) := dk_79 (dk_at dksX0_known_18 16 rfl rfl)
theorem dX0_known_442 : decode cX0_known 442 = .ok (.dup, 1) := dk_89 (dk_at dksX0_known_18 17 rfl rfl)
theorem dX0_known_443 : decode cX0_known 443 = .ok (.bipush 9, 2) := dk_16 9 (dk_at dksX0_known_18 18 rfl rfl)
theorem dX0_known_445 : decode cX0_known 445 = .ok (.sipush 250, 3) := dk_17 0 250 (dk_at dksX0_known_18 20 rfl rfl)
theorem dX0_known_448 : decode cX0_known 448 = .ok (.iastore, 1) := dk_79 (dk_at dksX0_known_18 23 rfl rfl)
theorem dX0_known_449 : decode cX0_known 449 = .ok (.dup, 1) := dk_89 (dk_at dksX0_known_19 0 rfl rfl)
theorem dX0_known_450 : decode cX0_known 450 = .ok (.bipush 10, 2) := dk_16 10 (dk_at dksX0_known_19 1 rfl rfl)
theorem dX0_known_452 : decode cX0_known 452 = .ok (.bipush 63, 2) := dk_16 63 (dk_at dksX0_known_19 3 rfl rfl)
theorem dX0_known_454 : decode cX0_known 454 = .ok (.iastore, 1) := dk_79 (dk_at dksX0_known_19 5 rfl rfl)
theorem dX0_known_455 : decode cX0_known 455 = .ok (.dup, 1) := dk_89 (dk_at dksX0_known_19 6 rfl rfl)
theorem dX0_known_456 : decode cX0_known 456 = .ok (.bipush 11, 2) := dk_16 11 (dk_at dksX0_known_19 7 rfl rfl)
theorem dX0_known_458 : decode cX0_known 458 = .ok (.sipush 218, 3) := dk_17 0 218 (dk_at dksX0_known_19 9 rfl rfl)
theorem dX0_known_461 : decode cX0_known 461 = .ok (.iastore, 1) := dk_79 (dk_at dksX0_known_19 12 rfl rfl)
theorem dX0_known_462 : decode cX0_known 462 = .ok (.dup, 1) := dk_89 (dk_at dksX0_known_19 13 rfl rfl)
theorem dX0_known_463 : decode cX0_known 463 = .ok (.bipush 12, 2) := dk_16 12 (dk_at dksX0_known_19 14 rfl rfl)
theorem dX0_known_465 : decode cX0_known 465 = .ok (.bipush 110, 2) := dk_16 110 (dk_at dksX0_known_19 16 rfl rfl)
theorem dX0_known_467 : decode cX0_known 467 = .ok (.iastore, 1) := dk_79 (dk_at dksX0_known_19 18 rfl rfl)
theorem dX0_known_468 : decode cX0_known 468 = .ok (.dup, 1) := dk_89 (dk_at dksX0_known_19 19 rfl rfl)
theorem dX0_known_469 : decode cX0_known 469 = .ok (.bipush 13, 2) := dk_16 13 (dk_at dksX0_known_19 20 rfl rfl)
theorem dX0_known_471 : decode cX0_known 471 = .ok (.sipush 133, 3) := dk_17 0 133 (dk_at dksX0_known_20 0 rfl rfl)
theorem dX0_known_474 : decode cX0_known 474 = .ok (.iastore, 1) := dk_79 (dk_at dksX0_known_20 3 rfl rfl)
theorem dX0_known_475 : decode cX0_known 475 = .ok (.dup, 1) := dk_89 (dk_at dksX0_known_20 4 rfl rfl)
theorem dX0_known_476 : decode cX0_known 476 = .ok (.bipush 14, 2) := dk_16 14 (dk_at dksX0_known_20 5 rfl rfl)
theorem dX0_known_478 : decode cX0_known 478 = .ok (.bipush 126, 2) := dk_16 126 (dk_at dksX0_known_20 7 rfl rfl)
theorem dX0_known_480 : decode cX0_known 480 = .ok (.iastore, 1) := dk_79 (dk_at dksX0_known_20 9 rfl rfl)
theorem dX0_known_481 : decode cX0_known 481 = .ok (.dup, 1) := dk_89 (dk_at dksX0_known_20 10 rfl rfl)
theorem dX0_known_482 : decode cX0_known 482 = .ok (.bipush 15, 2) := dk_16 15 (dk_at dksX0_known_20 11 rfl rfl)
theorem dX0_known_484 : decode cX0_known 484 = .ok (.sipush 194, 3) := dk_17 0 194 (dk_at dksX0_known_20 13 rfl rfl)
theorem dX0_known_487 : decode cX0_known 487 = .ok (.iastore, 1) := dk_79 (dk_at dksX0_known_20 16 rfl rfl)
theorem dX0_known_488 : decode cX0_known 488 = .ok (.astore 5, 2) := dk_58 5 (dk_at dksX0_known_20 17 rfl rfl)
theorem dX0_known_490 : decode cX0_known 490 = .ok (.iconst 0, 1) := dk_3 (dk_at dksX0_known_20 19 rfl rfl)
theorem dX0_known_491 : decode cX0_known 491 = .ok (.istore 6, 2) := dk_54 6 (dk_at dksX0_known_20 20 rfl rfl)
theorem dX0_known_493 : decode cX0_known 493 = .ok (.iload 6, 2) := dk_21 6 (dk_at dksX0_known_20 22 rfl rfl)
theorem dX0_known_495 : decode cX0_known 495 = .ok (.bipush 16, 2) := dk_16 16 (dk_at dksX0_known_21 0 rfl rfl)
theorem dX0_known_497 : decode cX0_known 497 = .ok (.if_icmp .ge 26, 3) := dk_162 0 26 (dk_at dksX0_known_21 2 rfl rfl)
theorem dX0_known_500 : decode cX0_known 500 = .ok (.aload 4, 2) := dk_25 4 (dk_at dksX0_known_21 5 rfl rfl)
theorem dX0_known_502 : decode cX0_known 502 = .ok (.iload 6, 2) := dk_21 6 (dk_at dksX0_known_21 7 rfl rfl)
theorem dX0_known_504 : decode cX0_known 504 = .ok (.invokevirtual 24, 3) := dk_182 0 24 (dk_at dksX0_known_21 9 rfl rfl)
theorem dX0_known_507 : decode cX0_known 507 = .ok (.aload 5, 2) := dk_25 5 (dk_at dksX0_known_21 12 rfl rfl)
theorem dX0_known_509 : decode cX0_known 509 = .ok (.iload 6, 2) := dk_21 6 (dk_at dksX0_known_21 14 rfl rfl)
theorem dX0_known_511 : decode cX0_known 511 = .ok (.iaload, 1) := dk_46 (dk_at dksX0_known_21 16 rfl rfl)
theorem dX0_known_512 : decode cX0_known 512 = .ok (.if_icmp .eq 5, 3) := dk_159 0 5 (dk_at dksX0_known_21 17 rfl rfl)
theorem dX0_known_515 : decode cX0_known 515 = .ok (.iconst 0, 1) := dk_3 (dk_at dksX0_known_21 20 rfl rfl)
theorem dX0_known_516 : decode cX0_known 516 = .ok (.ireturn, 1) := dk_172 (dk_at dksX0_known_21 21 rfl rfl)
theorem dX0_known_517 : decode cX0_known 517 = .ok (.iinc 6 1, 3) := dk_132 6 1 (dk_at dksX0_known_22 0 rfl rfl)
theorem dX0_known_520 : decode cX0_known 520 = .ok (.goto (-27), 3) := dk_167 255 229 (dk_at dksX0_known_22 3 rfl rfl)
theorem dX0_known_523 : decode cX0_known 523 = .ok (.iconst 1, 1) := dk_4 (dk_at dksX0_known_22 6 rfl rfl)
theorem dX0_known_524 : decode cX0_known 524 = .ok (.ireturn, 1) := dk_172 (dk_at dksX0_known_22 7 rfl rfl)
theorem q9 : (Jvm.Cond.initialized "RcSixDeskLaw") ∈ lw_all := lw_g (lw_at lw_m1 0 rfl) rfl
theorem q22 : (Jvm.Cond.methodLink "RcSixDeskLaw" (28 : Nat) ({ cls := "RcSixDesk", name := "lock", desc := "(I)V" } : Jvm.MethodName)) ∈ lw_all := lw_g (lw_at lw_m1 13 rfl) rfl
theorem q249 : (Jvm.Cond.methodLink "RcSixDeskLaw" (40 : Nat) ({ cls := "RcSixDesk", name := "open", desc := "(I)V" } : Jvm.MethodName)) ∈ lw_all := lw_g (lw_at lw_m2 0 rfl) rfl
theorem q253 : (Jvm.Cond.methodLink "RcSixDeskLaw" (43 : Nat) ({ cls := "RcSixDesk", name := "again", desc := "()V" } : Jvm.MethodName)) ∈ lw_all := lw_g (lw_at lw_m2 4 rfl) rfl
theorem q257 : (Jvm.Cond.methodLink "RcSixDeskLaw" (36 : Nat) ({ cls := "RcSixDeskLaw", name := "with", desc := "([I)LRcSixDesk;" } : Jvm.MethodName)) ∈ lw_all := lw_g (lw_at lw_m2 8 rfl) rfl
theorem q258 : (Jvm.Cond.static ({ cls := "RcSixDeskLaw", name := "with", desc := "([I)LRcSixDesk;" } : Jvm.MethodName)) ∈ lw_all := lw_g (lw_at lw_m2 9 rfl) rfl
theorem q259 : (Jvm.Cond.code ({ cls := "RcSixDeskLaw", name := "with", desc := "([I)LRcSixDesk;" } : Jvm.MethodName) method_3_code (2 : Nat) (Option.some (Jvm.ClassFile.FieldType.object "RcSixDesk"))) ∈ lw_all := lw_g (lw_at lw_m2 10 rfl) rfl
theorem q260 : (Jvm.Cond.classLink "RcSixDeskLaw" (7 : Nat) "RcSixDesk") ∈ lw_all := lw_g (lw_at lw_m2 11 rfl) rfl
theorem q261 : (Jvm.Cond.methodLink "RcSixDeskLaw" (9 : Nat) ({ cls := "RcSixDesk", name := "<init>", desc := "()V" } : Jvm.MethodName)) ∈ lw_all := lw_g (lw_at lw_m2 12 rfl) rfl
theorem q275 : (Jvm.Cond.methodLink "RcSixDeskLaw" (10 : Nat) ({ cls := "RcSixDeskLaw", name := "cell", desc := "([II)I" } : Jvm.MethodName)) ∈ lw_all := lw_g (lw_at lw_m2 26 rfl) rfl
theorem q276 : (Jvm.Cond.static ({ cls := "RcSixDeskLaw", name := "cell", desc := "([II)I" } : Jvm.MethodName)) ∈ lw_all := lw_g (lw_at lw_m2 27 rfl) rfl
theorem q277 : (Jvm.Cond.code ({ cls := "RcSixDeskLaw", name := "cell", desc := "([II)I" } : Jvm.MethodName) method_2_code (2 : Nat) (Option.some Jvm.ClassFile.FieldType.int)) ∈ lw_all := lw_g (lw_at lw_m2 28 rfl) rfl
theorem q278 : (Jvm.Cond.methodLink "RcSixDeskLaw" (16 : Nat) ({ cls := "RcSixDesk", name := "key", desc := "(IIIII)V" } : Jvm.MethodName)) ∈ lw_all := lw_g (lw_at lw_m2 29 rfl) rfl
theorem q285 : (Jvm.Cond.methodLink "RcSixDeskLaw" (20 : Nat) ({ cls := "RcSixDesk", name := "block", desc := "(IIII)V" } : Jvm.MethodName)) ∈ lw_all := lw_g (lw_at lw_m2 36 rfl) rfl
theorem q289 : (Jvm.Cond.methodLink "RcSixDeskLaw" (46 : Nat) ({ cls := "RcSixDeskLaw", name := "same", desc := "(LRcSixDesk;[I)Z" } : Jvm.MethodName)) ∈ lw_all := lw_g (lw_at lw_m2 40 rfl) rfl
theorem q290 : (Jvm.Cond.static ({ cls := "RcSixDeskLaw", name := "same", desc := "(LRcSixDesk;[I)Z" } : Jvm.MethodName)) ∈ lw_all := lw_g (lw_at lw_m2 41 rfl) rfl
theorem q291 : (Jvm.Cond.code ({ cls := "RcSixDeskLaw", name := "same", desc := "(LRcSixDesk;[I)Z" } : Jvm.MethodName) method_4_code (3 : Nat) (Option.some Jvm.ClassFile.FieldType.boolean)) ∈ lw_all := lw_g (lw_at lw_m2 42 rfl) rfl
theorem q292 : (Jvm.Cond.methodLink "RcSixDeskLaw" (24 : Nat) ({ cls := "RcSixDesk", name := "out", desc := "(I)I" } : Jvm.MethodName)) ∈ lw_all := lw_g (lw_at lw_m2 43 rfl) rfl
theorem q296 : (Jvm.Cond.methodLink "RcSixDeskLaw" (32 : Nat) ({ cls := "RcSixDeskLaw", name := "known", desc := "()Z" } : Jvm.MethodName)) ∈ lw_all := lw_g (lw_at lw_m2 47 rfl) rfl
theorem q297 : (Jvm.Cond.static ({ cls := "RcSixDeskLaw", name := "known", desc := "()Z" } : Jvm.MethodName)) ∈ lw_all := lw_g (lw_at lw_m2 48 rfl) rfl
theorem q298 : (Jvm.Cond.code ({ cls := "RcSixDeskLaw", name := "known", desc := "()Z" } : Jvm.MethodName) method_5_code (7 : Nat) (Option.some Jvm.ClassFile.FieldType.boolean)) ∈ lw_all := lw_g (lw_at lw_m2 49 rfl) rfl
/-! the law's own entry -/
set_option maxRecDepth 100000
abbrev cL_law : ByteArray := code
def dkwL_law_5 : List UInt8 := [4, 172]
abbrev dktL_law_5 : List UInt8 := dkwL_law_5 ++ []
def dkwL_law_4 : List UInt8 := [42, 184, 0, 46, 153, 0, 12, 25, 7, 42, 184, 0, 46, 154, 0, 5, 3, 172, 132, 4, 1, 167, 255, 171]
abbrev dktL_law_4 : List UInt8 := dkwL_law_4 ++ dktL_law_5
def dkwL_law_3 : List UInt8 := [182, 0, 43, 25, 6, 21, 5, 182, 0, 40, 25, 7, 182, 0, 43, 25, 7, 21, 5, 182, 0, 28, 25, 6]
abbrev dktL_law_3 : List UInt8 := dkwL_law_3 ++ dktL_law_4
def dkwL_law_2 : List UInt8 := [58, 6, 42, 184, 0, 36, 58, 7, 25, 6, 21, 5, 182, 0, 28, 25, 7, 21, 5, 182, 0, 40, 25, 6]
abbrev dktL_law_2 : List UInt8 := dkwL_law_2 ++ dktL_law_3
def dkwL_law_1 : List UInt8 := [43, 77, 44, 190, 62, 3, 54, 4, 21, 4, 29, 162, 0, 85, 44, 21, 4, 46, 54, 5, 42, 184, 0, 36]
abbrev dktL_law_1 : List UInt8 := dkwL_law_1 ++ dktL_law_2
def dkwL_law_0 : List UInt8 := [184, 0, 32, 154, 0, 5, 3, 172, 6, 188, 10, 89, 3, 3, 79, 89, 4, 4, 79, 89, 5, 5, 79, 76]
abbrev dktL_law_0 : List UInt8 := dkwL_law_0 ++ dktL_law_1
theorem dksL_law_0 : cL_law.data.toList.drop 0 = dktL_law_0 := by decide +kernel
theorem dksL_law_1 : cL_law.data.toList.drop 24 = dktL_law_1 := dk_seg dksL_law_0 24 rfl rfl
theorem dksL_law_2 : cL_law.data.toList.drop 48 = dktL_law_2 := dk_seg dksL_law_1 24 rfl rfl
theorem dksL_law_3 : cL_law.data.toList.drop 72 = dktL_law_3 := dk_seg dksL_law_2 24 rfl rfl
theorem dksL_law_4 : cL_law.data.toList.drop 96 = dktL_law_4 := dk_seg dksL_law_3 24 rfl rfl
theorem dksL_law_5 : cL_law.data.toList.drop 120 = dktL_law_5 := dk_seg dksL_law_4 24 rfl rfl
theorem dL_law_0 : decode cL_law 0 = .ok (.invokestatic 32, 3) := dk_184 0 32 (dk_at dksL_law_0 0 rfl rfl)
theorem dL_law_3 : decode cL_law 3 = .ok (.ifCond .ne 5, 3) := dk_154 0 5 (dk_at dksL_law_0 3 rfl rfl)
theorem dL_law_6 : decode cL_law 6 = .ok (.iconst 0, 1) := dk_3 (dk_at dksL_law_0 6 rfl rfl)
theorem dL_law_7 : decode cL_law 7 = .ok (.ireturn, 1) := dk_172 (dk_at dksL_law_0 7 rfl rfl)
theorem dL_law_8 : decode cL_law 8 = .ok (.iconst 3, 1) := dk_6 (dk_at dksL_law_0 8 rfl rfl)
theorem dL_law_9 : decode cL_law 9 = .ok (.newarray .int, 2) := dk_188_10 (dk_at dksL_law_0 9 rfl rfl)
theorem dL_law_11 : decode cL_law 11 = .ok (.dup, 1) := dk_89 (dk_at dksL_law_0 11 rfl rfl)
theorem dL_law_12 : decode cL_law 12 = .ok (.iconst 0, 1) := dk_3 (dk_at dksL_law_0 12 rfl rfl)
theorem dL_law_13 : decode cL_law 13 = .ok (.iconst 0, 1) := dk_3 (dk_at dksL_law_0 13 rfl rfl)
theorem dL_law_14 : decode cL_law 14 = .ok (.iastore, 1) := dk_79 (dk_at dksL_law_0 14 rfl rfl)
theorem dL_law_15 : decode cL_law 15 = .ok (.dup, 1) := dk_89 (dk_at dksL_law_0 15 rfl rfl)
theorem dL_law_16 : decode cL_law 16 = .ok (.iconst 1, 1) := dk_4 (dk_at dksL_law_0 16 rfl rfl)
theorem dL_law_17 : decode cL_law 17 = .ok (.iconst 1, 1) := dk_4 (dk_at dksL_law_0 17 rfl rfl)
theorem dL_law_18 : decode cL_law 18 = .ok (.iastore, 1) := dk_79 (dk_at dksL_law_0 18 rfl rfl)
theorem dL_law_19 : decode cL_law 19 = .ok (.dup, 1) := dk_89 (dk_at dksL_law_0 19 rfl rfl)
theorem dL_law_20 : decode cL_law 20 = .ok (.iconst 2, 1) := dk_5 (dk_at dksL_law_0 20 rfl rfl)
theorem dL_law_21 : decode cL_law 21 = .ok (.iconst 2, 1) := dk_5 (dk_at dksL_law_0 21 rfl rfl)
theorem dL_law_22 : decode cL_law 22 = .ok (.iastore, 1) := dk_79 (dk_at dksL_law_0 22 rfl rfl)
theorem dL_law_23 : decode cL_law 23 = .ok (.astore_n 1, 1) := dk_76 (dk_at dksL_law_0 23 rfl rfl)
theorem dL_law_24 : decode cL_law 24 = .ok (.aload_n 1, 1) := dk_43 (dk_at dksL_law_1 0 rfl rfl)
theorem dL_law_25 : decode cL_law 25 = .ok (.astore_n 2, 1) := dk_77 (dk_at dksL_law_1 1 rfl rfl)
theorem dL_law_26 : decode cL_law 26 = .ok (.aload_n 2, 1) := dk_44 (dk_at dksL_law_1 2 rfl rfl)
theorem dL_law_27 : decode cL_law 27 = .ok (.arraylength, 1) := dk_190 (dk_at dksL_law_1 3 rfl rfl)
theorem dL_law_28 : decode cL_law 28 = .ok (.istore_n 3, 1) := dk_62 (dk_at dksL_law_1 4 rfl rfl)
theorem dL_law_29 : decode cL_law 29 = .ok (.iconst 0, 1) := dk_3 (dk_at dksL_law_1 5 rfl rfl)
theorem dL_law_30 : decode cL_law 30 = .ok (.istore 4, 2) := dk_54 4 (dk_at dksL_law_1 6 rfl rfl)
theorem dL_law_32 : decode cL_law 32 = .ok (.iload 4, 2) := dk_21 4 (dk_at dksL_law_1 8 rfl rfl)
theorem dL_law_34 : decode cL_law 34 = .ok (.iload_n 3, 1) := dk_29 (dk_at dksL_law_1 10 rfl rfl)
theorem dL_law_35 : decode cL_law 35 = .ok (.if_icmp .ge 85, 3) := dk_162 0 85 (dk_at dksL_law_1 11 rfl rfl)
theorem dL_law_38 : decode cL_law 38 = .ok (.aload_n 2, 1) := dk_44 (dk_at dksL_law_1 14 rfl rfl)
theorem dL_law_39 : decode cL_law 39 = .ok (.iload 4, 2) := dk_21 4 (dk_at dksL_law_1 15 rfl rfl)
theorem dL_law_41 : decode cL_law 41 = .ok (.iaload, 1) := dk_46 (dk_at dksL_law_1 17 rfl rfl)
theorem dL_law_42 : decode cL_law 42 = .ok (.istore 5, 2) := dk_54 5 (dk_at dksL_law_1 18 rfl rfl)
theorem dL_law_44 : decode cL_law 44 = .ok (.aload_n 0, 1) := dk_42 (dk_at dksL_law_1 20 rfl rfl)
theorem dL_law_45 : decode cL_law 45 = .ok (.invokestatic 36, 3) := dk_184 0 36 (dk_at dksL_law_1 21 rfl rfl)
theorem dL_law_48 : decode cL_law 48 = .ok (.astore 6, 2) := dk_58 6 (dk_at dksL_law_2 0 rfl rfl)
theorem dL_law_50 : decode cL_law 50 = .ok (.aload_n 0, 1) := dk_42 (dk_at dksL_law_2 2 rfl rfl)
theorem dL_law_51 : decode cL_law 51 = .ok (.invokestatic 36, 3) := dk_184 0 36 (dk_at dksL_law_2 3 rfl rfl)
theorem dL_law_54 : decode cL_law 54 = .ok (.astore 7, 2) := dk_58 7 (dk_at dksL_law_2 6 rfl rfl)
theorem dL_law_56 : decode cL_law 56 = .ok (.aload 6, 2) := dk_25 6 (dk_at dksL_law_2 8 rfl rfl)
theorem dL_law_58 : decode cL_law 58 = .ok (.iload 5, 2) := dk_21 5 (dk_at dksL_law_2 10 rfl rfl)
theorem dL_law_60 : decode cL_law 60 = .ok (.invokevirtual 28, 3) := dk_182 0 28 (dk_at dksL_law_2 12 rfl rfl)
theorem dL_law_63 : decode cL_law 63 = .ok (.aload 7, 2) := dk_25 7 (dk_at dksL_law_2 15 rfl rfl)
theorem dL_law_65 : decode cL_law 65 = .ok (.iload 5, 2) := dk_21 5 (dk_at dksL_law_2 17 rfl rfl)
theorem dL_law_67 : decode cL_law 67 = .ok (.invokevirtual 40, 3) := dk_182 0 40 (dk_at dksL_law_2 19 rfl rfl)
theorem dL_law_70 : decode cL_law 70 = .ok (.aload 6, 2) := dk_25 6 (dk_at dksL_law_2 22 rfl rfl)
theorem dL_law_72 : decode cL_law 72 = .ok (.invokevirtual 43, 3) := dk_182 0 43 (dk_at dksL_law_3 0 rfl rfl)
theorem dL_law_75 : decode cL_law 75 = .ok (.aload 6, 2) := dk_25 6 (dk_at dksL_law_3 3 rfl rfl)
theorem dL_law_77 : decode cL_law 77 = .ok (.iload 5, 2) := dk_21 5 (dk_at dksL_law_3 5 rfl rfl)
theorem dL_law_79 : decode cL_law 79 = .ok (.invokevirtual 40, 3) := dk_182 0 40 (dk_at dksL_law_3 7 rfl rfl)
theorem dL_law_82 : decode cL_law 82 = .ok (.aload 7, 2) := dk_25 7 (dk_at dksL_law_3 10 rfl rfl)
theorem dL_law_84 : decode cL_law 84 = .ok (.invokevirtual 43, 3) := dk_182 0 43 (dk_at dksL_law_3 12 rfl rfl)
theorem dL_law_87 : decode cL_law 87 = .ok (.aload 7, 2) := dk_25 7 (dk_at dksL_law_3 15 rfl rfl)
theorem dL_law_89 : decode cL_law 89 = .ok (.iload 5, 2) := dk_21 5 (dk_at dksL_law_3 17 rfl rfl)
theorem dL_law_91 : decode cL_law 91 = .ok (.invokevirtual 28, 3) := dk_182 0 28 (dk_at dksL_law_3 19 rfl rfl)
theorem dL_law_94 : decode cL_law 94 = .ok (.aload 6, 2) := dk_25 6 (dk_at dksL_law_3 22 rfl rfl)
theorem dL_law_96 : decode cL_law 96 = .ok (.aload_n 0, 1) := dk_42 (dk_at dksL_law_4 0 rfl rfl)
theorem dL_law_97 : decode cL_law 97 = .ok (.invokestatic 46, 3) := dk_184 0 46 (dk_at dksL_law_4 1 rfl rfl)
theorem dL_law_100 : decode cL_law 100 = .ok (.ifCond .eq 12, 3) := dk_153 0 12 (dk_at dksL_law_4 4 rfl rfl)
theorem dL_law_103 : decode cL_law 103 = .ok (.aload 7, 2) := dk_25 7 (dk_at dksL_law_4 7 rfl rfl)
theorem dL_law_105 : decode cL_law 105 = .ok (.aload_n 0, 1) := dk_42 (dk_at dksL_law_4 9 rfl rfl)
theorem dL_law_106 : decode cL_law 106 = .ok (.invokestatic 46, 3) := dk_184 0 46 (dk_at dksL_law_4 10 rfl rfl)
theorem dL_law_109 : decode cL_law 109 = .ok (.ifCond .ne 5, 3) := dk_154 0 5 (dk_at dksL_law_4 13 rfl rfl)
theorem dL_law_112 : decode cL_law 112 = .ok (.iconst 0, 1) := dk_3 (dk_at dksL_law_4 16 rfl rfl)
theorem dL_law_113 : decode cL_law 113 = .ok (.ireturn, 1) := dk_172 (dk_at dksL_law_4 17 rfl rfl)
theorem dL_law_114 : decode cL_law 114 = .ok (.iinc 4 1, 3) := dk_132 4 1 (dk_at dksL_law_4 18 rfl rfl)
theorem dL_law_117 : decode cL_law 117 = .ok (.goto (-85), 3) := dk_167 255 171 (dk_at dksL_law_4 21 rfl rfl)
theorem dL_law_120 : decode cL_law 120 = .ok (.iconst 1, 1) := dk_4 (dk_at dksL_law_5 0 rfl rfl)
theorem dL_law_121 : decode cL_law 121 = .ok (.ireturn, 1) := dk_172 (dk_at dksL_law_5 1 rfl rfl)
end
section
/-! ===== ROWS OF MY OWN over the kit: a call by contract with the frame rule in one row; loads and stores at an index nI j ===== -/
abbrev vwCl : List vw_C := [(RX1, TX1, 3), (RX2, TX2, 2), (RX3, TX3, 1)]
abbrev rc_T (cB cI : ClassId) : List (ClassId × FieldType) := [(cB, .byte), (cI, .int)]
def rc_xi : MethodName := ⟨"BlockCipher", "init", "(ZLCipherParameters;)V"⟩
def rc_xp : MethodName := ⟨"BlockCipher", "processBlock", "([BI[BI)I"⟩
/-- what the two calls through the interface ask of the tables -/
def rc_X (U : State) : Prop := va_Fw RX2 rc_xi yX2_init_2 U ∧ va_Fw RX2 rc_xp yX2_processBlock U
theorem rc_X_moved {u U : State} (hvm : u.vm.Alike U.vm) (h : rc_X u) : rc_X U :=
  ⟨va_Fw.moved ⟨by decide, by decide⟩ hvm h.1, va_Fw.moved ⟨by decide, by decide⟩ hvm h.2⟩
/-- a contract's start: the world ws, byte arrays of class cB, int arrays of class cI -/
abbrev rc_Pre (D : va_G) (cB cI : ClassId) (sz : Nat) (ws : va_W) (U : State) : Prop := U.heap.size = sz ∧ va_P D vwCl ws U.heap ∧ va_K D vwCl (rc_T cB cI) U ∧ va_D (fun _ => True) ws ∧ rc_X U
/-- a contract's end: the world behind it -/
abbrev rc_B (D : va_G) (cB cI : ClassId) (A : Nat → Prop) (ws : va_W) (t : State) : Prop := va_P D vwCl ws t.heap ∧ va_K D vwCl (rc_T cB cI) t ∧ va_D A ws
theorem rc_blind {D : va_G} {cB cI : ClassId} {sz : Nat} {ws : va_W} {av : List Value} : FrameBlind (va_Pc av (rc_Pre D cB cI sz ws)) := by
  intro a U g mk q
  obtain ⟨q0, q1, qP, qK, qD, qX⟩ := q
  exact ⟨q0, q1, qP, va_K.moved (u := U) (U := U.calling g mk a) (Vm.Alike.refl U.vm) qK, qD, rc_X_moved (u := U) (U := U.calling g mk a) (Vm.Alike.refl U.vm) qX⟩
theorem rc_ps {s : State} {H : Heap} {A : Nat → Prop} {ws : va_W} {As : List Value} {D : va_G} {cB cI : ClassId} (hP : va_P D vwCl ws H) (hK : va_K D vwCl (rc_T cB cI) s) (hD : va_D A ws) (hX : rc_X s) : PreS s H (va_Pc As (rc_Pre D cB cI H.size ws)) As :=
  ⟨rc_blind, fun U hU hW => ⟨rfl, by rw [hU], by rw [hU]; exact hP, va_K.moved hW.alike hK, hD.weaken (fun _ _ _ _ => trivial), rc_X_moved hW.alike hX⟩⟩
theorem rc_pv {s : State} {H : Heap} {A : Nat → Prop} {ws : va_W} {C : String} {b : Addr} {As : List Value} {D : va_G} {cB cI : ClassId} (hr : ∃ cell : Cell, H[b]? = some cell ∧ cell.vm.isStatics = false ∧ s.vm.findClass C = some cell.cls) (hP : va_P D vwCl ws H) (hK : va_K D vwCl (rc_T cB cI) s) (hD : va_D A ws) (hX : rc_X s) : PreV s H C b (va_Pc (.ref b :: As) (rc_Pre D cB cI H.size ws)) As :=
  ⟨rc_blind, hr, fun U hU hW => ⟨rfl, by rw [hU], by rw [hU]; exact hP, va_K.moved hW.alike hK, hD.weaken (fun _ _ _ _ => trivial), rc_X_moved hW.alike hX⟩⟩
theorem rc_ps0 {s : State} {H : Heap} {As : List Value} : PreS s H (va_Pc As (fun _ => True)) As :=
  ⟨fun a U g mk q => ⟨q.1, trivial⟩, fun U hU hW => ⟨rfl, trivial⟩⟩
theorem rc_pv0 {s : State} {H : Heap} {C : String} {b : Addr} {As : List Value} (hr : ∃ cell : Cell, H[b]? = some cell ∧ cell.vm.isStatics = false ∧ s.vm.findClass C = some cell.cls) : PreV s H C b (va_Pc (.ref b :: As) (fun _ => True)) As :=
  ⟨fun a U g mk q => ⟨q.1, trivial⟩, hr, fun U hU hW => ⟨rfl, trivial⟩⟩
/-- two classes of arrays of one primitive type are one -/
theorem rc_cls {D : va_G} {cl : List vw_C} {tys : List (ClassId × FieldType)} {U : State} (hK : va_K D cl tys U) {i j : Nat} {c1 c2 : ClassId} {ty : FieldType} (hi : tys[i]? = some (c1, ty)) (hj : tys[j]? = some (c2, ty)) (hp : ty = .byte ∨ ty = .int) : c1 = c2 := by
  have h1 := (hK.2 i _ hi).2
  have h2 := (hK.2 j _ hj).2
  rcases hp with rfl | rfl
  · exact Option.some.inj (h1.symm.trans h2)
  · exact Option.some.inj (h1.symm.trans h2)
section RCC
variable {p : Program} {l : Launch} {e : Env} {R : Room} {s : State} {m : MethodId} {args : Array Value} {below : List Frame} {meth : Method} {c : Code} {H : Heap} {locs : List Loc} {cells slots : Nat} {Q : State → Prop}
variable {pc : Nat} {ls : Array Slot} {rest st0 : List Value} {a : Array Value} {A : Nat → Prop} {H0 : Heap} {mc ms : Nat} {D : va_G} {cB cI : ClassId} {ws wc wr : va_W}
/-- a call of a method that answers nothing, by its contract -/
theorem rc_cv {S : Type} {post : S → Prop} {w1 : S → va_W} (isC isR : List Nat)
    (hr : va_Run p l e R s m args below meth c H locs cells slots mc ms (F0 m pc ls st0) rest (va_Qv post (fun u t => rc_B D cB cI (va_A wc H.size) (w1 u) t) (va_A wc H.size) a) (va_A wc H.size))
    (hP : va_P D vwCl ws H) (hD : va_D A ws) (hS : va_S A H0 H locs) (hA : ∀ q, H0.size ≤ q → A q) (hC : isC.map (fun i => ws[i]?) = wc.map some) (hR : isR.map (fun i => ws[i]?) = wr.map some) (hn : va_nd isR = true) (hdis : ∀ i ∈ isR, i ∉ isC)
    (kk : ∀ (u : S) (H1 : Heap) (locs1 : List Loc), post u → va_P D vwCl (wr ++ w1 u) H1 → va_D A (wr ++ w1 u) → va_S A H0 H1 locs1 → W p l e R s m args below meth c H1 locs1 (cells + mc) (slots + ms) Q (F0 m (pc + 3) ls rest)) :
    W p l e R s m args below meth c H locs cells slots Q (F0 m pc ls st0) := by
  have hFc := va_free hD hS hA isC hC
  refine va_callv hr hS (fun q _ h => hFc q h) hFc (fun u t H1 locs1 ht hvm hp hB hz hk hS1 => ?_)
  obtain ⟨hP1, hK1, hD1⟩ := hB
  rw [ht] at hP1
  obtain ⟨hP2, hD2⟩ := va_join hP hD isC isR hC hR hn hdis hk hFc hP1 hD1
  exact kk u H1 locs1 hp hP2 hD2 hS1
/-- .. that answers an int -/
theorem rc_ci {S : Type} {post : Int32 → S → Prop} {w1 : S → va_W} (isC isR : List Nat)
    (hr : va_Run p l e R s m args below meth c H locs cells slots mc ms (F0 m pc ls st0) rest (va_Qi post (fun u t => rc_B D cB cI (va_A wc H.size) (w1 u) t) (va_A wc H.size) a) (va_A wc H.size))
    (hP : va_P D vwCl ws H) (hD : va_D A ws) (hS : va_S A H0 H locs) (hA : ∀ q, H0.size ≤ q → A q) (hC : isC.map (fun i => ws[i]?) = wc.map some) (hR : isR.map (fun i => ws[i]?) = wr.map some) (hn : va_nd isR = true) (hdis : ∀ i ∈ isR, i ∉ isC)
    (kk : ∀ (r : Int32) (u : S) (H1 : Heap) (locs1 : List Loc), post r u → va_P D vwCl (wr ++ w1 u) H1 → va_D A (wr ++ w1 u) → va_S A H0 H1 locs1 → W p l e R s m args below meth c H1 locs1 (cells + mc) (slots + ms) Q (F0 m (pc + 3) ls (.int r :: rest))) :
    W p l e R s m args below meth c H locs cells slots Q (F0 m pc ls st0) := by
  have hFc := va_free hD hS hA isC hC
  refine va_calli hr hS (fun q _ h => hFc q h) hFc (fun r u t H1 locs1 ht hvm hp hB hz hk hS1 => ?_)
  obtain ⟨hP1, hK1, hD1⟩ := hB
  rw [ht] at hP1
  obtain ⟨hP2, hD2⟩ := va_join hP hD isC isR hC hR hn hdis hk hFc hP1 hD1
  exact kk r u H1 locs1 hp hP2 hD2 hS1
/-- .. that answers a cell -/
theorem rc_cr {S : Type} {post : S → Prop} {w1 : S → Nat → va_W} (isC isR : List Nat)
    (hr : va_Run p l e R s m args below meth c H locs cells slots mc ms (F0 m pc ls st0) rest (va_Qr post (fun u ra t => rc_B D cB cI (va_A wc H.size) (w1 u ra) t) (va_A wc H.size) a) (va_A wc H.size))
    (hP : va_P D vwCl ws H) (hD : va_D A ws) (hS : va_S A H0 H locs) (hA : ∀ q, H0.size ≤ q → A q) (hC : isC.map (fun i => ws[i]?) = wc.map some) (hR : isR.map (fun i => ws[i]?) = wr.map some) (hn : va_nd isR = true) (hdis : ∀ i ∈ isR, i ∉ isC)
    (kk : ∀ (u : S) (ra : Nat) (H1 : Heap) (locs1 : List Loc), post u → va_P D vwCl (wr ++ w1 u ra) H1 → va_D A (wr ++ w1 u ra) → va_S A H0 H1 locs1 → W p l e R s m args below meth c H1 locs1 (cells + mc) (slots + ms) Q (F0 m (pc + 3) ls (.ref ra :: rest))) :
    W p l e R s m args below meth c H locs cells slots Q (F0 m pc ls st0) := by
  have hFc := va_free hD hS hA isC hC
  refine va_callr hr hS (fun q _ h => hFc q h) hFc (fun u ra t H1 locs1 ht hvm hp hB hz hk hS1 => ?_)
  obtain ⟨hP1, hK1, hD1⟩ := hB
  rw [ht] at hP1
  obtain ⟨hP2, hD2⟩ := va_join hP hD isC isR hC hR hn hdis hk hFc hP1 hD1
  exact kk u ra H1 locs1 hp hP2 hD2 hS1
/-- through an interface, nothing answered -/
theorem rc_cFv {S : Type} {post : S → Prop} {w1 : S → va_W} (isC isR : List Nat)
    (hr : va_Run5 p l e R s m args below meth c H locs cells slots mc ms (F0 m pc ls st0) rest (va_Qv post (fun u t => rc_B D cB cI (va_A wc H.size) (w1 u) t) (va_A wc H.size) a) (va_A wc H.size))
    (hP : va_P D vwCl ws H) (hD : va_D A ws) (hS : va_S A H0 H locs) (hA : ∀ q, H0.size ≤ q → A q) (hC : isC.map (fun i => ws[i]?) = wc.map some) (hR : isR.map (fun i => ws[i]?) = wr.map some) (hn : va_nd isR = true) (hdis : ∀ i ∈ isR, i ∉ isC)
    (kk : ∀ (u : S) (H1 : Heap) (locs1 : List Loc), post u → va_P D vwCl (wr ++ w1 u) H1 → va_D A (wr ++ w1 u) → va_S A H0 H1 locs1 → W p l e R s m args below meth c H1 locs1 (cells + mc) (slots + ms) Q (F0 m (pc + 5) ls rest)) :
    W p l e R s m args below meth c H locs cells slots Q (F0 m pc ls st0) := by
  have hFc := va_free hD hS hA isC hC
  refine va_callFv hr hS (fun q _ h => hFc q h) hFc (fun u t H1 locs1 ht hvm hp hB hz hk hS1 => ?_)
  obtain ⟨hP1, hK1, hD1⟩ := hB
  rw [ht] at hP1
  obtain ⟨hP2, hD2⟩ := va_join hP hD isC isR hC hR hn hdis hk hFc hP1 hD1
  exact kk u H1 locs1 hp hP2 hD2 hS1
/-- through an interface, an int answered -/
theorem rc_cFi {S : Type} {post : Int32 → S → Prop} {w1 : S → va_W} (isC isR : List Nat)
    (hr : va_Run5 p l e R s m args below meth c H locs cells slots mc ms (F0 m pc ls st0) rest (va_Qi post (fun u t => rc_B D cB cI (va_A wc H.size) (w1 u) t) (va_A wc H.size) a) (va_A wc H.size))
    (hP : va_P D vwCl ws H) (hD : va_D A ws) (hS : va_S A H0 H locs) (hA : ∀ q, H0.size ≤ q → A q) (hC : isC.map (fun i => ws[i]?) = wc.map some) (hR : isR.map (fun i => ws[i]?) = wr.map some) (hn : va_nd isR = true) (hdis : ∀ i ∈ isR, i ∉ isC)
    (kk : ∀ (r : Int32) (u : S) (H1 : Heap) (locs1 : List Loc), post r u → va_P D vwCl (wr ++ w1 u) H1 → va_D A (wr ++ w1 u) → va_S A H0 H1 locs1 → W p l e R s m args below meth c H1 locs1 (cells + mc) (slots + ms) Q (F0 m (pc + 5) ls (.int r :: rest))) :
    W p l e R s m args below meth c H locs cells slots Q (F0 m pc ls st0) := by
  have hFc := va_free hD hS hA isC hC
  refine va_callFi hr hS (fun q _ h => hFc q h) hFc (fun r u t H1 locs1 ht hvm hp hB hz hk hS1 => ?_)
  obtain ⟨hP1, hK1, hD1⟩ := hB
  rw [ht] at hP1
  obtain ⟨hP2, hD2⟩ := va_join hP hD isC isR hC hR hn hdis hk hFc hP1 hD1
  exact kk r u H1 locs1 hp hP2 hD2 hS1
end RCC
section RCV
variable {p : Program} {l : Launch} {e : Env} {R : Room} {s : State} {m : MethodId} {args : Array Value} {below : List Frame} {meth : Method} {c : Code} {H : Heap} {locs : List Loc} {cells slots : Nat} {Q : State → Prop}
variable {cc : ByteArray} {pc : Nat} {ls : Array Slot} {rest : List Value} {D : va_G} {cl : List vw_C} {A : Nat → Prop} {a : Nat} {tys : List (ClassId × FieldType)} {ws : va_W} {H0 : Heap}
/-- another name for the number on top -/
theorem rc_is {x : Int32} (y : Int32) (h : x = y) (k : W p l e R s m args below meth c H locs cells slots Q (F0 m pc ls (.int y :: rest))) : W p l e R s m args below meth c H locs cells slots Q (F0 m pc ls (.int x :: rest)) := by
  rw [h]; exact k
theorem rc_ldi (hexec : p.tables.exec = Jvm.exec) (hb : c.code = cc) (hK : va_K D cl tys s) (hP : va_P D cl ws H) (q0 t0 : Nat) {cA : ClassId} {n : Nat} {f : Nat → Int32} (ha : ws[q0]? = some (a, .inl (cA, n, .inl f))) (ht : tys[t0]? = some (cA, .int)) {i : Int32} (j : Nat) (hi : i = nI j) (hj : j < n) (hn : n < 2147483648) (v : Int32) (hv : f j = v) (hdg : decode cc pc = .ok (.iaload, 1))
    (kk : W p l e R s m args below meth c H locs cells slots Q (F0 m (pc + 1) ls (.int v :: rest))) : W p l e R s m args below meth c H locs cells slots Q (F0 m pc ls (.int i :: .ref a :: rest)) := by
  subst hi
  subst hv
  refine va_iald hexec hb hK hP q0 t0 ha ht (vp_in_nI hj hn) hdg ?_
  rw [nI_clamp (show j < 2 ^ 31 by omega)]
  exact kk
theorem rc_ldb (hexec : p.tables.exec = Jvm.exec) (hb : c.code = cc) (hK : va_K D cl tys s) (hP : va_P D cl ws H) (q0 t0 : Nat) {cA : ClassId} {n : Nat} {f : Nat → Int32} (ha : ws[q0]? = some (a, .inl (cA, n, .inl f))) (ht : tys[t0]? = some (cA, .byte)) {i : Int32} (j : Nat) (hi : i = nI j) (hj : j < n) (hn : n < 2147483648) (v : Int32) (hv : f j = v) (hdg : decode cc pc = .ok (.baload, 1))
    (kk : W p l e R s m args below meth c H locs cells slots Q (F0 m (pc + 1) ls (.int v :: rest))) : W p l e R s m args below meth c H locs cells slots Q (F0 m pc ls (.int i :: .ref a :: rest)) := by
  subst hi
  subst hv
  refine va_bald hexec hb hK hP q0 t0 ha ht (vp_in_nI hj hn) hdg ?_
  rw [nI_clamp (show j < 2 ^ 31 by omega)]
  exact kk
theorem rc_sti (hexec : p.tables.exec = Jvm.exec) (hb : c.code = cc) (hK : va_K D cl tys s) (hP : va_P D cl ws H) (hD : va_D A ws) (hS : va_S A H0 H locs) (q0 t0 : Nat) {cA : ClassId} {n : Nat} {f : Nat → Int32} (ha : ws[q0]? = some (a, .inl (cA, n, .inl f))) (ht : tys[t0]? = some (cA, .int)) {i : Int32} {x : Int32} (j : Nat) (hi : i = nI j) (hj : j < n) (hn : n < 2147483648) (f2 : Nat → Int32) (hf : upd f j x = f2) (ws2 : va_W) (hw : ws.set q0 (a, .inl (cA, n, .inl f2)) = ws2) (hdg : decode cc pc = .ok (.iastore, 1))
    (kk : ∀ (H1 : Heap) (locs1 : List Loc), va_P D cl ws2 H1 → va_D A ws2 → va_S A H0 H1 locs1 → W p l e R s m args below meth c H1 locs1 cells slots Q (F0 m (pc + 1) ls rest)) : W p l e R s m args below meth c H locs cells slots Q (F0 m pc ls (.int x :: .int i :: .ref a :: rest)) := by
  subst hi
  subst hf
  subst hw
  refine va_iast hexec hb hK hP hD hS q0 t0 ha ht (vp_in_nI hj hn) hdg (fun H1 locs1 h1 h2 h3 => ?_)
  rw [nI_clamp (show j < 2 ^ 31 by omega)] at h1 h2
  exact kk H1 locs1 h1 h2 h3
theorem rc_stb (hexec : p.tables.exec = Jvm.exec) (hb : c.code = cc) (hK : va_K D cl tys s) (hP : va_P D cl ws H) (hD : va_D A ws) (hS : va_S A H0 H locs) (q0 t0 : Nat) {cA : ClassId} {n : Nat} {f : Nat → Int32} (ha : ws[q0]? = some (a, .inl (cA, n, .inl f))) (ht : tys[t0]? = some (cA, .byte)) {i : Int32} {x : Int32} (j : Nat) (hi : i = nI j) (hj : j < n) (hn : n < 2147483648) (f2 : Nat → Int32) (hf : upd f j (vp_nar .byte x) = f2) (ws2 : va_W) (hw : ws.set q0 (a, .inl (cA, n, .inl f2)) = ws2) (hdg : decode cc pc = .ok (.bastore, 1))
    (kk : ∀ (H1 : Heap) (locs1 : List Loc), va_P D cl ws2 H1 → va_D A ws2 → va_S A H0 H1 locs1 → W p l e R s m args below meth c H1 locs1 cells slots Q (F0 m (pc + 1) ls rest)) : W p l e R s m args below meth c H locs cells slots Q (F0 m pc ls (.int x :: .int i :: .ref a :: rest)) := by
  subst hi
  subst hf
  subst hw
  refine va_bast hexec hb hK hP hD hS q0 t0 ha ht (vp_in_nI hj hn) hdg (fun H1 locs1 h1 h2 h3 => ?_)
  rw [nI_clamp (show j < 2 ^ 31 by omega)] at h1 h2
  exact kk H1 locs1 h1 h2 h3
/-- a new array of bytes, of the class cB -/
theorem rc_nwb {cB cI : ClassId} (hexec : p.tables.exec = Jvm.exec) (hb : c.code = cc) (harr : (Cond.arrayClass .byte).before args s = true) (hK : va_K D vwCl (rc_T cB cI) s) (hP : va_P D vwCl ws H) (hD : va_D A ws) (hS : va_S A H0 H locs) (hA : ∀ q, H0.size ≤ q → A q)
    {i : Int32} (N : Nat) (hi : i = nI N) (hN : N < 1000) (hcells : cells + 1 ≤ R.cells) (hslots : slots + N ≤ R.slots) (hdg : decode cc pc = .ok (.newarray .byte, 2))
    (kk : ∀ (q : Nat) (H1 : Heap), va_P D vwCl (ws ++ [(q, .inl (cB, N, .inl (fun _ => 0)))]) H1 → va_D A (ws ++ [(q, .inl (cB, N, .inl (fun _ => 0)))]) → va_S A H0 H1 locs →
      W p l e R s m args below meth c H1 locs (cells + 1) (slots + N) Q (F0 m (pc + 2) ls (.ref q :: rest))) : W p l e R s m args below meth c H locs cells slots Q (F0 m pc ls (.int i :: rest)) := by
  subst hi
  refine va_newa (atype := .byte) (ty := .byte) (N' := N) (a0 := (N, .inl (fun _ => 0))) hexec hb harr rfl hK hP hD hS hA (fun _ => rfl) (Int32.not_lt.mpr (nI_pos' (show N < 2 ^ 31 by omega))) (nI_clamp (show N < 2 ^ 31 by omega)) (by show N * 1 ≤ 536870912; omega) hcells hslots hdg (fun q cA H1 hK1 hP1 hD1 hS1 => ?_)
  have hc : cA = cB := rc_cls hK1 (i := 2) (j := 0) (ty := .byte) rfl rfl (Or.inl rfl)
  subst hc
  exact kk q H1 hP1 hD1 hS1
/-- a new array of ints, of the class cI -/
theorem rc_nwi {cB cI : ClassId} (hexec : p.tables.exec = Jvm.exec) (hb : c.code = cc) (harr : (Cond.arrayClass .int).before args s = true) (hK : va_K D vwCl (rc_T cB cI) s) (hP : va_P D vwCl ws H) (hD : va_D A ws) (hS : va_S A H0 H locs) (hA : ∀ q, H0.size ≤ q → A q)
    {i : Int32} (N : Nat) (hi : i = nI N) (hN : N < 1000) (hcells : cells + 1 ≤ R.cells) (hslots : slots + N ≤ R.slots) (hdg : decode cc pc = .ok (.newarray .int, 2))
    (kk : ∀ (q : Nat) (H1 : Heap), va_P D vwCl (ws ++ [(q, .inl (cI, N, .inl (fun _ => 0)))]) H1 → va_D A (ws ++ [(q, .inl (cI, N, .inl (fun _ => 0)))]) → va_S A H0 H1 locs →
      W p l e R s m args below meth c H1 locs (cells + 1) (slots + N) Q (F0 m (pc + 2) ls (.ref q :: rest))) : W p l e R s m args below meth c H locs cells slots Q (F0 m pc ls (.int i :: rest)) := by
  subst hi
  refine va_newa (atype := .int) (ty := .int) (N' := N) (a0 := (N, .inl (fun _ => 0))) hexec hb harr rfl hK hP hD hS hA (fun _ => rfl) (Int32.not_lt.mpr (nI_pos' (show N < 2 ^ 31 by omega))) (nI_clamp (show N < 2 ^ 31 by omega)) (by show N * 4 ≤ 536870912; omega) hcells hslots hdg (fun q cA H1 hK1 hP1 hD1 hS1 => ?_)
  have hc : cA = cI := rc_cls hK1 (i := 2) (j := 1) (ty := .int) rfl rfl (Or.inr rfl)
  subst hc
  exact kk q H1 hP1 hD1 hS1
end RCV
end
section
/-! ===== THE PLAIN LAW: RC6 over Int32, no program in sight ===== -/
-- rows of kit/laws/BITS.to-paste (bits of an Int32)
def bt (x : Int32) (i : Nat) : Bool := x.toBitVec.getLsbD i
theorem b_ext {x y : Int32} (h : ∀ i, i < 32 → bt x i = bt y i) : x = y := Int32.toBitVec_inj.mp (BitVec.eq_of_getLsbD_eq (fun i hi => h i hi))
theorem b_or (x y : Int32) (i : Nat) : bt (x ||| y) i = (bt x i || bt y i) := by unfold bt; rw [Int32.toBitVec_or, BitVec.getLsbD_or]
theorem b_and (x y : Int32) (i : Nat) : bt (x &&& y) i = (bt x i && bt y i) := by unfold bt; rw [Int32.toBitVec_and, BitVec.getLsbD_and]
theorem b_big {x : Int32} {i : Nat} (h : 32 ≤ i) : bt x i = false := BitVec.getLsbD_of_ge _ _ h
theorem b_255 (i : Nat) : bt 255 i = decide (i < 8) := by
  rcases Nat.lt_or_ge i 32 with h | h
  · exact (by decide +kernel : ∀ i, i < 32 → bt 255 i = decide (i < 8)) i h
  · rw [b_big h, decide_eq_false (by omega)]
theorem s_l : ∀ n, n < 32 → ((nI n &&& 31).toBitVec.smod 32).toNat = n := by decide +kernel
theorem s_u : ∀ n, n < 32 → (((nI n).toUInt32 &&& Int32.toUInt32 31).toBitVec % 32).toNat = n := by decide +kernel
theorem b_ushr (n : Nat) (hn : n < 32) (x : Int32) (i : Nat) : bt ((x.toUInt32 >>> ((nI n).toUInt32 &&& Int32.toUInt32 31)).toInt32) i = bt x (n + i) := by
  show (x.toUInt32 >>> ((nI n).toUInt32 &&& Int32.toUInt32 31)).toBitVec.getLsbD i = x.toUInt32.toBitVec.getLsbD (n + i)
  rw [UInt32.toBitVec_shiftRight]
  show (x.toUInt32.toBitVec >>> (((nI n).toUInt32 &&& Int32.toUInt32 31).toBitVec % 32).toNat).getLsbD i = _
  rw [s_u n hn, BitVec.getLsbD_ushiftRight]
theorem b_sshr (n : Nat) (hn : n < 32) (x : Int32) {i : Nat} (hi : i < 32) : bt (x >>> (nI n &&& 31)) i = if n + i < 32 then bt x (n + i) else bt x 31 := by
  unfold bt
  rw [Int32.toBitVec_shiftRight]
  show (x.toBitVec.sshiftRight ((nI n &&& 31).toBitVec.smod 32).toNat).getLsbD i = _
  rw [s_l n hn, BitVec.getLsbD_sshiftRight, BitVec.msb_eq_getLsbD_last]
  simp [hi]
theorem bp_b (x : Int32) : x.toInt8.toInt32 &&& 255 = x &&& 255 := by
  apply Int32.toBitVec_inj.mp
  rw [Int32.toBitVec_and, Int32.toBitVec_and, Int8.toBitVec_toInt32, Int32.toBitVec_toInt8]
  apply BitVec.eq_of_getLsbD_eq
  intro i hi
  rw [BitVec.getLsbD_and, BitVec.getLsbD_and]
  have hm : ∀ i < 32, 8 ≤ i → (255 : Int32).toBitVec.getLsbD i = false := by decide
  rcases Nat.lt_or_ge i 8 with z | z
  · rw [BitVec.getLsbD_signExtend, BitVec.getLsbD_signExtend, if_pos z, if_pos hi]
    simp only [z, hi, decide_true, Bool.true_and]
  · rw [hm i hi z]; simp
-- my own from here on
/-- an int as a number below 2^32 -/
def rc_N (x : Int32) : Nat := x.toBitVec.toNat
theorem rc_N_lt (x : Int32) : rc_N x < 4294967296 := x.toBitVec.isLt
theorem rc_N_ext {x y : Int32} (h : rc_N x = rc_N y) : x = y := Int32.toBitVec_inj.mp (BitVec.eq_of_toNat_eq h)
theorem rc_N_nI {n : Nat} (h : n < 4294967296) : rc_N (nI n) = n := pk_tn h
theorem rc_N_add (x y : Int32) : rc_N (x + y) = (rc_N x + rc_N y) % 4294967296 := by
  unfold rc_N; rw [Int32.toBitVec_add, BitVec.toNat_add]
theorem rc_N_mul (x y : Int32) : rc_N (x * y) = (rc_N x * rc_N y) % 4294967296 := by
  unfold rc_N; rw [Int32.toBitVec_mul, BitVec.toNat_mul]
theorem rc_N_xor (x y : Int32) : rc_N (x ^^^ y) = rc_N x ^^^ rc_N y := by
  unfold rc_N; rw [Int32.toBitVec_xor, BitVec.toNat_xor]
theorem rc_N_or (x y : Int32) : rc_N (x ||| y) = rc_N x ||| rc_N y := by
  unfold rc_N; rw [Int32.toBitVec_or, BitVec.toNat_or]
theorem rc_N_neg (y : Int32) : rc_N (-y) % 32 = (32 - rc_N y % 32) % 32 := by
  unfold rc_N
  rw [Int32.toBitVec_neg, BitVec.toNat_neg]
  have := y.toBitVec.isLt
  omega
theorem rc_a255 (x : Int32) : x &&& 255 = nI (rc_N x % 256) := pk_and x 8 rfl
/-- the shift counts of the machine -/
theorem rc_sl (y : Int32) : ((y &&& 31).toBitVec.smod 32).toNat = rc_N y % 32 := by
  have h1 : y &&& 31 = nI (rc_N y % 32) := pk_and y 5 rfl
  have h2 : nI (rc_N y % 32) &&& 31 = nI (rc_N y % 32) := by
    have h3 : nI (rc_N y % 32) &&& 31 = nI (rc_N y % 32 % 2 ^ 5) := pk_andN (by omega) 5 rfl
    rw [h3]
    congr 1
    omega
  rw [h1, ← h2]
  exact s_l _ (by omega)
theorem rc_su (y : Int32) : ((y.toUInt32 &&& Int32.toUInt32 31).toBitVec % 32).toNat = rc_N y % 32 := by
  show ((y.toBitVec &&& (31 : Int32).toBitVec) % 32).toNat = _
  rw [BitVec.toNat_umod, BitVec.toNat_and]
  show (rc_N y &&& 2 ^ 5 - 1) % 32 = _
  rw [Nat.and_two_pow_sub_one_eq_mod]
  omega
theorem rc_b1 (x y : Int32) {i : Nat} (hi : i < 32) : bt (x <<< (y &&& 31)) i = (decide (rc_N y % 32 ≤ i) && bt x (i - rc_N y % 32)) := by
  unfold bt
  rw [Int32.toBitVec_shiftLeft]
  show (x.toBitVec <<< ((y &&& 31).toBitVec.smod 32).toNat).getLsbD i = _
  rw [rc_sl, BitVec.getLsbD_shiftLeft]
  rcases Nat.lt_or_ge i (rc_N y % 32) with h | h
  · simp [h, Nat.not_le.mpr h]
  · simp [hi, h, Nat.not_lt.mpr h]
theorem rc_b2 (x y : Int32) (i : Nat) : bt ((x.toUInt32 >>> (y.toUInt32 &&& Int32.toUInt32 31)).toInt32) i = bt x (rc_N y % 32 + i) := by
  show (x.toUInt32 >>> (y.toUInt32 &&& Int32.toUInt32 31)).toBitVec.getLsbD i = x.toUInt32.toBitVec.getLsbD (rc_N y % 32 + i)
  rw [UInt32.toBitVec_shiftRight]
  show (x.toUInt32.toBitVec >>> ((y.toUInt32 &&& Int32.toUInt32 31).toBitVec % 32).toNat).getLsbD i = _
  rw [rc_su, BitVec.getLsbD_ushiftRight]
/-- the two rotations, as the machine computes them -/
def rc_rotl (x y : Int32) : Int32 := (x <<< (y &&& 31)) ||| (x.toUInt32 >>> ((-y).toUInt32 &&& Int32.toUInt32 31)).toInt32
def rc_rotr (x y : Int32) : Int32 := (x.toUInt32 >>> (y.toUInt32 &&& Int32.toUInt32 31)).toInt32 ||| (x <<< ((-y) &&& 31))
theorem rc_bl (x y : Int32) {i : Nat} (hi : i < 32) : bt (rc_rotl x y) i = bt x ((i + 32 - rc_N y % 32) % 32) := by
  unfold rc_rotl
  rw [b_or, rc_b1 x y hi, rc_b2 x (-y) i, rc_N_neg]
  have hj : rc_N y % 32 < 32 := by omega
  generalize rc_N y % 32 = j at hj ⊢
  rcases Nat.lt_or_ge i j with h | h
  · have e : (32 - j) % 32 + i = (i + 32 - j) % 32 := by omega
    rw [e, decide_eq_false (by omega)]
    simp
  · rcases Nat.eq_zero_or_pos j with h0 | h0
    · subst h0
      have e1 : (32 - 0) % 32 + i = i := by omega
      have e2 : (i + 32 - 0) % 32 = i := by omega
      rw [e1, e2, decide_eq_true (by omega)]
      simp
    · have e1 : i - j = (i + 32 - j) % 32 := by omega
      rw [e1, b_big (show 32 ≤ (32 - j) % 32 + i by omega), decide_eq_true (by omega)]
      simp
theorem rc_br (x y : Int32) {i : Nat} (hi : i < 32) : bt (rc_rotr x y) i = bt x ((i + rc_N y % 32) % 32) := by
  unfold rc_rotr
  rw [b_or, rc_b2 x y i, rc_b1 x (-y) hi, rc_N_neg]
  have hj : rc_N y % 32 < 32 := by omega
  generalize rc_N y % 32 = j at hj ⊢
  rcases Nat.lt_or_ge (j + i) 32 with h | h
  · have e : j + i = (i + j) % 32 := by omega
    rw [e]
    rcases Nat.eq_zero_or_pos j with h0 | h0
    · subst h0
      have e1 : i - (32 - 0) % 32 = i := by omega
      have e2 : (i + 0) % 32 = i := by omega
      rw [e1, e2, decide_eq_true (by omega)]
      simp
    · rw [decide_eq_false (by omega)]
      simp
  · have e : i - (32 - j) % 32 = (i + j) % 32 := by omega
    rw [e, b_big (show 32 ≤ j + i by omega), decide_eq_true (by omega)]
    simp
theorem rc_lr (x y : Int32) : rc_rotl (rc_rotr x y) y = x := b_ext fun i hi => by
  rw [rc_bl _ _ hi, rc_br _ _ (Nat.mod_lt _ (by omega))]
  congr 1
  omega
theorem rc_rl (x y : Int32) : rc_rotr (rc_rotl x y) y = x := b_ext fun i hi => by
  rw [rc_br _ _ hi, rc_bl _ _ (Nat.mod_lt _ (by omega))]
  congr 1
  omega
-- words and bytes
def rc_b (w : Int32) : Int32 := w.toInt8.toInt32
def rc_sh (w b : Int32) : Int32 := (w <<< ((8 : Int32) &&& 31)) + (b &&& 255)
def rc_u8 (w : Int32) : Int32 := (w.toUInt32 >>> ((8 : Int32).toUInt32 &&& Int32.toUInt32 31)).toInt32
def rc_w (f : Nat → Int32) (o : Nat) : Int32 := rc_sh (rc_sh (rc_sh (rc_sh 0 (f (3 + o))) (f (2 + o))) (f (1 + o))) (f (0 + o))
def rc_put (g : Nat → Int32) (w : Int32) (o : Nat) : Nat → Int32 := upd (upd (upd (upd g (0 + o) (rc_b w)) (1 + o) (rc_b (rc_u8 w))) (2 + o) (rc_b (rc_u8 (rc_u8 w)))) (3 + o) (rc_b (rc_u8 (rc_u8 (rc_u8 w))))
theorem rc_nar (w : Int32) : vp_nar .byte (rc_b w) = rc_b w := pk_vb w
theorem rc_N_sh (w b : Int32) : rc_N (rc_sh w b) = (rc_N w * 256 + rc_N b % 256) % 4294967296 := by
  unfold rc_sh
  rw [rc_N_add, rc_a255, rc_N_nI (by omega)]
  have h : rc_N (w <<< ((8 : Int32) &&& 31)) = rc_N w * 2 ^ 8 % 2 ^ 32 := pk_shl w _ 8 (by decide)
  rw [h]
  omega
theorem rc_N_u8 (w : Int32) : rc_N (rc_u8 w) = rc_N w / 256 := pk_ushr w 8 8 (by decide)
theorem rc_b255 (w : Int32) : rc_b w &&& 255 = w &&& 255 := bp_b w
theorem rc_N_b (w : Int32) : rc_N (rc_b w) % 256 = rc_N w % 256 := by
  have h := rc_b255 w
  rw [rc_a255, rc_a255] at h
  have h2 := congrArg rc_N h
  rwa [rc_N_nI (by omega), rc_N_nI (by omega)] at h2
theorem rc_N_nar (x : Int32) : rc_N (vp_nar .byte x) % 256 = rc_N x % 256 := rc_N_b x
theorem rc_N_w (f : Nat → Int32) (o : Nat) : rc_N (rc_w f o) = ((rc_N (f (3 + o)) % 256 * 256 + rc_N (f (2 + o)) % 256) * 256 + rc_N (f (1 + o)) % 256) * 256 + rc_N (f (0 + o)) % 256 := by
  unfold rc_w
  rw [rc_N_sh, rc_N_sh, rc_N_sh, rc_N_sh, show rc_N 0 = 0 from rfl]
  omega
theorem rc_w_congr {f g : Nat → Int32} {o : Nat} (h : ∀ k, k < 4 → rc_N (f (k + o)) % 256 = rc_N (g (k + o)) % 256) : rc_w f o = rc_w g o := by
  apply rc_N_ext
  rw [rc_N_w, rc_N_w, h 3 (by omega), h 2 (by omega), h 1 (by omega), h 0 (by omega)]
theorem rc_put_0 (g : Nat → Int32) (w : Int32) (o : Nat) : rc_put g w o (0 + o) = rc_b w := by
  unfold rc_put; rw [pk_un (by omega), pk_un (by omega), pk_un (by omega), pk_us]
theorem rc_put_1 (g : Nat → Int32) (w : Int32) (o : Nat) : rc_put g w o (1 + o) = rc_b (rc_u8 w) := by
  unfold rc_put; rw [pk_un (by omega), pk_un (by omega), pk_us]
theorem rc_put_2 (g : Nat → Int32) (w : Int32) (o : Nat) : rc_put g w o (2 + o) = rc_b (rc_u8 (rc_u8 w)) := by
  unfold rc_put; rw [pk_un (by omega), pk_us]
theorem rc_put_3 (g : Nat → Int32) (w : Int32) (o : Nat) : rc_put g w o (3 + o) = rc_b (rc_u8 (rc_u8 (rc_u8 w))) := by
  unfold rc_put; rw [pk_us]
theorem rc_put_n (g : Nat → Int32) (w : Int32) {o j : Nat} (h : j < o ∨ o + 4 ≤ j) : rc_put g w o j = g j := by
  unfold rc_put; rw [pk_un (by omega), pk_un (by omega), pk_un (by omega), pk_un (by omega)]
theorem rc_w_put (g : Nat → Int32) (w : Int32) (o : Nat) : rc_w (rc_put g w o) o = w := by
  apply rc_N_ext
  rw [rc_N_w, rc_put_0, rc_put_1, rc_put_2, rc_put_3, rc_N_b, rc_N_b, rc_N_b, rc_N_b, rc_N_u8, rc_N_u8, rc_N_u8]
  have := rc_N_lt w
  omega
theorem rc_w_put_n (g : Nat → Int32) (w : Int32) {o j : Nat} (h : j + 4 ≤ o ∨ o + 4 ≤ j) : rc_w (rc_put g w o) j = rc_w g j := by
  unfold rc_w
  rw [rc_put_n g w (show 3 + j < o ∨ o + 4 ≤ 3 + j by omega), rc_put_n g w (show 2 + j < o ∨ o + 4 ≤ 2 + j by omega), rc_put_n g w (show 1 + j < o ∨ o + 4 ≤ 1 + j by omega), rc_put_n g w (show 0 + j < o ∨ o + 4 ≤ 0 + j by omega)]
/-- byte k of a word laid at o -/
theorem rc_put_k (g : Nat → Int32) (w : Int32) (o : Nat) {k : Nat} (hk : k < 4) : rc_N (rc_put g w o (k + o)) % 256 = rc_N w / 256 ^ k % 256 := by
  have h : k = 0 ∨ k = 1 ∨ k = 2 ∨ k = 3 := by omega
  rcases h with rfl | rfl | rfl | rfl
  · rw [rc_put_0, rc_N_b]; simp
  · rw [rc_put_1, rc_N_b, rc_N_u8]
  · rw [rc_put_2, rc_N_b, rc_N_u8, rc_N_u8]; omega
  · rw [rc_put_3, rc_N_b, rc_N_u8, rc_N_u8, rc_N_u8]; omega
-- blocks
abbrev rc_Q := Int32 × Int32 × Int32 × Int32
def rc_in (f : Nat → Int32) : rc_Q := (rc_w f 0, rc_w f 4, rc_w f 8, rc_w f 12)
def rc_out (g : Nat → Int32) (q : rc_Q) : Nat → Int32 := rc_put (rc_put (rc_put (rc_put g q.1 0) q.2.1 4) q.2.2.1 8) q.2.2.2 12
theorem rc_in_out (g : Nat → Int32) (q : rc_Q) : rc_in (rc_out g q) = q := by
  obtain ⟨a, b, c, d⟩ := q
  unfold rc_in rc_out
  dsimp only
  rw [rc_w_put, rc_w_put_n _ _ (show 8 + 4 ≤ 12 ∨ 12 + 4 ≤ 8 by omega), rc_w_put, rc_w_put_n _ _ (show 4 + 4 ≤ 12 ∨ 12 + 4 ≤ 4 by omega), rc_w_put_n _ _ (show 4 + 4 ≤ 8 ∨ 8 + 4 ≤ 4 by omega), rc_w_put, rc_w_put_n _ _ (show 0 + 4 ≤ 12 ∨ 12 + 4 ≤ 0 by omega), rc_w_put_n _ _ (show 0 + 4 ≤ 8 ∨ 8 + 4 ≤ 0 by omega), rc_w_put_n _ _ (show 0 + 4 ≤ 4 ∨ 4 + 4 ≤ 0 by omega), rc_w_put]
theorem rc_in_congr {f g : Nat → Int32} (h : ∀ j, j < 16 → rc_N (f j) % 256 = rc_N (g j) % 256) : rc_in f = rc_in g := by
  unfold rc_in
  rw [rc_w_congr (o := 0) (fun k hk => h _ (by omega)), rc_w_congr (o := 4) (fun k hk => h _ (by omega)), rc_w_congr (o := 8) (fun k hk => h _ (by omega)), rc_w_congr (o := 12) (fun k hk => h _ (by omega))]
/-- the word i/4 of a block -/
def rc_sel (q : rc_Q) (n : Nat) : Int32 := if n = 0 then q.1 else if n = 1 then q.2.1 else if n = 2 then q.2.2.1 else q.2.2.2
theorem rc_out_i (g : Nat → Int32) (q : rc_Q) {i : Nat} (hi : i < 16) : rc_N (rc_out g q i) % 256 = rc_N (rc_sel q (i / 4)) / 256 ^ (i % 4) % 256 := by
  unfold rc_out
  have h : i / 4 = 0 ∨ i / 4 = 1 ∨ i / 4 = 2 ∨ i / 4 = 3 := by omega
  rcases h with h | h | h | h
  · rw [rc_put_n _ _ (by omega), rc_put_n _ _ (by omega), rc_put_n _ _ (by omega), h, show i % 4 = i by omega]
    exact rc_put_k _ _ 0 (by omega)
  · obtain ⟨k, hk, rfl⟩ : ∃ k, k < 4 ∧ i = k + 4 := ⟨i - 4, by omega, by omega⟩
    rw [rc_put_n _ _ (by omega), rc_put_n _ _ (by omega), rc_put_k _ _ _ hk, h, show (k + 4) % 4 = k by omega]
    rfl
  · obtain ⟨k, hk, rfl⟩ : ∃ k, k < 4 ∧ i = k + 8 := ⟨i - 8, by omega, by omega⟩
    rw [rc_put_n _ _ (by omega), rc_put_k _ _ _ hk, h, show (k + 8) % 4 = k by omega]
    rfl
  · obtain ⟨k, hk, rfl⟩ : ∃ k, k < 4 ∧ i = k + 12 := ⟨i - 12, by omega, by omega⟩
    rw [rc_put_k _ _ _ hk, h, show (k + 12) % 4 = k by omega]
    rfl
theorem rc_w_k (f : Nat → Int32) (o : Nat) {k : Nat} (hk : k < 4) : rc_N (rc_w f o) / 256 ^ k % 256 = rc_N (f (k + o)) % 256 := by
  rw [rc_N_w]
  have h : k = 0 ∨ k = 1 ∨ k = 2 ∨ k = 3 := by omega
  rcases h with rfl | rfl | rfl | rfl <;> omega
theorem rc_in_i (f : Nat → Int32) {i : Nat} (hi : i < 16) : rc_N (rc_sel (rc_in f) (i / 4)) / 256 ^ (i % 4) % 256 = rc_N (f i) % 256 := by
  have e : rc_sel (rc_in f) (i / 4) = rc_w f (i / 4 * 4) := by
    have h : i / 4 = 0 ∨ i / 4 = 1 ∨ i / 4 = 2 ∨ i / 4 = 3 := by omega
    rcases h with h | h | h | h <;> rw [h] <;> rfl
  rw [e, rc_w_k _ _ (by omega), show i % 4 + i / 4 * 4 = i by omega]
theorem rc_out_in (g f : Nat → Int32) {i : Nat} (hi : i < 16) : rc_out g (rc_in f) i &&& 255 = f i &&& 255 := by
  rw [rc_a255, rc_a255, rc_out_i _ _ hi, rc_in_i _ hi]
-- rounds
def rc_f (x : Int32) : Int32 := rc_rotl (x * (2 * x + 1)) 5
def rc_er (k0 k1 : Int32) (q : rc_Q) : rc_Q := (q.2.1, rc_rotl (q.2.2.1 ^^^ rc_f q.2.2.2) (rc_f q.2.1) + k1, q.2.2.2, rc_rotl (q.1 ^^^ rc_f q.2.1) (rc_f q.2.2.2) + k0)
def rc_dr (k0 k1 : Int32) (q : rc_Q) : rc_Q := (rc_rotr (q.2.2.2 - k0) (rc_f q.2.2.1) ^^^ rc_f q.1, q.1, rc_rotr (q.2.1 - k1) (rc_f q.1) ^^^ rc_f q.2.2.1, q.2.2.1)
theorem rc_x2 (x y : Int32) : x ^^^ y ^^^ y = x := by rw [Int32.xor_assoc, Int32.xor_self, Int32.xor_zero]
theorem rc_as (x y : Int32) : x + y - y = x := by
  apply Int32.toBitVec_inj.mp
  rw [Int32.toBitVec_sub, Int32.toBitVec_add, BitVec.add_sub_cancel]
theorem rc_sa (x y : Int32) : x - y + y = x := by
  apply Int32.toBitVec_inj.mp
  rw [Int32.toBitVec_add, Int32.toBitVec_sub, BitVec.sub_add_cancel]
theorem rc_de (k0 k1 : Int32) (q : rc_Q) : rc_dr k0 k1 (rc_er k0 k1 q) = q := by
  obtain ⟨a, b, c, d⟩ := q
  unfold rc_dr rc_er
  dsimp only
  rw [rc_as, rc_as, rc_rl, rc_rl, rc_x2, rc_x2]
theorem rc_ed (k0 k1 : Int32) (q : rc_Q) : rc_er k0 k1 (rc_dr k0 k1 q) = q := by
  obtain ⟨a, b, c, d⟩ := q
  unfold rc_dr rc_er
  dsimp only
  rw [rc_x2, rc_x2, rc_lr, rc_lr, rc_sa, rc_sa]
def rc_en (S : Nat → Int32) : Nat → rc_Q → rc_Q
  | 0, q => q
  | n + 1, q => rc_er (S (2 * (n + 1))) (S (2 * (n + 1) + 1)) (rc_en S n q)
def rc_dn (S : Nat → Int32) : Nat → rc_Q → rc_Q
  | 0, q => q
  | n + 1, q => rc_dr (S (2 * (20 - n))) (S (2 * (20 - n) + 1)) (rc_dn S n q)
theorem rc_dn_en (S : Nat → Int32) (q : rc_Q) : ∀ n, n ≤ 20 → rc_dn S n (rc_en S 20 q) = rc_en S (20 - n) q := by
  intro n
  induction n with
  | zero => intro _; rfl
  | succ n ih =>
    intro hn
    show rc_dr _ _ (rc_dn S n (rc_en S 20 q)) = _
    rw [ih (by omega)]
    obtain ⟨m, hm⟩ : ∃ m, 20 - n = m + 1 := ⟨19 - n, by omega⟩
    rw [hm, show 20 - (n + 1) = m by omega]
    exact rc_de _ _ _
theorem rc_en_dn (S : Nat → Int32) (q : rc_Q) : ∀ n, n ≤ 20 → rc_en S n (rc_dn S 20 q) = rc_dn S (20 - n) q := by
  intro n
  induction n with
  | zero => intro _; rfl
  | succ n ih =>
    intro hn
    show rc_er _ _ (rc_en S n (rc_dn S 20 q)) = _
    rw [ih (by omega)]
    obtain ⟨m, hm⟩ : ∃ m, 20 - n = m + 1 := ⟨19 - n, by omega⟩
    rw [hm, show 20 - (n + 1) = m by omega]
    show rc_er _ _ (rc_dr (S (2 * (20 - m))) (S (2 * (20 - m) + 1)) (rc_dn S m q)) = _
    rw [show 20 - m = n + 1 by omega]
    exact rc_ed _ _ _
def rc_pre (S : Nat → Int32) (q : rc_Q) : rc_Q := (q.1, q.2.1 + S 0, q.2.2.1, q.2.2.2 + S 1)
def rc_pos (S : Nat → Int32) (z : rc_Q) : rc_Q := (z.1 + S 42, z.2.1, z.2.2.1 + S 43, z.2.2.2)
def rc_dpr (S : Nat → Int32) (q : rc_Q) : rc_Q := (q.1 - S 42, q.2.1, q.2.2.1 - S 43, q.2.2.2)
def rc_dpo (S : Nat → Int32) (z : rc_Q) : rc_Q := (z.1, z.2.1 - S 0, z.2.2.1, z.2.2.2 - S 1)
def rc_enc (S : Nat → Int32) (q : rc_Q) : rc_Q := rc_pos S (rc_en S 20 (rc_pre S q))
def rc_dec (S : Nat → Int32) (q : rc_Q) : rc_Q := rc_dpo S (rc_dn S 20 (rc_dpr S q))
theorem rc_dec_enc (S : Nat → Int32) (q : rc_Q) : rc_dec S (rc_enc S q) = q := by
  unfold rc_dec rc_enc
  have h : rc_dpr S (rc_pos S (rc_en S 20 (rc_pre S q))) = rc_en S 20 (rc_pre S q) := by
    generalize rc_en S 20 (rc_pre S q) = z
    obtain ⟨a, b, c, d⟩ := z
    unfold rc_dpr rc_pos
    dsimp only
    rw [rc_as, rc_as]
  rw [h, rc_dn_en S _ 20 (Nat.le_refl _)]
  obtain ⟨a, b, c, d⟩ := q
  show rc_dpo S (rc_pre S (a, b, c, d)) = _
  unfold rc_dpo rc_pre
  dsimp only
  rw [rc_as, rc_as]
theorem rc_enc_dec (S : Nat → Int32) (q : rc_Q) : rc_enc S (rc_dec S q) = q := by
  unfold rc_dec rc_enc
  have h : rc_pre S (rc_dpo S (rc_dn S 20 (rc_dpr S q))) = rc_dn S 20 (rc_dpr S q) := by
    generalize rc_dn S 20 (rc_dpr S q) = z
    obtain ⟨a, b, c, d⟩ := z
    unfold rc_dpo rc_pre
    dsimp only
    rw [rc_sa, rc_sa]
  rw [h, rc_en_dn S _ 20 (Nat.le_refl _)]
  obtain ⟨a, b, c, d⟩ := q
  show rc_pos S (rc_dpr S (a, b, c, d)) = _
  unfold rc_pos rc_dpr
  dsimp only
  rw [rc_sa, rc_sa]
-- the schedule
def rc_l1 (f : Nat → Int32) : Nat → (Nat → Int32) → (Nat → Int32)
  | 0, g => g
  | i + 1, g => rc_l1 f i (upd g (i / 4) (rc_sh (g (i / 4)) (f i)))
def rc_p : Nat → Int32
  | 0 => -1209970333
  | n + 1 => rc_p n + (-1640531527)
def rc_s0 (n : Nat) : Nat → Int32 := fun j => if j < n then rc_p j else 0
abbrev rc_Z := (Nat → Int32) × (Nat → Int32) × Int32 × Int32
def rc_kA (i : Nat) (z : rc_Z) : Int32 := rc_rotl (z.1 i + z.2.2.1 + z.2.2.2) 3
def rc_kB (i j : Nat) (z : rc_Z) : Int32 := rc_rotl (z.2.1 j + rc_kA i z + z.2.2.2) (rc_kA i z + z.2.2.2)
def rc_ks (i j : Nat) (z : rc_Z) : rc_Z := (upd z.1 i (rc_kA i z), upd z.2.1 j (rc_kB i j z), rc_kA i z, rc_kB i j z)
def rc_st (c : Nat) (L : Nat → Int32) : Nat → rc_Z
  | 0 => (rc_s0 44, L, 0, 0)
  | k + 1 => rc_ks (k % 44) (k % c) (rc_st c L k)
def rc_key (c : Nat) (f : Nat → Int32) : Nat → Int32 := (rc_st c (rc_l1 f (4 * c) (fun _ => 0)) 132).1
theorem rc_s0_1 : upd (fun _ => 0) 0 (-1209970333) = rc_s0 1 := by
  funext j
  rcases Nat.eq_zero_or_pos j with h | h
  · subst h; rw [pk_us]; rfl
  · rw [pk_un (by omega)]; unfold rc_s0; rw [if_neg (by omega)]
theorem rc_s0_s (n : Nat) : upd (rc_s0 n) n (rc_p n) = rc_s0 (n + 1) := by
  funext j
  unfold rc_s0
  rcases Nat.lt_trichotomy j n with h | h | h
  · rw [pk_un (by omega), if_pos h, if_pos (by omega)]
  · subst h; rw [pk_us, if_pos (by omega)]
  · rw [pk_un (by omega), if_neg (by omega), if_neg (by omega)]
-- copies byte by byte
def rc_cp (n : Nat) (f g : Nat → Int32) : Nat → Int32 := fun j => if j < n then vp_nar .byte (f j) else g j
theorem rc_cp_0 (f g : Nat → Int32) : rc_cp 0 f g = g := by funext j; unfold rc_cp; rw [if_neg (by omega)]
theorem rc_cp_s (n : Nat) (f g : Nat → Int32) : upd (rc_cp n f g) n (vp_nar .byte (f n)) = rc_cp (n + 1) f g := by
  funext j
  unfold rc_cp
  rcases Nat.lt_trichotomy j n with h | h | h
  · rw [pk_un (by omega), if_pos h, if_pos (by omega)]
  · subst h; rw [pk_us, if_pos (by omega)]
  · rw [pk_un (by omega), if_neg (by omega), if_neg (by omega)]
theorem rc_cp_N {n j : Nat} (f g : Nat → Int32) (h : j < n) : rc_N (rc_cp n f g j) % 256 = rc_N (f j) % 256 := by
  unfold rc_cp; rw [if_pos h]; exact rc_N_nar _
theorem rc_cp_fit {n j : Nat} (f g : Nat → Int32) (h : j < n) : fits .byte (.int (rc_cp n f g j)) = true := by
  unfold rc_cp; rw [if_pos h]; exact pk_fb _
/-- the key's copy that the schedule reads: 4c bytes of the desk's key, copied twice -/
def rc_kk (c : Nat) (fk : Nat → Int32) : Nat → Int32 := va_cpy (rc_cp (4 * c) fk (fun _ => 0)) (fun _ => 0) 0 0 (4 * c)
/-- what a run lays into the desk's out -/
def rc_cry (lk : Bool) (c : Nat) (fk fb g : Nat → Int32) : Nat → Int32 := rc_out g (if lk then rc_enc (rc_key c (rc_kk c fk)) (rc_in fb) else rc_dec (rc_key c (rc_kk c fk)) (rc_in fb))
theorem rc_turn (lk : Bool) (c : Nat) (fk fb g g2 : Nat → Int32) {i : Nat} (hi : i < 16) : rc_cry (!lk) c fk (rc_cp 16 (rc_cry lk c fk fb g) fb) g2 i &&& 255 = fb i &&& 255 := by
  have e : rc_in (rc_cp 16 (rc_cry lk c fk fb g) fb) = if lk then rc_enc (rc_key c (rc_kk c fk)) (rc_in fb) else rc_dec (rc_key c (rc_kk c fk)) (rc_in fb) := by
    rw [rc_in_congr (fun j hj => rc_cp_N _ _ hj)]
    exact rc_in_out _ _
  unfold rc_cry at e ⊢
  rw [e]
  cases lk
  · simp only [Bool.not_false, if_true, Bool.false_eq_true, if_false]
    rw [rc_enc_dec]
    exact rc_out_in _ _ hi
  · simp only [Bool.not_true, if_true, Bool.false_eq_true, if_false]
    rw [rc_dec_enc]
    exact rc_out_in _ _ hi
-- the desk's big-endian words
def rc_wd (g : Nat → Int32) (o : Nat) (w : Int32) : Nat → Int32 := upd (upd (upd (upd g o (rc_b (w >>> ((24 : Int32) &&& 31)))) (o + 1) (rc_b (w >>> ((16 : Int32) &&& 31)))) (o + 2) (rc_b (w >>> ((8 : Int32) &&& 31)))) (o + 3) (rc_b w)
def rc_4 (g : Nat → Int32) (o : Nat) (a b c d : Int32) : Nat → Int32 := rc_wd (rc_wd (rc_wd (rc_wd g o a) (o + 4) b) (o + 8) c) (o + 12) d
/-- the byte i of a word, as the law reads it -/
def rc_ex (v : Int32) (i : Nat) : Int32 := (v.toUInt32 >>> ((nI (24 - 8 * (i % 4))).toUInt32 &&& Int32.toUInt32 31)).toInt32 &&& 255
theorem rc_sr (w : Int32) {n : Nat} (hn : n ≤ 24) : (w >>> (nI n &&& 31)) &&& 255 = (w.toUInt32 >>> ((nI n).toUInt32 &&& Int32.toUInt32 31)).toInt32 &&& 255 := b_ext fun i hi => by
  rw [b_and, b_and, b_255]
  rcases Nat.lt_or_ge i 8 with h | h
  · rw [b_sshr n (by omega) w hi, b_ushr n (by omega) w i, if_pos (by omega)]
  · rw [decide_eq_false (by omega)]; simp
theorem rc_wd_n (g : Nat → Int32) (w : Int32) {o j : Nat} (h : j < o ∨ o + 4 ≤ j) : rc_wd g o w j = g j := by
  unfold rc_wd; rw [pk_un (by omega), pk_un (by omega), pk_un (by omega), pk_un (by omega)]
theorem rc_wd_k (g : Nat → Int32) (w : Int32) (o : Nat) {k : Nat} (hk : k < 4) (ho : o % 4 = 0) : rc_wd g o w (o + k) &&& 255 = rc_ex w (o + k) := by
  unfold rc_wd rc_ex
  have h : k = 0 ∨ k = 1 ∨ k = 2 ∨ k = 3 := by omega
  rcases h with rfl | rfl | rfl | rfl
  · rw [pk_un (by omega), pk_un (by omega), pk_un (by omega), Nat.add_zero, pk_us, rc_b255, show 24 - 8 * (o % 4) = 24 by omega]
    exact rc_sr w (n := 24) (by omega)
  · rw [pk_un (by omega), pk_un (by omega), pk_us, rc_b255, show 24 - 8 * ((o + 1) % 4) = 16 by omega]
    exact rc_sr w (n := 16) (by omega)
  · rw [pk_un (by omega), pk_us, rc_b255, show 24 - 8 * ((o + 2) % 4) = 8 by omega]
    exact rc_sr w (n := 8) (by omega)
  · rw [pk_us, rc_b255, show 24 - 8 * ((o + 3) % 4) = 0 by omega]
    apply b_ext
    intro i hi
    rw [b_and, b_and, b_ushr 0 (by omega), Nat.zero_add]
theorem rc_4_i (g : Nat → Int32) (w : Nat → Int32) {i : Nat} (hi : i < 16) : rc_4 g 0 (w 0) (w 1) (w 2) (w 3) i &&& 255 = rc_ex (w (i / 4)) i := by
  unfold rc_4
  have h : i / 4 = 0 ∨ i / 4 = 1 ∨ i / 4 = 2 ∨ i / 4 = 3 := by omega
  rcases h with h | h | h | h
  · obtain ⟨k, hk, rfl⟩ : ∃ k, k < 4 ∧ i = 0 + k := ⟨i, by omega, by omega⟩
    rw [rc_wd_n _ _ (by omega), rc_wd_n _ _ (by omega), rc_wd_n _ _ (by omega), rc_wd_k _ _ _ hk (by omega), h]
  · obtain ⟨k, hk, rfl⟩ : ∃ k, k < 4 ∧ i = 0 + 4 + k := ⟨i - 4, by omega, by omega⟩
    rw [rc_wd_n _ _ (by omega), rc_wd_n _ _ (by omega), rc_wd_k _ _ _ hk (by omega), h]
  · obtain ⟨k, hk, rfl⟩ : ∃ k, k < 4 ∧ i = 0 + 8 + k := ⟨i - 8, by omega, by omega⟩
    rw [rc_wd_n _ _ (by omega), rc_wd_k _ _ _ hk (by omega), h]
  · obtain ⟨k, hk, rfl⟩ : ∃ k, k < 4 ∧ i = 0 + 12 + k := ⟨i - 12, by omega, by omega⟩
    rw [rc_wd_k _ _ _ hk (by omega), h]
end
section
/-! ===== the published answers, by evaluation in Nat ===== -/
/-- a number is computed before it is used -/
def rn_go {β : Type} (n : Nat) (k : Nat → β) : β := match n with
  | 0 => k 0
  | n + 1 => k (n + 1)
theorem rn_go_eq {β : Type} (n : Nat) (k : Nat → β) : rn_go n k = k n := by cases n <;> rfl
def rn_rotl (a b : Nat) : Nat := (a * 2 ^ (b % 32) % 4294967296) ||| (a / 2 ^ ((32 - b % 32) % 32))
theorem rn_rotl_N (x y : Int32) : rc_N (rc_rotl x y) = rn_rotl (rc_N x) (rc_N y) := by
  unfold rc_rotl rn_rotl
  rw [rc_N_or]
  have h1 : rc_N (x <<< (y &&& 31)) = rc_N x * 2 ^ (rc_N y % 32) % 4294967296 := pk_shl x _ _ (rc_sl y)
  have h2 : rc_N ((x.toUInt32 >>> ((-y).toUInt32 &&& Int32.toUInt32 31)).toInt32) = rc_N x / 2 ^ ((32 - rc_N y % 32) % 32) := pk_ushr x _ _ (by rw [rc_su, rc_N_neg])
  rw [h1, h2]
def rn_R (n : Nat) (f : Nat → Int32) (l : List Nat) : Prop := l.length = n ∧ ∀ j, j < n → rc_N (f j) = l.getD j 0
theorem rn_R_set {n : Nat} {f : Nat → Int32} {l : List Nat} (h : rn_R n f l) {i : Nat} (hi : i < n) {x : Int32} {a : Nat} (hx : rc_N x = a) : rn_R n (upd f i x) (l.set i a) := by
  refine ⟨by rw [List.length_set]; exact h.1, fun j hj => ?_⟩
  by_cases e : j = i
  · subst e
    rw [pk_us, List.getD_eq_getElem?_getD, List.getElem?_set_self (by rw [h.1]; exact hj)]
    exact hx
  · rw [pk_un e, List.getD_eq_getElem?_getD, List.getElem?_set_ne (Ne.symm e), ← List.getD_eq_getElem?_getD]
    exact h.2 j hj
abbrev rn_Z := List Nat × List Nat × Nat × Nat
def rn_ks (i j : Nat) (z : rn_Z) : rn_Z := match z with
  | (S, L, a, b) => rn_go (rn_rotl (((S.getD i 0 + a) % 4294967296 + b) % 4294967296) 3) fun a2 =>
      rn_go (rn_rotl (((L.getD j 0 + a2) % 4294967296 + b) % 4294967296) ((a2 + b) % 4294967296)) fun b2 => (S.set i a2, L.set j b2, a2, b2)
def rn_st (c : Nat) (S L : List Nat) : Nat → rn_Z
  | 0 => (S, L, 0, 0)
  | k + 1 => rn_ks (k % 44) (k % c) (rn_st c S L k)
def rn_s (n : Nat) : List Nat := (List.range n).map (fun j => (3084996963 + 2654435769 * j) % 4294967296)
theorem rc_p_N : ∀ j, rc_N (rc_p j) = (3084996963 + 2654435769 * j) % 4294967296
  | 0 => rfl
  | j + 1 => by
    show rc_N (rc_p j + (-1640531527)) = _
    rw [rc_N_add, rc_p_N j, show rc_N (-1640531527) = 2654435769 from rfl]
    omega
theorem rn_s_R : rn_R 44 (rc_s0 44) (rn_s 44) := by
  refine ⟨by unfold rn_s; rw [List.length_map, List.length_range], fun j hj => ?_⟩
  unfold rn_s rc_s0
  rw [if_pos hj, rc_p_N, List.getD_eq_getElem?_getD, List.getElem?_map, List.getElem?_range hj]
  rfl
def rn_ZR (c : Nat) (z : rc_Z) (w : rn_Z) : Prop := rn_R 44 z.1 w.1 ∧ rn_R c z.2.1 w.2.1 ∧ rc_N z.2.2.1 = w.2.2.1 ∧ rc_N z.2.2.2 = w.2.2.2
theorem rn_ks_R {c : Nat} {z : rc_Z} {w : rn_Z} (h : rn_ZR c z w) {i j : Nat} (hi : i < 44) (hj : j < c) : rn_ZR c (rc_ks i j z) (rn_ks i j w) := by
  obtain ⟨S, L, A, B⟩ := z
  obtain ⟨S', L', a, b⟩ := w
  obtain ⟨h1, h2, h3, h4⟩ := h
  dsimp only at h1 h2 h3 h4
  have eA : rc_N (rc_kA i (S, L, A, B)) = rn_rotl (((S'.getD i 0 + a) % 4294967296 + b) % 4294967296) 3 := by
    unfold rc_kA
    dsimp only
    rw [rn_rotl_N, rc_N_add, rc_N_add, h1.2 i hi, h3, h4]
    rfl
  have eB : rc_N (rc_kB i j (S, L, A, B)) = rn_rotl (((L'.getD j 0 + rc_N (rc_kA i (S, L, A, B))) % 4294967296 + b) % 4294967296) ((rc_N (rc_kA i (S, L, A, B)) + b) % 4294967296) := by
    unfold rc_kB
    dsimp only
    rw [rn_rotl_N, rc_N_add, rc_N_add, rc_N_add, h2.2 j hj, h4]
  rw [eA] at eB
  unfold rn_ks
  dsimp only
  rw [rn_go_eq, rn_go_eq]
  exact ⟨rn_R_set h1 hi eA, rn_R_set h2 hj eB, eA, eB⟩
theorem rn_st_R {c : Nat} (hc : 0 < c) {L : Nat → Int32} {l : List Nat} (hL : rn_R c L l) : ∀ k, rn_ZR c (rc_st c L k) (rn_st c (rn_s 44) l k)
  | 0 => ⟨rn_s_R, hL, rfl, rfl⟩
  | k + 1 => rn_ks_R (rn_st_R hc hL k) (Nat.mod_lt _ (by omega)) (Nat.mod_lt _ hc)
abbrev rn_T := Nat × Nat × Nat × Nat
def rn_of (q : rc_Q) : rn_T := (rc_N q.1, rc_N q.2.1, rc_N q.2.2.1, rc_N q.2.2.2)
def rn_f (x : Nat) : Nat := rn_rotl (x * ((2 * x % 4294967296 + 1) % 4294967296) % 4294967296) 5
theorem rn_f_N (x : Int32) : rc_N (rc_f x) = rn_f (rc_N x) := by
  unfold rc_f rn_f
  rw [rn_rotl_N, rc_N_mul, rc_N_add, rc_N_mul]
  rfl
def rn_er (k0 k1 : Nat) (q : rn_T) : rn_T := match q with
  | (a, b, c, d) => rn_go (rn_f b) fun t => rn_go (rn_f d) fun u => rn_go ((rn_rotl (c ^^^ u) t + k1) % 4294967296) fun c2 => rn_go ((rn_rotl (a ^^^ t) u + k0) % 4294967296) fun a2 => (b, c2, d, a2)
theorem rn_er_N (k0 k1 : Int32) (q : rc_Q) : rn_of (rc_er k0 k1 q) = rn_er (rc_N k0) (rc_N k1) (rn_of q) := by
  obtain ⟨a, b, c, d⟩ := q
  unfold rn_er rn_of rc_er
  dsimp only
  rw [rn_go_eq, rn_go_eq, rn_go_eq, rn_go_eq, rc_N_add, rc_N_add, rn_rotl_N, rn_rotl_N, rc_N_xor, rc_N_xor, rn_f_N, rn_f_N]
def rn_en (S : List Nat) : Nat → rn_T → rn_T
  | 0, q => q
  | n + 1, q => rn_er (S.getD (2 * (n + 1)) 0) (S.getD (2 * (n + 1) + 1) 0) (rn_en S n q)
theorem rn_en_N {f : Nat → Int32} {S : List Nat} (h : rn_R 44 f S) (q : rc_Q) : ∀ n, n ≤ 20 → rn_of (rc_en f n q) = rn_en S n (rn_of q) := by
  intro n
  induction n with
  | zero => intro _; rfl
  | succ n ih =>
    intro hn
    show rn_of (rc_er _ _ (rc_en f n q)) = rn_er _ _ (rn_en S n (rn_of q))
    rw [rn_er_N, ih (by omega), h.2 _ (by omega), h.2 _ (by omega)]
def rn_enc (S : List Nat) (q : rn_T) : rn_T := match rn_en S 20 (q.1, (q.2.1 + S.getD 0 0) % 4294967296, q.2.2.1, (q.2.2.2 + S.getD 1 0) % 4294967296) with
  | (a, b, c, d) => ((a + S.getD 42 0) % 4294967296, b, (c + S.getD 43 0) % 4294967296, d)
theorem rn_enc_N {f : Nat → Int32} {S : List Nat} (h : rn_R 44 f S) (q : rc_Q) : rn_of (rc_enc f q) = rn_enc S (rn_of q) := by
  have h1 : rn_of (rc_pre f q) = ((rn_of q).1, ((rn_of q).2.1 + S.getD 0 0) % 4294967296, (rn_of q).2.2.1, ((rn_of q).2.2.2 + S.getD 1 0) % 4294967296) := by
    unfold rn_of rc_pre
    dsimp only
    rw [rc_N_add, rc_N_add, h.2 0 (by omega), h.2 1 (by omega)]
  unfold rn_enc rc_enc
  rw [← h1, ← rn_en_N h _ 20 (Nat.le_refl _)]
  generalize rc_en f 20 (rc_pre f q) = z
  obtain ⟨a, b, c, d⟩ := z
  unfold rn_of rc_pos
  dsimp only
  rw [rc_N_add, rc_N_add, h.2 42 (by omega), h.2 43 (by omega)]
-- everything is zero
theorem rn_z0 (k : Nat) : upd (fun _ => 0) k 0 = (fun _ => 0) := by
  funext j
  unfold upd
  split <;> rfl
theorem rn_z1 (o : Nat) : rc_wd (fun _ => 0) o 0 = (fun _ => 0) := by
  unfold rc_wd
  rw [show rc_b ((0 : Int32) >>> ((24 : Int32) &&& 31)) = 0 by decide, show rc_b ((0 : Int32) >>> ((16 : Int32) &&& 31)) = 0 by decide, show rc_b ((0 : Int32) >>> ((8 : Int32) &&& 31)) = 0 by decide, show rc_b 0 = 0 by decide, rn_z0, rn_z0, rn_z0, rn_z0]
theorem rn_z4 (o : Nat) : rc_4 (fun _ => 0) o 0 0 0 0 = (fun _ => 0) := by
  unfold rc_4
  rw [rn_z1, rn_z1, rn_z1, rn_z1]
theorem rn_zl : ∀ n, rc_l1 (fun _ => 0) n (fun _ => 0) = (fun _ => 0)
  | 0 => rfl
  | n + 1 => by
    show rc_l1 _ n (upd (fun _ => 0) (n / 4) (rc_sh 0 0)) = _
    rw [show rc_sh 0 0 = 0 by decide, rn_z0]
    exact rn_zl n
theorem rn_zk (c : Nat) : rc_kk c (fun _ => 0) = (fun _ => 0) := by
  funext j
  unfold rc_kk va_cpy rc_cp
  split
  · dsimp only
    split
    · decide
    · rfl
  · rfl
theorem rn_zin : rc_in (fun _ => 0) = (0, 0, 0, 0) := by
  have h : ∀ o, rc_w (fun _ => 0) o = 0 := fun o => by
    unfold rc_w
    rw [show rc_sh 0 0 = 0 by decide, show rc_sh 0 0 = 0 by decide, show rc_sh 0 0 = 0 by decide, show rc_sh 0 0 = 0 by decide]
  unfold rc_in
  rw [h, h, h, h]
theorem rn_zR (c : Nat) : rn_R c (fun _ => 0) (List.replicate c 0) := by
  refine ⟨List.length_replicate, fun j hj => ?_⟩
  rw [List.getD_eq_getElem?_getD, List.getElem?_replicate, if_pos hj]
  rfl
/-- the four words that come out, of the key of 4c zeros and the block of zeros -/
def rn_res (c : Nat) : rn_T := rn_enc (rn_st c (rn_s 44) (List.replicate c 0) 132).1 (0, 0, 0, 0)
theorem rn_res_N {c : Nat} (hc : 0 < c) : rn_of (rc_enc (rc_key c (rc_kk c (fun _ => 0))) (rc_in (fun _ => 0))) = rn_res c := by
  rw [rn_zk, rn_zin]
  unfold rc_key
  rw [rn_zl]
  exact rn_enc_N (rn_st_R hc (rn_zR c) 132).1 (0, 0, 0, 0)
def rn_sel (q : rn_T) (n : Nat) : Nat := if n = 0 then q.1 else if n = 1 then q.2.1 else if n = 2 then q.2.2.1 else q.2.2.2
theorem rn_sel_N (q : rc_Q) (n : Nat) : rc_N (rc_sel q n) = rn_sel (rn_of q) n := by
  unfold rc_sel rn_sel rn_of
  split
  · rfl
  · split
    · rfl
    · split
      · rfl
      · rfl
/-- an array that is filled with the numbers of a list, from its start -/
def rc_fill (l : List Nat) (k : Nat) : Nat → Int32 := fun j => if j < k then nI (l.getD j 0) else 0
theorem rc_fill_0 (l : List Nat) : (fun _ => 0) = rc_fill l 0 := by funext j; unfold rc_fill; rw [if_neg (by omega)]
theorem rc_fill_s (l : List Nat) (k : Nat) {x : Int32} (hx : x = nI (l.getD k 0)) : upd (rc_fill l k) k x = rc_fill l (k + 1) := by
  funext j
  unfold rc_fill
  rcases Nat.lt_trichotomy j k with h | h | h
  · rw [pk_un (by omega), if_pos h, if_pos (by omega)]
  · subst h; rw [pk_us, if_pos (by omega)]; exact hx
  · rw [pk_un (by omega), if_neg (by omega), if_neg (by omega)]
def rc_l16 : List Nat := [143, 195, 165, 54, 86, 177, 247, 120, 193, 41, 223, 78, 152, 72, 164, 30]
def rc_l24 : List Nat := [108, 214, 27, 203, 25, 11, 48, 56, 78, 138, 63, 22, 134, 144, 174, 130]
def rc_l32 : List Nat := [143, 95, 189, 5, 16, 209, 95, 168, 147, 250, 63, 218, 110, 133, 126, 194]
theorem rn_res_4 : rn_res 4 = (916833167, 2029498710, 1323248065, 514082968) := by decide +kernel
theorem rn_res_6 : rn_res 6 = (3407599212, 942672665, 373262926, 2192478342) := by decide +kernel
theorem rn_res_8 : rn_res 8 = (96296847, 2824851728, 3661626003, 3263071598) := by decide +kernel
theorem rc_known {c : Nat} (hc : 0 < c) {r : rn_T} (hr : rn_res c = r) {l : List Nat} (hl : ∀ i, i < 16 → rn_sel r (i / 4) / 256 ^ (i % 4) % 256 = l.getD i 0) (g : Nat → Int32) {i : Nat} (hi : i < 16) : rc_cry true c (fun _ => 0) (fun _ => 0) g i &&& 255 = rc_fill l 16 i := by
  unfold rc_cry
  rw [rc_a255, if_pos rfl, rc_out_i _ _ hi, rn_sel_N, rn_res_N hc, hr, hl i hi]
  unfold rc_fill
  rw [if_pos hi]
theorem rc_known_16 (g : Nat → Int32) {i : Nat} (hi : i < 16) : rc_cry true 4 (fun _ => 0) (fun _ => 0) g i &&& 255 = rc_fill rc_l16 16 i := rc_known (by omega) rn_res_4 (by decide +kernel) g hi
theorem rc_known_24 (g : Nat → Int32) {i : Nat} (hi : i < 16) : rc_cry true 6 (fun _ => 0) (fun _ => 0) g i &&& 255 = rc_fill rc_l24 16 i := rc_known (by omega) rn_res_6 (by decide +kernel) g hi
theorem rc_known_32 (g : Nat → Int32) {i : Nat} (hi : i < 16) : rc_cry true 8 (fun _ => 0) (fun _ => 0) g i &&& 255 = rc_fill rc_l32 16 i := rc_known (by omega) rn_res_8 (by decide +kernel) g hi
end
section
/-! ===== the leaves: rotations, words from bytes and back, the block size ===== -/

set_option maxHeartbeats 4000000 in
set_option maxRecDepth 100000 in
/-- rotateLeft(x, y) -/
theorem met_X2_rotateLeft (l : Launch) (h0 : Nat) (x y : Int32) : Met l yX2_rotateLeft (ws_ yX2_rotateLeft cX2_rotateLeft 3 (some .int)) ({ frames := 0, cells := 0, slots := 0, locals := 0 }) (va_Pc [.ref h0, .int x, .int y] (fun _ => True)) (vp_Si (fun r => r = rc_rotl x y)) 0 0 (fun _ => False) := by
  refine Met.ofW (cc := cX2_rotateLeft) (maxL := 3) (ret := (some .int)) (by decide) rfl ?_
  intro p e s m args below meth c s₁ B hml hv
  obtain ⟨rfl, -⟩ := hv
  have hx := B.exec
  have hb := B.bytes
  have hr := B.returns
  have hts := atoms_spec (ws := ws_ yX2_rotateLeft cX2_rotateLeft 3 (some .int)) B.pre
  have hts : ∀ w ∈ lw_all, w.before _ s = true := fun w h => hts w (List.mem_cons_of_mem _ h)
  have hown : s.vm.findClass RX2 = some m.cls := findClass_of_methodNamed B.named
  have hlocks := B.notSynchronized
  have hl := lv_entry ([.ref h0, .int x, .int y]) (n := 3) (Nat.le_of_ble_eq_true rfl)
  rw [lg_entry_eq]
  generalize (lg_sl ([.ref h0, .int x, .int y]) ++ List.replicate (3 - (lg_sl ([.ref h0, .int x, .int y])).length) Slot.unset).toArray = ls at hl ⊢
  have hl : lv_has ls 3 [(0, .ref h0), (1, .int x), (2, .int y)] := hl
  refine lv_iload_n hx hb dX2_rotateLeft_0 rfl (lv_at hl 1 rfl) ?_
  refine lv_iload_n hx hb dX2_rotateLeft_1 rfl (lv_at hl 2 rfl) ?_
  refine lv_ishl hx hb dX2_rotateLeft_2 ?_
  refine lv_iload_n hx hb dX2_rotateLeft_3 rfl (lv_at hl 1 rfl) ?_
  refine lv_iload_n hx hb dX2_rotateLeft_4 rfl (lv_at hl 2 rfl) ?_
  refine lv_ineg hx hb dX2_rotateLeft_5 ?_
  refine lv_iushr (v := ((x).toUInt32 >>> (((-y) : Int32).toUInt32 &&& Int32.toUInt32 31)).toInt32) hx hb dX2_rotateLeft_6 rfl ?_
  refine lv_ior hx hb dX2_rotateLeft_7 ?_
  exact W.iret (v := rc_rotl x y) hx hb hr (fun t ht hW => ⟨_, rfl, rfl, ht⟩) (fun _ h => by cases h) dX2_rotateLeft_8

set_option maxHeartbeats 4000000 in
set_option maxRecDepth 100000 in
/-- rotateRight(x, y) -/
theorem met_X2_rotateRight (l : Launch) (h0 : Nat) (x y : Int32) : Met l yX2_rotateRight (ws_ yX2_rotateRight cX2_rotateRight 3 (some .int)) ({ frames := 0, cells := 0, slots := 0, locals := 0 }) (va_Pc [.ref h0, .int x, .int y] (fun _ => True)) (vp_Si (fun r => r = rc_rotr x y)) 0 0 (fun _ => False) := by
  refine Met.ofW (cc := cX2_rotateRight) (maxL := 3) (ret := (some .int)) (by decide) rfl ?_
  intro p e s m args below meth c s₁ B hml hv
  obtain ⟨rfl, -⟩ := hv
  have hx := B.exec
  have hb := B.bytes
  have hr := B.returns
  have hts := atoms_spec (ws := ws_ yX2_rotateRight cX2_rotateRight 3 (some .int)) B.pre
  have hts : ∀ w ∈ lw_all, w.before _ s = true := fun w h => hts w (List.mem_cons_of_mem _ h)
  have hown : s.vm.findClass RX2 = some m.cls := findClass_of_methodNamed B.named
  have hlocks := B.notSynchronized
  have hl := lv_entry ([.ref h0, .int x, .int y]) (n := 3) (Nat.le_of_ble_eq_true rfl)
  rw [lg_entry_eq]
  generalize (lg_sl ([.ref h0, .int x, .int y]) ++ List.replicate (3 - (lg_sl ([.ref h0, .int x, .int y])).length) Slot.unset).toArray = ls at hl ⊢
  have hl : lv_has ls 3 [(0, .ref h0), (1, .int x), (2, .int y)] := hl
  refine lv_iload_n hx hb dX2_rotateRight_0 rfl (lv_at hl 1 rfl) ?_
  refine lv_iload_n hx hb dX2_rotateRight_1 rfl (lv_at hl 2 rfl) ?_
  refine lv_iushr (v := ((x).toUInt32 >>> ((y : Int32).toUInt32 &&& Int32.toUInt32 31)).toInt32) hx hb dX2_rotateRight_2 rfl ?_
  refine lv_iload_n hx hb dX2_rotateRight_3 rfl (lv_at hl 1 rfl) ?_
  refine lv_iload_n hx hb dX2_rotateRight_4 rfl (lv_at hl 2 rfl) ?_
  refine lv_ineg hx hb dX2_rotateRight_5 ?_
  refine lv_ishl hx hb dX2_rotateRight_6 ?_
  refine lv_ior hx hb dX2_rotateRight_7 ?_
  exact W.iret (v := rc_rotr x y) hx hb hr (fun t ht hW => ⟨_, rfl, rfl, ht⟩) (fun _ h => by cases h) dX2_rotateRight_8

set_option maxHeartbeats 4000000 in
set_option maxRecDepth 100000 in
/-- getBlockSize() -/
theorem met_X2_getBlockSize (l : Launch) (h0 : Nat) : Met l yX2_getBlockSize (ws_ yX2_getBlockSize cX2_getBlockSize 1 (some .int)) ({ frames := 0, cells := 0, slots := 0, locals := 0 }) (va_Pc [.ref h0] (fun _ => True)) (vp_Si (fun r => r = 16)) 0 0 (fun _ => False) := by
  refine Met.ofW (cc := cX2_getBlockSize) (maxL := 1) (ret := (some .int)) (by decide) rfl ?_
  intro p e s m args below meth c s₁ B hml hv
  obtain ⟨rfl, -⟩ := hv
  have hx := B.exec
  have hb := B.bytes
  have hr := B.returns
  have hts := atoms_spec (ws := ws_ yX2_getBlockSize cX2_getBlockSize 1 (some .int)) B.pre
  have hts : ∀ w ∈ lw_all, w.before _ s = true := fun w h => hts w (List.mem_cons_of_mem _ h)
  have hown : s.vm.findClass RX2 = some m.cls := findClass_of_methodNamed B.named
  have hlocks := B.notSynchronized
  have hl := lv_entry ([.ref h0]) (n := 1) (Nat.le_of_ble_eq_true rfl)
  rw [lg_entry_eq]
  generalize (lg_sl ([.ref h0]) ++ List.replicate (1 - (lg_sl ([.ref h0])).length) Slot.unset).toArray = ls at hl ⊢
  have hl : lv_has ls 1 [(0, .ref h0)] := hl
  refine lv_bipush (v := 16) hx hb dX2_getBlockSize_0 (by decide) ?_
  exact W.iret (v := 16) hx hb hr (fun t ht hW => ⟨_, rfl, rfl, ht⟩) (fun _ h => by cases h) dX2_getBlockSize_2

set_option maxHeartbeats 4000000 in
set_option maxRecDepth 100000 in
/-- bytesToWord(src, off): four bytes, the last first -/
theorem met_X2_bytesToWord (l : Launch) (D : va_G) (cB cI : ClassId) (h0 a0 sz o n : Nat) (f : Nat → Int32) (ho : o + 4 ≤ n) (hn : n < 2147483648) : Met l yX2_bytesToWord (ws_ yX2_bytesToWord cX2_bytesToWord 5 (some .int)) ({ frames := 0, cells := 0, slots := 0, locals := 0 }) (va_Pc [.ref h0, .ref a0, .int (nI o)] (rc_Pre D cB cI sz [(a0, .inl (cB, n, .inl f))])) (vp_Si (fun r => r = rc_w f o)) 0 0 (fun _ => False) := by
  refine Met.ofW (cc := cX2_bytesToWord) (maxL := 5) (ret := (some .int)) (by decide) rfl ?_
  intro p e s m args below meth c s₁ B hml hv
  obtain ⟨rfl, hsz, hP, hK, hD0, hX⟩ := hv
  have hx := B.exec
  have hb := B.bytes
  have hr := B.returns
  have hts := atoms_spec (ws := ws_ yX2_bytesToWord cX2_bytesToWord 5 (some .int)) B.pre
  have hts : ∀ w ∈ lw_all, w.before _ s = true := fun w h => hts w (List.mem_cons_of_mem _ h)
  have hown : s.vm.findClass RX2 = some m.cls := findClass_of_methodNamed B.named
  have hlocks := B.notSynchronized
  subst hsz
  have hD := hD0
  have hS : va_S (fun _ => True) s.heap s.heap [] := va_S.rf
  have hP : va_P D vwCl [(a0, .inl (cB, n, .inl f))] s.heap := hP
  have hl := lv_entry ([.ref h0, .ref a0, .int (nI o)]) (n := 5) (Nat.le_of_ble_eq_true rfl)
  rw [lg_entry_eq]
  generalize (lg_sl ([.ref h0, .ref a0, .int (nI o)]) ++ List.replicate (5 - (lg_sl ([.ref h0, .ref a0, .int (nI o)])).length) Slot.unset).toArray = ls at hl ⊢
  have hl : lv_has ls 5 [(0, .ref h0), (1, .ref a0), (2, .int (nI o))] := hl
  refine lv_iconst (v := 0) hx hb dX2_bytesToWord_0 (by decide) ?_
  refine lv_istore_n (lv' := [(3, .int 0), (0, .ref h0), (1, .ref a0), (2, .int (nI o))]) hx hb dX2_bytesToWord_1 rfl hl (by decide) rfl (fun ls hl => ?_)
  refine lv_iconst (v := 3) hx hb dX2_bytesToWord_2 (by decide) ?_
  refine lv_istore (lv' := [(4, .int 3), (3, .int 0), (0, .ref h0), (1, .ref a0), (2, .int (nI o))]) hx hb dX2_bytesToWord_3 hl (by decide) rfl (fun ls hl => ?_)
  refine lv_iload hx hb dX2_bytesToWord_5 (lv_at hl 0 rfl) ?_
  refine lv_if_lt (tgt := 32) hx hb dX2_bytesToWord_7 (by decide) (fun c_ => absurd c_ (by decide)) (fun _ => ?_)
  refine lv_iload_n hx hb dX2_bytesToWord_10 rfl (lv_at hl 1 rfl) ?_
  refine lv_bipush (v := 8) hx hb dX2_bytesToWord_11 (by decide) ?_
  refine lv_ishl hx hb dX2_bytesToWord_13 ?_
  refine lv_aload_n hx hb dX2_bytesToWord_14 rfl (lv_at hl 3 rfl) ?_
  refine lv_iload hx hb dX2_bytesToWord_15 (lv_at hl 0 rfl) ?_
  refine lv_iload_n hx hb dX2_bytesToWord_17 rfl (lv_at hl 4 rfl) ?_
  refine lv_iadd hx hb dX2_bytesToWord_18 ?_
  refine rc_is (nI (3 + o)) (nI_add 3 o) ?_
  refine rc_ldb hx hb hK hP 0 0 rfl rfl (3 + o) rfl (by omega) (by omega) (f (3 + o)) rfl dX2_bytesToWord_19 ?_
  refine lv_sipush (v := 255) hx hb dX2_bytesToWord_20 (by decide) ?_
  refine lv_iand hx hb dX2_bytesToWord_23 ?_
  refine lv_iadd hx hb dX2_bytesToWord_24 ?_
  refine rc_is (rc_sh 0 (f (3 + o))) rfl ?_
  refine lv_istore_n (lv' := [(3, .int (rc_sh 0 (f (3 + o)))), (4, .int 3), (0, .ref h0), (1, .ref a0), (2, .int (nI o))]) hx hb dX2_bytesToWord_25 rfl hl (by decide) rfl (fun ls hl => ?_)
  refine lv_iinc (v := 2) (lv' := [(4, .int 2), (3, .int (rc_sh 0 (f (3 + o)))), (0, .ref h0), (1, .ref a0), (2, .int (nI o))]) hx hb dX2_bytesToWord_26 hl (k := 1) rfl (by decide) (by decide) rfl (fun ls hl => ?_)
  refine lv_goto (tgt := 5) hx hb dX2_bytesToWord_29 (by decide) ?_
  refine lv_iload hx hb dX2_bytesToWord_5 (lv_at hl 0 rfl) ?_
  refine lv_if_lt (tgt := 32) hx hb dX2_bytesToWord_7 (by decide) (fun c_ => absurd c_ (by decide)) (fun _ => ?_)
  refine lv_iload_n hx hb dX2_bytesToWord_10 rfl (lv_at hl 1 rfl) ?_
  refine lv_bipush (v := 8) hx hb dX2_bytesToWord_11 (by decide) ?_
  refine lv_ishl hx hb dX2_bytesToWord_13 ?_
  refine lv_aload_n hx hb dX2_bytesToWord_14 rfl (lv_at hl 3 rfl) ?_
  refine lv_iload hx hb dX2_bytesToWord_15 (lv_at hl 0 rfl) ?_
  refine lv_iload_n hx hb dX2_bytesToWord_17 rfl (lv_at hl 4 rfl) ?_
  refine lv_iadd hx hb dX2_bytesToWord_18 ?_
  refine rc_is (nI (2 + o)) (nI_add 2 o) ?_
  refine rc_ldb hx hb hK hP 0 0 rfl rfl (2 + o) rfl (by omega) (by omega) (f (2 + o)) rfl dX2_bytesToWord_19 ?_
  refine lv_sipush (v := 255) hx hb dX2_bytesToWord_20 (by decide) ?_
  refine lv_iand hx hb dX2_bytesToWord_23 ?_
  refine lv_iadd hx hb dX2_bytesToWord_24 ?_
  refine rc_is (rc_sh (rc_sh 0 (f (3 + o))) (f (2 + o))) rfl ?_
  refine lv_istore_n (lv' := [(3, .int (rc_sh (rc_sh 0 (f (3 + o))) (f (2 + o)))), (4, .int 2), (0, .ref h0), (1, .ref a0), (2, .int (nI o))]) hx hb dX2_bytesToWord_25 rfl hl (by decide) rfl (fun ls hl => ?_)
  refine lv_iinc (v := 1) (lv' := [(4, .int 1), (3, .int (rc_sh (rc_sh 0 (f (3 + o))) (f (2 + o)))), (0, .ref h0), (1, .ref a0), (2, .int (nI o))]) hx hb dX2_bytesToWord_26 hl (k := 1) rfl (by decide) (by decide) rfl (fun ls hl => ?_)
  refine lv_goto (tgt := 5) hx hb dX2_bytesToWord_29 (by decide) ?_
  refine lv_iload hx hb dX2_bytesToWord_5 (lv_at hl 0 rfl) ?_
  refine lv_if_lt (tgt := 32) hx hb dX2_bytesToWord_7 (by decide) (fun c_ => absurd c_ (by decide)) (fun _ => ?_)
  refine lv_iload_n hx hb dX2_bytesToWord_10 rfl (lv_at hl 1 rfl) ?_
  refine lv_bipush (v := 8) hx hb dX2_bytesToWord_11 (by decide) ?_
  refine lv_ishl hx hb dX2_bytesToWord_13 ?_
  refine lv_aload_n hx hb dX2_bytesToWord_14 rfl (lv_at hl 3 rfl) ?_
  refine lv_iload hx hb dX2_bytesToWord_15 (lv_at hl 0 rfl) ?_
  refine lv_iload_n hx hb dX2_bytesToWord_17 rfl (lv_at hl 4 rfl) ?_
  refine lv_iadd hx hb dX2_bytesToWord_18 ?_
  refine rc_is (nI (1 + o)) (nI_add 1 o) ?_
  refine rc_ldb hx hb hK hP 0 0 rfl rfl (1 + o) rfl (by omega) (by omega) (f (1 + o)) rfl dX2_bytesToWord_19 ?_
  refine lv_sipush (v := 255) hx hb dX2_bytesToWord_20 (by decide) ?_
  refine lv_iand hx hb dX2_bytesToWord_23 ?_
  refine lv_iadd hx hb dX2_bytesToWord_24 ?_
  refine rc_is (rc_sh (rc_sh (rc_sh 0 (f (3 + o))) (f (2 + o))) (f (1 + o))) rfl ?_
  refine lv_istore_n (lv' := [(3, .int (rc_sh (rc_sh (rc_sh 0 (f (3 + o))) (f (2 + o))) (f (1 + o)))), (4, .int 1), (0, .ref h0), (1, .ref a0), (2, .int (nI o))]) hx hb dX2_bytesToWord_25 rfl hl (by decide) rfl (fun ls hl => ?_)
  refine lv_iinc (v := 0) (lv' := [(4, .int 0), (3, .int (rc_sh (rc_sh (rc_sh 0 (f (3 + o))) (f (2 + o))) (f (1 + o)))), (0, .ref h0), (1, .ref a0), (2, .int (nI o))]) hx hb dX2_bytesToWord_26 hl (k := 1) rfl (by decide) (by decide) rfl (fun ls hl => ?_)
  refine lv_goto (tgt := 5) hx hb dX2_bytesToWord_29 (by decide) ?_
  refine lv_iload hx hb dX2_bytesToWord_5 (lv_at hl 0 rfl) ?_
  refine lv_if_lt (tgt := 32) hx hb dX2_bytesToWord_7 (by decide) (fun c_ => absurd c_ (by decide)) (fun _ => ?_)
  refine lv_iload_n hx hb dX2_bytesToWord_10 rfl (lv_at hl 1 rfl) ?_
  refine lv_bipush (v := 8) hx hb dX2_bytesToWord_11 (by decide) ?_
  refine lv_ishl hx hb dX2_bytesToWord_13 ?_
  refine lv_aload_n hx hb dX2_bytesToWord_14 rfl (lv_at hl 3 rfl) ?_
  refine lv_iload hx hb dX2_bytesToWord_15 (lv_at hl 0 rfl) ?_
  refine lv_iload_n hx hb dX2_bytesToWord_17 rfl (lv_at hl 4 rfl) ?_
  refine lv_iadd hx hb dX2_bytesToWord_18 ?_
  refine rc_is (nI (0 + o)) (nI_add 0 o) ?_
  refine rc_ldb hx hb hK hP 0 0 rfl rfl (0 + o) rfl (by omega) (by omega) (f (0 + o)) rfl dX2_bytesToWord_19 ?_
  refine lv_sipush (v := 255) hx hb dX2_bytesToWord_20 (by decide) ?_
  refine lv_iand hx hb dX2_bytesToWord_23 ?_
  refine lv_iadd hx hb dX2_bytesToWord_24 ?_
  refine rc_is (rc_sh (rc_sh (rc_sh (rc_sh 0 (f (3 + o))) (f (2 + o))) (f (1 + o))) (f (0 + o))) rfl ?_
  refine lv_istore_n (lv' := [(3, .int (rc_sh (rc_sh (rc_sh (rc_sh 0 (f (3 + o))) (f (2 + o))) (f (1 + o))) (f (0 + o)))), (4, .int 0), (0, .ref h0), (1, .ref a0), (2, .int (nI o))]) hx hb dX2_bytesToWord_25 rfl hl (by decide) rfl (fun ls hl => ?_)
  refine lv_iinc (v := (-1)) (lv' := [(4, .int (-1)), (3, .int (rc_sh (rc_sh (rc_sh (rc_sh 0 (f (3 + o))) (f (2 + o))) (f (1 + o))) (f (0 + o)))), (0, .ref h0), (1, .ref a0), (2, .int (nI o))]) hx hb dX2_bytesToWord_26 hl (k := 1) rfl (by decide) (by decide) rfl (fun ls hl => ?_)
  refine lv_goto (tgt := 5) hx hb dX2_bytesToWord_29 (by decide) ?_
  refine lv_iload hx hb dX2_bytesToWord_5 (lv_at hl 0 rfl) ?_
  refine lv_if_lt (tgt := 32) hx hb dX2_bytesToWord_7 (by decide) (fun _ => ?_) (fun c_ => absurd (by decide) c_)
  refine lv_iload_n hx hb dX2_bytesToWord_32 rfl (lv_at hl 1 rfl) ?_
  exact W.iret (v := rc_w f o) hx hb hr (fun t ht hW => ⟨_, rfl, rfl, ht⟩) (fun _ h => by cases h) dX2_bytesToWord_33

set_option maxHeartbeats 4000000 in
set_option maxRecDepth 100000 in
/-- wordToBytes(w, dst, off) -/
theorem met_X2_wordToBytes (l : Launch) (D : va_G) (cB cI : ClassId) (h0 a0 sz o n : Nat) (x : Int32) (g : Nat → Int32) (ho : o + 4 ≤ n) (hn : n < 2147483648) : Met l yX2_wordToBytes (ws_ yX2_wordToBytes cX2_wordToBytes 5 none) ({ frames := 0, cells := 0, slots := 0, locals := 0 }) (va_Pc [.ref h0, .int x, .ref a0, .int (nI o)] (rc_Pre D cB cI sz [(a0, .inl (cB, n, .inl g))])) (va_Qv (fun _ : Unit => True) (fun _ t => rc_B D cB cI (va_A [(a0, .inl (cB, n, .inl g))] sz) [(a0, .inl (cB, n, .inl (rc_put g x o)))] t) (va_A [(a0, .inl (cB, n, .inl g))] sz)) 0 0 (va_A [(a0, .inl (cB, n, .inl g))] sz) := by
  refine Met.ofW (cc := cX2_wordToBytes) (maxL := 5) (ret := none) (by decide) rfl ?_
  intro p e s m args below meth c s₁ B hml hv
  obtain ⟨rfl, hsz, hP, hK, hD0, hX⟩ := hv
  have hx := B.exec
  have hb := B.bytes
  have hr := B.returns
  have hts := atoms_spec (ws := ws_ yX2_wordToBytes cX2_wordToBytes 5 none) B.pre
  have hts : ∀ w ∈ lw_all, w.before _ s = true := fun w h => hts w (List.mem_cons_of_mem _ h)
  have hown : s.vm.findClass RX2 = some m.cls := findClass_of_methodNamed B.named
  have hlocks := B.notSynchronized
  subst hsz
  have hD := hD0.self (sz := s.heap.size)
  generalize hAe : va_A [(a0, .inl (cB, n, .inl g))] s.heap.size = A at hD ⊢
  have hA : ∀ q : Nat, s.heap.size ≤ q → A q := fun q h => by rw [← hAe]; exact Or.inr h
  have hS : va_S A s.heap s.heap [] := va_S.rf
  have hP : va_P D vwCl [(a0, .inl (cB, n, .inl g))] s.heap := hP
  have hl := lv_entry ([.ref h0, .int x, .ref a0, .int (nI o)]) (n := 5) (Nat.le_of_ble_eq_true rfl)
  rw [lg_entry_eq]
  generalize (lg_sl ([.ref h0, .int x, .ref a0, .int (nI o)]) ++ List.replicate (5 - (lg_sl ([.ref h0, .int x, .ref a0, .int (nI o)])).length) Slot.unset).toArray = ls at hl ⊢
  have hl : lv_has ls 5 [(0, .ref h0), (1, .int x), (2, .ref a0), (3, .int (nI o))] := hl
  refine lv_iconst (v := 0) hx hb dX2_wordToBytes_0 (by decide) ?_
  refine lv_istore (lv' := [(4, .int 0), (0, .ref h0), (1, .int x), (2, .ref a0), (3, .int (nI o))]) hx hb dX2_wordToBytes_1 hl (by decide) rfl (fun ls hl => ?_)
  refine lv_iload hx hb dX2_wordToBytes_3 (lv_at hl 0 rfl) ?_
  refine lv_iconst (v := 4) hx hb dX2_wordToBytes_5 (by decide) ?_
  refine lv_icmp_ge (tgt := 28) hx hb dX2_wordToBytes_6 (by decide) (fun c_ => absurd c_ (by decide)) (fun _ => ?_)
  refine lv_aload_n hx hb dX2_wordToBytes_9 rfl (lv_at hl 3 rfl) ?_
  refine lv_iload hx hb dX2_wordToBytes_10 (lv_at hl 0 rfl) ?_
  refine lv_iload_n hx hb dX2_wordToBytes_12 rfl (lv_at hl 4 rfl) ?_
  refine lv_iadd hx hb dX2_wordToBytes_13 ?_
  refine rc_is (nI (0 + o)) (nI_add 0 o) ?_
  refine lv_iload_n hx hb dX2_wordToBytes_14 rfl (lv_at hl 2 rfl) ?_
  refine lv_i2b (v := rc_b x) hx hb dX2_wordToBytes_15 rfl ?_
  refine rc_stb hx hb hK hP hD hS 0 0 rfl rfl (0 + o) rfl (by omega) (by omega) (upd g (0 + o) (rc_b x)) (by rw [rc_nar]) [(a0, .inl (cB, n, .inl (upd g (0 + o) (rc_b x))))] rfl dX2_wordToBytes_16 (fun H locs hP hD hS => ?_)
  refine lv_iload_n hx hb dX2_wordToBytes_17 rfl (lv_at hl 2 rfl) ?_
  refine lv_bipush (v := 8) hx hb dX2_wordToBytes_18 (by decide) ?_
  refine lv_iushr (v := rc_u8 x) hx hb dX2_wordToBytes_20 rfl ?_
  refine lv_istore_n (lv' := [(1, .int (rc_u8 x)), (4, .int 0), (0, .ref h0), (2, .ref a0), (3, .int (nI o))]) hx hb dX2_wordToBytes_21 rfl hl (by decide) rfl (fun ls hl => ?_)
  refine lv_iinc (v := 1) (lv' := [(4, .int 1), (1, .int (rc_u8 x)), (0, .ref h0), (2, .ref a0), (3, .int (nI o))]) hx hb dX2_wordToBytes_22 hl (k := 1) rfl (by decide) (by decide) rfl (fun ls hl => ?_)
  refine lv_goto (tgt := 3) hx hb dX2_wordToBytes_25 (by decide) ?_
  refine lv_iload hx hb dX2_wordToBytes_3 (lv_at hl 0 rfl) ?_
  refine lv_iconst (v := 4) hx hb dX2_wordToBytes_5 (by decide) ?_
  refine lv_icmp_ge (tgt := 28) hx hb dX2_wordToBytes_6 (by decide) (fun c_ => absurd c_ (by decide)) (fun _ => ?_)
  refine lv_aload_n hx hb dX2_wordToBytes_9 rfl (lv_at hl 3 rfl) ?_
  refine lv_iload hx hb dX2_wordToBytes_10 (lv_at hl 0 rfl) ?_
  refine lv_iload_n hx hb dX2_wordToBytes_12 rfl (lv_at hl 4 rfl) ?_
  refine lv_iadd hx hb dX2_wordToBytes_13 ?_
  refine rc_is (nI (1 + o)) (nI_add 1 o) ?_
  refine lv_iload_n hx hb dX2_wordToBytes_14 rfl (lv_at hl 1 rfl) ?_
  refine lv_i2b (v := rc_b (rc_u8 x)) hx hb dX2_wordToBytes_15 rfl ?_
  refine rc_stb hx hb hK hP hD hS 0 0 rfl rfl (1 + o) rfl (by omega) (by omega) (upd (upd g (0 + o) (rc_b x)) (1 + o) (rc_b (rc_u8 x))) (by rw [rc_nar]) [(a0, .inl (cB, n, .inl (upd (upd g (0 + o) (rc_b x)) (1 + o) (rc_b (rc_u8 x)))))] rfl dX2_wordToBytes_16 (fun H locs hP hD hS => ?_)
  refine lv_iload_n hx hb dX2_wordToBytes_17 rfl (lv_at hl 1 rfl) ?_
  refine lv_bipush (v := 8) hx hb dX2_wordToBytes_18 (by decide) ?_
  refine lv_iushr (v := rc_u8 (rc_u8 x)) hx hb dX2_wordToBytes_20 rfl ?_
  refine lv_istore_n (lv' := [(1, .int (rc_u8 (rc_u8 x))), (4, .int 1), (0, .ref h0), (2, .ref a0), (3, .int (nI o))]) hx hb dX2_wordToBytes_21 rfl hl (by decide) rfl (fun ls hl => ?_)
  refine lv_iinc (v := 2) (lv' := [(4, .int 2), (1, .int (rc_u8 (rc_u8 x))), (0, .ref h0), (2, .ref a0), (3, .int (nI o))]) hx hb dX2_wordToBytes_22 hl (k := 1) rfl (by decide) (by decide) rfl (fun ls hl => ?_)
  refine lv_goto (tgt := 3) hx hb dX2_wordToBytes_25 (by decide) ?_
  refine lv_iload hx hb dX2_wordToBytes_3 (lv_at hl 0 rfl) ?_
  refine lv_iconst (v := 4) hx hb dX2_wordToBytes_5 (by decide) ?_
  refine lv_icmp_ge (tgt := 28) hx hb dX2_wordToBytes_6 (by decide) (fun c_ => absurd c_ (by decide)) (fun _ => ?_)
  refine lv_aload_n hx hb dX2_wordToBytes_9 rfl (lv_at hl 3 rfl) ?_
  refine lv_iload hx hb dX2_wordToBytes_10 (lv_at hl 0 rfl) ?_
  refine lv_iload_n hx hb dX2_wordToBytes_12 rfl (lv_at hl 4 rfl) ?_
  refine lv_iadd hx hb dX2_wordToBytes_13 ?_
  refine rc_is (nI (2 + o)) (nI_add 2 o) ?_
  refine lv_iload_n hx hb dX2_wordToBytes_14 rfl (lv_at hl 1 rfl) ?_
  refine lv_i2b (v := rc_b (rc_u8 (rc_u8 x))) hx hb dX2_wordToBytes_15 rfl ?_
  refine rc_stb hx hb hK hP hD hS 0 0 rfl rfl (2 + o) rfl (by omega) (by omega) (upd (upd (upd g (0 + o) (rc_b x)) (1 + o) (rc_b (rc_u8 x))) (2 + o) (rc_b (rc_u8 (rc_u8 x)))) (by rw [rc_nar]) [(a0, .inl (cB, n, .inl (upd (upd (upd g (0 + o) (rc_b x)) (1 + o) (rc_b (rc_u8 x))) (2 + o) (rc_b (rc_u8 (rc_u8 x))))))] rfl dX2_wordToBytes_16 (fun H locs hP hD hS => ?_)
  refine lv_iload_n hx hb dX2_wordToBytes_17 rfl (lv_at hl 1 rfl) ?_
  refine lv_bipush (v := 8) hx hb dX2_wordToBytes_18 (by decide) ?_
  refine lv_iushr (v := rc_u8 (rc_u8 (rc_u8 x))) hx hb dX2_wordToBytes_20 rfl ?_
  refine lv_istore_n (lv' := [(1, .int (rc_u8 (rc_u8 (rc_u8 x)))), (4, .int 2), (0, .ref h0), (2, .ref a0), (3, .int (nI o))]) hx hb dX2_wordToBytes_21 rfl hl (by decide) rfl (fun ls hl => ?_)
  refine lv_iinc (v := 3) (lv' := [(4, .int 3), (1, .int (rc_u8 (rc_u8 (rc_u8 x)))), (0, .ref h0), (2, .ref a0), (3, .int (nI o))]) hx hb dX2_wordToBytes_22 hl (k := 1) rfl (by decide) (by decide) rfl (fun ls hl => ?_)
  refine lv_goto (tgt := 3) hx hb dX2_wordToBytes_25 (by decide) ?_
  refine lv_iload hx hb dX2_wordToBytes_3 (lv_at hl 0 rfl) ?_
  refine lv_iconst (v := 4) hx hb dX2_wordToBytes_5 (by decide) ?_
  refine lv_icmp_ge (tgt := 28) hx hb dX2_wordToBytes_6 (by decide) (fun c_ => absurd c_ (by decide)) (fun _ => ?_)
  refine lv_aload_n hx hb dX2_wordToBytes_9 rfl (lv_at hl 3 rfl) ?_
  refine lv_iload hx hb dX2_wordToBytes_10 (lv_at hl 0 rfl) ?_
  refine lv_iload_n hx hb dX2_wordToBytes_12 rfl (lv_at hl 4 rfl) ?_
  refine lv_iadd hx hb dX2_wordToBytes_13 ?_
  refine rc_is (nI (3 + o)) (nI_add 3 o) ?_
  refine lv_iload_n hx hb dX2_wordToBytes_14 rfl (lv_at hl 1 rfl) ?_
  refine lv_i2b (v := rc_b (rc_u8 (rc_u8 (rc_u8 x)))) hx hb dX2_wordToBytes_15 rfl ?_
  refine rc_stb hx hb hK hP hD hS 0 0 rfl rfl (3 + o) rfl (by omega) (by omega) (upd (upd (upd (upd g (0 + o) (rc_b x)) (1 + o) (rc_b (rc_u8 x))) (2 + o) (rc_b (rc_u8 (rc_u8 x)))) (3 + o) (rc_b (rc_u8 (rc_u8 (rc_u8 x))))) (by rw [rc_nar]) [(a0, .inl (cB, n, .inl (upd (upd (upd (upd g (0 + o) (rc_b x)) (1 + o) (rc_b (rc_u8 x))) (2 + o) (rc_b (rc_u8 (rc_u8 x)))) (3 + o) (rc_b (rc_u8 (rc_u8 (rc_u8 x)))))))] rfl dX2_wordToBytes_16 (fun H locs hP hD hS => ?_)
  refine lv_iload_n hx hb dX2_wordToBytes_17 rfl (lv_at hl 1 rfl) ?_
  refine lv_bipush (v := 8) hx hb dX2_wordToBytes_18 (by decide) ?_
  refine lv_iushr (v := rc_u8 (rc_u8 (rc_u8 (rc_u8 x)))) hx hb dX2_wordToBytes_20 rfl ?_
  refine lv_istore_n (lv' := [(1, .int (rc_u8 (rc_u8 (rc_u8 (rc_u8 x))))), (4, .int 3), (0, .ref h0), (2, .ref a0), (3, .int (nI o))]) hx hb dX2_wordToBytes_21 rfl hl (by decide) rfl (fun ls hl => ?_)
  refine lv_iinc (v := 4) (lv' := [(4, .int 4), (1, .int (rc_u8 (rc_u8 (rc_u8 (rc_u8 x))))), (0, .ref h0), (2, .ref a0), (3, .int (nI o))]) hx hb dX2_wordToBytes_22 hl (k := 1) rfl (by decide) (by decide) rfl (fun ls hl => ?_)
  refine lv_goto (tgt := 3) hx hb dX2_wordToBytes_25 (by decide) ?_
  refine lv_iload hx hb dX2_wordToBytes_3 (lv_at hl 0 rfl) ?_
  refine lv_iconst (v := 4) hx hb dX2_wordToBytes_5 (by decide) ?_
  refine lv_icmp_ge (tgt := 28) hx hb dX2_wordToBytes_6 (by decide) (fun _ => ?_) (fun c_ => absurd (by decide) c_)
  have hP9 := hP.sub (ws' := [(a0, .inl (cB, n, .inl (rc_put g x o)))]) [0] rfl
  have hD9 := hD.sub (ws' := [(a0, .inl (cB, n, .inl (rc_put g x o)))]) [0] (by decide) rfl
  exact W.vret hx hb hr (fun t ht hW => ⟨⟨(), rfl, trivial, by rw [ht]; exact hP9, va_K.moved hW.alike hK, hD9⟩, hS.F ht⟩) hS.2.2 dX2_wordToBytes_28
end
section
/-! ===== KeyParameter: a copy of the key ===== -/

set_option maxHeartbeats 4000000 in
set_option maxRecDepth 100000 in
/-- KeyParameter(int): an array of N bytes -/
theorem met_X3_init_3 (l : Launch) (D : va_G) (cB cI : ClassId) (h0 sz N : Nat) (hN : N ≤ 32) : Met l yX3_init_3 (ws_ yX3_init_3 cX3_init_3 2 none) ({ frames := 1, cells := 1, slots := 32, locals := 12 }) (va_Pc [.ref h0, .int (nI N)] (rc_Pre D cB cI sz [(h0, .inr (2, [.null]))])) (va_Qv (fun _ : Nat => True) (fun q t => rc_B D cB cI (va_A [(h0, .inr (2, [.null]))] sz) [(h0, .inr (2, [.ref q])), (q, .inl (cB, N, .inl (fun _ => 0)))] t) (va_A [(h0, .inr (2, [.null]))] sz)) 1 32 (va_A [(h0, .inr (2, [.null]))] sz) := by
  refine Met.ofW (cc := cX3_init_3) (maxL := 2) (ret := none) (by decide) rfl ?_
  intro p e s m args below meth c s₁ B hml hv
  obtain ⟨rfl, hsz, hP, hK, hD0, hX⟩ := hv
  have hx := B.exec
  have hb := B.bytes
  have hr := B.returns
  have hts := atoms_spec (ws := ws_ yX3_init_3 cX3_init_3 2 none) B.pre
  have hts : ∀ w ∈ lw_all, w.before _ s = true := fun w h => hts w (List.mem_cons_of_mem _ h)
  have hown : s.vm.findClass RX3 = some m.cls := findClass_of_methodNamed B.named
  have hlocks := B.notSynchronized
  have hin : meth.name = "<init>" := (name_of_methodNamed B.named B.method).1
  subst hsz
  have hD := hD0.self (sz := s.heap.size)
  generalize hAe : va_A [(h0, .inr (2, [.null]))] s.heap.size = A at hD ⊢
  have hA : ∀ q : Nat, s.heap.size ≤ q → A q := fun q h => by rw [← hAe]; exact Or.inr h
  have hS : va_S A s.heap s.heap [] := va_S.rf
  have hP : va_P D vwCl [(h0, .inr (2, [.null]))] s.heap := hP
  have hl := lv_entry ([.ref h0, .int (nI N)]) (n := 2) (Nat.le_of_ble_eq_true rfl)
  rw [lg_entry_eq]
  generalize (lg_sl ([.ref h0, .int (nI N)]) ++ List.replicate (2 - (lg_sl ([.ref h0, .int (nI N)])).length) Slot.unset).toArray = ls at hl ⊢
  have hl : lv_has ls 2 [(0, .ref h0), (1, .int (nI N))] := hl
  refine lv_aload_n hx hb dX3_init_3_0 rfl (lv_at hl 0 rfl) ?_
  refine W.objInit hx hb hown (hts _ q61) (hts _ q40) (hts _ q41) rfl (by rw [hml]; exact hl.1) rfl dX3_init_3_1 (Nat.le_of_ble_eq_true rfl) (Nat.le_of_ble_eq_true rfl) ?_
  refine W.eq (g2 := F0 m 4 ls []) rfl ?_
  refine lv_aload_n hx hb dX3_init_3_4 rfl (lv_at hl 0 rfl) ?_
  refine lv_iload_n hx hb dX3_init_3_5 rfl (lv_at hl 1 rfl) ?_
  refine rc_nwb hx hb (hts _ q49) hK hP hD hS hA N rfl (by omega) (Nat.le_of_ble_eq_true rfl) (by show 0 + N ≤ 32; omega) dX3_init_3_6 (fun q1 H hP hD hS => ?_)
  have hP : va_P D vwCl [(h0, .inr (2, [.null])), (q1, .inl (cB, N, .inl (fun _ => 0)))] H := hP
  have hD : va_D A [(h0, .inr (2, [.null])), (q1, .inl (cB, N, .inl (fun _ => 0)))] := hD
  refine va_put (D := D) (ci := 2) (v := .ref q1) (ty := .array .byte) (C := RX3) (T := TX3) (N := 1) hx hb hts in_X3 tyX3 tyX3_ok nmX3 hown hK hP hD hS 0 rfl rfl 0 (by decide) (hts _ q62) (fun _ h9 => h9) rfl (by decide +kernel) rfl rfl (Nat.le_of_ble_eq_true rfl) dX3_init_3_8 (fun H locs hP hD hS => ?_)
  have hP : va_P D vwCl [(h0, .inr (2, [.ref q1])), (q1, .inl (cB, N, .inl (fun _ => 0)))] H := hP
  have hD : va_D A [(h0, .inr (2, [.ref q1])), (q1, .inl (cB, N, .inl (fun _ => 0)))] := hD
  refine W.widen (k := 1) (n := 32) (by omega) (by omega) ?_
  have hP9 := hP.sub (ws' := [(h0, .inr (2, [.ref q1])), (q1, .inl (cB, N, .inl (fun _ => 0)))]) [0, 1] rfl
  have hD9 := hD.sub (ws' := [(h0, .inr (2, [.ref q1])), (q1, .inl (cB, N, .inl (fun _ => 0)))]) [0, 1] (by decide) rfl
  exact W.vret hx hb hr (fun t ht hW => ⟨⟨q1, rfl, trivial, by rw [ht]; exact hP9, va_K.moved hW.alike hK, hD9⟩, hS.F ht⟩) hS.2.2 dX3_init_3_11

set_option maxHeartbeats 4000000 in
set_option maxRecDepth 100000 in
/-- KeyParameter(byte[], 0, N) -/
theorem met_X3_init_2 (l : Launch) (D : va_G) (cB cI : ClassId) (h0 a0 sz N : Nat) (f : Nat → Int32) (hN : N ≤ 32) (hfit : ∀ i, i < N → fits .byte (.int (f i)) = true) : Met l yX3_init_2 (ws_ yX3_init_2 cX3_init_2 4 none) ({ frames := 2, cells := 1, slots := 32, locals := 60 }) (va_Pc [.ref h0, .ref a0, .int 0, .int (nI N)] (rc_Pre D cB cI sz [(h0, .inr (2, [.null])), (a0, .inl (cB, N, .inl f))])) (va_Qv (fun _ : Nat => True) (fun q t => rc_B D cB cI (va_A [(h0, .inr (2, [.null])), (a0, .inl (cB, N, .inl f))] sz) [(h0, .inr (2, [.ref q])), (q, .inl (cB, N, .inl (va_cpy f (fun _ => 0) 0 0 N))), (a0, .inl (cB, N, .inl f))] t) (va_A [(h0, .inr (2, [.null])), (a0, .inl (cB, N, .inl f))] sz)) 1 32 (va_A [(h0, .inr (2, [.null])), (a0, .inl (cB, N, .inl f))] sz) := by
  refine Met.ofW (cc := cX3_init_2) (maxL := 4) (ret := none) (by decide) rfl ?_
  intro p e s m args below meth c s₁ B hml hv
  obtain ⟨rfl, hsz, hP, hK, hD0, hX⟩ := hv
  have hx := B.exec
  have hb := B.bytes
  have hr := B.returns
  have hts := atoms_spec (ws := ws_ yX3_init_2 cX3_init_2 4 none) B.pre
  have hts : ∀ w ∈ lw_all, w.before _ s = true := fun w h => hts w (List.mem_cons_of_mem _ h)
  have hown : s.vm.findClass RX3 = some m.cls := findClass_of_methodNamed B.named
  have hlocks := B.notSynchronized
  have hin : meth.name = "<init>" := (name_of_methodNamed B.named B.method).1
  subst hsz
  have hD := hD0.self (sz := s.heap.size)
  generalize hAe : va_A [(h0, .inr (2, [.null])), (a0, .inl (cB, N, .inl f))] s.heap.size = A at hD ⊢
  have hA : ∀ q : Nat, s.heap.size ≤ q → A q := fun q h => by rw [← hAe]; exact Or.inr h
  have hS : va_S A s.heap s.heap [] := va_S.rf
  have hP : va_P D vwCl [(h0, .inr (2, [.null])), (a0, .inl (cB, N, .inl f))] s.heap := hP
  have hl := lv_entry ([.ref h0, .ref a0, .int 0, .int (nI N)]) (n := 4) (Nat.le_of_ble_eq_true rfl)
  rw [lg_entry_eq]
  generalize (lg_sl ([.ref h0, .ref a0, .int 0, .int (nI N)]) ++ List.replicate (4 - (lg_sl ([.ref h0, .ref a0, .int 0, .int (nI N)])).length) Slot.unset).toArray = ls at hl ⊢
  have hl : lv_has ls 4 [(0, .ref h0), (1, .ref a0), (2, .int 0), (3, .int (nI N))] := hl
  refine lv_aload_n hx hb dX3_init_2_0 rfl (lv_at hl 0 rfl) ?_
  refine lv_iload_n hx hb dX3_init_2_1 rfl (lv_at hl 3 rfl) ?_
  refine rc_cv (wr := [(a0, .inl (cB, N, .inl f))]) [0] [1] (va_runI (As := [.int (nI N)]) (rest := []) ⟨hx, hb, hml, hown, hts⟩ (met_X3_init_3 l D cB cI h0 s.heap.size N (by omega)) (cwI 1 hts (lw_meth q60) rfl rfl rfl (hts _ q12) (hts _ q58) (hts _ q59) rfl (by decide +kernel) ⟨Nat.le_of_ble_eq_true rfl, Nat.le_of_ble_eq_true rfl⟩) (rc_ps (hP.sub [0] rfl) hK (hD.sub [0] (by decide) rfl) hX) rfl rfl hl.1 rfl (lv_room (Nat.le_of_ble_eq_true rfl)) dX3_init_2_2 ⟨Nat.le_of_ble_eq_true rfl, Nat.le_of_ble_eq_true rfl⟩) hP hD hS hA rfl rfl (by decide) (by decide) (fun q1 H locs _hp hP hD hS => ?_)
  have hP : va_P D vwCl [(a0, .inl (cB, N, .inl f)), (h0, .inr (2, [.ref q1])), (q1, .inl (cB, N, .inl (fun _ => 0)))] H := hP
  have hD : va_D A [(a0, .inl (cB, N, .inl f)), (h0, .inr (2, [.ref q1])), (q1, .inl (cB, N, .inl (fun _ => 0)))] := hD
  refine lv_aload_n hx hb dX3_init_2_5 rfl (lv_at hl 1 rfl) ?_
  refine lv_iload_n hx hb dX3_init_2_6 rfl (lv_at hl 2 rfl) ?_
  refine lv_aload_n hx hb dX3_init_2_7 rfl (lv_at hl 0 rfl) ?_
  refine va_get (D := D) (ci := 2) (v := .ref q1) (C := RX3) (T := TX3) (N := 1) hx hb hts in_X3 hown hK hP 1 rfl rfl 0 (by decide) (hts _ q62) (fun _ h9 => h9) rfl dX3_init_2_8 ?_
  refine lv_iconst (v := 0) hx hb dX3_init_2_11 (by decide) ?_
  refine lv_iload_n hx hb dX3_init_2_12 rfl (lv_at hl 3 rfl) ?_
  refine va_copyi hx hb (hml.trans hl.1.symm) hown (hts _ q66) (hts _ q68) (hts _ q67) (hts _ q13) hK hP hD hS 0 2 0 0 rfl rfl rfl rfl rfl (by decide) (by decide) (nI_pos (show N < 2 ^ 31 by omega)) (by rw [sb_cl0, nI_clamp (show N < 2 ^ 31 by omega)]; omega) (by rw [sb_cl0, nI_clamp (show N < 2 ^ 31 by omega)]; omega) (fun i hi => by rw [nI_clamp (show N < 2 ^ 31 by omega)] at hi; rw [sb_cl0, Nat.zero_add]; exact hfit i hi) (Nat.le_of_ble_eq_true rfl) (Nat.le_of_ble_eq_true rfl) dX3_init_2_13 (fun H locs hP hD hS => ?_)
  rw [sb_cl0, nI_clamp (show N < 2 ^ 31 by omega)] at hP hD
  have hP : va_P D vwCl [(a0, .inl (cB, N, .inl f)), (h0, .inr (2, [.ref q1])), (q1, .inl (cB, N, .inl (va_cpy f (fun _ => 0) 0 0 N)))] H := hP
  have hD : va_D A [(a0, .inl (cB, N, .inl f)), (h0, .inr (2, [.ref q1])), (q1, .inl (cB, N, .inl (va_cpy f (fun _ => 0) 0 0 N)))] := hD
  have hP9 := hP.sub (ws' := [(h0, .inr (2, [.ref q1])), (q1, .inl (cB, N, .inl (va_cpy f (fun _ => 0) 0 0 N))), (a0, .inl (cB, N, .inl f))]) [1, 2, 0] rfl
  have hD9 := hD.sub (ws' := [(h0, .inr (2, [.ref q1])), (q1, .inl (cB, N, .inl (va_cpy f (fun _ => 0) 0 0 N))), (a0, .inl (cB, N, .inl f))]) [1, 2, 0] (by decide) rfl
  exact W.vret hx hb hr (fun t ht hW => ⟨⟨q1, rfl, trivial, by rw [ht]; exact hP9, va_K.moved hW.alike hK, hD9⟩, hS.F ht⟩) hS.2.2 dX3_init_2_16

set_option maxHeartbeats 4000000 in
set_option maxRecDepth 100000 in
/-- KeyParameter(byte[]) -/
theorem met_X3_init (l : Launch) (D : va_G) (cB cI : ClassId) (h0 a0 sz N : Nat) (f : Nat → Int32) (hN : N ≤ 32) (hfit : ∀ i, i < N → fits .byte (.int (f i)) = true) : Met l yX3_init (ws_ yX3_init cX3_init 2 none) ({ frames := 3, cells := 1, slots := 32, locals := 83 }) (va_Pc [.ref h0, .ref a0] (rc_Pre D cB cI sz [(h0, .inr (2, [.null])), (a0, .inl (cB, N, .inl f))])) (va_Qv (fun _ : Nat => True) (fun q t => rc_B D cB cI (va_A [(h0, .inr (2, [.null])), (a0, .inl (cB, N, .inl f))] sz) [(h0, .inr (2, [.ref q])), (q, .inl (cB, N, .inl (va_cpy f (fun _ => 0) 0 0 N))), (a0, .inl (cB, N, .inl f))] t) (va_A [(h0, .inr (2, [.null])), (a0, .inl (cB, N, .inl f))] sz)) 1 32 (va_A [(h0, .inr (2, [.null])), (a0, .inl (cB, N, .inl f))] sz) := by
  refine Met.ofW (cc := cX3_init) (maxL := 2) (ret := none) (by decide) rfl ?_
  intro p e s m args below meth c s₁ B hml hv
  obtain ⟨rfl, hsz, hP, hK, hD0, hX⟩ := hv
  have hx := B.exec
  have hb := B.bytes
  have hr := B.returns
  have hts := atoms_spec (ws := ws_ yX3_init cX3_init 2 none) B.pre
  have hts : ∀ w ∈ lw_all, w.before _ s = true := fun w h => hts w (List.mem_cons_of_mem _ h)
  have hown : s.vm.findClass RX3 = some m.cls := findClass_of_methodNamed B.named
  have hlocks := B.notSynchronized
  have hin : meth.name = "<init>" := (name_of_methodNamed B.named B.method).1
  subst hsz
  have hD := hD0.self (sz := s.heap.size)
  generalize hAe : va_A [(h0, .inr (2, [.null])), (a0, .inl (cB, N, .inl f))] s.heap.size = A at hD ⊢
  have hA : ∀ q : Nat, s.heap.size ≤ q → A q := fun q h => by rw [← hAe]; exact Or.inr h
  have hS : va_S A s.heap s.heap [] := va_S.rf
  have hP : va_P D vwCl [(h0, .inr (2, [.null])), (a0, .inl (cB, N, .inl f))] s.heap := hP
  have hl := lv_entry ([.ref h0, .ref a0]) (n := 2) (Nat.le_of_ble_eq_true rfl)
  rw [lg_entry_eq]
  generalize (lg_sl ([.ref h0, .ref a0]) ++ List.replicate (2 - (lg_sl ([.ref h0, .ref a0])).length) Slot.unset).toArray = ls at hl ⊢
  have hl : lv_has ls 2 [(0, .ref h0), (1, .ref a0)] := hl
  refine lv_aload_n hx hb dX3_init_0 rfl (lv_at hl 0 rfl) ?_
  refine lv_aload_n hx hb dX3_init_1 rfl (lv_at hl 1 rfl) ?_
  refine lv_iconst (v := 0) hx hb dX3_init_2 (by decide) ?_
  refine lv_aload_n hx hb dX3_init_3 rfl (lv_at hl 1 rfl) ?_
  refine va_alen (v := nI N) hx hb hK hP 1 0 rfl rfl rfl dX3_init_4 ?_
  refine rc_cv (wr := []) [0, 1] [] (va_runI (As := [.ref a0, .int 0, .int (nI N)]) (rest := []) ⟨hx, hb, hml, hown, hts⟩ (met_X3_init_2 l D cB cI h0 a0 s.heap.size N f (by omega) hfit) (cwI 3 hts (lw_meth q57) rfl rfl rfl (hts _ q12) (hts _ q55) (hts _ q56) rfl (by decide +kernel) ⟨Nat.le_of_ble_eq_true rfl, Nat.le_of_ble_eq_true rfl⟩) (rc_ps (hP.sub [0, 1] rfl) hK (hD.sub [0, 1] (by decide) rfl) hX) rfl rfl hl.1 rfl (lv_room (Nat.le_of_ble_eq_true rfl)) dX3_init_5 ⟨Nat.le_of_ble_eq_true rfl, Nat.le_of_ble_eq_true rfl⟩) hP hD hS hA rfl rfl (by decide) (by decide) (fun q1 H locs _hp hP hD hS => ?_)
  have hP : va_P D vwCl [(h0, .inr (2, [.ref q1])), (q1, .inl (cB, N, .inl (va_cpy f (fun _ => 0) 0 0 N))), (a0, .inl (cB, N, .inl f))] H := hP
  have hD : va_D A [(h0, .inr (2, [.ref q1])), (q1, .inl (cB, N, .inl (va_cpy f (fun _ => 0) 0 0 N))), (a0, .inl (cB, N, .inl f))] := hD
  have hP9 := hP.sub (ws' := [(h0, .inr (2, [.ref q1])), (q1, .inl (cB, N, .inl (va_cpy f (fun _ => 0) 0 0 N))), (a0, .inl (cB, N, .inl f))]) [0, 1, 2] rfl
  have hD9 := hD.sub (ws' := [(h0, .inr (2, [.ref q1])), (q1, .inl (cB, N, .inl (va_cpy f (fun _ => 0) 0 0 N))), (a0, .inl (cB, N, .inl f))]) [0, 1, 2] (by decide) rfl
  exact W.vret hx hb hr (fun t ht hW => ⟨⟨q1, rfl, trivial, by rw [ht]; exact hP9, va_K.moved hW.alike hK, hD9⟩, hS.F ht⟩) hS.2.2 dX3_init_8

set_option maxHeartbeats 4000000 in
set_option maxRecDepth 100000 in
/-- getKey() -/
theorem met_X3_getKey (l : Launch) (D : va_G) (cB cI : ClassId) (h0 a0 sz : Nat) : Met l yX3_getKey (ws_ yX3_getKey cX3_getKey 1 (some (.array .byte))) ({ frames := 0, cells := 0, slots := 0, locals := 0 }) (va_Pc [.ref h0] (rc_Pre D cB cI sz [(h0, .inr (2, [.ref a0]))])) (va_Sr (fun k => k = a0) (fun k => .ref k)) 0 0 (fun _ => False) := by
  refine Met.ofW (cc := cX3_getKey) (maxL := 1) (ret := (some (.array .byte))) (by decide) rfl ?_
  intro p e s m args below meth c s₁ B hml hv
  obtain ⟨rfl, hsz, hP, hK, hD0, hX⟩ := hv
  have hx := B.exec
  have hb := B.bytes
  have hr := B.returns
  have hts := atoms_spec (ws := ws_ yX3_getKey cX3_getKey 1 (some (.array .byte))) B.pre
  have hts : ∀ w ∈ lw_all, w.before _ s = true := fun w h => hts w (List.mem_cons_of_mem _ h)
  have hown : s.vm.findClass RX3 = some m.cls := findClass_of_methodNamed B.named
  have hlocks := B.notSynchronized
  subst hsz
  have hD := hD0
  have hS : va_S (fun _ => True) s.heap s.heap [] := va_S.rf
  have hP : va_P D vwCl [(h0, .inr (2, [.ref a0]))] s.heap := hP
  have hl := lv_entry ([.ref h0]) (n := 1) (Nat.le_of_ble_eq_true rfl)
  rw [lg_entry_eq]
  generalize (lg_sl ([.ref h0]) ++ List.replicate (1 - (lg_sl ([.ref h0])).length) Slot.unset).toArray = ls at hl ⊢
  have hl : lv_has ls 1 [(0, .ref h0)] := hl
  refine lv_aload_n hx hb dX3_getKey_0 rfl (lv_at hl 0 rfl) ?_
  refine va_get (D := D) (ci := 2) (v := .ref a0) (C := RX3) (T := TX3) (N := 1) hx hb hts in_X3 hown hK hP 0 rfl rfl 0 (by decide) (hts _ q62) (fun _ h9 => h9) rfl dX3_getKey_1 ?_
  exact W.aret (rt := .array .byte) hx hb hr (Or.inr ⟨_, rfl⟩) (Or.inr ⟨_, rfl⟩) (fun t ht hW => ⟨a0, rfl, rfl, ht⟩) (fun _ h => by cases h) dX3_getKey_4
end
section
/-! ===== RC6Engine: encryptBlock and decryptBlock ===== -/

set_option maxHeartbeats 4000000 in
set_option maxRecDepth 100000 in
/-- encryptBlock's loop: n rounds are done, r are left -/
theorem seg_enc {p : Program} {l : Launch} {e : Env} {s : State} {m : MethodId} {args : Array Value} {below : List Frame} {meth : Method} {c : Code} {Q : State → Prop} {D : va_G} {cB cI : ClassId} {H : Heap} {locs : List Loc} (h0 sA bi bo : Nat) (fe : Int32) (S f g : Nat → Int32) (q : rc_Q) (F : CallFix p m c cX2_encryptBlock 13 s args lw_all RX2) (hK : va_K D vwCl (rc_T cB cI) s) (hP : va_P D vwCl [(h0, .inr (1, [.ref sA, .int fe])), (sA, .inl (cI, 44, .inl S)), (bi, .inl (cB, 16, .inl f)), (bo, .inl (cB, 16, .inl g))] H) (kend : ∀ ls : Array Slot, lv_has ls 13 [(0, .ref h0), (3, .ref bo), (4, .int 0), (5, .int ((rc_en S 20 q).1)), (6, .int ((rc_en S 20 q).2.1)), (7, .int ((rc_en S 20 q).2.2.1)), (8, .int ((rc_en S 20 q).2.2.2))] → W p l e ({ frames := 1, cells := 0, slots := 0, locals := 24 }) s m args below meth c H locs 0 0 Q (F0 m 208 ls [])) : ∀ (r n : Nat), n + r = 20 → ∀ ls : Array Slot, lv_has ls 13 [(0, .ref h0), (3, .ref bo), (4, .int 0), (5, .int ((rc_en S n q).1)), (6, .int ((rc_en S n q).2.1)), (7, .int ((rc_en S n q).2.2.1)), (8, .int ((rc_en S n q).2.2.2)), (9, .int (nI (n + 1)))] → W p l e ({ frames := 1, cells := 0, slots := 0, locals := 24 }) s m args below meth c H locs 0 0 Q (F0 m 65 ls []) := by
  obtain ⟨hx, hb, hml, hown, hts⟩ := id F
  intro r
  induction r with
  | zero =>
    intro n hn ls hl
    obtain rfl : n = 20 := by omega
    refine lv_iload hx hb dX2_encryptBlock_65 (lv_at hl 7 rfl) ?_
    refine lv_bipush (v := 20) hx hb dX2_encryptBlock_67 (by decide) ?_
    refine lv_icmp_gt (tgt := 208) hx hb dX2_encryptBlock_69 (by decide) (fun _ => ?_) (fun c_ => absurd (by decide) c_)
    exact kend ls (lv_sub hl [0, 1, 2, 3, 4, 5, 6] rfl)
  | succ r ih =>
    intro n hn ls hl
    refine lv_iload hx hb dX2_encryptBlock_65 (lv_at hl 7 rfl) ?_
    refine lv_bipush (v := 20) hx hb dX2_encryptBlock_67 (by decide) ?_
    refine lv_icmp_gt (tgt := 208) hx hb dX2_encryptBlock_69 (by decide) (fun c_ => absurd c_ (nI_nlt (a := 20) (b := n + 1) (by omega) (by omega))) (fun _ => ?_)
    refine lv_iconst (v := 0) hx hb dX2_encryptBlock_72 (by decide) ?_
    refine lv_istore (lv' := [(10, .int 0), (0, .ref h0), (3, .ref bo), (4, .int 0), (5, .int ((rc_en S n q).1)), (6, .int ((rc_en S n q).2.1)), (7, .int ((rc_en S n q).2.2.1)), (8, .int ((rc_en S n q).2.2.2)), (9, .int (nI (n + 1)))]) hx hb dX2_encryptBlock_73 hl (by decide) rfl (fun ls hl => ?_)
    refine lv_iconst (v := 0) hx hb dX2_encryptBlock_75 (by decide) ?_
    refine lv_istore (lv' := [(11, .int 0), (10, .int 0), (0, .ref h0), (3, .ref bo), (4, .int 0), (5, .int ((rc_en S n q).1)), (6, .int ((rc_en S n q).2.1)), (7, .int ((rc_en S n q).2.2.1)), (8, .int ((rc_en S n q).2.2.2)), (9, .int (nI (n + 1)))]) hx hb dX2_encryptBlock_76 hl (by decide) rfl (fun ls hl => ?_)
    refine lv_iload hx hb dX2_encryptBlock_78 (lv_at hl 6 rfl) ?_
    refine lv_iconst (v := 2) hx hb dX2_encryptBlock_80 (by decide) ?_
    refine lv_iload hx hb dX2_encryptBlock_81 (lv_at hl 6 rfl) ?_
    refine lv_imul hx hb dX2_encryptBlock_83 ?_
    refine lv_iconst (v := 1) hx hb dX2_encryptBlock_84 (by decide) ?_
    refine lv_iadd hx hb dX2_encryptBlock_85 ?_
    refine lv_imul hx hb dX2_encryptBlock_86 ?_
    refine lv_istore (lv' := [(10, .int (((rc_en S n q).2.1) * ((2 * ((rc_en S n q).2.1)) + 1))), (11, .int 0), (0, .ref h0), (3, .ref bo), (4, .int 0), (5, .int ((rc_en S n q).1)), (6, .int ((rc_en S n q).2.1)), (7, .int ((rc_en S n q).2.2.1)), (8, .int ((rc_en S n q).2.2.2)), (9, .int (nI (n + 1)))]) hx hb dX2_encryptBlock_87 hl (by decide) rfl (fun ls hl => ?_)
    refine lv_aload_n hx hb dX2_encryptBlock_89 rfl (lv_at hl 2 rfl) ?_
    refine lv_iload hx hb dX2_encryptBlock_90 (lv_at hl 0 rfl) ?_
    refine lv_iconst (v := 5) hx hb dX2_encryptBlock_92 (by decide) ?_
    refine vp_callSi (W.runV (As := [.int (((rc_en S n q).2.1) * ((2 * ((rc_en S n q).2.1)) + 1)), .int 5]) (rest := []) ⟨hx, hb, hml, hown, hts⟩ (met_X2_rotateLeft l h0 (((rc_en S n q).2.1) * ((2 * ((rc_en S n q).2.1)) + 1)) 5) (cwV 2 hts (lw_V q158 q160 qs3 q11 q161) rfl rfl rfl (by decide +kernel) ⟨Nat.le_of_ble_eq_true rfl, Nat.le_of_ble_eq_true rfl⟩) (rc_pv0 (va_recv hK hP (ci := 1) (q0 := 0) rfl rfl)) rfl rfl hl.1 rfl (lv_room (Nat.le_of_ble_eq_true rfl)) dX2_encryptBlock_93 ⟨Nat.le_of_ble_eq_true rfl, Nat.le_of_ble_eq_true rfl⟩) (fun r_1 er_1 => ?_)
    have er_1 := er_1.symm
    subst er_1
    refine rc_is (rc_f (rc_en S n q).2.1) rfl ?_
    refine lv_istore (lv' := [(10, .int (rc_f (rc_en S n q).2.1)), (11, .int 0), (0, .ref h0), (3, .ref bo), (4, .int 0), (5, .int ((rc_en S n q).1)), (6, .int ((rc_en S n q).2.1)), (7, .int ((rc_en S n q).2.2.1)), (8, .int ((rc_en S n q).2.2.2)), (9, .int (nI (n + 1)))]) hx hb dX2_encryptBlock_96 hl (by decide) rfl (fun ls hl => ?_)
    refine lv_iload hx hb dX2_encryptBlock_98 (lv_at hl 8 rfl) ?_
    refine lv_iconst (v := 2) hx hb dX2_encryptBlock_100 (by decide) ?_
    refine lv_iload hx hb dX2_encryptBlock_101 (lv_at hl 8 rfl) ?_
    refine lv_imul hx hb dX2_encryptBlock_103 ?_
    refine lv_iconst (v := 1) hx hb dX2_encryptBlock_104 (by decide) ?_
    refine lv_iadd hx hb dX2_encryptBlock_105 ?_
    refine lv_imul hx hb dX2_encryptBlock_106 ?_
    refine lv_istore (lv' := [(11, .int (((rc_en S n q).2.2.2) * ((2 * ((rc_en S n q).2.2.2)) + 1))), (10, .int (rc_f (rc_en S n q).2.1)), (0, .ref h0), (3, .ref bo), (4, .int 0), (5, .int ((rc_en S n q).1)), (6, .int ((rc_en S n q).2.1)), (7, .int ((rc_en S n q).2.2.1)), (8, .int ((rc_en S n q).2.2.2)), (9, .int (nI (n + 1)))]) hx hb dX2_encryptBlock_107 hl (by decide) rfl (fun ls hl => ?_)
    refine lv_aload_n hx hb dX2_encryptBlock_109 rfl (lv_at hl 2 rfl) ?_
    refine lv_iload hx hb dX2_encryptBlock_110 (lv_at hl 0 rfl) ?_
    refine lv_iconst (v := 5) hx hb dX2_encryptBlock_112 (by decide) ?_
    refine vp_callSi (W.runV (As := [.int (((rc_en S n q).2.2.2) * ((2 * ((rc_en S n q).2.2.2)) + 1)), .int 5]) (rest := []) ⟨hx, hb, hml, hown, hts⟩ (met_X2_rotateLeft l h0 (((rc_en S n q).2.2.2) * ((2 * ((rc_en S n q).2.2.2)) + 1)) 5) (cwV 2 hts (lw_V q158 q160 qs3 q11 q161) rfl rfl rfl (by decide +kernel) ⟨Nat.le_of_ble_eq_true rfl, Nat.le_of_ble_eq_true rfl⟩) (rc_pv0 (va_recv hK hP (ci := 1) (q0 := 0) rfl rfl)) rfl rfl hl.1 rfl (lv_room (Nat.le_of_ble_eq_true rfl)) dX2_encryptBlock_113 ⟨Nat.le_of_ble_eq_true rfl, Nat.le_of_ble_eq_true rfl⟩) (fun r_2 er_2 => ?_)
    have er_2 := er_2.symm
    subst er_2
    refine rc_is (rc_f (rc_en S n q).2.2.2) rfl ?_
    refine lv_istore (lv' := [(11, .int (rc_f (rc_en S n q).2.2.2)), (10, .int (rc_f (rc_en S n q).2.1)), (0, .ref h0), (3, .ref bo), (4, .int 0), (5, .int ((rc_en S n q).1)), (6, .int ((rc_en S n q).2.1)), (7, .int ((rc_en S n q).2.2.1)), (8, .int ((rc_en S n q).2.2.2)), (9, .int (nI (n + 1)))]) hx hb dX2_encryptBlock_116 hl (by decide) rfl (fun ls hl => ?_)
    refine lv_iload hx hb dX2_encryptBlock_118 (lv_at hl 5 rfl) ?_
    refine lv_iload hx hb dX2_encryptBlock_120 (lv_at hl 1 rfl) ?_
    refine lv_ixor hx hb dX2_encryptBlock_122 ?_
    refine lv_istore (lv' := [(5, .int (((rc_en S n q).1) ^^^ (rc_f (rc_en S n q).2.1))), (11, .int (rc_f (rc_en S n q).2.2.2)), (10, .int (rc_f (rc_en S n q).2.1)), (0, .ref h0), (3, .ref bo), (4, .int 0), (6, .int ((rc_en S n q).2.1)), (7, .int ((rc_en S n q).2.2.1)), (8, .int ((rc_en S n q).2.2.2)), (9, .int (nI (n + 1)))]) hx hb dX2_encryptBlock_123 hl (by decide) rfl (fun ls hl => ?_)
    refine lv_aload_n hx hb dX2_encryptBlock_125 rfl (lv_at hl 3 rfl) ?_
    refine lv_iload hx hb dX2_encryptBlock_126 (lv_at hl 0 rfl) ?_
    refine lv_iload hx hb dX2_encryptBlock_128 (lv_at hl 1 rfl) ?_
    refine vp_callSi (W.runV (As := [.int (((rc_en S n q).1) ^^^ (rc_f (rc_en S n q).2.1)), .int (rc_f (rc_en S n q).2.2.2)]) (rest := []) ⟨hx, hb, hml, hown, hts⟩ (met_X2_rotateLeft l h0 (((rc_en S n q).1) ^^^ (rc_f (rc_en S n q).2.1)) (rc_f (rc_en S n q).2.2.2)) (cwV 2 hts (lw_V q158 q160 qs3 q11 q161) rfl rfl rfl (by decide +kernel) ⟨Nat.le_of_ble_eq_true rfl, Nat.le_of_ble_eq_true rfl⟩) (rc_pv0 (va_recv hK hP (ci := 1) (q0 := 0) rfl rfl)) rfl rfl hl.1 rfl (lv_room (Nat.le_of_ble_eq_true rfl)) dX2_encryptBlock_130 ⟨Nat.le_of_ble_eq_true rfl, Nat.le_of_ble_eq_true rfl⟩) (fun r_3 er_3 => ?_)
    have er_3 := er_3.symm
    subst er_3
    refine lv_istore (lv' := [(5, .int (rc_rotl (((rc_en S n q).1) ^^^ (rc_f (rc_en S n q).2.1)) (rc_f (rc_en S n q).2.2.2))), (11, .int (rc_f (rc_en S n q).2.2.2)), (10, .int (rc_f (rc_en S n q).2.1)), (0, .ref h0), (3, .ref bo), (4, .int 0), (6, .int ((rc_en S n q).2.1)), (7, .int ((rc_en S n q).2.2.1)), (8, .int ((rc_en S n q).2.2.2)), (9, .int (nI (n + 1)))]) hx hb dX2_encryptBlock_133 hl (by decide) rfl (fun ls hl => ?_)
    refine lv_iload hx hb dX2_encryptBlock_135 (lv_at hl 0 rfl) ?_
    refine lv_aload_n hx hb dX2_encryptBlock_137 rfl (lv_at hl 3 rfl) ?_
    refine va_get (D := D) (ci := 1) (v := .ref sA) (C := RX2) (T := TX2) (N := 2) hx hb hts in_X2 hown hK hP 0 rfl rfl 0 (by decide) (hts _ q42) (fun _ h9 => h9) rfl dX2_encryptBlock_138 ?_
    refine lv_iconst (v := 2) hx hb dX2_encryptBlock_141 (by decide) ?_
    refine lv_iload hx hb dX2_encryptBlock_142 (lv_at hl 9 rfl) ?_
    refine lv_imul hx hb dX2_encryptBlock_144 ?_
    refine rc_is (nI (2 * (n + 1))) (pk_mul 2 (n + 1)) ?_
    refine rc_ldi hx hb hK hP 1 1 rfl rfl (2 * (n + 1)) rfl (by omega) (by omega) (S (2 * (n + 1))) rfl dX2_encryptBlock_145 ?_
    refine lv_iadd hx hb dX2_encryptBlock_146 ?_
    refine lv_istore (lv' := [(5, .int ((rc_rotl (((rc_en S n q).1) ^^^ (rc_f (rc_en S n q).2.1)) (rc_f (rc_en S n q).2.2.2)) + (S (2 * (n + 1))))), (11, .int (rc_f (rc_en S n q).2.2.2)), (10, .int (rc_f (rc_en S n q).2.1)), (0, .ref h0), (3, .ref bo), (4, .int 0), (6, .int ((rc_en S n q).2.1)), (7, .int ((rc_en S n q).2.2.1)), (8, .int ((rc_en S n q).2.2.2)), (9, .int (nI (n + 1)))]) hx hb dX2_encryptBlock_147 hl (by decide) rfl (fun ls hl => ?_)
    refine lv_iload hx hb dX2_encryptBlock_149 (lv_at hl 7 rfl) ?_
    refine lv_iload hx hb dX2_encryptBlock_151 (lv_at hl 1 rfl) ?_
    refine lv_ixor hx hb dX2_encryptBlock_153 ?_
    refine lv_istore (lv' := [(7, .int (((rc_en S n q).2.2.1) ^^^ (rc_f (rc_en S n q).2.2.2))), (5, .int ((rc_rotl (((rc_en S n q).1) ^^^ (rc_f (rc_en S n q).2.1)) (rc_f (rc_en S n q).2.2.2)) + (S (2 * (n + 1))))), (11, .int (rc_f (rc_en S n q).2.2.2)), (10, .int (rc_f (rc_en S n q).2.1)), (0, .ref h0), (3, .ref bo), (4, .int 0), (6, .int ((rc_en S n q).2.1)), (8, .int ((rc_en S n q).2.2.2)), (9, .int (nI (n + 1)))]) hx hb dX2_encryptBlock_154 hl (by decide) rfl (fun ls hl => ?_)
    refine lv_aload_n hx hb dX2_encryptBlock_156 rfl (lv_at hl 4 rfl) ?_
    refine lv_iload hx hb dX2_encryptBlock_157 (lv_at hl 0 rfl) ?_
    refine lv_iload hx hb dX2_encryptBlock_159 (lv_at hl 3 rfl) ?_
    refine vp_callSi (W.runV (As := [.int (((rc_en S n q).2.2.1) ^^^ (rc_f (rc_en S n q).2.2.2)), .int (rc_f (rc_en S n q).2.1)]) (rest := []) ⟨hx, hb, hml, hown, hts⟩ (met_X2_rotateLeft l h0 (((rc_en S n q).2.2.1) ^^^ (rc_f (rc_en S n q).2.2.2)) (rc_f (rc_en S n q).2.1)) (cwV 2 hts (lw_V q158 q160 qs3 q11 q161) rfl rfl rfl (by decide +kernel) ⟨Nat.le_of_ble_eq_true rfl, Nat.le_of_ble_eq_true rfl⟩) (rc_pv0 (va_recv hK hP (ci := 1) (q0 := 0) rfl rfl)) rfl rfl hl.1 rfl (lv_room (Nat.le_of_ble_eq_true rfl)) dX2_encryptBlock_161 ⟨Nat.le_of_ble_eq_true rfl, Nat.le_of_ble_eq_true rfl⟩) (fun r_4 er_4 => ?_)
    have er_4 := er_4.symm
    subst er_4
    refine lv_istore (lv' := [(7, .int (rc_rotl (((rc_en S n q).2.2.1) ^^^ (rc_f (rc_en S n q).2.2.2)) (rc_f (rc_en S n q).2.1))), (5, .int ((rc_rotl (((rc_en S n q).1) ^^^ (rc_f (rc_en S n q).2.1)) (rc_f (rc_en S n q).2.2.2)) + (S (2 * (n + 1))))), (11, .int (rc_f (rc_en S n q).2.2.2)), (10, .int (rc_f (rc_en S n q).2.1)), (0, .ref h0), (3, .ref bo), (4, .int 0), (6, .int ((rc_en S n q).2.1)), (8, .int ((rc_en S n q).2.2.2)), (9, .int (nI (n + 1)))]) hx hb dX2_encryptBlock_164 hl (by decide) rfl (fun ls hl => ?_)
    refine lv_iload hx hb dX2_encryptBlock_166 (lv_at hl 0 rfl) ?_
    refine lv_aload_n hx hb dX2_encryptBlock_168 rfl (lv_at hl 4 rfl) ?_
    refine va_get (D := D) (ci := 1) (v := .ref sA) (C := RX2) (T := TX2) (N := 2) hx hb hts in_X2 hown hK hP 0 rfl rfl 0 (by decide) (hts _ q42) (fun _ h9 => h9) rfl dX2_encryptBlock_169 ?_
    refine lv_iconst (v := 2) hx hb dX2_encryptBlock_172 (by decide) ?_
    refine lv_iload hx hb dX2_encryptBlock_173 (lv_at hl 9 rfl) ?_
    refine lv_imul hx hb dX2_encryptBlock_175 ?_
    refine rc_is (nI (2 * (n + 1))) (pk_mul 2 (n + 1)) ?_
    refine lv_iconst (v := 1) hx hb dX2_encryptBlock_176 (by decide) ?_
    refine lv_iadd hx hb dX2_encryptBlock_177 ?_
    refine rc_is (nI (2 * (n + 1) + 1)) (nI_add (2 * (n + 1)) 1) ?_
    refine rc_ldi hx hb hK hP 1 1 rfl rfl (2 * (n + 1) + 1) rfl (by omega) (by omega) (S (2 * (n + 1) + 1)) rfl dX2_encryptBlock_178 ?_
    refine lv_iadd hx hb dX2_encryptBlock_179 ?_
    refine lv_istore (lv' := [(7, .int ((rc_rotl (((rc_en S n q).2.2.1) ^^^ (rc_f (rc_en S n q).2.2.2)) (rc_f (rc_en S n q).2.1)) + (S (2 * (n + 1) + 1)))), (5, .int ((rc_rotl (((rc_en S n q).1) ^^^ (rc_f (rc_en S n q).2.1)) (rc_f (rc_en S n q).2.2.2)) + (S (2 * (n + 1))))), (11, .int (rc_f (rc_en S n q).2.2.2)), (10, .int (rc_f (rc_en S n q).2.1)), (0, .ref h0), (3, .ref bo), (4, .int 0), (6, .int ((rc_en S n q).2.1)), (8, .int ((rc_en S n q).2.2.2)), (9, .int (nI (n + 1)))]) hx hb dX2_encryptBlock_180 hl (by decide) rfl (fun ls hl => ?_)
    refine lv_iload hx hb dX2_encryptBlock_182 (lv_at hl 1 rfl) ?_
    refine lv_istore (lv' := [(12, .int ((rc_rotl (((rc_en S n q).1) ^^^ (rc_f (rc_en S n q).2.1)) (rc_f (rc_en S n q).2.2.2)) + (S (2 * (n + 1))))), (7, .int ((rc_rotl (((rc_en S n q).2.2.1) ^^^ (rc_f (rc_en S n q).2.2.2)) (rc_f (rc_en S n q).2.1)) + (S (2 * (n + 1) + 1)))), (5, .int ((rc_rotl (((rc_en S n q).1) ^^^ (rc_f (rc_en S n q).2.1)) (rc_f (rc_en S n q).2.2.2)) + (S (2 * (n + 1))))), (11, .int (rc_f (rc_en S n q).2.2.2)), (10, .int (rc_f (rc_en S n q).2.1)), (0, .ref h0), (3, .ref bo), (4, .int 0), (6, .int ((rc_en S n q).2.1)), (8, .int ((rc_en S n q).2.2.2)), (9, .int (nI (n + 1)))]) hx hb dX2_encryptBlock_184 hl (by decide) rfl (fun ls hl => ?_)
    refine lv_iload hx hb dX2_encryptBlock_186 (lv_at hl 8 rfl) ?_
    refine lv_istore (lv' := [(5, .int ((rc_en S n q).2.1)), (12, .int ((rc_rotl (((rc_en S n q).1) ^^^ (rc_f (rc_en S n q).2.1)) (rc_f (rc_en S n q).2.2.2)) + (S (2 * (n + 1))))), (7, .int ((rc_rotl (((rc_en S n q).2.2.1) ^^^ (rc_f (rc_en S n q).2.2.2)) (rc_f (rc_en S n q).2.1)) + (S (2 * (n + 1) + 1)))), (11, .int (rc_f (rc_en S n q).2.2.2)), (10, .int (rc_f (rc_en S n q).2.1)), (0, .ref h0), (3, .ref bo), (4, .int 0), (6, .int ((rc_en S n q).2.1)), (8, .int ((rc_en S n q).2.2.2)), (9, .int (nI (n + 1)))]) hx hb dX2_encryptBlock_188 hl (by decide) rfl (fun ls hl => ?_)
    refine lv_iload hx hb dX2_encryptBlock_190 (lv_at hl 2 rfl) ?_
    refine lv_istore (lv' := [(6, .int ((rc_rotl (((rc_en S n q).2.2.1) ^^^ (rc_f (rc_en S n q).2.2.2)) (rc_f (rc_en S n q).2.1)) + (S (2 * (n + 1) + 1)))), (5, .int ((rc_en S n q).2.1)), (12, .int ((rc_rotl (((rc_en S n q).1) ^^^ (rc_f (rc_en S n q).2.1)) (rc_f (rc_en S n q).2.2.2)) + (S (2 * (n + 1))))), (7, .int ((rc_rotl (((rc_en S n q).2.2.1) ^^^ (rc_f (rc_en S n q).2.2.2)) (rc_f (rc_en S n q).2.1)) + (S (2 * (n + 1) + 1)))), (11, .int (rc_f (rc_en S n q).2.2.2)), (10, .int (rc_f (rc_en S n q).2.1)), (0, .ref h0), (3, .ref bo), (4, .int 0), (8, .int ((rc_en S n q).2.2.2)), (9, .int (nI (n + 1)))]) hx hb dX2_encryptBlock_192 hl (by decide) rfl (fun ls hl => ?_)
    refine lv_iload hx hb dX2_encryptBlock_194 (lv_at hl 9 rfl) ?_
    refine lv_istore (lv' := [(7, .int ((rc_en S n q).2.2.2)), (6, .int ((rc_rotl (((rc_en S n q).2.2.1) ^^^ (rc_f (rc_en S n q).2.2.2)) (rc_f (rc_en S n q).2.1)) + (S (2 * (n + 1) + 1)))), (5, .int ((rc_en S n q).2.1)), (12, .int ((rc_rotl (((rc_en S n q).1) ^^^ (rc_f (rc_en S n q).2.1)) (rc_f (rc_en S n q).2.2.2)) + (S (2 * (n + 1))))), (11, .int (rc_f (rc_en S n q).2.2.2)), (10, .int (rc_f (rc_en S n q).2.1)), (0, .ref h0), (3, .ref bo), (4, .int 0), (8, .int ((rc_en S n q).2.2.2)), (9, .int (nI (n + 1)))]) hx hb dX2_encryptBlock_196 hl (by decide) rfl (fun ls hl => ?_)
    refine lv_iload hx hb dX2_encryptBlock_198 (lv_at hl 3 rfl) ?_
    refine lv_istore (lv' := [(8, .int ((rc_rotl (((rc_en S n q).1) ^^^ (rc_f (rc_en S n q).2.1)) (rc_f (rc_en S n q).2.2.2)) + (S (2 * (n + 1))))), (7, .int ((rc_en S n q).2.2.2)), (6, .int ((rc_rotl (((rc_en S n q).2.2.1) ^^^ (rc_f (rc_en S n q).2.2.2)) (rc_f (rc_en S n q).2.1)) + (S (2 * (n + 1) + 1)))), (5, .int ((rc_en S n q).2.1)), (12, .int ((rc_rotl (((rc_en S n q).1) ^^^ (rc_f (rc_en S n q).2.1)) (rc_f (rc_en S n q).2.2.2)) + (S (2 * (n + 1))))), (11, .int (rc_f (rc_en S n q).2.2.2)), (10, .int (rc_f (rc_en S n q).2.1)), (0, .ref h0), (3, .ref bo), (4, .int 0), (9, .int (nI (n + 1)))]) hx hb dX2_encryptBlock_200 hl (by decide) rfl (fun ls hl => ?_)
    refine lv_iinc (v := nI (n + 1 + 1)) (lv' := [(9, .int (nI (n + 1 + 1))), (8, .int ((rc_rotl (((rc_en S n q).1) ^^^ (rc_f (rc_en S n q).2.1)) (rc_f (rc_en S n q).2.2.2)) + (S (2 * (n + 1))))), (7, .int ((rc_en S n q).2.2.2)), (6, .int ((rc_rotl (((rc_en S n q).2.2.1) ^^^ (rc_f (rc_en S n q).2.2.2)) (rc_f (rc_en S n q).2.1)) + (S (2 * (n + 1) + 1)))), (5, .int ((rc_en S n q).2.1)), (12, .int ((rc_rotl (((rc_en S n q).1) ^^^ (rc_f (rc_en S n q).2.1)) (rc_f (rc_en S n q).2.2.2)) + (S (2 * (n + 1))))), (11, .int (rc_f (rc_en S n q).2.2.2)), (10, .int (rc_f (rc_en S n q).2.1)), (0, .ref h0), (3, .ref bo), (4, .int 0)]) hx hb dX2_encryptBlock_202 hl (k := 10) rfl (nI_1 (n + 1)) (by decide) rfl (fun ls hl => ?_)
    refine lv_goto (tgt := 65) hx hb dX2_encryptBlock_205 (by decide) ?_
    exact ih (n + 1) (by omega) ls (lv_sub hl [8, 9, 10, 4, 3, 2, 1, 0] rfl)

set_option maxHeartbeats 4000000 in
set_option maxRecDepth 100000 in
/-- encryptBlock(in, 0, out, 0) -/
theorem met_X2_encryptBlock (l : Launch) (D : va_G) (cB cI : ClassId) (h0 sA bi bo sz : Nat) (fe : Int32) (S f g : Nat → Int32) : Met l yX2_encryptBlock (ws_ yX2_encryptBlock cX2_encryptBlock 13 (some .int)) ({ frames := 1, cells := 0, slots := 0, locals := 24 }) (va_Pc [.ref h0, .ref bi, .int 0, .ref bo, .int 0] (rc_Pre D cB cI sz [(h0, .inr (1, [.ref sA, .int fe])), (sA, .inl (cI, 44, .inl S)), (bi, .inl (cB, 16, .inl f)), (bo, .inl (cB, 16, .inl g))])) (va_Qi (fun (r : Int32) (_ : Unit) => r = 16) (fun _ t => rc_B D cB cI (va_A [(h0, .inr (1, [.ref sA, .int fe])), (sA, .inl (cI, 44, .inl S)), (bi, .inl (cB, 16, .inl f)), (bo, .inl (cB, 16, .inl g))] sz) [(h0, .inr (1, [.ref sA, .int fe])), (sA, .inl (cI, 44, .inl S)), (bi, .inl (cB, 16, .inl f)), (bo, .inl (cB, 16, .inl (rc_out g (rc_enc S (rc_in f)))))] t) (va_A [(h0, .inr (1, [.ref sA, .int fe])), (sA, .inl (cI, 44, .inl S)), (bi, .inl (cB, 16, .inl f)), (bo, .inl (cB, 16, .inl g))] sz)) 0 0 (va_A [(h0, .inr (1, [.ref sA, .int fe])), (sA, .inl (cI, 44, .inl S)), (bi, .inl (cB, 16, .inl f)), (bo, .inl (cB, 16, .inl g))] sz) := by
  refine Met.ofW (cc := cX2_encryptBlock) (maxL := 13) (ret := (some .int)) (by decide) rfl ?_
  intro p e s m args below meth c s₁ B hml hv
  obtain ⟨rfl, hsz, hP, hK, hD0, hX⟩ := hv
  have hx := B.exec
  have hb := B.bytes
  have hr := B.returns
  have hts := atoms_spec (ws := ws_ yX2_encryptBlock cX2_encryptBlock 13 (some .int)) B.pre
  have hts : ∀ w ∈ lw_all, w.before _ s = true := fun w h => hts w (List.mem_cons_of_mem _ h)
  have hown : s.vm.findClass RX2 = some m.cls := findClass_of_methodNamed B.named
  have hlocks := B.notSynchronized
  subst hsz
  have hD := hD0.self (sz := s.heap.size)
  generalize hAe : va_A [(h0, .inr (1, [.ref sA, .int fe])), (sA, .inl (cI, 44, .inl S)), (bi, .inl (cB, 16, .inl f)), (bo, .inl (cB, 16, .inl g))] s.heap.size = A at hD ⊢
  have hA : ∀ q : Nat, s.heap.size ≤ q → A q := fun q h => by rw [← hAe]; exact Or.inr h
  have hS : va_S A s.heap s.heap [] := va_S.rf
  have hP : va_P D vwCl [(h0, .inr (1, [.ref sA, .int fe])), (sA, .inl (cI, 44, .inl S)), (bi, .inl (cB, 16, .inl f)), (bo, .inl (cB, 16, .inl g))] s.heap := hP
  have hl := lv_entry ([.ref h0, .ref bi, .int 0, .ref bo, .int 0]) (n := 13) (Nat.le_of_ble_eq_true rfl)
  rw [lg_entry_eq]
  generalize (lg_sl ([.ref h0, .ref bi, .int 0, .ref bo, .int 0]) ++ List.replicate (13 - (lg_sl ([.ref h0, .ref bi, .int 0, .ref bo, .int 0])).length) Slot.unset).toArray = ls at hl ⊢
  have hl : lv_has ls 13 [(0, .ref h0), (1, .ref bi), (2, .int 0), (3, .ref bo), (4, .int 0)] := hl
  refine lv_aload_n hx hb dX2_encryptBlock_0 rfl (lv_at hl 0 rfl) ?_
  refine lv_aload_n hx hb dX2_encryptBlock_1 rfl (lv_at hl 1 rfl) ?_
  refine lv_iload_n hx hb dX2_encryptBlock_2 rfl (lv_at hl 2 rfl) ?_
  refine vp_callSi (W.runV (As := [.ref bi, .int 0]) (rest := []) ⟨hx, hb, hml, hown, hts⟩ (met_X2_bytesToWord l D cB cI h0 bi s.heap.size 0 16 f (by omega) (by omega)) (cwV 2 hts (lw_V q233 q235 qs5 q11 q236) rfl rfl rfl (by decide +kernel) ⟨Nat.le_of_ble_eq_true rfl, Nat.le_of_ble_eq_true rfl⟩) (rc_pv (va_recv hK hP (ci := 1) (q0 := 0) rfl rfl) (hP.sub [2] rfl) hK (hD.sub [2] (by decide) rfl) hX) rfl rfl hl.1 rfl (lv_room (Nat.le_of_ble_eq_true rfl)) dX2_encryptBlock_3 ⟨Nat.le_of_ble_eq_true rfl, Nat.le_of_ble_eq_true rfl⟩) (fun r_1 er_1 => ?_)
  have er_1 := er_1.symm
  subst er_1
  refine lv_istore (lv' := [(5, .int (rc_w f 0)), (0, .ref h0), (1, .ref bi), (2, .int 0), (3, .ref bo), (4, .int 0)]) hx hb dX2_encryptBlock_6 hl (by decide) rfl (fun ls hl => ?_)
  refine lv_aload_n hx hb dX2_encryptBlock_8 rfl (lv_at hl 1 rfl) ?_
  refine lv_aload_n hx hb dX2_encryptBlock_9 rfl (lv_at hl 2 rfl) ?_
  refine lv_iload_n hx hb dX2_encryptBlock_10 rfl (lv_at hl 3 rfl) ?_
  refine lv_iconst (v := 4) hx hb dX2_encryptBlock_11 (by decide) ?_
  refine lv_iadd hx hb dX2_encryptBlock_12 ?_
  refine rc_is 4 (by decide) ?_
  refine vp_callSi (W.runV (As := [.ref bi, .int 4]) (rest := []) ⟨hx, hb, hml, hown, hts⟩ (met_X2_bytesToWord l D cB cI h0 bi s.heap.size 4 16 f (by omega) (by omega)) (cwV 2 hts (lw_V q233 q235 qs5 q11 q236) rfl rfl rfl (by decide +kernel) ⟨Nat.le_of_ble_eq_true rfl, Nat.le_of_ble_eq_true rfl⟩) (rc_pv (va_recv hK hP (ci := 1) (q0 := 0) rfl rfl) (hP.sub [2] rfl) hK (hD.sub [2] (by decide) rfl) hX) rfl rfl hl.1 rfl (lv_room (Nat.le_of_ble_eq_true rfl)) dX2_encryptBlock_13 ⟨Nat.le_of_ble_eq_true rfl, Nat.le_of_ble_eq_true rfl⟩) (fun r_2 er_2 => ?_)
  have er_2 := er_2.symm
  subst er_2
  refine lv_istore (lv' := [(6, .int (rc_w f 4)), (5, .int (rc_w f 0)), (0, .ref h0), (1, .ref bi), (2, .int 0), (3, .ref bo), (4, .int 0)]) hx hb dX2_encryptBlock_16 hl (by decide) rfl (fun ls hl => ?_)
  refine lv_aload_n hx hb dX2_encryptBlock_18 rfl (lv_at hl 2 rfl) ?_
  refine lv_aload_n hx hb dX2_encryptBlock_19 rfl (lv_at hl 3 rfl) ?_
  refine lv_iload_n hx hb dX2_encryptBlock_20 rfl (lv_at hl 4 rfl) ?_
  refine lv_bipush (v := 8) hx hb dX2_encryptBlock_21 (by decide) ?_
  refine lv_iadd hx hb dX2_encryptBlock_23 ?_
  refine rc_is 8 (by decide) ?_
  refine vp_callSi (W.runV (As := [.ref bi, .int 8]) (rest := []) ⟨hx, hb, hml, hown, hts⟩ (met_X2_bytesToWord l D cB cI h0 bi s.heap.size 8 16 f (by omega) (by omega)) (cwV 2 hts (lw_V q233 q235 qs5 q11 q236) rfl rfl rfl (by decide +kernel) ⟨Nat.le_of_ble_eq_true rfl, Nat.le_of_ble_eq_true rfl⟩) (rc_pv (va_recv hK hP (ci := 1) (q0 := 0) rfl rfl) (hP.sub [2] rfl) hK (hD.sub [2] (by decide) rfl) hX) rfl rfl hl.1 rfl (lv_room (Nat.le_of_ble_eq_true rfl)) dX2_encryptBlock_24 ⟨Nat.le_of_ble_eq_true rfl, Nat.le_of_ble_eq_true rfl⟩) (fun r_3 er_3 => ?_)
  have er_3 := er_3.symm
  subst er_3
  refine lv_istore (lv' := [(7, .int (rc_w f 8)), (6, .int (rc_w f 4)), (5, .int (rc_w f 0)), (0, .ref h0), (1, .ref bi), (2, .int 0), (3, .ref bo), (4, .int 0)]) hx hb dX2_encryptBlock_27 hl (by decide) rfl (fun ls hl => ?_)
  refine lv_aload_n hx hb dX2_encryptBlock_29 rfl (lv_at hl 3 rfl) ?_
  refine lv_aload_n hx hb dX2_encryptBlock_30 rfl (lv_at hl 4 rfl) ?_
  refine lv_iload_n hx hb dX2_encryptBlock_31 rfl (lv_at hl 5 rfl) ?_
  refine lv_bipush (v := 12) hx hb dX2_encryptBlock_32 (by decide) ?_
  refine lv_iadd hx hb dX2_encryptBlock_34 ?_
  refine rc_is 12 (by decide) ?_
  refine vp_callSi (W.runV (As := [.ref bi, .int 12]) (rest := []) ⟨hx, hb, hml, hown, hts⟩ (met_X2_bytesToWord l D cB cI h0 bi s.heap.size 12 16 f (by omega) (by omega)) (cwV 2 hts (lw_V q233 q235 qs5 q11 q236) rfl rfl rfl (by decide +kernel) ⟨Nat.le_of_ble_eq_true rfl, Nat.le_of_ble_eq_true rfl⟩) (rc_pv (va_recv hK hP (ci := 1) (q0 := 0) rfl rfl) (hP.sub [2] rfl) hK (hD.sub [2] (by decide) rfl) hX) rfl rfl hl.1 rfl (lv_room (Nat.le_of_ble_eq_true rfl)) dX2_encryptBlock_35 ⟨Nat.le_of_ble_eq_true rfl, Nat.le_of_ble_eq_true rfl⟩) (fun r_4 er_4 => ?_)
  have er_4 := er_4.symm
  subst er_4
  refine lv_istore (lv' := [(8, .int (rc_w f 12)), (7, .int (rc_w f 8)), (6, .int (rc_w f 4)), (5, .int (rc_w f 0)), (0, .ref h0), (1, .ref bi), (2, .int 0), (3, .ref bo), (4, .int 0)]) hx hb dX2_encryptBlock_38 hl (by decide) rfl (fun ls hl => ?_)
  refine lv_iload hx hb dX2_encryptBlock_40 (lv_at hl 2 rfl) ?_
  refine lv_aload_n hx hb dX2_encryptBlock_42 rfl (lv_at hl 4 rfl) ?_
  refine va_get (D := D) (ci := 1) (v := .ref sA) (C := RX2) (T := TX2) (N := 2) hx hb hts in_X2 hown hK hP 0 rfl rfl 0 (by decide) (hts _ q42) (fun _ h9 => h9) rfl dX2_encryptBlock_43 ?_
  refine lv_iconst (v := 0) hx hb dX2_encryptBlock_46 (by decide) ?_
  refine rc_ldi hx hb hK hP 1 1 rfl rfl 0 rfl (by omega) (by omega) (S 0) rfl dX2_encryptBlock_47 ?_
  refine lv_iadd hx hb dX2_encryptBlock_48 ?_
  refine lv_istore (lv' := [(6, .int ((rc_w f 4) + (S 0))), (8, .int (rc_w f 12)), (7, .int (rc_w f 8)), (5, .int (rc_w f 0)), (0, .ref h0), (1, .ref bi), (2, .int 0), (3, .ref bo), (4, .int 0)]) hx hb dX2_encryptBlock_49 hl (by decide) rfl (fun ls hl => ?_)
  refine lv_iload hx hb dX2_encryptBlock_51 (lv_at hl 1 rfl) ?_
  refine lv_aload_n hx hb dX2_encryptBlock_53 rfl (lv_at hl 4 rfl) ?_
  refine va_get (D := D) (ci := 1) (v := .ref sA) (C := RX2) (T := TX2) (N := 2) hx hb hts in_X2 hown hK hP 0 rfl rfl 0 (by decide) (hts _ q42) (fun _ h9 => h9) rfl dX2_encryptBlock_54 ?_
  refine lv_iconst (v := 1) hx hb dX2_encryptBlock_57 (by decide) ?_
  refine rc_ldi hx hb hK hP 1 1 rfl rfl 1 rfl (by omega) (by omega) (S 1) rfl dX2_encryptBlock_58 ?_
  refine lv_iadd hx hb dX2_encryptBlock_59 ?_
  refine lv_istore (lv' := [(8, .int ((rc_w f 12) + (S 1))), (6, .int ((rc_w f 4) + (S 0))), (7, .int (rc_w f 8)), (5, .int (rc_w f 0)), (0, .ref h0), (1, .ref bi), (2, .int 0), (3, .ref bo), (4, .int 0)]) hx hb dX2_encryptBlock_60 hl (by decide) rfl (fun ls hl => ?_)
  refine lv_iconst (v := 1) hx hb dX2_encryptBlock_62 (by decide) ?_
  refine lv_istore (lv' := [(9, .int 1), (8, .int ((rc_w f 12) + (S 1))), (6, .int ((rc_w f 4) + (S 0))), (7, .int (rc_w f 8)), (5, .int (rc_w f 0)), (0, .ref h0), (1, .ref bi), (2, .int 0), (3, .ref bo), (4, .int 0)]) hx hb dX2_encryptBlock_63 hl (by decide) rfl (fun ls hl => ?_)
  refine seg_enc h0 sA bi bo fe S f g (rc_pre S (rc_in f)) ⟨hx, hb, hml, hown, hts⟩ hK hP (fun ls hl => ?_) 20 0 rfl ls (lv_sub hl [5, 8, 9, 4, 2, 3, 1, 0] rfl)
  refine lv_iload hx hb dX2_encryptBlock_208 (lv_at hl 3 rfl) ?_
  refine lv_aload_n hx hb dX2_encryptBlock_210 rfl (lv_at hl 0 rfl) ?_
  refine va_get (D := D) (ci := 1) (v := .ref sA) (C := RX2) (T := TX2) (N := 2) hx hb hts in_X2 hown hK hP 0 rfl rfl 0 (by decide) (hts _ q42) (fun _ h9 => h9) rfl dX2_encryptBlock_211 ?_
  refine lv_bipush (v := 42) hx hb dX2_encryptBlock_214 (by decide) ?_
  refine rc_ldi hx hb hK hP 1 1 rfl rfl 42 rfl (by omega) (by omega) (S 42) rfl dX2_encryptBlock_216 ?_
  refine lv_iadd hx hb dX2_encryptBlock_217 ?_
  refine lv_istore (lv' := [(5, .int (((rc_en S 20 (rc_pre S (rc_in f))).1) + (S 42))), (0, .ref h0), (3, .ref bo), (4, .int 0), (6, .int ((rc_en S 20 (rc_pre S (rc_in f))).2.1)), (7, .int ((rc_en S 20 (rc_pre S (rc_in f))).2.2.1)), (8, .int ((rc_en S 20 (rc_pre S (rc_in f))).2.2.2))]) hx hb dX2_encryptBlock_218 hl (by decide) rfl (fun ls hl => ?_)
  refine lv_iload hx hb dX2_encryptBlock_220 (lv_at hl 5 rfl) ?_
  refine lv_aload_n hx hb dX2_encryptBlock_222 rfl (lv_at hl 1 rfl) ?_
  refine va_get (D := D) (ci := 1) (v := .ref sA) (C := RX2) (T := TX2) (N := 2) hx hb hts in_X2 hown hK hP 0 rfl rfl 0 (by decide) (hts _ q42) (fun _ h9 => h9) rfl dX2_encryptBlock_223 ?_
  refine lv_bipush (v := 43) hx hb dX2_encryptBlock_226 (by decide) ?_
  refine rc_ldi hx hb hK hP 1 1 rfl rfl 43 rfl (by omega) (by omega) (S 43) rfl dX2_encryptBlock_228 ?_
  refine lv_iadd hx hb dX2_encryptBlock_229 ?_
  refine lv_istore (lv' := [(7, .int (((rc_en S 20 (rc_pre S (rc_in f))).2.2.1) + (S 43))), (5, .int (((rc_en S 20 (rc_pre S (rc_in f))).1) + (S 42))), (0, .ref h0), (3, .ref bo), (4, .int 0), (6, .int ((rc_en S 20 (rc_pre S (rc_in f))).2.1)), (8, .int ((rc_en S 20 (rc_pre S (rc_in f))).2.2.2))]) hx hb dX2_encryptBlock_230 hl (by decide) rfl (fun ls hl => ?_)
  refine lv_aload_n hx hb dX2_encryptBlock_232 rfl (lv_at hl 2 rfl) ?_
  refine lv_iload hx hb dX2_encryptBlock_233 (lv_at hl 1 rfl) ?_
  refine lv_aload_n hx hb dX2_encryptBlock_235 rfl (lv_at hl 3 rfl) ?_
  refine lv_iload hx hb dX2_encryptBlock_236 (lv_at hl 4 rfl) ?_
  refine rc_cv (wr := [(h0, .inr (1, [.ref sA, .int fe])), (sA, .inl (cI, 44, .inl S)), (bi, .inl (cB, 16, .inl f))]) [3] [0, 1, 2] (va_runV (As := [.int (((rc_en S 20 (rc_pre S (rc_in f))).1) + (S 42)), .ref bo, .int 0]) (rest := []) ⟨hx, hb, hml, hown, hts⟩ (met_X2_wordToBytes l D cB cI h0 bo s.heap.size 0 16 (((rc_en S 20 (rc_pre S (rc_in f))).1) + (S 42)) g (by omega) (by omega)) (cwV 3 hts (lw_V q237 q239 qs6 q11 q240) rfl rfl rfl (by decide +kernel) ⟨Nat.le_of_ble_eq_true rfl, Nat.le_of_ble_eq_true rfl⟩) (rc_pv (va_recv hK hP (ci := 1) (q0 := 0) rfl rfl) (hP.sub [3] rfl) hK (hD.sub [3] (by decide) rfl) hX) rfl rfl hl.1 rfl (lv_room (Nat.le_of_ble_eq_true rfl)) dX2_encryptBlock_238 ⟨Nat.le_of_ble_eq_true rfl, Nat.le_of_ble_eq_true rfl⟩) hP hD hS hA rfl rfl (by decide) (by decide) (fun _u H locs _hp hP hD hS => ?_)
  have hP : va_P D vwCl [(h0, .inr (1, [.ref sA, .int fe])), (sA, .inl (cI, 44, .inl S)), (bi, .inl (cB, 16, .inl f)), (bo, .inl (cB, 16, .inl (rc_put g (((rc_en S 20 (rc_pre S (rc_in f))).1) + (S 42)) 0)))] H := hP
  have hD : va_D A [(h0, .inr (1, [.ref sA, .int fe])), (sA, .inl (cI, 44, .inl S)), (bi, .inl (cB, 16, .inl f)), (bo, .inl (cB, 16, .inl (rc_put g (((rc_en S 20 (rc_pre S (rc_in f))).1) + (S 42)) 0)))] := hD
  refine lv_aload_n hx hb dX2_encryptBlock_241 rfl (lv_at hl 2 rfl) ?_
  refine lv_iload hx hb dX2_encryptBlock_242 (lv_at hl 5 rfl) ?_
  refine lv_aload_n hx hb dX2_encryptBlock_244 rfl (lv_at hl 3 rfl) ?_
  refine lv_iload hx hb dX2_encryptBlock_245 (lv_at hl 4 rfl) ?_
  refine lv_iconst (v := 4) hx hb dX2_encryptBlock_247 (by decide) ?_
  refine lv_iadd hx hb dX2_encryptBlock_248 ?_
  refine rc_is 4 (by decide) ?_
  refine rc_cv (wr := [(h0, .inr (1, [.ref sA, .int fe])), (sA, .inl (cI, 44, .inl S)), (bi, .inl (cB, 16, .inl f))]) [3] [0, 1, 2] (va_runV (As := [.int ((rc_en S 20 (rc_pre S (rc_in f))).2.1), .ref bo, .int 4]) (rest := []) ⟨hx, hb, hml, hown, hts⟩ (met_X2_wordToBytes l D cB cI h0 bo H.size 4 16 ((rc_en S 20 (rc_pre S (rc_in f))).2.1) (rc_put g (((rc_en S 20 (rc_pre S (rc_in f))).1) + (S 42)) 0) (by omega) (by omega)) (cwV 3 hts (lw_V q237 q239 qs6 q11 q240) rfl rfl rfl (by decide +kernel) ⟨Nat.le_of_ble_eq_true rfl, Nat.le_of_ble_eq_true rfl⟩) (rc_pv (va_recv hK hP (ci := 1) (q0 := 0) rfl rfl) (hP.sub [3] rfl) hK (hD.sub [3] (by decide) rfl) hX) rfl rfl hl.1 rfl (lv_room (Nat.le_of_ble_eq_true rfl)) dX2_encryptBlock_249 ⟨Nat.le_of_ble_eq_true rfl, Nat.le_of_ble_eq_true rfl⟩) hP hD hS hA rfl rfl (by decide) (by decide) (fun _u H locs _hp hP hD hS => ?_)
  have hP : va_P D vwCl [(h0, .inr (1, [.ref sA, .int fe])), (sA, .inl (cI, 44, .inl S)), (bi, .inl (cB, 16, .inl f)), (bo, .inl (cB, 16, .inl (rc_put (rc_put g (((rc_en S 20 (rc_pre S (rc_in f))).1) + (S 42)) 0) ((rc_en S 20 (rc_pre S (rc_in f))).2.1) 4)))] H := hP
  have hD : va_D A [(h0, .inr (1, [.ref sA, .int fe])), (sA, .inl (cI, 44, .inl S)), (bi, .inl (cB, 16, .inl f)), (bo, .inl (cB, 16, .inl (rc_put (rc_put g (((rc_en S 20 (rc_pre S (rc_in f))).1) + (S 42)) 0) ((rc_en S 20 (rc_pre S (rc_in f))).2.1) 4)))] := hD
  refine lv_aload_n hx hb dX2_encryptBlock_252 rfl (lv_at hl 2 rfl) ?_
  refine lv_iload hx hb dX2_encryptBlock_253 (lv_at hl 0 rfl) ?_
  refine lv_aload_n hx hb dX2_encryptBlock_255 rfl (lv_at hl 3 rfl) ?_
  refine lv_iload hx hb dX2_encryptBlock_256 (lv_at hl 4 rfl) ?_
  refine lv_bipush (v := 8) hx hb dX2_encryptBlock_258 (by decide) ?_
  refine lv_iadd hx hb dX2_encryptBlock_260 ?_
  refine rc_is 8 (by decide) ?_
  refine rc_cv (wr := [(h0, .inr (1, [.ref sA, .int fe])), (sA, .inl (cI, 44, .inl S)), (bi, .inl (cB, 16, .inl f))]) [3] [0, 1, 2] (va_runV (As := [.int (((rc_en S 20 (rc_pre S (rc_in f))).2.2.1) + (S 43)), .ref bo, .int 8]) (rest := []) ⟨hx, hb, hml, hown, hts⟩ (met_X2_wordToBytes l D cB cI h0 bo H.size 8 16 (((rc_en S 20 (rc_pre S (rc_in f))).2.2.1) + (S 43)) (rc_put (rc_put g (((rc_en S 20 (rc_pre S (rc_in f))).1) + (S 42)) 0) ((rc_en S 20 (rc_pre S (rc_in f))).2.1) 4) (by omega) (by omega)) (cwV 3 hts (lw_V q237 q239 qs6 q11 q240) rfl rfl rfl (by decide +kernel) ⟨Nat.le_of_ble_eq_true rfl, Nat.le_of_ble_eq_true rfl⟩) (rc_pv (va_recv hK hP (ci := 1) (q0 := 0) rfl rfl) (hP.sub [3] rfl) hK (hD.sub [3] (by decide) rfl) hX) rfl rfl hl.1 rfl (lv_room (Nat.le_of_ble_eq_true rfl)) dX2_encryptBlock_261 ⟨Nat.le_of_ble_eq_true rfl, Nat.le_of_ble_eq_true rfl⟩) hP hD hS hA rfl rfl (by decide) (by decide) (fun _u H locs _hp hP hD hS => ?_)
  have hP : va_P D vwCl [(h0, .inr (1, [.ref sA, .int fe])), (sA, .inl (cI, 44, .inl S)), (bi, .inl (cB, 16, .inl f)), (bo, .inl (cB, 16, .inl (rc_put (rc_put (rc_put g (((rc_en S 20 (rc_pre S (rc_in f))).1) + (S 42)) 0) ((rc_en S 20 (rc_pre S (rc_in f))).2.1) 4) (((rc_en S 20 (rc_pre S (rc_in f))).2.2.1) + (S 43)) 8)))] H := hP
  have hD : va_D A [(h0, .inr (1, [.ref sA, .int fe])), (sA, .inl (cI, 44, .inl S)), (bi, .inl (cB, 16, .inl f)), (bo, .inl (cB, 16, .inl (rc_put (rc_put (rc_put g (((rc_en S 20 (rc_pre S (rc_in f))).1) + (S 42)) 0) ((rc_en S 20 (rc_pre S (rc_in f))).2.1) 4) (((rc_en S 20 (rc_pre S (rc_in f))).2.2.1) + (S 43)) 8)))] := hD
  refine lv_aload_n hx hb dX2_encryptBlock_264 rfl (lv_at hl 2 rfl) ?_
  refine lv_iload hx hb dX2_encryptBlock_265 (lv_at hl 6 rfl) ?_
  refine lv_aload_n hx hb dX2_encryptBlock_267 rfl (lv_at hl 3 rfl) ?_
  refine lv_iload hx hb dX2_encryptBlock_268 (lv_at hl 4 rfl) ?_
  refine lv_bipush (v := 12) hx hb dX2_encryptBlock_270 (by decide) ?_
  refine lv_iadd hx hb dX2_encryptBlock_272 ?_
  refine rc_is 12 (by decide) ?_
  refine rc_cv (wr := [(h0, .inr (1, [.ref sA, .int fe])), (sA, .inl (cI, 44, .inl S)), (bi, .inl (cB, 16, .inl f))]) [3] [0, 1, 2] (va_runV (As := [.int ((rc_en S 20 (rc_pre S (rc_in f))).2.2.2), .ref bo, .int 12]) (rest := []) ⟨hx, hb, hml, hown, hts⟩ (met_X2_wordToBytes l D cB cI h0 bo H.size 12 16 ((rc_en S 20 (rc_pre S (rc_in f))).2.2.2) (rc_put (rc_put (rc_put g (((rc_en S 20 (rc_pre S (rc_in f))).1) + (S 42)) 0) ((rc_en S 20 (rc_pre S (rc_in f))).2.1) 4) (((rc_en S 20 (rc_pre S (rc_in f))).2.2.1) + (S 43)) 8) (by omega) (by omega)) (cwV 3 hts (lw_V q237 q239 qs6 q11 q240) rfl rfl rfl (by decide +kernel) ⟨Nat.le_of_ble_eq_true rfl, Nat.le_of_ble_eq_true rfl⟩) (rc_pv (va_recv hK hP (ci := 1) (q0 := 0) rfl rfl) (hP.sub [3] rfl) hK (hD.sub [3] (by decide) rfl) hX) rfl rfl hl.1 rfl (lv_room (Nat.le_of_ble_eq_true rfl)) dX2_encryptBlock_273 ⟨Nat.le_of_ble_eq_true rfl, Nat.le_of_ble_eq_true rfl⟩) hP hD hS hA rfl rfl (by decide) (by decide) (fun _u H locs _hp hP hD hS => ?_)
  have hP : va_P D vwCl [(h0, .inr (1, [.ref sA, .int fe])), (sA, .inl (cI, 44, .inl S)), (bi, .inl (cB, 16, .inl f)), (bo, .inl (cB, 16, .inl (rc_put (rc_put (rc_put (rc_put g (((rc_en S 20 (rc_pre S (rc_in f))).1) + (S 42)) 0) ((rc_en S 20 (rc_pre S (rc_in f))).2.1) 4) (((rc_en S 20 (rc_pre S (rc_in f))).2.2.1) + (S 43)) 8) ((rc_en S 20 (rc_pre S (rc_in f))).2.2.2) 12)))] H := hP
  have hD : va_D A [(h0, .inr (1, [.ref sA, .int fe])), (sA, .inl (cI, 44, .inl S)), (bi, .inl (cB, 16, .inl f)), (bo, .inl (cB, 16, .inl (rc_put (rc_put (rc_put (rc_put g (((rc_en S 20 (rc_pre S (rc_in f))).1) + (S 42)) 0) ((rc_en S 20 (rc_pre S (rc_in f))).2.1) 4) (((rc_en S 20 (rc_pre S (rc_in f))).2.2.1) + (S 43)) 8) ((rc_en S 20 (rc_pre S (rc_in f))).2.2.2) 12)))] := hD
  refine lv_bipush (v := 16) hx hb dX2_encryptBlock_276 (by decide) ?_
  have hP9 := hP.sub (ws' := [(h0, .inr (1, [.ref sA, .int fe])), (sA, .inl (cI, 44, .inl S)), (bi, .inl (cB, 16, .inl f)), (bo, .inl (cB, 16, .inl (rc_out g (rc_enc S (rc_in f)))))]) [0, 1, 2, 3] rfl
  have hD9 := hD.sub (ws' := [(h0, .inr (1, [.ref sA, .int fe])), (sA, .inl (cI, 44, .inl S)), (bi, .inl (cB, 16, .inl f)), (bo, .inl (cB, 16, .inl (rc_out g (rc_enc S (rc_in f)))))]) [0, 1, 2, 3] (by decide) rfl
  exact W.iret (v := 16) hx hb hr (fun t ht hW => ⟨⟨16, (), rfl, rfl, by rw [ht]; exact hP9, va_K.moved hW.alike hK, hD9⟩, hS.F ht⟩) hS.2.2 dX2_encryptBlock_278

/-- the rounds of decryptBlock as its loop takes them: m are left -/
def rc_dd (S : Nat → Int32) : Nat → rc_Q → rc_Q
  | 0, z => z
  | m + 1, z => rc_dd S m (rc_dr (S (2 * (m + 1))) (S (2 * (m + 1) + 1)) z)
theorem rc_dd_dn (S : Nat → Int32) (q : rc_Q) : ∀ m, m ≤ 20 → rc_dd S m (rc_dn S (20 - m) q) = rc_dn S 20 q := by
  intro m
  induction m with
  | zero => intro _; rfl
  | succ m ih =>
    intro hm
    rw [← ih (by omega)]
    obtain ⟨k, hk⟩ : ∃ k, 20 - m = k + 1 := ⟨19 - m, by omega⟩
    rw [hk, show 20 - (m + 1) = k by omega]
    show rc_dd S m (rc_dr (S (2 * (m + 1))) (S (2 * (m + 1) + 1)) (rc_dn S k q)) = rc_dd S m (rc_dr (S (2 * (20 - k))) (S (2 * (20 - k) + 1)) (rc_dn S k q))
    rw [show 20 - k = m + 1 by omega]

set_option maxHeartbeats 4000000 in
set_option maxRecDepth 100000 in
/-- decryptBlock's loop: n rounds are left -/
theorem seg_dec {p : Program} {l : Launch} {e : Env} {s : State} {m : MethodId} {args : Array Value} {below : List Frame} {meth : Method} {c : Code} {Q : State → Prop} {D : va_G} {cB cI : ClassId} {H : Heap} {locs : List Loc} (h0 sA bi bo : Nat) (fe : Int32) (S f g : Nat → Int32) (q : rc_Q) (F : CallFix p m c cX2_decryptBlock 13 s args lw_all RX2) (hK : va_K D vwCl (rc_T cB cI) s) (hP : va_P D vwCl [(h0, .inr (1, [.ref sA, .int fe])), (sA, .inl (cI, 44, .inl S)), (bi, .inl (cB, 16, .inl f)), (bo, .inl (cB, 16, .inl g))] H) (kend : ∀ ls : Array Slot, lv_has ls 13 [(0, .ref h0), (3, .ref bo), (4, .int 0), (5, .int q.1), (6, .int q.2.1), (7, .int q.2.2.1), (8, .int q.2.2.2)] → W p l e ({ frames := 1, cells := 0, slots := 0, locals := 24 }) s m args below meth c H locs 0 0 Q (F0 m 210 ls [])) : ∀ (n : Nat) (z : rc_Q), n ≤ 20 → rc_dd S n z = q → ∀ ls : Array Slot, lv_has ls 13 [(0, .ref h0), (3, .ref bo), (4, .int 0), (5, .int z.1), (6, .int z.2.1), (7, .int z.2.2.1), (8, .int z.2.2.2), (9, .int (nI n))] → W p l e ({ frames := 1, cells := 0, slots := 0, locals := 24 }) s m args below meth c H locs 0 0 Q (F0 m 68 ls []) := by
  obtain ⟨hx, hb, hml, hown, hts⟩ := id F
  intro n
  induction n with
  | zero =>
    intro z hn hz ls hl
    obtain rfl : z = q := hz
    refine lv_iload hx hb dX2_decryptBlock_68 (lv_at hl 7 rfl) ?_
    refine lv_iconst (v := 1) hx hb dX2_decryptBlock_70 (by decide) ?_
    refine lv_icmp_lt (tgt := 210) hx hb dX2_decryptBlock_71 (by decide) (fun _ => ?_) (fun c_ => absurd (by decide) c_)
    exact kend ls (lv_sub hl [0, 1, 2, 3, 4, 5, 6] rfl)
  | succ n ih =>
    intro z hn hz ls hl
    refine lv_iload hx hb dX2_decryptBlock_68 (lv_at hl 7 rfl) ?_
    refine lv_iconst (v := 1) hx hb dX2_decryptBlock_70 (by decide) ?_
    refine lv_icmp_lt (tgt := 210) hx hb dX2_decryptBlock_71 (by decide) (fun c_ => absurd c_ (nI_nlt (a := n + 1) (b := 1) (by omega) (by omega))) (fun _ => ?_)
    refine lv_iconst (v := 0) hx hb dX2_decryptBlock_74 (by decide) ?_
    refine lv_istore (lv' := [(10, .int 0), (0, .ref h0), (3, .ref bo), (4, .int 0), (5, .int z.1), (6, .int z.2.1), (7, .int z.2.2.1), (8, .int z.2.2.2), (9, .int (nI (n + 1)))]) hx hb dX2_decryptBlock_75 hl (by decide) rfl (fun ls hl => ?_)
    refine lv_iconst (v := 0) hx hb dX2_decryptBlock_77 (by decide) ?_
    refine lv_istore (lv' := [(11, .int 0), (10, .int 0), (0, .ref h0), (3, .ref bo), (4, .int 0), (5, .int z.1), (6, .int z.2.1), (7, .int z.2.2.1), (8, .int z.2.2.2), (9, .int (nI (n + 1)))]) hx hb dX2_decryptBlock_78 hl (by decide) rfl (fun ls hl => ?_)
    refine lv_iload hx hb dX2_decryptBlock_80 (lv_at hl 8 rfl) ?_
    refine lv_istore (lv' := [(12, .int z.2.2.2), (11, .int 0), (10, .int 0), (0, .ref h0), (3, .ref bo), (4, .int 0), (5, .int z.1), (6, .int z.2.1), (7, .int z.2.2.1), (8, .int z.2.2.2), (9, .int (nI (n + 1)))]) hx hb dX2_decryptBlock_82 hl (by decide) rfl (fun ls hl => ?_)
    refine lv_iload hx hb dX2_decryptBlock_84 (lv_at hl 8 rfl) ?_
    refine lv_istore (lv' := [(8, .int z.2.2.1), (12, .int z.2.2.2), (11, .int 0), (10, .int 0), (0, .ref h0), (3, .ref bo), (4, .int 0), (5, .int z.1), (6, .int z.2.1), (7, .int z.2.2.1), (9, .int (nI (n + 1)))]) hx hb dX2_decryptBlock_86 hl (by decide) rfl (fun ls hl => ?_)
    refine lv_iload hx hb dX2_decryptBlock_88 (lv_at hl 8 rfl) ?_
    refine lv_istore (lv' := [(7, .int z.2.1), (8, .int z.2.2.1), (12, .int z.2.2.2), (11, .int 0), (10, .int 0), (0, .ref h0), (3, .ref bo), (4, .int 0), (5, .int z.1), (6, .int z.2.1), (9, .int (nI (n + 1)))]) hx hb dX2_decryptBlock_90 hl (by decide) rfl (fun ls hl => ?_)
    refine lv_iload hx hb dX2_decryptBlock_92 (lv_at hl 8 rfl) ?_
    refine lv_istore (lv' := [(6, .int z.1), (7, .int z.2.1), (8, .int z.2.2.1), (12, .int z.2.2.2), (11, .int 0), (10, .int 0), (0, .ref h0), (3, .ref bo), (4, .int 0), (5, .int z.1), (9, .int (nI (n + 1)))]) hx hb dX2_decryptBlock_94 hl (by decide) rfl (fun ls hl => ?_)
    refine lv_iload hx hb dX2_decryptBlock_96 (lv_at hl 3 rfl) ?_
    refine lv_istore (lv' := [(5, .int z.2.2.2), (6, .int z.1), (7, .int z.2.1), (8, .int z.2.2.1), (12, .int z.2.2.2), (11, .int 0), (10, .int 0), (0, .ref h0), (3, .ref bo), (4, .int 0), (9, .int (nI (n + 1)))]) hx hb dX2_decryptBlock_98 hl (by decide) rfl (fun ls hl => ?_)
    refine lv_iload hx hb dX2_decryptBlock_100 (lv_at hl 1 rfl) ?_
    refine lv_iconst (v := 2) hx hb dX2_decryptBlock_102 (by decide) ?_
    refine lv_iload hx hb dX2_decryptBlock_103 (lv_at hl 1 rfl) ?_
    refine lv_imul hx hb dX2_decryptBlock_105 ?_
    refine lv_iconst (v := 1) hx hb dX2_decryptBlock_106 (by decide) ?_
    refine lv_iadd hx hb dX2_decryptBlock_107 ?_
    refine lv_imul hx hb dX2_decryptBlock_108 ?_
    refine lv_istore (lv' := [(10, .int (z.1 * ((2 * z.1) + 1))), (5, .int z.2.2.2), (6, .int z.1), (7, .int z.2.1), (8, .int z.2.2.1), (12, .int z.2.2.2), (11, .int 0), (0, .ref h0), (3, .ref bo), (4, .int 0), (9, .int (nI (n + 1)))]) hx hb dX2_decryptBlock_109 hl (by decide) rfl (fun ls hl => ?_)
    refine lv_aload_n hx hb dX2_decryptBlock_111 rfl (lv_at hl 7 rfl) ?_
    refine lv_iload hx hb dX2_decryptBlock_112 (lv_at hl 0 rfl) ?_
    refine lv_iconst (v := 5) hx hb dX2_decryptBlock_114 (by decide) ?_
    refine vp_callSi (W.runV (As := [.int (z.1 * ((2 * z.1) + 1)), .int 5]) (rest := []) ⟨hx, hb, hml, hown, hts⟩ (met_X2_rotateLeft l h0 (z.1 * ((2 * z.1) + 1)) 5) (cwV 2 hts (lw_V q158 q160 qs3 q11 q161) rfl rfl rfl (by decide +kernel) ⟨Nat.le_of_ble_eq_true rfl, Nat.le_of_ble_eq_true rfl⟩) (rc_pv0 (va_recv hK hP (ci := 1) (q0 := 0) rfl rfl)) rfl rfl hl.1 rfl (lv_room (Nat.le_of_ble_eq_true rfl)) dX2_decryptBlock_115 ⟨Nat.le_of_ble_eq_true rfl, Nat.le_of_ble_eq_true rfl⟩) (fun r_1 er_1 => ?_)
    have er_1 := er_1.symm
    subst er_1
    refine rc_is (rc_f z.1) rfl ?_
    refine lv_istore (lv' := [(10, .int (rc_f z.1)), (5, .int z.2.2.2), (6, .int z.1), (7, .int z.2.1), (8, .int z.2.2.1), (12, .int z.2.2.2), (11, .int 0), (0, .ref h0), (3, .ref bo), (4, .int 0), (9, .int (nI (n + 1)))]) hx hb dX2_decryptBlock_118 hl (by decide) rfl (fun ls hl => ?_)
    refine lv_iload hx hb dX2_decryptBlock_120 (lv_at hl 4 rfl) ?_
    refine lv_iconst (v := 2) hx hb dX2_decryptBlock_122 (by decide) ?_
    refine lv_iload hx hb dX2_decryptBlock_123 (lv_at hl 4 rfl) ?_
    refine lv_imul hx hb dX2_decryptBlock_125 ?_
    refine lv_iconst (v := 1) hx hb dX2_decryptBlock_126 (by decide) ?_
    refine lv_iadd hx hb dX2_decryptBlock_127 ?_
    refine lv_imul hx hb dX2_decryptBlock_128 ?_
    refine lv_istore (lv' := [(11, .int (z.2.2.1 * ((2 * z.2.2.1) + 1))), (10, .int (rc_f z.1)), (5, .int z.2.2.2), (6, .int z.1), (7, .int z.2.1), (8, .int z.2.2.1), (12, .int z.2.2.2), (0, .ref h0), (3, .ref bo), (4, .int 0), (9, .int (nI (n + 1)))]) hx hb dX2_decryptBlock_129 hl (by decide) rfl (fun ls hl => ?_)
    refine lv_aload_n hx hb dX2_decryptBlock_131 rfl (lv_at hl 7 rfl) ?_
    refine lv_iload hx hb dX2_decryptBlock_132 (lv_at hl 0 rfl) ?_
    refine lv_iconst (v := 5) hx hb dX2_decryptBlock_134 (by decide) ?_
    refine vp_callSi (W.runV (As := [.int (z.2.2.1 * ((2 * z.2.2.1) + 1)), .int 5]) (rest := []) ⟨hx, hb, hml, hown, hts⟩ (met_X2_rotateLeft l h0 (z.2.2.1 * ((2 * z.2.2.1) + 1)) 5) (cwV 2 hts (lw_V q158 q160 qs3 q11 q161) rfl rfl rfl (by decide +kernel) ⟨Nat.le_of_ble_eq_true rfl, Nat.le_of_ble_eq_true rfl⟩) (rc_pv0 (va_recv hK hP (ci := 1) (q0 := 0) rfl rfl)) rfl rfl hl.1 rfl (lv_room (Nat.le_of_ble_eq_true rfl)) dX2_decryptBlock_135 ⟨Nat.le_of_ble_eq_true rfl, Nat.le_of_ble_eq_true rfl⟩) (fun r_2 er_2 => ?_)
    have er_2 := er_2.symm
    subst er_2
    refine rc_is (rc_f z.2.2.1) rfl ?_
    refine lv_istore (lv' := [(11, .int (rc_f z.2.2.1)), (10, .int (rc_f z.1)), (5, .int z.2.2.2), (6, .int z.1), (7, .int z.2.1), (8, .int z.2.2.1), (12, .int z.2.2.2), (0, .ref h0), (3, .ref bo), (4, .int 0), (9, .int (nI (n + 1)))]) hx hb dX2_decryptBlock_138 hl (by decide) rfl (fun ls hl => ?_)
    refine lv_iload hx hb dX2_decryptBlock_140 (lv_at hl 4 rfl) ?_
    refine lv_aload_n hx hb dX2_decryptBlock_142 rfl (lv_at hl 7 rfl) ?_
    refine va_get (D := D) (ci := 1) (v := .ref sA) (C := RX2) (T := TX2) (N := 2) hx hb hts in_X2 hown hK hP 0 rfl rfl 0 (by decide) (hts _ q42) (fun _ h9 => h9) rfl dX2_decryptBlock_143 ?_
    refine lv_iconst (v := 2) hx hb dX2_decryptBlock_146 (by decide) ?_
    refine lv_iload hx hb dX2_decryptBlock_147 (lv_at hl 10 rfl) ?_
    refine lv_imul hx hb dX2_decryptBlock_149 ?_
    refine rc_is (nI (2 * (n + 1))) (pk_mul 2 (n + 1)) ?_
    refine lv_iconst (v := 1) hx hb dX2_decryptBlock_150 (by decide) ?_
    refine lv_iadd hx hb dX2_decryptBlock_151 ?_
    refine rc_is (nI (2 * (n + 1) + 1)) (nI_add (2 * (n + 1)) 1) ?_
    refine rc_ldi hx hb hK hP 1 1 rfl rfl (2 * (n + 1) + 1) rfl (by omega) (by omega) (S (2 * (n + 1) + 1)) rfl dX2_decryptBlock_152 ?_
    refine lv_isub hx hb dX2_decryptBlock_153 ?_
    refine lv_istore (lv' := [(7, .int (z.2.1 - (S (2 * (n + 1) + 1)))), (11, .int (rc_f z.2.2.1)), (10, .int (rc_f z.1)), (5, .int z.2.2.2), (6, .int z.1), (8, .int z.2.2.1), (12, .int z.2.2.2), (0, .ref h0), (3, .ref bo), (4, .int 0), (9, .int (nI (n + 1)))]) hx hb dX2_decryptBlock_154 hl (by decide) rfl (fun ls hl => ?_)
    refine lv_aload_n hx hb dX2_decryptBlock_156 rfl (lv_at hl 7 rfl) ?_
    refine lv_iload hx hb dX2_decryptBlock_157 (lv_at hl 0 rfl) ?_
    refine lv_iload hx hb dX2_decryptBlock_159 (lv_at hl 2 rfl) ?_
    refine vp_callSi (W.runV (As := [.int (z.2.1 - (S (2 * (n + 1) + 1))), .int (rc_f z.1)]) (rest := []) ⟨hx, hb, hml, hown, hts⟩ (met_X2_rotateRight l h0 (z.2.1 - (S (2 * (n + 1) + 1))) (rc_f z.1)) (cwV 2 hts (lw_V q245 q247 qs8 q11 q248) rfl rfl rfl (by decide +kernel) ⟨Nat.le_of_ble_eq_true rfl, Nat.le_of_ble_eq_true rfl⟩) (rc_pv0 (va_recv hK hP (ci := 1) (q0 := 0) rfl rfl)) rfl rfl hl.1 rfl (lv_room (Nat.le_of_ble_eq_true rfl)) dX2_decryptBlock_161 ⟨Nat.le_of_ble_eq_true rfl, Nat.le_of_ble_eq_true rfl⟩) (fun r_3 er_3 => ?_)
    have er_3 := er_3.symm
    subst er_3
    refine lv_istore (lv' := [(7, .int (rc_rotr (z.2.1 - (S (2 * (n + 1) + 1))) (rc_f z.1))), (11, .int (rc_f z.2.2.1)), (10, .int (rc_f z.1)), (5, .int z.2.2.2), (6, .int z.1), (8, .int z.2.2.1), (12, .int z.2.2.2), (0, .ref h0), (3, .ref bo), (4, .int 0), (9, .int (nI (n + 1)))]) hx hb dX2_decryptBlock_164 hl (by decide) rfl (fun ls hl => ?_)
    refine lv_iload hx hb dX2_decryptBlock_166 (lv_at hl 0 rfl) ?_
    refine lv_iload hx hb dX2_decryptBlock_168 (lv_at hl 1 rfl) ?_
    refine lv_ixor hx hb dX2_decryptBlock_170 ?_
    refine lv_istore (lv' := [(7, .int ((rc_rotr (z.2.1 - (S (2 * (n + 1) + 1))) (rc_f z.1)) ^^^ (rc_f z.2.2.1))), (11, .int (rc_f z.2.2.1)), (10, .int (rc_f z.1)), (5, .int z.2.2.2), (6, .int z.1), (8, .int z.2.2.1), (12, .int z.2.2.2), (0, .ref h0), (3, .ref bo), (4, .int 0), (9, .int (nI (n + 1)))]) hx hb dX2_decryptBlock_171 hl (by decide) rfl (fun ls hl => ?_)
    refine lv_iload hx hb dX2_decryptBlock_173 (lv_at hl 3 rfl) ?_
    refine lv_aload_n hx hb dX2_decryptBlock_175 rfl (lv_at hl 7 rfl) ?_
    refine va_get (D := D) (ci := 1) (v := .ref sA) (C := RX2) (T := TX2) (N := 2) hx hb hts in_X2 hown hK hP 0 rfl rfl 0 (by decide) (hts _ q42) (fun _ h9 => h9) rfl dX2_decryptBlock_176 ?_
    refine lv_iconst (v := 2) hx hb dX2_decryptBlock_179 (by decide) ?_
    refine lv_iload hx hb dX2_decryptBlock_180 (lv_at hl 10 rfl) ?_
    refine lv_imul hx hb dX2_decryptBlock_182 ?_
    refine rc_is (nI (2 * (n + 1))) (pk_mul 2 (n + 1)) ?_
    refine rc_ldi hx hb hK hP 1 1 rfl rfl (2 * (n + 1)) rfl (by omega) (by omega) (S (2 * (n + 1))) rfl dX2_decryptBlock_183 ?_
    refine lv_isub hx hb dX2_decryptBlock_184 ?_
    refine lv_istore (lv' := [(5, .int (z.2.2.2 - (S (2 * (n + 1))))), (7, .int ((rc_rotr (z.2.1 - (S (2 * (n + 1) + 1))) (rc_f z.1)) ^^^ (rc_f z.2.2.1))), (11, .int (rc_f z.2.2.1)), (10, .int (rc_f z.1)), (6, .int z.1), (8, .int z.2.2.1), (12, .int z.2.2.2), (0, .ref h0), (3, .ref bo), (4, .int 0), (9, .int (nI (n + 1)))]) hx hb dX2_decryptBlock_185 hl (by decide) rfl (fun ls hl => ?_)
    refine lv_aload_n hx hb dX2_decryptBlock_187 rfl (lv_at hl 7 rfl) ?_
    refine lv_iload hx hb dX2_decryptBlock_188 (lv_at hl 0 rfl) ?_
    refine lv_iload hx hb dX2_decryptBlock_190 (lv_at hl 2 rfl) ?_
    refine vp_callSi (W.runV (As := [.int (z.2.2.2 - (S (2 * (n + 1)))), .int (rc_f z.2.2.1)]) (rest := []) ⟨hx, hb, hml, hown, hts⟩ (met_X2_rotateRight l h0 (z.2.2.2 - (S (2 * (n + 1)))) (rc_f z.2.2.1)) (cwV 2 hts (lw_V q245 q247 qs8 q11 q248) rfl rfl rfl (by decide +kernel) ⟨Nat.le_of_ble_eq_true rfl, Nat.le_of_ble_eq_true rfl⟩) (rc_pv0 (va_recv hK hP (ci := 1) (q0 := 0) rfl rfl)) rfl rfl hl.1 rfl (lv_room (Nat.le_of_ble_eq_true rfl)) dX2_decryptBlock_192 ⟨Nat.le_of_ble_eq_true rfl, Nat.le_of_ble_eq_true rfl⟩) (fun r_4 er_4 => ?_)
    have er_4 := er_4.symm
    subst er_4
    refine lv_istore (lv' := [(5, .int (rc_rotr (z.2.2.2 - (S (2 * (n + 1)))) (rc_f z.2.2.1))), (7, .int ((rc_rotr (z.2.1 - (S (2 * (n + 1) + 1))) (rc_f z.1)) ^^^ (rc_f z.2.2.1))), (11, .int (rc_f z.2.2.1)), (10, .int (rc_f z.1)), (6, .int z.1), (8, .int z.2.2.1), (12, .int z.2.2.2), (0, .ref h0), (3, .ref bo), (4, .int 0), (9, .int (nI (n + 1)))]) hx hb dX2_decryptBlock_195 hl (by decide) rfl (fun ls hl => ?_)
    refine lv_iload hx hb dX2_decryptBlock_197 (lv_at hl 0 rfl) ?_
    refine lv_iload hx hb dX2_decryptBlock_199 (lv_at hl 3 rfl) ?_
    refine lv_ixor hx hb dX2_decryptBlock_201 ?_
    refine lv_istore (lv' := [(5, .int ((rc_rotr (z.2.2.2 - (S (2 * (n + 1)))) (rc_f z.2.2.1)) ^^^ (rc_f z.1))), (7, .int ((rc_rotr (z.2.1 - (S (2 * (n + 1) + 1))) (rc_f z.1)) ^^^ (rc_f z.2.2.1))), (11, .int (rc_f z.2.2.1)), (10, .int (rc_f z.1)), (6, .int z.1), (8, .int z.2.2.1), (12, .int z.2.2.2), (0, .ref h0), (3, .ref bo), (4, .int 0), (9, .int (nI (n + 1)))]) hx hb dX2_decryptBlock_202 hl (by decide) rfl (fun ls hl => ?_)
    refine lv_iinc (v := nI n) (lv' := [(9, .int (nI n)), (5, .int ((rc_rotr (z.2.2.2 - (S (2 * (n + 1)))) (rc_f z.2.2.1)) ^^^ (rc_f z.1))), (7, .int ((rc_rotr (z.2.1 - (S (2 * (n + 1) + 1))) (rc_f z.1)) ^^^ (rc_f z.2.2.1))), (11, .int (rc_f z.2.2.1)), (10, .int (rc_f z.1)), (6, .int z.1), (8, .int z.2.2.1), (12, .int z.2.2.2), (0, .ref h0), (3, .ref bo), (4, .int 0)]) hx hb dX2_decryptBlock_204 hl (k := 10) rfl (pk_m1 n) (by decide) rfl (fun ls hl => ?_)
    refine lv_goto (tgt := 68) hx hb dX2_decryptBlock_207 (by decide) ?_
    exact ih _ (by omega) hz ls (lv_sub hl [8, 9, 10, 1, 5, 2, 6, 0] rfl)

set_option maxHeartbeats 4000000 in
set_option maxRecDepth 100000 in
/-- decryptBlock(in, 0, out, 0) -/
theorem met_X2_decryptBlock (l : Launch) (D : va_G) (cB cI : ClassId) (h0 sA bi bo sz : Nat) (fe : Int32) (S f g : Nat → Int32) : Met l yX2_decryptBlock (ws_ yX2_decryptBlock cX2_decryptBlock 13 (some .int)) ({ frames := 1, cells := 0, slots := 0, locals := 24 }) (va_Pc [.ref h0, .ref bi, .int 0, .ref bo, .int 0] (rc_Pre D cB cI sz [(h0, .inr (1, [.ref sA, .int fe])), (sA, .inl (cI, 44, .inl S)), (bi, .inl (cB, 16, .inl f)), (bo, .inl (cB, 16, .inl g))])) (va_Qi (fun (r : Int32) (_ : Unit) => r = 16) (fun _ t => rc_B D cB cI (va_A [(h0, .inr (1, [.ref sA, .int fe])), (sA, .inl (cI, 44, .inl S)), (bi, .inl (cB, 16, .inl f)), (bo, .inl (cB, 16, .inl g))] sz) [(h0, .inr (1, [.ref sA, .int fe])), (sA, .inl (cI, 44, .inl S)), (bi, .inl (cB, 16, .inl f)), (bo, .inl (cB, 16, .inl (rc_out g (rc_dec S (rc_in f)))))] t) (va_A [(h0, .inr (1, [.ref sA, .int fe])), (sA, .inl (cI, 44, .inl S)), (bi, .inl (cB, 16, .inl f)), (bo, .inl (cB, 16, .inl g))] sz)) 0 0 (va_A [(h0, .inr (1, [.ref sA, .int fe])), (sA, .inl (cI, 44, .inl S)), (bi, .inl (cB, 16, .inl f)), (bo, .inl (cB, 16, .inl g))] sz) := by
  refine Met.ofW (cc := cX2_decryptBlock) (maxL := 13) (ret := (some .int)) (by decide) rfl ?_
  intro p e s m args below meth c s₁ B hml hv
  obtain ⟨rfl, hsz, hP, hK, hD0, hX⟩ := hv
  have hx := B.exec
  have hb := B.bytes
  have hr := B.returns
  have hts := atoms_spec (ws := ws_ yX2_decryptBlock cX2_decryptBlock 13 (some .int)) B.pre
  have hts : ∀ w ∈ lw_all, w.before _ s = true := fun w h => hts w (List.mem_cons_of_mem _ h)
  have hown : s.vm.findClass RX2 = some m.cls := findClass_of_methodNamed B.named
  have hlocks := B.notSynchronized
  subst hsz
  have hD := hD0.self (sz := s.heap.size)
  generalize hAe : va_A [(h0, .inr (1, [.ref sA, .int fe])), (sA, .inl (cI, 44, .inl S)), (bi, .inl (cB, 16, .inl f)), (bo, .inl (cB, 16, .inl g))] s.heap.size = A at hD ⊢
  have hA : ∀ q : Nat, s.heap.size ≤ q → A q := fun q h => by rw [← hAe]; exact Or.inr h
  have hS : va_S A s.heap s.heap [] := va_S.rf
  have hP : va_P D vwCl [(h0, .inr (1, [.ref sA, .int fe])), (sA, .inl (cI, 44, .inl S)), (bi, .inl (cB, 16, .inl f)), (bo, .inl (cB, 16, .inl g))] s.heap := hP
  have hl := lv_entry ([.ref h0, .ref bi, .int 0, .ref bo, .int 0]) (n := 13) (Nat.le_of_ble_eq_true rfl)
  rw [lg_entry_eq]
  generalize (lg_sl ([.ref h0, .ref bi, .int 0, .ref bo, .int 0]) ++ List.replicate (13 - (lg_sl ([.ref h0, .ref bi, .int 0, .ref bo, .int 0])).length) Slot.unset).toArray = ls at hl ⊢
  have hl : lv_has ls 13 [(0, .ref h0), (1, .ref bi), (2, .int 0), (3, .ref bo), (4, .int 0)] := hl
  refine lv_aload_n hx hb dX2_decryptBlock_0 rfl (lv_at hl 0 rfl) ?_
  refine lv_aload_n hx hb dX2_decryptBlock_1 rfl (lv_at hl 1 rfl) ?_
  refine lv_iload_n hx hb dX2_decryptBlock_2 rfl (lv_at hl 2 rfl) ?_
  refine vp_callSi (W.runV (As := [.ref bi, .int 0]) (rest := []) ⟨hx, hb, hml, hown, hts⟩ (met_X2_bytesToWord l D cB cI h0 bi s.heap.size 0 16 f (by omega) (by omega)) (cwV 2 hts (lw_V q233 q235 qs5 q11 q236) rfl rfl rfl (by decide +kernel) ⟨Nat.le_of_ble_eq_true rfl, Nat.le_of_ble_eq_true rfl⟩) (rc_pv (va_recv hK hP (ci := 1) (q0 := 0) rfl rfl) (hP.sub [2] rfl) hK (hD.sub [2] (by decide) rfl) hX) rfl rfl hl.1 rfl (lv_room (Nat.le_of_ble_eq_true rfl)) dX2_decryptBlock_3 ⟨Nat.le_of_ble_eq_true rfl, Nat.le_of_ble_eq_true rfl⟩) (fun r_1 er_1 => ?_)
  have er_1 := er_1.symm
  subst er_1
  refine lv_istore (lv' := [(5, .int (rc_w f 0)), (0, .ref h0), (1, .ref bi), (2, .int 0), (3, .ref bo), (4, .int 0)]) hx hb dX2_decryptBlock_6 hl (by decide) rfl (fun ls hl => ?_)
  refine lv_aload_n hx hb dX2_decryptBlock_8 rfl (lv_at hl 1 rfl) ?_
  refine lv_aload_n hx hb dX2_decryptBlock_9 rfl (lv_at hl 2 rfl) ?_
  refine lv_iload_n hx hb dX2_decryptBlock_10 rfl (lv_at hl 3 rfl) ?_
  refine lv_iconst (v := 4) hx hb dX2_decryptBlock_11 (by decide) ?_
  refine lv_iadd hx hb dX2_decryptBlock_12 ?_
  refine rc_is 4 (by decide) ?_
  refine vp_callSi (W.runV (As := [.ref bi, .int 4]) (rest := []) ⟨hx, hb, hml, hown, hts⟩ (met_X2_bytesToWord l D cB cI h0 bi s.heap.size 4 16 f (by omega) (by omega)) (cwV 2 hts (lw_V q233 q235 qs5 q11 q236) rfl rfl rfl (by decide +kernel) ⟨Nat.le_of_ble_eq_true rfl, Nat.le_of_ble_eq_true rfl⟩) (rc_pv (va_recv hK hP (ci := 1) (q0 := 0) rfl rfl) (hP.sub [2] rfl) hK (hD.sub [2] (by decide) rfl) hX) rfl rfl hl.1 rfl (lv_room (Nat.le_of_ble_eq_true rfl)) dX2_decryptBlock_13 ⟨Nat.le_of_ble_eq_true rfl, Nat.le_of_ble_eq_true rfl⟩) (fun r_2 er_2 => ?_)
  have er_2 := er_2.symm
  subst er_2
  refine lv_istore (lv' := [(6, .int (rc_w f 4)), (5, .int (rc_w f 0)), (0, .ref h0), (1, .ref bi), (2, .int 0), (3, .ref bo), (4, .int 0)]) hx hb dX2_decryptBlock_16 hl (by decide) rfl (fun ls hl => ?_)
  refine lv_aload_n hx hb dX2_decryptBlock_18 rfl (lv_at hl 2 rfl) ?_
  refine lv_aload_n hx hb dX2_decryptBlock_19 rfl (lv_at hl 3 rfl) ?_
  refine lv_iload_n hx hb dX2_decryptBlock_20 rfl (lv_at hl 4 rfl) ?_
  refine lv_bipush (v := 8) hx hb dX2_decryptBlock_21 (by decide) ?_
  refine lv_iadd hx hb dX2_decryptBlock_23 ?_
  refine rc_is 8 (by decide) ?_
  refine vp_callSi (W.runV (As := [.ref bi, .int 8]) (rest := []) ⟨hx, hb, hml, hown, hts⟩ (met_X2_bytesToWord l D cB cI h0 bi s.heap.size 8 16 f (by omega) (by omega)) (cwV 2 hts (lw_V q233 q235 qs5 q11 q236) rfl rfl rfl (by decide +kernel) ⟨Nat.le_of_ble_eq_true rfl, Nat.le_of_ble_eq_true rfl⟩) (rc_pv (va_recv hK hP (ci := 1) (q0 := 0) rfl rfl) (hP.sub [2] rfl) hK (hD.sub [2] (by decide) rfl) hX) rfl rfl hl.1 rfl (lv_room (Nat.le_of_ble_eq_true rfl)) dX2_decryptBlock_24 ⟨Nat.le_of_ble_eq_true rfl, Nat.le_of_ble_eq_true rfl⟩) (fun r_3 er_3 => ?_)
  have er_3 := er_3.symm
  subst er_3
  refine lv_istore (lv' := [(7, .int (rc_w f 8)), (6, .int (rc_w f 4)), (5, .int (rc_w f 0)), (0, .ref h0), (1, .ref bi), (2, .int 0), (3, .ref bo), (4, .int 0)]) hx hb dX2_decryptBlock_27 hl (by decide) rfl (fun ls hl => ?_)
  refine lv_aload_n hx hb dX2_decryptBlock_29 rfl (lv_at hl 3 rfl) ?_
  refine lv_aload_n hx hb dX2_decryptBlock_30 rfl (lv_at hl 4 rfl) ?_
  refine lv_iload_n hx hb dX2_decryptBlock_31 rfl (lv_at hl 5 rfl) ?_
  refine lv_bipush (v := 12) hx hb dX2_decryptBlock_32 (by decide) ?_
  refine lv_iadd hx hb dX2_decryptBlock_34 ?_
  refine rc_is 12 (by decide) ?_
  refine vp_callSi (W.runV (As := [.ref bi, .int 12]) (rest := []) ⟨hx, hb, hml, hown, hts⟩ (met_X2_bytesToWord l D cB cI h0 bi s.heap.size 12 16 f (by omega) (by omega)) (cwV 2 hts (lw_V q233 q235 qs5 q11 q236) rfl rfl rfl (by decide +kernel) ⟨Nat.le_of_ble_eq_true rfl, Nat.le_of_ble_eq_true rfl⟩) (rc_pv (va_recv hK hP (ci := 1) (q0 := 0) rfl rfl) (hP.sub [2] rfl) hK (hD.sub [2] (by decide) rfl) hX) rfl rfl hl.1 rfl (lv_room (Nat.le_of_ble_eq_true rfl)) dX2_decryptBlock_35 ⟨Nat.le_of_ble_eq_true rfl, Nat.le_of_ble_eq_true rfl⟩) (fun r_4 er_4 => ?_)
  have er_4 := er_4.symm
  subst er_4
  refine lv_istore (lv' := [(8, .int (rc_w f 12)), (7, .int (rc_w f 8)), (6, .int (rc_w f 4)), (5, .int (rc_w f 0)), (0, .ref h0), (1, .ref bi), (2, .int 0), (3, .ref bo), (4, .int 0)]) hx hb dX2_decryptBlock_38 hl (by decide) rfl (fun ls hl => ?_)
  refine lv_iload hx hb dX2_decryptBlock_40 (lv_at hl 1 rfl) ?_
  refine lv_aload_n hx hb dX2_decryptBlock_42 rfl (lv_at hl 4 rfl) ?_
  refine va_get (D := D) (ci := 1) (v := .ref sA) (C := RX2) (T := TX2) (N := 2) hx hb hts in_X2 hown hK hP 0 rfl rfl 0 (by decide) (hts _ q42) (fun _ h9 => h9) rfl dX2_decryptBlock_43 ?_
  refine lv_bipush (v := 43) hx hb dX2_decryptBlock_46 (by decide) ?_
  refine rc_ldi hx hb hK hP 1 1 rfl rfl 43 rfl (by omega) (by omega) (S 43) rfl dX2_decryptBlock_48 ?_
  refine lv_isub hx hb dX2_decryptBlock_49 ?_
  refine lv_istore (lv' := [(7, .int ((rc_w f 8) - (S 43))), (8, .int (rc_w f 12)), (6, .int (rc_w f 4)), (5, .int (rc_w f 0)), (0, .ref h0), (1, .ref bi), (2, .int 0), (3, .ref bo), (4, .int 0)]) hx hb dX2_decryptBlock_50 hl (by decide) rfl (fun ls hl => ?_)
  refine lv_iload hx hb dX2_decryptBlock_52 (lv_at hl 3 rfl) ?_
  refine lv_aload_n hx hb dX2_decryptBlock_54 rfl (lv_at hl 4 rfl) ?_
  refine va_get (D := D) (ci := 1) (v := .ref sA) (C := RX2) (T := TX2) (N := 2) hx hb hts in_X2 hown hK hP 0 rfl rfl 0 (by decide) (hts _ q42) (fun _ h9 => h9) rfl dX2_decryptBlock_55 ?_
  refine lv_bipush (v := 42) hx hb dX2_decryptBlock_58 (by decide) ?_
  refine rc_ldi hx hb hK hP 1 1 rfl rfl 42 rfl (by omega) (by omega) (S 42) rfl dX2_decryptBlock_60 ?_
  refine lv_isub hx hb dX2_decryptBlock_61 ?_
  refine lv_istore (lv' := [(5, .int ((rc_w f 0) - (S 42))), (7, .int ((rc_w f 8) - (S 43))), (8, .int (rc_w f 12)), (6, .int (rc_w f 4)), (0, .ref h0), (1, .ref bi), (2, .int 0), (3, .ref bo), (4, .int 0)]) hx hb dX2_decryptBlock_62 hl (by decide) rfl (fun ls hl => ?_)
  refine lv_bipush (v := 20) hx hb dX2_decryptBlock_64 (by decide) ?_
  refine lv_istore (lv' := [(9, .int 20), (5, .int ((rc_w f 0) - (S 42))), (7, .int ((rc_w f 8) - (S 43))), (8, .int (rc_w f 12)), (6, .int (rc_w f 4)), (0, .ref h0), (1, .ref bi), (2, .int 0), (3, .ref bo), (4, .int 0)]) hx hb dX2_decryptBlock_66 hl (by decide) rfl (fun ls hl => ?_)
  refine seg_dec h0 sA bi bo fe S f g (rc_dn S 20 (rc_dpr S (rc_in f))) ⟨hx, hb, hml, hown, hts⟩ hK hP (fun ls hl => ?_) 20 (rc_dpr S (rc_in f)) (Nat.le_refl _) (rc_dd_dn S _ 20 (Nat.le_refl _)) ls (lv_sub hl [5, 8, 9, 1, 4, 2, 3, 0] rfl)
  refine lv_iload hx hb dX2_decryptBlock_210 (lv_at hl 6 rfl) ?_
  refine lv_aload_n hx hb dX2_decryptBlock_212 rfl (lv_at hl 0 rfl) ?_
  refine va_get (D := D) (ci := 1) (v := .ref sA) (C := RX2) (T := TX2) (N := 2) hx hb hts in_X2 hown hK hP 0 rfl rfl 0 (by decide) (hts _ q42) (fun _ h9 => h9) rfl dX2_decryptBlock_213 ?_
  refine lv_iconst (v := 1) hx hb dX2_decryptBlock_216 (by decide) ?_
  refine rc_ldi hx hb hK hP 1 1 rfl rfl 1 rfl (by omega) (by omega) (S 1) rfl dX2_decryptBlock_217 ?_
  refine lv_isub hx hb dX2_decryptBlock_218 ?_
  refine lv_istore (lv' := [(8, .int (((rc_dn S 20 (rc_dpr S (rc_in f))).2.2.2) - (S 1))), (0, .ref h0), (3, .ref bo), (4, .int 0), (5, .int ((rc_dn S 20 (rc_dpr S (rc_in f))).1)), (6, .int ((rc_dn S 20 (rc_dpr S (rc_in f))).2.1)), (7, .int ((rc_dn S 20 (rc_dpr S (rc_in f))).2.2.1))]) hx hb dX2_decryptBlock_219 hl (by decide) rfl (fun ls hl => ?_)
  refine lv_iload hx hb dX2_decryptBlock_221 (lv_at hl 5 rfl) ?_
  refine lv_aload_n hx hb dX2_decryptBlock_223 rfl (lv_at hl 1 rfl) ?_
  refine va_get (D := D) (ci := 1) (v := .ref sA) (C := RX2) (T := TX2) (N := 2) hx hb hts in_X2 hown hK hP 0 rfl rfl 0 (by decide) (hts _ q42) (fun _ h9 => h9) rfl dX2_decryptBlock_224 ?_
  refine lv_iconst (v := 0) hx hb dX2_decryptBlock_227 (by decide) ?_
  refine rc_ldi hx hb hK hP 1 1 rfl rfl 0 rfl (by omega) (by omega) (S 0) rfl dX2_decryptBlock_228 ?_
  refine lv_isub hx hb dX2_decryptBlock_229 ?_
  refine lv_istore (lv' := [(6, .int (((rc_dn S 20 (rc_dpr S (rc_in f))).2.1) - (S 0))), (8, .int (((rc_dn S 20 (rc_dpr S (rc_in f))).2.2.2) - (S 1))), (0, .ref h0), (3, .ref bo), (4, .int 0), (5, .int ((rc_dn S 20 (rc_dpr S (rc_in f))).1)), (7, .int ((rc_dn S 20 (rc_dpr S (rc_in f))).2.2.1))]) hx hb dX2_decryptBlock_230 hl (by decide) rfl (fun ls hl => ?_)
  refine lv_aload_n hx hb dX2_decryptBlock_232 rfl (lv_at hl 2 rfl) ?_
  refine lv_iload hx hb dX2_decryptBlock_233 (lv_at hl 5 rfl) ?_
  refine lv_aload_n hx hb dX2_decryptBlock_235 rfl (lv_at hl 3 rfl) ?_
  refine lv_iload hx hb dX2_decryptBlock_236 (lv_at hl 4 rfl) ?_
  refine rc_cv (wr := [(h0, .inr (1, [.ref sA, .int fe])), (sA, .inl (cI, 44, .inl S)), (bi, .inl (cB, 16, .inl f))]) [3] [0, 1, 2] (va_runV (As := [.int ((rc_dn S 20 (rc_dpr S (rc_in f))).1), .ref bo, .int 0]) (rest := []) ⟨hx, hb, hml, hown, hts⟩ (met_X2_wordToBytes l D cB cI h0 bo s.heap.size 0 16 ((rc_dn S 20 (rc_dpr S (rc_in f))).1) g (by omega) (by omega)) (cwV 3 hts (lw_V q237 q239 qs6 q11 q240) rfl rfl rfl (by decide +kernel) ⟨Nat.le_of_ble_eq_true rfl, Nat.le_of_ble_eq_true rfl⟩) (rc_pv (va_recv hK hP (ci := 1) (q0 := 0) rfl rfl) (hP.sub [3] rfl) hK (hD.sub [3] (by decide) rfl) hX) rfl rfl hl.1 rfl (lv_room (Nat.le_of_ble_eq_true rfl)) dX2_decryptBlock_238 ⟨Nat.le_of_ble_eq_true rfl, Nat.le_of_ble_eq_true rfl⟩) hP hD hS hA rfl rfl (by decide) (by decide) (fun _u H locs _hp hP hD hS => ?_)
  have hP : va_P D vwCl [(h0, .inr (1, [.ref sA, .int fe])), (sA, .inl (cI, 44, .inl S)), (bi, .inl (cB, 16, .inl f)), (bo, .inl (cB, 16, .inl (rc_put g ((rc_dn S 20 (rc_dpr S (rc_in f))).1) 0)))] H := hP
  have hD : va_D A [(h0, .inr (1, [.ref sA, .int fe])), (sA, .inl (cI, 44, .inl S)), (bi, .inl (cB, 16, .inl f)), (bo, .inl (cB, 16, .inl (rc_put g ((rc_dn S 20 (rc_dpr S (rc_in f))).1) 0)))] := hD
  refine lv_aload_n hx hb dX2_decryptBlock_241 rfl (lv_at hl 2 rfl) ?_
  refine lv_iload hx hb dX2_decryptBlock_242 (lv_at hl 0 rfl) ?_
  refine lv_aload_n hx hb dX2_decryptBlock_244 rfl (lv_at hl 3 rfl) ?_
  refine lv_iload hx hb dX2_decryptBlock_245 (lv_at hl 4 rfl) ?_
  refine lv_iconst (v := 4) hx hb dX2_decryptBlock_247 (by decide) ?_
  refine lv_iadd hx hb dX2_decryptBlock_248 ?_
  refine rc_is 4 (by decide) ?_
  refine rc_cv (wr := [(h0, .inr (1, [.ref sA, .int fe])), (sA, .inl (cI, 44, .inl S)), (bi, .inl (cB, 16, .inl f))]) [3] [0, 1, 2] (va_runV (As := [.int (((rc_dn S 20 (rc_dpr S (rc_in f))).2.1) - (S 0)), .ref bo, .int 4]) (rest := []) ⟨hx, hb, hml, hown, hts⟩ (met_X2_wordToBytes l D cB cI h0 bo H.size 4 16 (((rc_dn S 20 (rc_dpr S (rc_in f))).2.1) - (S 0)) (rc_put g ((rc_dn S 20 (rc_dpr S (rc_in f))).1) 0) (by omega) (by omega)) (cwV 3 hts (lw_V q237 q239 qs6 q11 q240) rfl rfl rfl (by decide +kernel) ⟨Nat.le_of_ble_eq_true rfl, Nat.le_of_ble_eq_true rfl⟩) (rc_pv (va_recv hK hP (ci := 1) (q0 := 0) rfl rfl) (hP.sub [3] rfl) hK (hD.sub [3] (by decide) rfl) hX) rfl rfl hl.1 rfl (lv_room (Nat.le_of_ble_eq_true rfl)) dX2_decryptBlock_249 ⟨Nat.le_of_ble_eq_true rfl, Nat.le_of_ble_eq_true rfl⟩) hP hD hS hA rfl rfl (by decide) (by decide) (fun _u H locs _hp hP hD hS => ?_)
  have hP : va_P D vwCl [(h0, .inr (1, [.ref sA, .int fe])), (sA, .inl (cI, 44, .inl S)), (bi, .inl (cB, 16, .inl f)), (bo, .inl (cB, 16, .inl (rc_put (rc_put g ((rc_dn S 20 (rc_dpr S (rc_in f))).1) 0) (((rc_dn S 20 (rc_dpr S (rc_in f))).2.1) - (S 0)) 4)))] H := hP
  have hD : va_D A [(h0, .inr (1, [.ref sA, .int fe])), (sA, .inl (cI, 44, .inl S)), (bi, .inl (cB, 16, .inl f)), (bo, .inl (cB, 16, .inl (rc_put (rc_put g ((rc_dn S 20 (rc_dpr S (rc_in f))).1) 0) (((rc_dn S 20 (rc_dpr S (rc_in f))).2.1) - (S 0)) 4)))] := hD
  refine lv_aload_n hx hb dX2_decryptBlock_252 rfl (lv_at hl 2 rfl) ?_
  refine lv_iload hx hb dX2_decryptBlock_253 (lv_at hl 6 rfl) ?_
  refine lv_aload_n hx hb dX2_decryptBlock_255 rfl (lv_at hl 3 rfl) ?_
  refine lv_iload hx hb dX2_decryptBlock_256 (lv_at hl 4 rfl) ?_
  refine lv_bipush (v := 8) hx hb dX2_decryptBlock_258 (by decide) ?_
  refine lv_iadd hx hb dX2_decryptBlock_260 ?_
  refine rc_is 8 (by decide) ?_
  refine rc_cv (wr := [(h0, .inr (1, [.ref sA, .int fe])), (sA, .inl (cI, 44, .inl S)), (bi, .inl (cB, 16, .inl f))]) [3] [0, 1, 2] (va_runV (As := [.int ((rc_dn S 20 (rc_dpr S (rc_in f))).2.2.1), .ref bo, .int 8]) (rest := []) ⟨hx, hb, hml, hown, hts⟩ (met_X2_wordToBytes l D cB cI h0 bo H.size 8 16 ((rc_dn S 20 (rc_dpr S (rc_in f))).2.2.1) (rc_put (rc_put g ((rc_dn S 20 (rc_dpr S (rc_in f))).1) 0) (((rc_dn S 20 (rc_dpr S (rc_in f))).2.1) - (S 0)) 4) (by omega) (by omega)) (cwV 3 hts (lw_V q237 q239 qs6 q11 q240) rfl rfl rfl (by decide +kernel) ⟨Nat.le_of_ble_eq_true rfl, Nat.le_of_ble_eq_true rfl⟩) (rc_pv (va_recv hK hP (ci := 1) (q0 := 0) rfl rfl) (hP.sub [3] rfl) hK (hD.sub [3] (by decide) rfl) hX) rfl rfl hl.1 rfl (lv_room (Nat.le_of_ble_eq_true rfl)) dX2_decryptBlock_261 ⟨Nat.le_of_ble_eq_true rfl, Nat.le_of_ble_eq_true rfl⟩) hP hD hS hA rfl rfl (by decide) (by decide) (fun _u H locs _hp hP hD hS => ?_)
  have hP : va_P D vwCl [(h0, .inr (1, [.ref sA, .int fe])), (sA, .inl (cI, 44, .inl S)), (bi, .inl (cB, 16, .inl f)), (bo, .inl (cB, 16, .inl (rc_put (rc_put (rc_put g ((rc_dn S 20 (rc_dpr S (rc_in f))).1) 0) (((rc_dn S 20 (rc_dpr S (rc_in f))).2.1) - (S 0)) 4) ((rc_dn S 20 (rc_dpr S (rc_in f))).2.2.1) 8)))] H := hP
  have hD : va_D A [(h0, .inr (1, [.ref sA, .int fe])), (sA, .inl (cI, 44, .inl S)), (bi, .inl (cB, 16, .inl f)), (bo, .inl (cB, 16, .inl (rc_put (rc_put (rc_put g ((rc_dn S 20 (rc_dpr S (rc_in f))).1) 0) (((rc_dn S 20 (rc_dpr S (rc_in f))).2.1) - (S 0)) 4) ((rc_dn S 20 (rc_dpr S (rc_in f))).2.2.1) 8)))] := hD
  refine lv_aload_n hx hb dX2_decryptBlock_264 rfl (lv_at hl 2 rfl) ?_
  refine lv_iload hx hb dX2_decryptBlock_265 (lv_at hl 1 rfl) ?_
  refine lv_aload_n hx hb dX2_decryptBlock_267 rfl (lv_at hl 3 rfl) ?_
  refine lv_iload hx hb dX2_decryptBlock_268 (lv_at hl 4 rfl) ?_
  refine lv_bipush (v := 12) hx hb dX2_decryptBlock_270 (by decide) ?_
  refine lv_iadd hx hb dX2_decryptBlock_272 ?_
  refine rc_is 12 (by decide) ?_
  refine rc_cv (wr := [(h0, .inr (1, [.ref sA, .int fe])), (sA, .inl (cI, 44, .inl S)), (bi, .inl (cB, 16, .inl f))]) [3] [0, 1, 2] (va_runV (As := [.int (((rc_dn S 20 (rc_dpr S (rc_in f))).2.2.2) - (S 1)), .ref bo, .int 12]) (rest := []) ⟨hx, hb, hml, hown, hts⟩ (met_X2_wordToBytes l D cB cI h0 bo H.size 12 16 (((rc_dn S 20 (rc_dpr S (rc_in f))).2.2.2) - (S 1)) (rc_put (rc_put (rc_put g ((rc_dn S 20 (rc_dpr S (rc_in f))).1) 0) (((rc_dn S 20 (rc_dpr S (rc_in f))).2.1) - (S 0)) 4) ((rc_dn S 20 (rc_dpr S (rc_in f))).2.2.1) 8) (by omega) (by omega)) (cwV 3 hts (lw_V q237 q239 qs6 q11 q240) rfl rfl rfl (by decide +kernel) ⟨Nat.le_of_ble_eq_true rfl, Nat.le_of_ble_eq_true rfl⟩) (rc_pv (va_recv hK hP (ci := 1) (q0 := 0) rfl rfl) (hP.sub [3] rfl) hK (hD.sub [3] (by decide) rfl) hX) rfl rfl hl.1 rfl (lv_room (Nat.le_of_ble_eq_true rfl)) dX2_decryptBlock_273 ⟨Nat.le_of_ble_eq_true rfl, Nat.le_of_ble_eq_true rfl⟩) hP hD hS hA rfl rfl (by decide) (by decide) (fun _u H locs _hp hP hD hS => ?_)
  have hP : va_P D vwCl [(h0, .inr (1, [.ref sA, .int fe])), (sA, .inl (cI, 44, .inl S)), (bi, .inl (cB, 16, .inl f)), (bo, .inl (cB, 16, .inl (rc_put (rc_put (rc_put (rc_put g ((rc_dn S 20 (rc_dpr S (rc_in f))).1) 0) (((rc_dn S 20 (rc_dpr S (rc_in f))).2.1) - (S 0)) 4) ((rc_dn S 20 (rc_dpr S (rc_in f))).2.2.1) 8) (((rc_dn S 20 (rc_dpr S (rc_in f))).2.2.2) - (S 1)) 12)))] H := hP
  have hD : va_D A [(h0, .inr (1, [.ref sA, .int fe])), (sA, .inl (cI, 44, .inl S)), (bi, .inl (cB, 16, .inl f)), (bo, .inl (cB, 16, .inl (rc_put (rc_put (rc_put (rc_put g ((rc_dn S 20 (rc_dpr S (rc_in f))).1) 0) (((rc_dn S 20 (rc_dpr S (rc_in f))).2.1) - (S 0)) 4) ((rc_dn S 20 (rc_dpr S (rc_in f))).2.2.1) 8) (((rc_dn S 20 (rc_dpr S (rc_in f))).2.2.2) - (S 1)) 12)))] := hD
  refine lv_bipush (v := 16) hx hb dX2_decryptBlock_276 (by decide) ?_
  have hP9 := hP.sub (ws' := [(h0, .inr (1, [.ref sA, .int fe])), (sA, .inl (cI, 44, .inl S)), (bi, .inl (cB, 16, .inl f)), (bo, .inl (cB, 16, .inl (rc_out g (rc_dec S (rc_in f)))))]) [0, 1, 2, 3] rfl
  have hD9 := hD.sub (ws' := [(h0, .inr (1, [.ref sA, .int fe])), (sA, .inl (cI, 44, .inl S)), (bi, .inl (cB, 16, .inl f)), (bo, .inl (cB, 16, .inl (rc_out g (rc_dec S (rc_in f)))))]) [0, 1, 2, 3] (by decide) rfl
  exact W.iret (v := 16) hx hb hr (fun t ht hW => ⟨⟨16, (), rfl, rfl, by rw [ht]; exact hP9, va_K.moved hW.alike hK, hD9⟩, hS.F ht⟩) hS.2.2 dX2_decryptBlock_278
end
section
/-! ===== RC6Engine: setKey, init, processBlock ===== -/

theorem rc_m1 (x : Int32) : x + Int32.ofInt (-1) = x - 1 := (Int32.sub_eq_add_neg x 1).symm

set_option maxHeartbeats 4000000 in
set_option maxRecDepth 100000 in
/-- setKey's first loop, i bytes left -/
theorem seg_l1 {p : Program} {l : Launch} {e : Env} {s : State} {m : MethodId} {args : Array Value} {below : List Frame} {meth : Method} {c : Code} {Q : State → Prop} {D : va_G} {cB cI : ClassId} {A : Nat → Prop} {H0 : Heap} (c0 : Nat) (hc : c0 ≤ 8) (h0 ka : Nat) (fe : Int32) (f : Nat → Int32) (lA : Nat) (L2 : Nat → Int32) (F : CallFix p m c cX2_setKey 10 s args lw_all RX2) (hK : va_K D vwCl (rc_T cB cI) s) (hA : ∀ q, H0.size ≤ q → A q) (kend : ∀ (H : Heap) (locs : List Loc) (ls : Array Slot), va_P D vwCl [(h0, .inr (1, [.null, .int fe])), (ka, .inl (cB, 4 * c0, .inl f)), (lA, .inl (cI, c0, .inl L2))] H → va_D A [(h0, .inr (1, [.null, .int fe])), (ka, .inl (cB, 4 * c0, .inl f)), (lA, .inl (cI, c0, .inl L2))] → va_S A H0 H locs → lv_has ls 10 [(0, .ref h0), (1, .ref ka), (3, .ref lA)] → W p l e ({ frames := 1, cells := 2, slots := 52, locals := 22 }) s m args below meth c H locs 1 8 Q (F0 m 65 ls [])) : ∀ (i : Nat) (g : Nat → Int32) (x4 : Int32), i ≤ 4 * c0 → x4 = nI i - 1 → rc_l1 f i g = L2 → ∀ (H : Heap) (locs : List Loc) (ls : Array Slot), va_P D vwCl [(h0, .inr (1, [.null, .int fe])), (ka, .inl (cB, 4 * c0, .inl f)), (lA, .inl (cI, c0, .inl g))] H → va_D A [(h0, .inr (1, [.null, .int fe])), (ka, .inl (cB, 4 * c0, .inl f)), (lA, .inl (cI, c0, .inl g))] → va_S A H0 H locs → lv_has ls 10 [(0, .ref h0), (1, .ref ka), (3, .ref lA), (4, .int x4)] → W p l e ({ frames := 1, cells := 2, slots := 52, locals := 22 }) s m args below meth c H locs 1 8 Q (F0 m 30 ls []) := by
  obtain ⟨hx, hb, hml, hown, hts⟩ := id F
  intro i
  induction i with
  | zero =>
    intro g x4 hi hx4 hg H locs ls hP hD hS hl
    obtain rfl : g = L2 := hg
    subst hx4
    refine lv_iload hx hb dX2_setKey_30 (lv_at hl 3 rfl) ?_
    refine lv_if_lt (tgt := 65) hx hb dX2_setKey_32 (by decide) (fun _ => ?_) (fun c_ => absurd (by decide) c_)
    exact kend H locs ls hP hD hS (lv_sub hl [0, 1, 2] rfl)
  | succ j ih =>
    intro g x4 hi hx4 hg H locs ls hP hD hS hl
    obtain rfl : x4 = nI j := hx4.trans (nI_pred j)
    refine lv_iload hx hb dX2_setKey_30 (lv_at hl 3 rfl) ?_
    refine lv_if_lt (tgt := 65) hx hb dX2_setKey_32 (by decide) (fun c_ => absurd c_ (nI_pos (show j < 2 ^ 31 by omega))) (fun _ => ?_)
    refine lv_aload_n hx hb dX2_setKey_35 rfl (lv_at hl 2 rfl) ?_
    refine lv_iload hx hb dX2_setKey_36 (lv_at hl 3 rfl) ?_
    refine lv_iconst (v := 4) hx hb dX2_setKey_38 (by decide) ?_
    refine lv_idiv hx hb dX2_setKey_39 (by decide) ?_
    refine rc_is (nI (j / 4)) (pk_div (a := j) (d := 4) (by omega) (by omega) (by omega)) ?_
    refine lv_aload_n hx hb dX2_setKey_40 rfl (lv_at hl 2 rfl) ?_
    refine lv_iload hx hb dX2_setKey_41 (lv_at hl 3 rfl) ?_
    refine lv_iconst (v := 4) hx hb dX2_setKey_43 (by decide) ?_
    refine lv_idiv hx hb dX2_setKey_44 (by decide) ?_
    refine rc_is (nI (j / 4)) (pk_div (a := j) (d := 4) (by omega) (by omega) (by omega)) ?_
    refine rc_ldi hx hb hK hP 2 1 rfl rfl (j / 4) rfl (by omega) (by omega) (g (j / 4)) rfl dX2_setKey_45 ?_
    refine lv_bipush (v := 8) hx hb dX2_setKey_46 (by decide) ?_
    refine lv_ishl hx hb dX2_setKey_48 ?_
    refine lv_aload_n hx hb dX2_setKey_49 rfl (lv_at hl 1 rfl) ?_
    refine lv_iload hx hb dX2_setKey_50 (lv_at hl 3 rfl) ?_
    refine rc_ldb hx hb hK hP 1 0 rfl rfl j rfl (by omega) (by omega) (f j) rfl dX2_setKey_52 ?_
    refine lv_sipush (v := 255) hx hb dX2_setKey_53 (by decide) ?_
    refine lv_iand hx hb dX2_setKey_56 ?_
    refine lv_iadd hx hb dX2_setKey_57 ?_
    refine rc_is (rc_sh (g (j / 4)) (f j)) rfl ?_
    refine rc_sti hx hb hK hP hD hS 2 1 rfl rfl (j / 4) rfl (by omega) (by omega) (upd g (j / 4) (rc_sh (g (j / 4)) (f j))) rfl [(h0, .inr (1, [.null, .int fe])), (ka, .inl (cB, 4 * c0, .inl f)), (lA, .inl (cI, c0, .inl (upd g (j / 4) (rc_sh (g (j / 4)) (f j)))))] rfl dX2_setKey_58 (fun H locs hP hD hS => ?_)
    refine lv_iinc (v := (nI j - 1)) (lv' := [(4, .int (nI j - 1)), (0, .ref h0), (1, .ref ka), (3, .ref lA)]) hx hb dX2_setKey_59 hl (k := 3) rfl (rc_m1 _) (by decide) rfl (fun ls hl => ?_)
    refine lv_goto (tgt := 30) hx hb dX2_setKey_62 (by decide) ?_
    exact ih _ _ (by omega) rfl hg H locs ls hP hD hS (lv_sub hl [1, 2, 3, 0] rfl)

set_option maxHeartbeats 4000000 in
set_option maxRecDepth 100000 in
/-- setKey's second loop: k + 1 words stand, r are left -/
theorem seg_s0 {p : Program} {l : Launch} {e : Env} {s : State} {m : MethodId} {args : Array Value} {below : List Frame} {meth : Method} {c : Code} {Q : State → Prop} {D : va_G} {cB cI : ClassId} {A : Nat → Prop} {H0 : Heap} (c0 : Nat) (h0 ka : Nat) (fe : Int32) (f : Nat → Int32) (lA sA : Nat) (L2 : Nat → Int32) (F : CallFix p m c cX2_setKey 10 s args lw_all RX2) (hK : va_K D vwCl (rc_T cB cI) s) (hA : ∀ q, H0.size ≤ q → A q) (kend : ∀ (H : Heap) (locs : List Loc) (ls : Array Slot), va_P D vwCl [(h0, .inr (1, [.ref sA, .int fe])), (ka, .inl (cB, 4 * c0, .inl f)), (lA, .inl (cI, c0, .inl L2)), (sA, .inl (cI, 44, .inl (rc_s0 44)))] H → va_D A [(h0, .inr (1, [.ref sA, .int fe])), (ka, .inl (cB, 4 * c0, .inl f)), (lA, .inl (cI, c0, .inl L2)), (sA, .inl (cI, 44, .inl (rc_s0 44)))] → va_S A H0 H locs → lv_has ls 10 [(0, .ref h0), (1, .ref ka), (3, .ref lA)] → W p l e ({ frames := 1, cells := 2, slots := 52, locals := 22 }) s m args below meth c H locs 2 52 Q (F0 m 119 ls [])) : ∀ (r k : Nat), k + r = 43 → ∀ (H : Heap) (locs : List Loc) (ls : Array Slot), va_P D vwCl [(h0, .inr (1, [.ref sA, .int fe])), (ka, .inl (cB, 4 * c0, .inl f)), (lA, .inl (cI, c0, .inl L2)), (sA, .inl (cI, 44, .inl (rc_s0 (k + 1))))] H → va_D A [(h0, .inr (1, [.ref sA, .int fe])), (ka, .inl (cB, 4 * c0, .inl f)), (lA, .inl (cI, c0, .inl L2)), (sA, .inl (cI, 44, .inl (rc_s0 (k + 1))))] → va_S A H0 H locs → lv_has ls 10 [(0, .ref h0), (1, .ref ka), (3, .ref lA), (4, .int (nI (k + 1)))] → W p l e ({ frames := 1, cells := 2, slots := 52, locals := 22 }) s m args below meth c H locs 2 52 Q (F0 m 84 ls []) := by
  obtain ⟨hx, hb, hml, hown, hts⟩ := id F
  intro r
  induction r with
  | zero =>
    intro k hk H locs ls hP hD hS hl
    obtain rfl : k = 43 := by omega
    refine lv_iload hx hb dX2_setKey_84 (lv_at hl 3 rfl) ?_
    refine lv_aload_n hx hb dX2_setKey_86 rfl (lv_at hl 0 rfl) ?_
    refine va_get (D := D) (ci := 1) (v := .ref sA) (C := RX2) (T := TX2) (N := 2) hx hb hts in_X2 hown hK hP 0 rfl rfl 0 (by decide) (hts _ q42) (fun _ h9 => h9) rfl dX2_setKey_87 ?_
    refine va_alen (v := 44) hx hb hK hP 3 1 rfl rfl rfl dX2_setKey_90 ?_
    refine lv_icmp_ge (tgt := 119) hx hb dX2_setKey_91 (by decide) (fun _ => ?_) (fun c_ => absurd (by decide) c_)
    exact kend H locs ls hP hD hS (lv_sub hl [0, 1, 2] rfl)
  | succ r ih =>
    intro k hk H locs ls hP hD hS hl
    refine lv_iload hx hb dX2_setKey_84 (lv_at hl 3 rfl) ?_
    refine lv_aload_n hx hb dX2_setKey_86 rfl (lv_at hl 0 rfl) ?_
    refine va_get (D := D) (ci := 1) (v := .ref sA) (C := RX2) (T := TX2) (N := 2) hx hb hts in_X2 hown hK hP 0 rfl rfl 0 (by decide) (hts _ q42) (fun _ h9 => h9) rfl dX2_setKey_87 ?_
    refine va_alen (v := 44) hx hb hK hP 3 1 rfl rfl rfl dX2_setKey_90 ?_
    refine lv_icmp_ge (tgt := 119) hx hb dX2_setKey_91 (by decide) (fun c_ => absurd c_ (nI_ge (a := k + 1) (b := 44) (by omega) (by omega))) (fun _ => ?_)
    refine lv_aload_n hx hb dX2_setKey_94 rfl (lv_at hl 0 rfl) ?_
    refine va_get (D := D) (ci := 1) (v := .ref sA) (C := RX2) (T := TX2) (N := 2) hx hb hts in_X2 hown hK hP 0 rfl rfl 0 (by decide) (hts _ q42) (fun _ h9 => h9) rfl dX2_setKey_95 ?_
    refine lv_iload hx hb dX2_setKey_98 (lv_at hl 3 rfl) ?_
    refine lv_aload_n hx hb dX2_setKey_100 rfl (lv_at hl 0 rfl) ?_
    refine va_get (D := D) (ci := 1) (v := .ref sA) (C := RX2) (T := TX2) (N := 2) hx hb hts in_X2 hown hK hP 0 rfl rfl 0 (by decide) (hts _ q42) (fun _ h9 => h9) rfl dX2_setKey_101 ?_
    refine lv_iload hx hb dX2_setKey_104 (lv_at hl 3 rfl) ?_
    refine lv_iconst (v := 1) hx hb dX2_setKey_106 (by decide) ?_
    refine lv_isub hx hb dX2_setKey_107 ?_
    refine rc_is (nI k) (nI_pred k) ?_
    refine rc_ldi hx hb hK hP 3 1 rfl rfl k rfl (by omega) (by omega) (rc_p k) (if_pos (by omega)) dX2_setKey_108 ?_
    refine lv_ldc (v := (-1640531527)) hx hb hown (hts _ q157) dX2_setKey_109 ?_
    refine lv_iadd hx hb dX2_setKey_111 ?_
    refine rc_is (rc_p (k + 1)) rfl ?_
    refine rc_sti hx hb hK hP hD hS 3 1 rfl rfl (k + 1) rfl (by omega) (by omega) (rc_s0 (k + 1 + 1)) (rc_s0_s (k + 1)) [(h0, .inr (1, [.ref sA, .int fe])), (ka, .inl (cB, 4 * c0, .inl f)), (lA, .inl (cI, c0, .inl L2)), (sA, .inl (cI, 44, .inl (rc_s0 (k + 1 + 1))))] rfl dX2_setKey_112 (fun H locs hP hD hS => ?_)
    refine lv_iinc (v := nI (k + 1 + 1)) (lv' := [(4, .int (nI (k + 1 + 1))), (0, .ref h0), (1, .ref ka), (3, .ref lA)]) hx hb dX2_setKey_113 hl (k := 3) rfl (nI_1 (k + 1)) (by decide) rfl (fun ls hl => ?_)
    refine lv_goto (tgt := 84) hx hb dX2_setKey_116 (by decide) ?_
    exact ih (k + 1) (by omega) H locs ls hP hD hS (lv_sub hl [1, 2, 3, 0] rfl)

set_option maxHeartbeats 4000000 in
set_option maxRecDepth 100000 in
/-- setKey's third loop: k steps are done, r are left -/
theorem seg_s3 {p : Program} {l : Launch} {e : Env} {s : State} {m : MethodId} {args : Array Value} {below : List Frame} {meth : Method} {c : Code} {Q : State → Prop} {D : va_G} {cB cI : ClassId} {A : Nat → Prop} {H0 : Heap} (c0 : Nat) (hc0 : 0 < c0) (hc : c0 ≤ 8) (h0 ka : Nat) (fe : Int32) (f : Nat → Int32) (lA sA : Nat) (L2 : Nat → Int32) (F : CallFix p m c cX2_setKey 10 s args lw_all RX2) (hK : va_K D vwCl (rc_T cB cI) s) (hA : ∀ q, H0.size ≤ q → A q) (kend : ∀ (H : Heap) (locs : List Loc) (ls : Array Slot), va_P D vwCl [(h0, .inr (1, [.ref sA, .int fe])), (ka, .inl (cB, 4 * c0, .inl f)), (sA, .inl (cI, 44, .inl ((rc_st c0 L2 132).1)))] H → va_D A [(h0, .inr (1, [.ref sA, .int fe])), (ka, .inl (cB, 4 * c0, .inl f)), (sA, .inl (cI, 44, .inl ((rc_st c0 L2 132).1)))] → va_S A H0 H locs → lv_has ls 10 [(0, .ref h0)] → W p l e ({ frames := 1, cells := 2, slots := 52, locals := 22 }) s m args below meth c H locs 2 52 Q (F0 m 250 ls [])) : ∀ (r k : Nat), k + r = 132 → ∀ (H : Heap) (locs : List Loc) (ls : Array Slot), va_P D vwCl [(h0, .inr (1, [.ref sA, .int fe])), (ka, .inl (cB, 4 * c0, .inl f)), (lA, .inl (cI, c0, .inl ((rc_st c0 L2 k).2.1))), (sA, .inl (cI, 44, .inl ((rc_st c0 L2 k).1)))] H → va_D A [(h0, .inr (1, [.ref sA, .int fe])), (ka, .inl (cB, 4 * c0, .inl f)), (lA, .inl (cI, c0, .inl ((rc_st c0 L2 k).2.1))), (sA, .inl (cI, 44, .inl ((rc_st c0 L2 k).1)))] → va_S A H0 H locs → lv_has ls 10 [(0, .ref h0), (3, .ref lA), (4, .int 132), (5, .int ((rc_st c0 L2 k).2.2.1)), (6, .int ((rc_st c0 L2 k).2.2.2)), (7, .int (nI (k % 44))), (8, .int (nI (k % c0))), (9, .int (nI k))] → W p l e ({ frames := 1, cells := 2, slots := 52, locals := 22 }) s m args below meth c H locs 2 52 Q (F0 m 162 ls []) := by
  obtain ⟨hx, hb, hml, hown, hts⟩ := id F
  intro r
  induction r with
  | zero =>
    intro k hk H locs ls hP hD hS hl
    obtain rfl : k = 132 := by omega
    refine lv_iload hx hb dX2_setKey_162 (lv_at hl 7 rfl) ?_
    refine lv_iload hx hb dX2_setKey_164 (lv_at hl 2 rfl) ?_
    refine lv_icmp_ge (tgt := 250) hx hb dX2_setKey_166 (by decide) (fun _ => ?_) (fun c_ => absurd (by decide) c_)
    exact kend H locs ls (hP.sub [0, 1, 3] rfl) (hD.sub [0, 1, 3] (by decide) rfl) hS (lv_sub hl [0] rfl)
  | succ r ih =>
    intro k hk H locs ls hP hD hS hl
    have hkc : k % c0 < c0 := Nat.mod_lt _ hc0
    refine lv_iload hx hb dX2_setKey_162 (lv_at hl 7 rfl) ?_
    refine lv_iload hx hb dX2_setKey_164 (lv_at hl 2 rfl) ?_
    refine lv_icmp_ge (tgt := 250) hx hb dX2_setKey_166 (by decide) (fun c_ => absurd c_ (nI_ge (a := k) (b := 132) (by omega) (by omega))) (fun _ => ?_)
    refine lv_aload_n hx hb dX2_setKey_169 rfl (lv_at hl 0 rfl) ?_
    refine va_get (D := D) (ci := 1) (v := .ref sA) (C := RX2) (T := TX2) (N := 2) hx hb hts in_X2 hown hK hP 0 rfl rfl 0 (by decide) (hts _ q42) (fun _ h9 => h9) rfl dX2_setKey_170 ?_
    refine lv_iload hx hb dX2_setKey_173 (lv_at hl 5 rfl) ?_
    refine lv_aload_n hx hb dX2_setKey_175 rfl (lv_at hl 0 rfl) ?_
    refine lv_aload_n hx hb dX2_setKey_176 rfl (lv_at hl 0 rfl) ?_
    refine va_get (D := D) (ci := 1) (v := .ref sA) (C := RX2) (T := TX2) (N := 2) hx hb hts in_X2 hown hK hP 0 rfl rfl 0 (by decide) (hts _ q42) (fun _ h9 => h9) rfl dX2_setKey_177 ?_
    refine lv_iload hx hb dX2_setKey_180 (lv_at hl 5 rfl) ?_
    refine rc_ldi hx hb hK hP 3 1 rfl rfl (k % 44) rfl (by omega) (by omega) (((rc_st c0 L2 k).1) (k % 44)) rfl dX2_setKey_182 ?_
    refine lv_iload hx hb dX2_setKey_183 (lv_at hl 3 rfl) ?_
    refine lv_iadd hx hb dX2_setKey_185 ?_
    refine lv_iload hx hb dX2_setKey_186 (lv_at hl 4 rfl) ?_
    refine lv_iadd hx hb dX2_setKey_188 ?_
    refine lv_iconst (v := 3) hx hb dX2_setKey_189 (by decide) ?_
    refine vp_callSi (W.runV (As := [.int (((((rc_st c0 L2 k).1) (k % 44)) + ((rc_st c0 L2 k).2.2.1)) + ((rc_st c0 L2 k).2.2.2)), .int 3]) (rest := [.int (nI (k % 44)), .ref sA]) ⟨hx, hb, hml, hown, hts⟩ (met_X2_rotateLeft l h0 (((((rc_st c0 L2 k).1) (k % 44)) + ((rc_st c0 L2 k).2.2.1)) + ((rc_st c0 L2 k).2.2.2)) 3) (cwV 2 hts (lw_V q158 q160 qs3 q11 q161) rfl rfl rfl (by decide +kernel) ⟨Nat.le_of_ble_eq_true rfl, Nat.le_of_ble_eq_true rfl⟩) (rc_pv0 (va_recv hK hP (ci := 1) (q0 := 0) rfl rfl)) rfl rfl hl.1 rfl (lv_room (Nat.le_of_ble_eq_true rfl)) dX2_setKey_190 ⟨Nat.le_of_ble_eq_true rfl, Nat.le_of_ble_eq_true rfl⟩) (fun r_1 er_1 => ?_)
    have er_1 := er_1.symm
    subst er_1
    refine rc_is (rc_kA (k % 44) (rc_st c0 L2 k)) rfl ?_
    refine lv_dup_x2 hx hb dX2_setKey_193 rfl rfl rfl ?_
    refine rc_sti hx hb hK hP hD hS 3 1 rfl rfl (k % 44) rfl (by omega) (by omega) (upd ((rc_st c0 L2 k).1) (k % 44) (rc_kA (k % 44) (rc_st c0 L2 k))) rfl [(h0, .inr (1, [.ref sA, .int fe])), (ka, .inl (cB, 4 * c0, .inl f)), (lA, .inl (cI, c0, .inl ((rc_st c0 L2 k).2.1))), (sA, .inl (cI, 44, .inl (upd ((rc_st c0 L2 k).1) (k % 44) (rc_kA (k % 44) (rc_st c0 L2 k)))))] rfl dX2_setKey_194 (fun H locs hP hD hS => ?_)
    refine lv_istore (lv' := [(5, .int (rc_kA (k % 44) (rc_st c0 L2 k))), (0, .ref h0), (3, .ref lA), (4, .int 132), (6, .int ((rc_st c0 L2 k).2.2.2)), (7, .int (nI (k % 44))), (8, .int (nI (k % c0))), (9, .int (nI k))]) hx hb dX2_setKey_195 hl (by decide) rfl (fun ls hl => ?_)
    refine lv_aload_n hx hb dX2_setKey_197 rfl (lv_at hl 2 rfl) ?_
    refine lv_iload hx hb dX2_setKey_198 (lv_at hl 6 rfl) ?_
    refine lv_aload_n hx hb dX2_setKey_200 rfl (lv_at hl 1 rfl) ?_
    refine lv_aload_n hx hb dX2_setKey_201 rfl (lv_at hl 2 rfl) ?_
    refine lv_iload hx hb dX2_setKey_202 (lv_at hl 6 rfl) ?_
    refine rc_ldi hx hb hK hP 2 1 rfl rfl (k % c0) rfl (by omega) (by omega) (((rc_st c0 L2 k).2.1) (k % c0)) rfl dX2_setKey_204 ?_
    refine lv_iload hx hb dX2_setKey_205 (lv_at hl 0 rfl) ?_
    refine lv_iadd hx hb dX2_setKey_207 ?_
    refine lv_iload hx hb dX2_setKey_208 (lv_at hl 4 rfl) ?_
    refine lv_iadd hx hb dX2_setKey_210 ?_
    refine lv_iload hx hb dX2_setKey_211 (lv_at hl 0 rfl) ?_
    refine lv_iload hx hb dX2_setKey_213 (lv_at hl 4 rfl) ?_
    refine lv_iadd hx hb dX2_setKey_215 ?_
    refine vp_callSi (W.runV (As := [.int (((((rc_st c0 L2 k).2.1) (k % c0)) + (rc_kA (k % 44) (rc_st c0 L2 k))) + ((rc_st c0 L2 k).2.2.2)), .int ((rc_kA (k % 44) (rc_st c0 L2 k)) + ((rc_st c0 L2 k).2.2.2))]) (rest := [.int (nI (k % c0)), .ref lA]) ⟨hx, hb, hml, hown, hts⟩ (met_X2_rotateLeft l h0 (((((rc_st c0 L2 k).2.1) (k % c0)) + (rc_kA (k % 44) (rc_st c0 L2 k))) + ((rc_st c0 L2 k).2.2.2)) ((rc_kA (k % 44) (rc_st c0 L2 k)) + ((rc_st c0 L2 k).2.2.2))) (cwV 2 hts (lw_V q158 q160 qs3 q11 q161) rfl rfl rfl (by decide +kernel) ⟨Nat.le_of_ble_eq_true rfl, Nat.le_of_ble_eq_true rfl⟩) (rc_pv0 (va_recv hK hP (ci := 1) (q0 := 0) rfl rfl)) rfl rfl hl.1 rfl (lv_room (Nat.le_of_ble_eq_true rfl)) dX2_setKey_216 ⟨Nat.le_of_ble_eq_true rfl, Nat.le_of_ble_eq_true rfl⟩) (fun r_2 er_2 => ?_)
    have er_2 := er_2.symm
    subst er_2
    refine rc_is (rc_kB (k % 44) (k % c0) (rc_st c0 L2 k)) rfl ?_
    refine lv_dup_x2 hx hb dX2_setKey_219 rfl rfl rfl ?_
    refine rc_sti hx hb hK hP hD hS 2 1 rfl rfl (k % c0) rfl (by omega) (by omega) (upd ((rc_st c0 L2 k).2.1) (k % c0) (rc_kB (k % 44) (k % c0) (rc_st c0 L2 k))) rfl [(h0, .inr (1, [.ref sA, .int fe])), (ka, .inl (cB, 4 * c0, .inl f)), (lA, .inl (cI, c0, .inl (upd ((rc_st c0 L2 k).2.1) (k % c0) (rc_kB (k % 44) (k % c0) (rc_st c0 L2 k))))), (sA, .inl (cI, 44, .inl (upd ((rc_st c0 L2 k).1) (k % 44) (rc_kA (k % 44) (rc_st c0 L2 k)))))] rfl dX2_setKey_220 (fun H locs hP hD hS => ?_)
    refine lv_istore (lv' := [(6, .int (rc_kB (k % 44) (k % c0) (rc_st c0 L2 k))), (5, .int (rc_kA (k % 44) (rc_st c0 L2 k))), (0, .ref h0), (3, .ref lA), (4, .int 132), (7, .int (nI (k % 44))), (8, .int (nI (k % c0))), (9, .int (nI k))]) hx hb dX2_setKey_221 hl (by decide) rfl (fun ls hl => ?_)
    refine lv_iload hx hb dX2_setKey_223 (lv_at hl 5 rfl) ?_
    refine lv_iconst (v := 1) hx hb dX2_setKey_225 (by decide) ?_
    refine lv_iadd hx hb dX2_setKey_226 ?_
    refine rc_is (nI (k % 44 + 1)) (nI_add (k % 44) 1) ?_
    refine lv_aload_n hx hb dX2_setKey_227 rfl (lv_at hl 2 rfl) ?_
    refine va_get (D := D) (ci := 1) (v := .ref sA) (C := RX2) (T := TX2) (N := 2) hx hb hts in_X2 hown hK hP 0 rfl rfl 0 (by decide) (hts _ q42) (fun _ h9 => h9) rfl dX2_setKey_228 ?_
    refine va_alen (v := 44) hx hb hK hP 3 1 rfl rfl rfl dX2_setKey_231 ?_
    refine lv_irem hx hb dX2_setKey_232 (by decide) ?_
    refine rc_is (nI ((k % 44 + 1) % 44)) (pk_rem (a := (k % 44 + 1)) (d := 44) (by omega) (by omega) (by omega)) ?_
    refine rc_is (nI ((k + 1) % 44)) (congrArg nI (by omega)) ?_
    refine lv_istore (lv' := [(7, .int (nI ((k + 1) % 44))), (6, .int (rc_kB (k % 44) (k % c0) (rc_st c0 L2 k))), (5, .int (rc_kA (k % 44) (rc_st c0 L2 k))), (0, .ref h0), (3, .ref lA), (4, .int 132), (8, .int (nI (k % c0))), (9, .int (nI k))]) hx hb dX2_setKey_233 hl (by decide) rfl (fun ls hl => ?_)
    refine lv_iload hx hb dX2_setKey_235 (lv_at hl 6 rfl) ?_
    refine lv_iconst (v := 1) hx hb dX2_setKey_237 (by decide) ?_
    refine lv_iadd hx hb dX2_setKey_238 ?_
    refine rc_is (nI (k % c0 + 1)) (nI_add (k % c0) 1) ?_
    refine lv_aload_n hx hb dX2_setKey_239 rfl (lv_at hl 4 rfl) ?_
    refine va_alen (v := nI c0) hx hb hK hP 2 1 rfl rfl rfl dX2_setKey_240 ?_
    refine lv_irem hx hb dX2_setKey_241 (nI_ne0 hc0 (show c0 < 2 ^ 31 by omega)) ?_
    refine rc_is (nI ((k % c0 + 1) % c0)) (pk_rem (a := (k % c0 + 1)) (d := c0) (by omega) (by omega) (by omega)) ?_
    refine rc_is (nI ((k + 1) % c0)) (congrArg nI (Nat.mod_add_mod k c0 1)) ?_
    refine lv_istore (lv' := [(8, .int (nI ((k + 1) % c0))), (7, .int (nI ((k + 1) % 44))), (6, .int (rc_kB (k % 44) (k % c0) (rc_st c0 L2 k))), (5, .int (rc_kA (k % 44) (rc_st c0 L2 k))), (0, .ref h0), (3, .ref lA), (4, .int 132), (9, .int (nI k))]) hx hb dX2_setKey_242 hl (by decide) rfl (fun ls hl => ?_)
    refine lv_iinc (v := nI (k + 1)) (lv' := [(9, .int (nI (k + 1))), (8, .int (nI ((k + 1) % c0))), (7, .int (nI ((k + 1) % 44))), (6, .int (rc_kB (k % 44) (k % c0) (rc_st c0 L2 k))), (5, .int (rc_kA (k % 44) (rc_st c0 L2 k))), (0, .ref h0), (3, .ref lA), (4, .int 132)]) hx hb dX2_setKey_244 hl (k := 7) rfl (nI_1 k) (by decide) rfl (fun ls hl => ?_)
    refine lv_goto (tgt := 162) hx hb dX2_setKey_247 (by decide) ?_
    exact ih (k + 1) (by omega) H locs ls hP hD hS (lv_sub hl [5, 6, 7, 4, 3, 2, 1, 0] rfl)

set_option maxHeartbeats 4000000 in
set_option maxRecDepth 100000 in
/-- setKey(key), of 4 c0 bytes -/
theorem met_X2_setKey (l : Launch) (D : va_G) (cB cI : ClassId) (h0 ka sz c0 : Nat) (hc0 : 0 < c0) (hc : c0 ≤ 8) (fe : Int32) (f : Nat → Int32) : Met l yX2_setKey (ws_ yX2_setKey cX2_setKey 10 none) ({ frames := 1, cells := 2, slots := 52, locals := 22 }) (va_Pc [.ref h0, .ref ka] (rc_Pre D cB cI sz [(h0, .inr (1, [.null, .int fe])), (ka, .inl (cB, 4 * c0, .inl f))])) (va_Qv (fun _ : Nat => True) (fun q t => rc_B D cB cI (va_A [(h0, .inr (1, [.null, .int fe])), (ka, .inl (cB, 4 * c0, .inl f))] sz) [(h0, .inr (1, [.ref q, .int fe])), (ka, .inl (cB, 4 * c0, .inl f)), (q, .inl (cI, 44, .inl (rc_key c0 f)))] t) (va_A [(h0, .inr (1, [.null, .int fe])), (ka, .inl (cB, 4 * c0, .inl f))] sz)) 2 52 (va_A [(h0, .inr (1, [.null, .int fe])), (ka, .inl (cB, 4 * c0, .inl f))] sz) := by
  refine Met.ofW (cc := cX2_setKey) (maxL := 10) (ret := none) (by decide) rfl ?_
  intro p e s m args below meth c s₁ B hml hv
  obtain ⟨rfl, hsz, hP, hK, hD0, hX⟩ := hv
  have hx := B.exec
  have hb := B.bytes
  have hr := B.returns
  have hts := atoms_spec (ws := ws_ yX2_setKey cX2_setKey 10 none) B.pre
  have hts : ∀ w ∈ lw_all, w.before _ s = true := fun w h => hts w (List.mem_cons_of_mem _ h)
  have hown : s.vm.findClass RX2 = some m.cls := findClass_of_methodNamed B.named
  have hlocks := B.notSynchronized
  subst hsz
  have hD := hD0.self (sz := s.heap.size)
  generalize hAe : va_A [(h0, .inr (1, [.null, .int fe])), (ka, .inl (cB, 4 * c0, .inl f))] s.heap.size = A at hD ⊢
  have hA : ∀ q : Nat, s.heap.size ≤ q → A q := fun q h => by rw [← hAe]; exact Or.inr h
  have hS : va_S A s.heap s.heap [] := va_S.rf
  have hP : va_P D vwCl [(h0, .inr (1, [.null, .int fe])), (ka, .inl (cB, 4 * c0, .inl f))] s.heap := hP
  have hl := lv_entry ([.ref h0, .ref ka]) (n := 10) (Nat.le_of_ble_eq_true rfl)
  rw [lg_entry_eq]
  generalize (lg_sl ([.ref h0, .ref ka]) ++ List.replicate (10 - (lg_sl ([.ref h0, .ref ka])).length) Slot.unset).toArray = ls at hl ⊢
  have hl : lv_has ls 10 [(0, .ref h0), (1, .ref ka)] := hl
  refine lv_aload_n hx hb dX2_setKey_0 rfl (lv_at hl 1 rfl) ?_
  refine va_alen (v := nI (4 * c0)) hx hb hK hP 1 0 rfl rfl rfl dX2_setKey_1 ?_
  refine lv_iconst (v := 3) hx hb dX2_setKey_2 (by decide) ?_
  refine lv_iadd hx hb dX2_setKey_3 ?_
  refine rc_is (nI (4 * c0 + 3)) (nI_add (4 * c0) 3) ?_
  refine lv_iconst (v := 4) hx hb dX2_setKey_4 (by decide) ?_
  refine lv_idiv hx hb dX2_setKey_5 (by decide) ?_
  refine rc_is (nI ((4 * c0 + 3) / 4)) (pk_div (a := (4 * c0 + 3)) (d := 4) (by omega) (by omega) (by omega)) ?_
  refine rc_is (nI c0) (congrArg nI (by omega)) ?_
  refine lv_istore_n (lv' := [(2, .int (nI c0)), (0, .ref h0), (1, .ref ka)]) hx hb dX2_setKey_6 rfl hl (by decide) rfl (fun ls hl => ?_)
  refine lv_iload_n hx hb dX2_setKey_7 rfl (lv_at hl 0 rfl) ?_
  refine lv_if_ne (tgt := 13) hx hb dX2_setKey_8 (by decide) (fun _ => ?_) (fun c_ => absurd c_ (nI_ne0 hc0 (show c0 < 2 ^ 31 by omega)))
  refine lv_aload_n hx hb dX2_setKey_13 rfl (lv_at hl 2 rfl) ?_
  refine va_alen (v := nI (4 * c0)) hx hb hK hP 1 0 rfl rfl rfl dX2_setKey_14 ?_
  refine lv_iconst (v := 4) hx hb dX2_setKey_15 (by decide) ?_
  refine lv_iadd hx hb dX2_setKey_16 ?_
  refine rc_is (nI (4 * c0 + 4)) (nI_add (4 * c0) 4) ?_
  refine lv_iconst (v := 1) hx hb dX2_setKey_17 (by decide) ?_
  refine lv_isub hx hb dX2_setKey_18 ?_
  refine rc_is (nI ((4 * c0 + 4) - 1)) (pk_sub (a := (4 * c0 + 4)) (b := 1) (by omega)) ?_
  refine lv_iconst (v := 4) hx hb dX2_setKey_19 (by decide) ?_
  refine lv_idiv hx hb dX2_setKey_20 (by decide) ?_
  refine rc_is (nI (((4 * c0 + 4) - 1) / 4)) (pk_div (a := ((4 * c0 + 4) - 1)) (d := 4) (by omega) (by omega) (by omega)) ?_
  refine rc_is (nI c0) (congrArg nI (by omega)) ?_
  refine rc_nwi hx hb (hts _ q191) hK hP hD hS hA c0 rfl (by omega) (Nat.le_of_ble_eq_true rfl) (by show 0 + c0 ≤ 52; omega) dX2_setKey_21 (fun lA H hP hD hS => ?_)
  have hP : va_P D vwCl [(h0, .inr (1, [.null, .int fe])), (ka, .inl (cB, 4 * c0, .inl f)), (lA, .inl (cI, c0, .inl (fun _ => 0)))] H := hP
  have hD : va_D A [(h0, .inr (1, [.null, .int fe])), (ka, .inl (cB, 4 * c0, .inl f)), (lA, .inl (cI, c0, .inl (fun _ => 0)))] := hD
  refine W.widen (k := 1) (n := 8) (by omega) (by omega) ?_
  refine lv_astore_n (lv' := [(3, .ref lA), (2, .int (nI c0)), (0, .ref h0), (1, .ref ka)]) hx hb dX2_setKey_23 rfl hl (by decide) rfl (fun ls hl => ?_)
  refine lv_aload_n hx hb dX2_setKey_24 rfl (lv_at hl 3 rfl) ?_
  refine va_alen (v := nI (4 * c0)) hx hb hK hP 1 0 rfl rfl rfl dX2_setKey_25 ?_
  refine lv_iconst (v := 1) hx hb dX2_setKey_26 (by decide) ?_
  refine lv_isub hx hb dX2_setKey_27 ?_
  refine rc_is (nI ((4 * c0) - 1)) (pk_sub (a := (4 * c0)) (b := 1) (by omega)) ?_
  refine lv_istore (lv' := [(4, .int (nI ((4 * c0) - 1))), (3, .ref lA), (2, .int (nI c0)), (0, .ref h0), (1, .ref ka)]) hx hb dX2_setKey_28 hl (by decide) rfl (fun ls hl => ?_)
  obtain ⟨x4, ex4⟩ : ∃ x : Int32, x = nI (4 * c0) - 1 := ⟨_, rfl⟩
  have ex5 : nI (4 * c0 - 1) = x4 := by rw [ex4]; exact (pk_sub (a := 4 * c0) (b := 1) (by omega)).symm
  rw [ex5] at hl
  refine seg_l1 c0 hc h0 ka fe f lA (rc_l1 f (4 * c0) (fun _ => 0)) ⟨hx, hb, hml, hown, hts⟩ hK hA (fun H locs ls hP hD hS hl => ?_) (4 * c0) (fun _ => 0) x4 (Nat.le_refl _) ex4 rfl H _ ls hP hD hS (lv_sub hl [3, 4, 1, 0] rfl)
  refine lv_aload_n hx hb dX2_setKey_65 rfl (lv_at hl 0 rfl) ?_
  refine lv_bipush (v := 44) hx hb dX2_setKey_66 (by decide) ?_
  refine rc_nwi hx hb (hts _ q191) hK hP hD hS hA 44 rfl (by omega) (Nat.le_of_ble_eq_true rfl) (Nat.le_of_ble_eq_true rfl) dX2_setKey_68 (fun sA H hP hD hS => ?_)
  have hP : va_P D vwCl [(h0, .inr (1, [.null, .int fe])), (ka, .inl (cB, 4 * c0, .inl f)), (lA, .inl (cI, c0, .inl (rc_l1 f (4 * c0) (fun _ => 0)))), (sA, .inl (cI, 44, .inl (fun _ => 0)))] H := hP
  have hD : va_D A [(h0, .inr (1, [.null, .int fe])), (ka, .inl (cB, 4 * c0, .inl f)), (lA, .inl (cI, c0, .inl (rc_l1 f (4 * c0) (fun _ => 0)))), (sA, .inl (cI, 44, .inl (fun _ => 0)))] := hD
  refine va_put (D := D) (ci := 1) (v := .ref sA) (ty := .array .int) (C := RX2) (T := TX2) (N := 2) hx hb hts in_X2 tyX2 tyX2_ok nmX2 hown hK hP hD hS 0 rfl rfl 0 (by decide) (hts _ q42) (fun _ h9 => h9) rfl (by decide +kernel) rfl rfl (Nat.le_of_ble_eq_true rfl) dX2_setKey_70 (fun H locs hP hD hS => ?_)
  have hP : va_P D vwCl [(h0, .inr (1, [.ref sA, .int fe])), (ka, .inl (cB, 4 * c0, .inl f)), (lA, .inl (cI, c0, .inl (rc_l1 f (4 * c0) (fun _ => 0)))), (sA, .inl (cI, 44, .inl (fun _ => 0)))] H := hP
  have hD : va_D A [(h0, .inr (1, [.ref sA, .int fe])), (ka, .inl (cB, 4 * c0, .inl f)), (lA, .inl (cI, c0, .inl (rc_l1 f (4 * c0) (fun _ => 0)))), (sA, .inl (cI, 44, .inl (fun _ => 0)))] := hD
  refine lv_aload_n hx hb dX2_setKey_73 rfl (lv_at hl 0 rfl) ?_
  refine va_get (D := D) (ci := 1) (v := .ref sA) (C := RX2) (T := TX2) (N := 2) hx hb hts in_X2 hown hK hP 0 rfl rfl 0 (by decide) (hts _ q42) (fun _ h9 => h9) rfl dX2_setKey_74 ?_
  refine lv_iconst (v := 0) hx hb dX2_setKey_77 (by decide) ?_
  refine lv_ldc (v := (-1209970333)) hx hb hown (hts _ q156) dX2_setKey_78 ?_
  refine rc_sti hx hb hK hP hD hS 3 1 rfl rfl 0 rfl (by omega) (by omega) (rc_s0 1) rc_s0_1 [(h0, .inr (1, [.ref sA, .int fe])), (ka, .inl (cB, 4 * c0, .inl f)), (lA, .inl (cI, c0, .inl (rc_l1 f (4 * c0) (fun _ => 0)))), (sA, .inl (cI, 44, .inl (rc_s0 1)))] rfl dX2_setKey_80 (fun H locs hP hD hS => ?_)
  refine lv_iconst (v := 1) hx hb dX2_setKey_81 (by decide) ?_
  refine lv_istore (lv' := [(4, .int 1), (0, .ref h0), (1, .ref ka), (3, .ref lA)]) hx hb dX2_setKey_82 hl (by decide) rfl (fun ls hl => ?_)
  refine seg_s0 c0 h0 ka fe f lA sA (rc_l1 f (4 * c0) (fun _ => 0)) ⟨hx, hb, hml, hown, hts⟩ hK hA (fun H locs ls hP hD hS hl => ?_) 43 0 rfl H _ ls hP hD hS (lv_sub hl [1, 2, 3, 0] rfl)
  refine lv_aload_n hx hb dX2_setKey_119 rfl (lv_at hl 2 rfl) ?_
  refine va_alen (v := nI c0) hx hb hK hP 2 1 rfl rfl rfl dX2_setKey_120 ?_
  refine lv_aload_n hx hb dX2_setKey_121 rfl (lv_at hl 0 rfl) ?_
  refine va_get (D := D) (ci := 1) (v := .ref sA) (C := RX2) (T := TX2) (N := 2) hx hb hts in_X2 hown hK hP 0 rfl rfl 0 (by decide) (hts _ q42) (fun _ h9 => h9) rfl dX2_setKey_122 ?_
  refine va_alen (v := 44) hx hb hK hP 3 1 rfl rfl rfl dX2_setKey_125 ?_
  refine lv_icmp_le (tgt := 138) hx hb dX2_setKey_126 (by decide) (fun _ => ?_) (fun c_ => absurd (nI_le (a := c0) (b := 44) (by omega) (by omega)) c_)
  refine lv_iconst (v := 3) hx hb dX2_setKey_138 (by decide) ?_
  refine lv_aload_n hx hb dX2_setKey_139 rfl (lv_at hl 0 rfl) ?_
  refine va_get (D := D) (ci := 1) (v := .ref sA) (C := RX2) (T := TX2) (N := 2) hx hb hts in_X2 hown hK hP 0 rfl rfl 0 (by decide) (hts _ q42) (fun _ h9 => h9) rfl dX2_setKey_140 ?_
  refine va_alen (v := 44) hx hb hK hP 3 1 rfl rfl rfl dX2_setKey_143 ?_
  refine lv_imul hx hb dX2_setKey_144 ?_
  refine rc_is 132 (by decide) ?_
  refine lv_istore (lv' := [(4, .int 132), (0, .ref h0), (1, .ref ka), (3, .ref lA)]) hx hb dX2_setKey_145 hl (by decide) rfl (fun ls hl => ?_)
  refine lv_iconst (v := 0) hx hb dX2_setKey_147 (by decide) ?_
  refine lv_istore (lv' := [(5, .int 0), (4, .int 132), (0, .ref h0), (1, .ref ka), (3, .ref lA)]) hx hb dX2_setKey_148 hl (by decide) rfl (fun ls hl => ?_)
  refine lv_iconst (v := 0) hx hb dX2_setKey_150 (by decide) ?_
  refine lv_istore (lv' := [(6, .int 0), (5, .int 0), (4, .int 132), (0, .ref h0), (1, .ref ka), (3, .ref lA)]) hx hb dX2_setKey_151 hl (by decide) rfl (fun ls hl => ?_)
  refine lv_iconst (v := 0) hx hb dX2_setKey_153 (by decide) ?_
  refine lv_istore (lv' := [(7, .int 0), (6, .int 0), (5, .int 0), (4, .int 132), (0, .ref h0), (1, .ref ka), (3, .ref lA)]) hx hb dX2_setKey_154 hl (by decide) rfl (fun ls hl => ?_)
  refine lv_iconst (v := 0) hx hb dX2_setKey_156 (by decide) ?_
  refine lv_istore (lv' := [(8, .int 0), (7, .int 0), (6, .int 0), (5, .int 0), (4, .int 132), (0, .ref h0), (1, .ref ka), (3, .ref lA)]) hx hb dX2_setKey_157 hl (by decide) rfl (fun ls hl => ?_)
  refine lv_iconst (v := 0) hx hb dX2_setKey_159 (by decide) ?_
  refine lv_istore (lv' := [(9, .int 0), (8, .int 0), (7, .int 0), (6, .int 0), (5, .int 0), (4, .int 132), (0, .ref h0), (1, .ref ka), (3, .ref lA)]) hx hb dX2_setKey_160 hl (by decide) rfl (fun ls hl => ?_)
  refine seg_s3 c0 hc0 hc h0 ka fe f lA sA (rc_l1 f (4 * c0) (fun _ => 0)) ⟨hx, hb, hml, hown, hts⟩ hK hA (fun H locs ls hP hD hS hl => ?_) 132 0 rfl H _ ls hP hD hS (lv_sub hl [6, 8, 5, 4, 3, 2, 1, 0] rfl)
  have hP9 := hP.sub (ws' := [(h0, .inr (1, [.ref sA, .int fe])), (ka, .inl (cB, 4 * c0, .inl f)), (sA, .inl (cI, 44, .inl (rc_key c0 f)))]) [0, 1, 2] rfl
  have hD9 := hD.sub (ws' := [(h0, .inr (1, [.ref sA, .int fe])), (ka, .inl (cB, 4 * c0, .inl f)), (sA, .inl (cI, 44, .inl (rc_key c0 f)))]) [0, 1, 2] (by decide) rfl
  exact W.vret hx hb hr (fun t ht hW => ⟨⟨sA, rfl, trivial, by rw [ht]; exact hP9, va_K.moved hW.alike hK, hD9⟩, hS.F ht⟩) hS.2.2 dX2_setKey_250

set_option maxHeartbeats 4000000 in
set_option maxRecDepth 100000 in
/-- RC6Engine() -/
theorem met_X2_init (l : Launch) (D : va_G) (cB cI : ClassId) (h0 sz : Nat) : Met l yX2_init (ws_ yX2_init cX2_init 1 none) ({ frames := 1, cells := 0, slots := 0, locals := 12 }) (va_Pc [.ref h0] (rc_Pre D cB cI sz [(h0, .inr (1, [.null, .int 0]))])) (va_Qv (fun _ : Unit => True) (fun _ t => rc_B D cB cI (va_A [(h0, .inr (1, [.null, .int 0]))] sz) [(h0, .inr (1, [.null, .int 0]))] t) (va_A [(h0, .inr (1, [.null, .int 0]))] sz)) 0 0 (va_A [(h0, .inr (1, [.null, .int 0]))] sz) := by
  refine Met.ofW (cc := cX2_init) (maxL := 1) (ret := none) (by decide) rfl ?_
  intro p e s m args below meth c s₁ B hml hv
  obtain ⟨rfl, hsz, hP, hK, hD0, hX⟩ := hv
  have hx := B.exec
  have hb := B.bytes
  have hr := B.returns
  have hts := atoms_spec (ws := ws_ yX2_init cX2_init 1 none) B.pre
  have hts : ∀ w ∈ lw_all, w.before _ s = true := fun w h => hts w (List.mem_cons_of_mem _ h)
  have hown : s.vm.findClass RX2 = some m.cls := findClass_of_methodNamed B.named
  have hlocks := B.notSynchronized
  have hin : meth.name = "<init>" := (name_of_methodNamed B.named B.method).1
  subst hsz
  have hD := hD0.self (sz := s.heap.size)
  generalize hAe : va_A [(h0, .inr (1, [.null, .int 0]))] s.heap.size = A at hD ⊢
  have hA : ∀ q : Nat, s.heap.size ≤ q → A q := fun q h => by rw [← hAe]; exact Or.inr h
  have hS : va_S A s.heap s.heap [] := va_S.rf
  have hP : va_P D vwCl [(h0, .inr (1, [.null, .int 0]))] s.heap := hP
  have hl := lv_entry ([.ref h0]) (n := 1) (Nat.le_of_ble_eq_true rfl)
  rw [lg_entry_eq]
  generalize (lg_sl ([.ref h0]) ++ List.replicate (1 - (lg_sl ([.ref h0])).length) Slot.unset).toArray = ls at hl ⊢
  have hl : lv_has ls 1 [(0, .ref h0)] := hl
  refine lv_aload_n hx hb dX2_init_0 rfl (lv_at hl 0 rfl) ?_
  refine W.objInit hx hb hown (hts _ q39) (hts _ q40) (hts _ q41) rfl (by rw [hml]; exact hl.1) rfl dX2_init_1 (Nat.le_of_ble_eq_true rfl) (Nat.le_of_ble_eq_true rfl) ?_
  refine W.eq (g2 := F0 m 4 ls []) rfl ?_
  refine lv_aload_n hx hb dX2_init_4 rfl (lv_at hl 0 rfl) ?_
  refine lv_null hx hb dX2_init_5 ?_
  refine va_put (D := D) (ci := 1) (v := .null) (ty := .array .int) (C := RX2) (T := TX2) (N := 2) hx hb hts in_X2 tyX2 tyX2_ok nmX2 hown hK hP hD hS 0 rfl rfl 0 (by decide) (hts _ q42) (fun _ h9 => h9) rfl (by decide +kernel) rfl rfl (Nat.le_of_ble_eq_true rfl) dX2_init_6 (fun H locs hP hD hS => ?_)
  have hP : va_P D vwCl [(h0, .inr (1, [.null, .int 0]))] H := hP
  have hD : va_D A [(h0, .inr (1, [.null, .int 0]))] := hD
  have hP9 := hP.sub (ws' := [(h0, .inr (1, [.null, .int 0]))]) [0] rfl
  have hD9 := hD.sub (ws' := [(h0, .inr (1, [.null, .int 0]))]) [0] (by decide) rfl
  exact W.vret hx hb hr (fun t ht hW => ⟨⟨(), rfl, trivial, by rw [ht]; exact hP9, va_K.moved hW.alike hK, hD9⟩, hS.F ht⟩) hS.2.2 dX2_init_9

/-- a boolean as the machine holds it -/
def rc_bi : Bool → Int32
  | true => 1
  | false => 0
theorem rc_bi_nar (b : Bool) : narrow .boolean (.int (rc_bi b)) = .int (rc_bi b) := by cases b <;> rfl
theorem rc_bi_fit (b : Bool) : fits .boolean (.int (rc_bi b)) = true := by cases b <;> rfl

set_option maxHeartbeats 4000000 in
set_option maxRecDepth 100000 in
/-- init(b, params): the schedule of the key -/
theorem met_X2_init_2 (l : Launch) (D : va_G) (cB cI : ClassId) (h0 kp ka sz c0 : Nat) (hc0 : 0 < c0) (hc : c0 ≤ 8) (b : Bool) (f : Nat → Int32) : Met l yX2_init_2 (ws_ yX2_init_2 cX2_init_2 5 none) ({ frames := 2, cells := 2, slots := 52, locals := 51 }) (va_Pc [.ref h0, .int (rc_bi b), .ref kp] (rc_Pre D cB cI sz [(h0, .inr (1, [.null, .int 0])), (kp, .inr (2, [.ref ka])), (ka, .inl (cB, 4 * c0, .inl f))])) (va_Qv (fun _ : Nat => True) (fun q t => rc_B D cB cI (va_A [(h0, .inr (1, [.null, .int 0])), (kp, .inr (2, [.ref ka])), (ka, .inl (cB, 4 * c0, .inl f))] sz) [(h0, .inr (1, [.ref q, .int (rc_bi b)])), (q, .inl (cI, 44, .inl (rc_key c0 f)))] t) (va_A [(h0, .inr (1, [.null, .int 0])), (kp, .inr (2, [.ref ka])), (ka, .inl (cB, 4 * c0, .inl f))] sz)) 2 52 (va_A [(h0, .inr (1, [.null, .int 0])), (kp, .inr (2, [.ref ka])), (ka, .inl (cB, 4 * c0, .inl f))] sz) := by
  refine Met.ofW (cc := cX2_init_2) (maxL := 5) (ret := none) (by decide) rfl ?_
  intro p e s m args below meth c s₁ B hml hv
  obtain ⟨rfl, hsz, hP, hK, hD0, hX⟩ := hv
  have hx := B.exec
  have hb := B.bytes
  have hr := B.returns
  have hts := atoms_spec (ws := ws_ yX2_init_2 cX2_init_2 5 none) B.pre
  have hts : ∀ w ∈ lw_all, w.before _ s = true := fun w h => hts w (List.mem_cons_of_mem _ h)
  have hown : s.vm.findClass RX2 = some m.cls := findClass_of_methodNamed B.named
  have hlocks := B.notSynchronized
  subst hsz
  have hD := hD0.self (sz := s.heap.size)
  generalize hAe : va_A [(h0, .inr (1, [.null, .int 0])), (kp, .inr (2, [.ref ka])), (ka, .inl (cB, 4 * c0, .inl f))] s.heap.size = A at hD ⊢
  have hA : ∀ q : Nat, s.heap.size ≤ q → A q := fun q h => by rw [← hAe]; exact Or.inr h
  have hS : va_S A s.heap s.heap [] := va_S.rf
  have hP : va_P D vwCl [(h0, .inr (1, [.null, .int 0])), (kp, .inr (2, [.ref ka])), (ka, .inl (cB, 4 * c0, .inl f))] s.heap := hP
  have hl := lv_entry ([.ref h0, .int (rc_bi b), .ref kp]) (n := 5) (Nat.le_of_ble_eq_true rfl)
  rw [lg_entry_eq]
  generalize (lg_sl ([.ref h0, .int (rc_bi b), .ref kp]) ++ List.replicate (5 - (lg_sl ([.ref h0, .int (rc_bi b), .ref kp])).length) Slot.unset).toArray = ls at hl ⊢
  have hl : lv_has ls 5 [(0, .ref h0), (1, .int (rc_bi b)), (2, .ref kp)] := hl
  refine lv_aload_n hx hb dX2_init_2_0 rfl (lv_at hl 2 rfl) ?_
  refine va_instS hx hb hown (hts _ q79) (hK.1 2 _ rfl).2 (va_recv hK hP (ci := 2) (q0 := 1) rfl rfl) dX2_init_2_1 ?_
  refine lv_if_ne (tgt := 17) hx hb dX2_init_2_4 (by decide) (fun _ => ?_) (fun c_ => absurd c_ (by decide))
  refine lv_aload_n hx hb dX2_init_2_17 rfl (lv_at hl 2 rfl) ?_
  refine va_castS hx hb hown (hts _ q79) (hK.1 2 _ rfl).2 (va_recv hK hP (ci := 2) (q0 := 1) rfl rfl) dX2_init_2_18 ?_
  refine lv_astore_n (lv' := [(3, .ref kp), (0, .ref h0), (1, .int (rc_bi b)), (2, .ref kp)]) hx hb dX2_init_2_21 rfl hl (by decide) rfl (fun ls hl => ?_)
  refine lv_aload_n hx hb dX2_init_2_22 rfl (lv_at hl 1 rfl) ?_
  refine lv_iload_n hx hb dX2_init_2_23 rfl (lv_at hl 2 rfl) ?_
  refine va_put (D := D) (ci := 1) (v := .int (rc_bi b)) (ty := .boolean) (C := RX2) (T := TX2) (N := 2) hx hb hts in_X2 tyX2 tyX2_ok nmX2 hown hK hP hD hS 0 rfl rfl 1 (by decide) (hts _ q43) (fun _ h9 => h9) rfl (by decide +kernel) (rc_bi_nar b) (rc_bi_fit b) (Nat.le_of_ble_eq_true rfl) dX2_init_2_24 (fun H locs hP hD hS => ?_)
  have hP : va_P D vwCl [(h0, .inr (1, [.null, .int (rc_bi b)])), (kp, .inr (2, [.ref ka])), (ka, .inl (cB, 4 * c0, .inl f))] H := hP
  have hD : va_D A [(h0, .inr (1, [.null, .int (rc_bi b)])), (kp, .inr (2, [.ref ka])), (ka, .inl (cB, 4 * c0, .inl f))] := hD
  refine lv_aload_n hx hb dX2_init_2_27 rfl (lv_at hl 0 rfl) ?_
  refine va_csr (W.runV (As := []) (rest := []) ⟨hx, hb, hml, hown, hts⟩ (met_X3_getKey l D cB cI kp ka H.size) (cwV 0 hts (lw_V q148 q149 q150 q12 q151) rfl rfl rfl (by decide +kernel) ⟨Nat.le_of_ble_eq_true rfl, Nat.le_of_ble_eq_true rfl⟩) (rc_pv (va_recv hK hP (ci := 2) (q0 := 1) rfl rfl) (hP.sub [1] rfl) hK (hD.sub [1] (by decide) rfl) hX) rfl rfl hl.1 rfl (lv_room (Nat.le_of_ble_eq_true rfl)) dX2_init_2_28 ⟨Nat.le_of_ble_eq_true rfl, Nat.le_of_ble_eq_true rfl⟩) (fun r_1 er_1 => ?_)
  have er_1 := er_1.symm
  subst er_1
  refine lv_astore (lv' := [(4, .ref ka), (3, .ref kp), (0, .ref h0), (1, .int (rc_bi b)), (2, .ref kp)]) hx hb dX2_init_2_31 hl (by decide) rfl (fun ls hl => ?_)
  refine lv_aload_n hx hb dX2_init_2_33 rfl (lv_at hl 2 rfl) ?_
  refine lv_aload hx hb dX2_init_2_34 (lv_at hl 0 rfl) ?_
  refine rc_cv (wr := [(kp, .inr (2, [.ref ka]))]) [0, 2] [1] (va_runV (As := [.ref ka]) (rest := []) ⟨hx, hb, hml, hown, hts⟩ (met_X2_setKey l D cB cI h0 ka H.size c0 (by omega) (by omega) (rc_bi b) f) (cwV 1 hts (lw_V q152 q154 qs2 q11 q155) rfl rfl rfl (by decide +kernel) ⟨Nat.le_of_ble_eq_true rfl, Nat.le_of_ble_eq_true rfl⟩) (rc_pv (va_recv hK hP (ci := 1) (q0 := 0) rfl rfl) (hP.sub [0, 2] rfl) hK (hD.sub [0, 2] (by decide) rfl) hX) rfl rfl hl.1 rfl (lv_room (Nat.le_of_ble_eq_true rfl)) dX2_init_2_36 ⟨Nat.le_of_ble_eq_true rfl, Nat.le_of_ble_eq_true rfl⟩) hP hD hS hA rfl rfl (by decide) (by decide) (fun sA H locs _hp hP hD hS => ?_)
  have hP : va_P D vwCl [(kp, .inr (2, [.ref ka])), (h0, .inr (1, [.ref sA, .int (rc_bi b)])), (ka, .inl (cB, 4 * c0, .inl f)), (sA, .inl (cI, 44, .inl (rc_key c0 f)))] H := hP
  have hD : va_D A [(kp, .inr (2, [.ref ka])), (h0, .inr (1, [.ref sA, .int (rc_bi b)])), (ka, .inl (cB, 4 * c0, .inl f)), (sA, .inl (cI, 44, .inl (rc_key c0 f)))] := hD
  have hP9 := hP.sub (ws' := [(h0, .inr (1, [.ref sA, .int (rc_bi b)])), (sA, .inl (cI, 44, .inl (rc_key c0 f)))]) [1, 3] rfl
  have hD9 := hD.sub (ws' := [(h0, .inr (1, [.ref sA, .int (rc_bi b)])), (sA, .inl (cI, 44, .inl (rc_key c0 f)))]) [1, 3] (by decide) rfl
  exact W.vret hx hb hr (fun t ht hW => ⟨⟨sA, rfl, trivial, by rw [ht]; exact hP9, va_K.moved hW.alike hK, hD9⟩, hS.F ht⟩) hS.2.2 dX2_init_2_39

set_option maxHeartbeats 4000000 in
set_option maxRecDepth 100000 in
/-- processBlock(in, 0, out, 0) -/
theorem met_X2_processBlock (l : Launch) (D : va_G) (cB cI : ClassId) (h0 sA bi bo sz : Nat) (b : Bool) (S f g : Nat → Int32) : Met l yX2_processBlock (ws_ yX2_processBlock cX2_processBlock 6 (some .int)) ({ frames := 2, cells := 0, slots := 0, locals := 56 }) (va_Pc [.ref h0, .ref bi, .int 0, .ref bo, .int 0] (rc_Pre D cB cI sz [(h0, .inr (1, [.ref sA, .int (rc_bi b)])), (sA, .inl (cI, 44, .inl S)), (bi, .inl (cB, 16, .inl f)), (bo, .inl (cB, 16, .inl g))])) (va_Qi (fun (r : Int32) (_ : Unit) => r = 16) (fun _ t => rc_B D cB cI (va_A [(h0, .inr (1, [.ref sA, .int (rc_bi b)])), (sA, .inl (cI, 44, .inl S)), (bi, .inl (cB, 16, .inl f)), (bo, .inl (cB, 16, .inl g))] sz) [(h0, .inr (1, [.ref sA, .int (rc_bi b)])), (sA, .inl (cI, 44, .inl S)), (bi, .inl (cB, 16, .inl f)), (bo, .inl (cB, 16, .inl (rc_out g (if b then rc_enc S (rc_in f) else rc_dec S (rc_in f)))))] t) (va_A [(h0, .inr (1, [.ref sA, .int (rc_bi b)])), (sA, .inl (cI, 44, .inl S)), (bi, .inl (cB, 16, .inl f)), (bo, .inl (cB, 16, .inl g))] sz)) 0 0 (va_A [(h0, .inr (1, [.ref sA, .int (rc_bi b)])), (sA, .inl (cI, 44, .inl S)), (bi, .inl (cB, 16, .inl f)), (bo, .inl (cB, 16, .inl g))] sz) := by
  cases b with
  | true =>
    refine Met.ofW (cc := cX2_processBlock) (maxL := 6) (ret := (some .int)) (by decide) rfl ?_
    intro p e s m args below meth c s₁ B hml hv
    obtain ⟨rfl, hsz, hP, hK, hD0, hX⟩ := hv
    have hx := B.exec
    have hb := B.bytes
    have hr := B.returns
    have hts := atoms_spec (ws := ws_ yX2_processBlock cX2_processBlock 6 (some .int)) B.pre
    have hts : ∀ w ∈ lw_all, w.before _ s = true := fun w h => hts w (List.mem_cons_of_mem _ h)
    have hown : s.vm.findClass RX2 = some m.cls := findClass_of_methodNamed B.named
    have hlocks := B.notSynchronized
    subst hsz
    have hD := hD0.self (sz := s.heap.size)
    generalize hAe : va_A [(h0, .inr (1, [.ref sA, .int (rc_bi true)])), (sA, .inl (cI, 44, .inl S)), (bi, .inl (cB, 16, .inl f)), (bo, .inl (cB, 16, .inl g))] s.heap.size = A at hD ⊢
    have hA : ∀ q : Nat, s.heap.size ≤ q → A q := fun q h => by rw [← hAe]; exact Or.inr h
    have hS : va_S A s.heap s.heap [] := va_S.rf
    have hP : va_P D vwCl [(h0, .inr (1, [.ref sA, .int (rc_bi true)])), (sA, .inl (cI, 44, .inl S)), (bi, .inl (cB, 16, .inl f)), (bo, .inl (cB, 16, .inl g))] s.heap := hP
    have hl := lv_entry ([.ref h0, .ref bi, .int 0, .ref bo, .int 0]) (n := 6) (Nat.le_of_ble_eq_true rfl)
    rw [lg_entry_eq]
    generalize (lg_sl ([.ref h0, .ref bi, .int 0, .ref bo, .int 0]) ++ List.replicate (6 - (lg_sl ([.ref h0, .ref bi, .int 0, .ref bo, .int 0])).length) Slot.unset).toArray = ls at hl ⊢
    have hl : lv_has ls 6 [(0, .ref h0), (1, .ref bi), (2, .int 0), (3, .ref bo), (4, .int 0)] := hl
    refine lv_aload_n hx hb dX2_processBlock_0 rfl (lv_at hl 0 rfl) ?_
    refine vp_callSi (W.runV (As := []) (rest := []) ⟨hx, hb, hml, hown, hts⟩ (met_X2_getBlockSize l h0) (cwV 0 hts (lw_V q171 q172 q173 q11 q174) rfl rfl rfl (by decide +kernel) ⟨Nat.le_of_ble_eq_true rfl, Nat.le_of_ble_eq_true rfl⟩) (rc_pv0 (va_recv hK hP (ci := 1) (q0 := 0) rfl rfl)) rfl rfl hl.1 rfl (lv_room (Nat.le_of_ble_eq_true rfl)) dX2_processBlock_1 ⟨Nat.le_of_ble_eq_true rfl, Nat.le_of_ble_eq_true rfl⟩) (fun r_1 er_1 => ?_)
    have er_1 := er_1.symm
    subst er_1
    refine lv_istore (lv' := [(5, .int 16), (0, .ref h0), (1, .ref bi), (2, .int 0), (3, .ref bo), (4, .int 0)]) hx hb dX2_processBlock_4 hl (by decide) rfl (fun ls hl => ?_)
    refine lv_aload_n hx hb dX2_processBlock_6 rfl (lv_at hl 1 rfl) ?_
    refine va_get (D := D) (ci := 1) (v := .ref sA) (C := RX2) (T := TX2) (N := 2) hx hb hts in_X2 hown hK hP 0 rfl rfl 0 (by decide) (hts _ q42) (fun _ h9 => h9) rfl dX2_processBlock_7 ?_
    refine lv_ifnonnull (tgt := 23) hx hb dX2_processBlock_10 (by decide) ?_
    refine lv_iload_n hx hb dX2_processBlock_23 rfl (lv_at hl 3 rfl) ?_
    refine lv_iload hx hb dX2_processBlock_24 (lv_at hl 0 rfl) ?_
    refine lv_iadd hx hb dX2_processBlock_26 ?_
    refine rc_is 16 (by decide) ?_
    refine lv_aload_n hx hb dX2_processBlock_27 rfl (lv_at hl 2 rfl) ?_
    refine va_alen (v := 16) hx hb hK hP 2 0 rfl rfl rfl dX2_processBlock_28 ?_
    refine lv_icmp_le (tgt := 42) hx hb dX2_processBlock_29 (by decide) (fun _ => ?_) (fun c_ => absurd (by decide) c_)
    refine lv_iload hx hb dX2_processBlock_42 (lv_at hl 5 rfl) ?_
    refine lv_iload hx hb dX2_processBlock_44 (lv_at hl 0 rfl) ?_
    refine lv_iadd hx hb dX2_processBlock_46 ?_
    refine rc_is 16 (by decide) ?_
    refine lv_aload_n hx hb dX2_processBlock_47 rfl (lv_at hl 4 rfl) ?_
    refine va_alen (v := 16) hx hb hK hP 3 0 rfl rfl rfl dX2_processBlock_48 ?_
    refine lv_icmp_le (tgt := 62) hx hb dX2_processBlock_49 (by decide) (fun _ => ?_) (fun c_ => absurd (by decide) c_)
    refine lv_aload_n hx hb dX2_processBlock_62 rfl (lv_at hl 1 rfl) ?_
    refine va_get (D := D) (ci := 1) (v := .int (rc_bi true)) (C := RX2) (T := TX2) (N := 2) hx hb hts in_X2 hown hK hP 0 rfl rfl 1 (by decide) (hts _ q43) (fun _ h9 => h9) rfl dX2_processBlock_63 ?_
    refine lv_if_eq (tgt := 81) hx hb dX2_processBlock_66 (by decide) (fun c_ => absurd c_ (by decide)) (fun _ => ?_)
    refine lv_aload_n hx hb dX2_processBlock_69 rfl (lv_at hl 1 rfl) ?_
    refine lv_aload_n hx hb dX2_processBlock_70 rfl (lv_at hl 2 rfl) ?_
    refine lv_iload_n hx hb dX2_processBlock_71 rfl (lv_at hl 3 rfl) ?_
    refine lv_aload_n hx hb dX2_processBlock_72 rfl (lv_at hl 4 rfl) ?_
    refine lv_iload hx hb dX2_processBlock_73 (lv_at hl 5 rfl) ?_
    refine rc_ci (wr := []) [0, 1, 2, 3] [] (va_runV (As := [.ref bi, .int 0, .ref bo, .int 0]) (rest := []) ⟨hx, hb, hml, hown, hts⟩ (met_X2_encryptBlock l D cB cI h0 sA bi bo s.heap.size (rc_bi true) S f g) (cwV 4 hts (lw_V q229 q231 qs4 q11 q232) rfl rfl rfl (by decide +kernel) ⟨Nat.le_of_ble_eq_true rfl, Nat.le_of_ble_eq_true rfl⟩) (rc_pv (va_recv hK hP (ci := 1) (q0 := 0) rfl rfl) (hP.sub [0, 1, 2, 3] rfl) hK (hD.sub [0, 1, 2, 3] (by decide) rfl) hX) rfl rfl hl.1 rfl (lv_room (Nat.le_of_ble_eq_true rfl)) dX2_processBlock_75 ⟨Nat.le_of_ble_eq_true rfl, Nat.le_of_ble_eq_true rfl⟩) hP hD hS hA rfl rfl (by decide) (by decide) (fun r_2 _u H locs _hp hP hD hS => ?_)
    have hP : va_P D vwCl [(h0, .inr (1, [.ref sA, .int (rc_bi true)])), (sA, .inl (cI, 44, .inl S)), (bi, .inl (cB, 16, .inl f)), (bo, .inl (cB, 16, .inl (rc_out g (rc_enc S (rc_in f)))))] H := hP
    have hD : va_D A [(h0, .inr (1, [.ref sA, .int (rc_bi true)])), (sA, .inl (cI, 44, .inl S)), (bi, .inl (cB, 16, .inl f)), (bo, .inl (cB, 16, .inl (rc_out g (rc_enc S (rc_in f)))))] := hD
    refine lv_goto (tgt := 90) hx hb dX2_processBlock_78 (by decide) ?_
    have hP9 := hP.sub (ws' := [(h0, .inr (1, [.ref sA, .int (rc_bi true)])), (sA, .inl (cI, 44, .inl S)), (bi, .inl (cB, 16, .inl f)), (bo, .inl (cB, 16, .inl (rc_out g (if true then rc_enc S (rc_in f) else rc_dec S (rc_in f)))))]) [0, 1, 2, 3] rfl
    have hD9 := hD.sub (ws' := [(h0, .inr (1, [.ref sA, .int (rc_bi true)])), (sA, .inl (cI, 44, .inl S)), (bi, .inl (cB, 16, .inl f)), (bo, .inl (cB, 16, .inl (rc_out g (if true then rc_enc S (rc_in f) else rc_dec S (rc_in f)))))]) [0, 1, 2, 3] (by decide) rfl
    exact W.iret (v := r_2) hx hb hr (fun t ht hW => ⟨⟨r_2, (), rfl, _hp, by rw [ht]; exact hP9, va_K.moved hW.alike hK, hD9⟩, hS.F ht⟩) hS.2.2 dX2_processBlock_90
  | false =>
    refine Met.ofW (cc := cX2_processBlock) (maxL := 6) (ret := (some .int)) (by decide) rfl ?_
    intro p e s m args below meth c s₁ B hml hv
    obtain ⟨rfl, hsz, hP, hK, hD0, hX⟩ := hv
    have hx := B.exec
    have hb := B.bytes
    have hr := B.returns
    have hts := atoms_spec (ws := ws_ yX2_processBlock cX2_processBlock 6 (some .int)) B.pre
    have hts : ∀ w ∈ lw_all, w.before _ s = true := fun w h => hts w (List.mem_cons_of_mem _ h)
    have hown : s.vm.findClass RX2 = some m.cls := findClass_of_methodNamed B.named
    have hlocks := B.notSynchronized
    subst hsz
    have hD := hD0.self (sz := s.heap.size)
    generalize hAe : va_A [(h0, .inr (1, [.ref sA, .int (rc_bi false)])), (sA, .inl (cI, 44, .inl S)), (bi, .inl (cB, 16, .inl f)), (bo, .inl (cB, 16, .inl g))] s.heap.size = A at hD ⊢
    have hA : ∀ q : Nat, s.heap.size ≤ q → A q := fun q h => by rw [← hAe]; exact Or.inr h
    have hS : va_S A s.heap s.heap [] := va_S.rf
    have hP : va_P D vwCl [(h0, .inr (1, [.ref sA, .int (rc_bi false)])), (sA, .inl (cI, 44, .inl S)), (bi, .inl (cB, 16, .inl f)), (bo, .inl (cB, 16, .inl g))] s.heap := hP
    have hl := lv_entry ([.ref h0, .ref bi, .int 0, .ref bo, .int 0]) (n := 6) (Nat.le_of_ble_eq_true rfl)
    rw [lg_entry_eq]
    generalize (lg_sl ([.ref h0, .ref bi, .int 0, .ref bo, .int 0]) ++ List.replicate (6 - (lg_sl ([.ref h0, .ref bi, .int 0, .ref bo, .int 0])).length) Slot.unset).toArray = ls at hl ⊢
    have hl : lv_has ls 6 [(0, .ref h0), (1, .ref bi), (2, .int 0), (3, .ref bo), (4, .int 0)] := hl
    refine lv_aload_n hx hb dX2_processBlock_0 rfl (lv_at hl 0 rfl) ?_
    refine vp_callSi (W.runV (As := []) (rest := []) ⟨hx, hb, hml, hown, hts⟩ (met_X2_getBlockSize l h0) (cwV 0 hts (lw_V q171 q172 q173 q11 q174) rfl rfl rfl (by decide +kernel) ⟨Nat.le_of_ble_eq_true rfl, Nat.le_of_ble_eq_true rfl⟩) (rc_pv0 (va_recv hK hP (ci := 1) (q0 := 0) rfl rfl)) rfl rfl hl.1 rfl (lv_room (Nat.le_of_ble_eq_true rfl)) dX2_processBlock_1 ⟨Nat.le_of_ble_eq_true rfl, Nat.le_of_ble_eq_true rfl⟩) (fun r_1 er_1 => ?_)
    have er_1 := er_1.symm
    subst er_1
    refine lv_istore (lv' := [(5, .int 16), (0, .ref h0), (1, .ref bi), (2, .int 0), (3, .ref bo), (4, .int 0)]) hx hb dX2_processBlock_4 hl (by decide) rfl (fun ls hl => ?_)
    refine lv_aload_n hx hb dX2_processBlock_6 rfl (lv_at hl 1 rfl) ?_
    refine va_get (D := D) (ci := 1) (v := .ref sA) (C := RX2) (T := TX2) (N := 2) hx hb hts in_X2 hown hK hP 0 rfl rfl 0 (by decide) (hts _ q42) (fun _ h9 => h9) rfl dX2_processBlock_7 ?_
    refine lv_ifnonnull (tgt := 23) hx hb dX2_processBlock_10 (by decide) ?_
    refine lv_iload_n hx hb dX2_processBlock_23 rfl (lv_at hl 3 rfl) ?_
    refine lv_iload hx hb dX2_processBlock_24 (lv_at hl 0 rfl) ?_
    refine lv_iadd hx hb dX2_processBlock_26 ?_
    refine rc_is 16 (by decide) ?_
    refine lv_aload_n hx hb dX2_processBlock_27 rfl (lv_at hl 2 rfl) ?_
    refine va_alen (v := 16) hx hb hK hP 2 0 rfl rfl rfl dX2_processBlock_28 ?_
    refine lv_icmp_le (tgt := 42) hx hb dX2_processBlock_29 (by decide) (fun _ => ?_) (fun c_ => absurd (by decide) c_)
    refine lv_iload hx hb dX2_processBlock_42 (lv_at hl 5 rfl) ?_
    refine lv_iload hx hb dX2_processBlock_44 (lv_at hl 0 rfl) ?_
    refine lv_iadd hx hb dX2_processBlock_46 ?_
    refine rc_is 16 (by decide) ?_
    refine lv_aload_n hx hb dX2_processBlock_47 rfl (lv_at hl 4 rfl) ?_
    refine va_alen (v := 16) hx hb hK hP 3 0 rfl rfl rfl dX2_processBlock_48 ?_
    refine lv_icmp_le (tgt := 62) hx hb dX2_processBlock_49 (by decide) (fun _ => ?_) (fun c_ => absurd (by decide) c_)
    refine lv_aload_n hx hb dX2_processBlock_62 rfl (lv_at hl 1 rfl) ?_
    refine va_get (D := D) (ci := 1) (v := .int (rc_bi false)) (C := RX2) (T := TX2) (N := 2) hx hb hts in_X2 hown hK hP 0 rfl rfl 1 (by decide) (hts _ q43) (fun _ h9 => h9) rfl dX2_processBlock_63 ?_
    refine lv_if_eq (tgt := 81) hx hb dX2_processBlock_66 (by decide) (fun _ => ?_) (fun c_ => absurd (by decide) c_)
    refine lv_aload_n hx hb dX2_processBlock_81 rfl (lv_at hl 1 rfl) ?_
    refine lv_aload_n hx hb dX2_processBlock_82 rfl (lv_at hl 2 rfl) ?_
    refine lv_iload_n hx hb dX2_processBlock_83 rfl (lv_at hl 3 rfl) ?_
    refine lv_aload_n hx hb dX2_processBlock_84 rfl (lv_at hl 4 rfl) ?_
    refine lv_iload hx hb dX2_processBlock_85 (lv_at hl 5 rfl) ?_
    refine rc_ci (wr := []) [0, 1, 2, 3] [] (va_runV (As := [.ref bi, .int 0, .ref bo, .int 0]) (rest := []) ⟨hx, hb, hml, hown, hts⟩ (met_X2_decryptBlock l D cB cI h0 sA bi bo s.heap.size (rc_bi false) S f g) (cwV 4 hts (lw_V q241 q243 qs7 q11 q244) rfl rfl rfl (by decide +kernel) ⟨Nat.le_of_ble_eq_true rfl, Nat.le_of_ble_eq_true rfl⟩) (rc_pv (va_recv hK hP (ci := 1) (q0 := 0) rfl rfl) (hP.sub [0, 1, 2, 3] rfl) hK (hD.sub [0, 1, 2, 3] (by decide) rfl) hX) rfl rfl hl.1 rfl (lv_room (Nat.le_of_ble_eq_true rfl)) dX2_processBlock_87 ⟨Nat.le_of_ble_eq_true rfl, Nat.le_of_ble_eq_true rfl⟩) hP hD hS hA rfl rfl (by decide) (by decide) (fun r_2 _u H locs _hp hP hD hS => ?_)
    have hP : va_P D vwCl [(h0, .inr (1, [.ref sA, .int (rc_bi false)])), (sA, .inl (cI, 44, .inl S)), (bi, .inl (cB, 16, .inl f)), (bo, .inl (cB, 16, .inl (rc_out g (rc_dec S (rc_in f)))))] H := hP
    have hD : va_D A [(h0, .inr (1, [.ref sA, .int (rc_bi false)])), (sA, .inl (cI, 44, .inl S)), (bi, .inl (cB, 16, .inl f)), (bo, .inl (cB, 16, .inl (rc_out g (rc_dec S (rc_in f)))))] := hD
    have hP9 := hP.sub (ws' := [(h0, .inr (1, [.ref sA, .int (rc_bi false)])), (sA, .inl (cI, 44, .inl S)), (bi, .inl (cB, 16, .inl f)), (bo, .inl (cB, 16, .inl (rc_out g (if false then rc_enc S (rc_in f) else rc_dec S (rc_in f)))))]) [0, 1, 2, 3] rfl
    have hD9 := hD.sub (ws' := [(h0, .inr (1, [.ref sA, .int (rc_bi false)])), (sA, .inl (cI, 44, .inl S)), (bi, .inl (cB, 16, .inl f)), (bo, .inl (cB, 16, .inl (rc_out g (if false then rc_enc S (rc_in f) else rc_dec S (rc_in f)))))]) [0, 1, 2, 3] (by decide) rfl
    exact W.iret (v := r_2) hx hb hr (fun t ht hW => ⟨⟨r_2, (), rfl, _hp, by rw [ht]; exact hP9, va_K.moved hW.alike hK, hD9⟩, hS.F ht⟩) hS.2.2 dX2_processBlock_90
end
section
/-! ===== RcSixDesk ===== -/

set_option maxHeartbeats 4000000 in
set_option maxRecDepth 100000 in
/-- word(to, at, w) -/
theorem met_X1_word (l : Launch) (D : va_G) (cB cI : ClassId) (a0 sz o n : Nat) (x : Int32) (g : Nat → Int32) (ho : o + 4 ≤ n) (hn : n < 2147483648) : Met l yX1_word (ws_ yX1_word cX1_word 3 none) ({ frames := 0, cells := 0, slots := 0, locals := 0 }) (va_Pc [.ref a0, .int (nI o), .int x] (rc_Pre D cB cI sz [(a0, .inl (cB, n, .inl g))])) (va_Qv (fun _ : Unit => True) (fun _ t => rc_B D cB cI (va_A [(a0, .inl (cB, n, .inl g))] sz) [(a0, .inl (cB, n, .inl (rc_wd g o x)))] t) (va_A [(a0, .inl (cB, n, .inl g))] sz)) 0 0 (va_A [(a0, .inl (cB, n, .inl g))] sz) := by
  refine Met.ofW (cc := cX1_word) (maxL := 3) (ret := none) (by decide) rfl ?_
  intro p e s m args below meth c s₁ B hml hv
  obtain ⟨rfl, hsz, hP, hK, hD0, hX⟩ := hv
  have hx := B.exec
  have hb := B.bytes
  have hr := B.returns
  have hts := atoms_spec (ws := ws_ yX1_word cX1_word 3 none) B.pre
  have hts : ∀ w ∈ lw_all, w.before _ s = true := fun w h => hts w (List.mem_cons_of_mem _ h)
  have hown : s.vm.findClass RX1 = some m.cls := findClass_of_methodNamed B.named
  have hlocks := B.notSynchronized
  subst hsz
  have hD := hD0.self (sz := s.heap.size)
  generalize hAe : va_A [(a0, .inl (cB, n, .inl g))] s.heap.size = A at hD ⊢
  have hA : ∀ q : Nat, s.heap.size ≤ q → A q := fun q h => by rw [← hAe]; exact Or.inr h
  have hS : va_S A s.heap s.heap [] := va_S.rf
  have hP : va_P D vwCl [(a0, .inl (cB, n, .inl g))] s.heap := hP
  have hl := lv_entry ([.ref a0, .int (nI o), .int x]) (n := 3) (Nat.le_of_ble_eq_true rfl)
  rw [lg_entry_eq]
  generalize (lg_sl ([.ref a0, .int (nI o), .int x]) ++ List.replicate (3 - (lg_sl ([.ref a0, .int (nI o), .int x])).length) Slot.unset).toArray = ls at hl ⊢
  have hl : lv_has ls 3 [(0, .ref a0), (1, .int (nI o)), (2, .int x)] := hl
  refine lv_aload_n hx hb dX1_word_0 rfl (lv_at hl 0 rfl) ?_
  refine lv_iload_n hx hb dX1_word_1 rfl (lv_at hl 1 rfl) ?_
  refine lv_iload_n hx hb dX1_word_2 rfl (lv_at hl 2 rfl) ?_
  refine lv_bipush (v := 24) hx hb dX1_word_3 (by decide) ?_
  refine lv_ishr hx hb dX1_word_5 ?_
  refine lv_i2b (v := rc_b (x >>> (24 &&& 31))) hx hb dX1_word_6 rfl ?_
  refine rc_stb hx hb hK hP hD hS 0 0 rfl rfl o rfl (by omega) (by omega) (upd g o (rc_b (x >>> (24 &&& 31)))) (by rw [rc_nar]) [(a0, .inl (cB, n, .inl (upd g o (rc_b (x >>> (24 &&& 31))))))] rfl dX1_word_7 (fun H locs hP hD hS => ?_)
  refine lv_aload_n hx hb dX1_word_8 rfl (lv_at hl 0 rfl) ?_
  refine lv_iload_n hx hb dX1_word_9 rfl (lv_at hl 1 rfl) ?_
  refine lv_iconst (v := 1) hx hb dX1_word_10 (by decide) ?_
  refine lv_iadd hx hb dX1_word_11 ?_
  refine rc_is (nI (o + 1)) (nI_add o 1) ?_
  refine lv_iload_n hx hb dX1_word_12 rfl (lv_at hl 2 rfl) ?_
  refine lv_bipush (v := 16) hx hb dX1_word_13 (by decide) ?_
  refine lv_ishr hx hb dX1_word_15 ?_
  refine lv_i2b (v := rc_b (x >>> (16 &&& 31))) hx hb dX1_word_16 rfl ?_
  refine rc_stb hx hb hK hP hD hS 0 0 rfl rfl (o + 1) rfl (by omega) (by omega) (upd (upd g o (rc_b (x >>> (24 &&& 31)))) (o + 1) (rc_b (x >>> (16 &&& 31)))) (by rw [rc_nar]) [(a0, .inl (cB, n, .inl (upd (upd g o (rc_b (x >>> (24 &&& 31)))) (o + 1) (rc_b (x >>> (16 &&& 31))))))] rfl dX1_word_17 (fun H locs hP hD hS => ?_)
  refine lv_aload_n hx hb dX1_word_18 rfl (lv_at hl 0 rfl) ?_
  refine lv_iload_n hx hb dX1_word_19 rfl (lv_at hl 1 rfl) ?_
  refine lv_iconst (v := 2) hx hb dX1_word_20 (by decide) ?_
  refine lv_iadd hx hb dX1_word_21 ?_
  refine rc_is (nI (o + 2)) (nI_add o 2) ?_
  refine lv_iload_n hx hb dX1_word_22 rfl (lv_at hl 2 rfl) ?_
  refine lv_bipush (v := 8) hx hb dX1_word_23 (by decide) ?_
  refine lv_ishr hx hb dX1_word_25 ?_
  refine lv_i2b (v := rc_b (x >>> (8 &&& 31))) hx hb dX1_word_26 rfl ?_
  refine rc_stb hx hb hK hP hD hS 0 0 rfl rfl (o + 2) rfl (by omega) (by omega) (upd (upd (upd g o (rc_b (x >>> (24 &&& 31)))) (o + 1) (rc_b (x >>> (16 &&& 31)))) (o + 2) (rc_b (x >>> (8 &&& 31)))) (by rw [rc_nar]) [(a0, .inl (cB, n, .inl (upd (upd (upd g o (rc_b (x >>> (24 &&& 31)))) (o + 1) (rc_b (x >>> (16 &&& 31)))) (o + 2) (rc_b (x >>> (8 &&& 31))))))] rfl dX1_word_27 (fun H locs hP hD hS => ?_)
  refine lv_aload_n hx hb dX1_word_28 rfl (lv_at hl 0 rfl) ?_
  refine lv_iload_n hx hb dX1_word_29 rfl (lv_at hl 1 rfl) ?_
  refine lv_iconst (v := 3) hx hb dX1_word_30 (by decide) ?_
  refine lv_iadd hx hb dX1_word_31 ?_
  refine rc_is (nI (o + 3)) (nI_add o 3) ?_
  refine lv_iload_n hx hb dX1_word_32 rfl (lv_at hl 2 rfl) ?_
  refine lv_i2b (v := rc_b x) hx hb dX1_word_33 rfl ?_
  refine rc_stb hx hb hK hP hD hS 0 0 rfl rfl (o + 3) rfl (by omega) (by omega) (upd (upd (upd (upd g o (rc_b (x >>> (24 &&& 31)))) (o + 1) (rc_b (x >>> (16 &&& 31)))) (o + 2) (rc_b (x >>> (8 &&& 31)))) (o + 3) (rc_b x)) (by rw [rc_nar]) [(a0, .inl (cB, n, .inl (upd (upd (upd (upd g o (rc_b (x >>> (24 &&& 31)))) (o + 1) (rc_b (x >>> (16 &&& 31)))) (o + 2) (rc_b (x >>> (8 &&& 31)))) (o + 3) (rc_b x))))] rfl dX1_word_34 (fun H locs hP hD hS => ?_)
  have hP9 := hP.sub (ws' := [(a0, .inl (cB, n, .inl (rc_wd g o x)))]) [0] rfl
  have hD9 := hD.sub (ws' := [(a0, .inl (cB, n, .inl (rc_wd g o x)))]) [0] (by decide) rfl
  exact W.vret hx hb hr (fun t ht hW => ⟨⟨(), rfl, trivial, by rw [ht]; exact hP9, va_K.moved hW.alike hK, hD9⟩, hS.F ht⟩) hS.2.2 dX1_word_35

set_option maxHeartbeats 4000000 in
set_option maxRecDepth 100000 in
/-- key(half, a, b, c, d) -/
theorem met_X1_key (l : Launch) (D : va_G) (cB cI : ClassId) (h0 a1 a2 a3 sz o : Nat) (p0 wa wb wc wd : Int32) (g : Nat → Int32) (hp : (p0 &&& 1) <<< ((4 : Int32) &&& 31) = nI o) (ho : o + 16 ≤ 32) : Met l yX1_key (ws_ yX1_key cX1_key 7 none) ({ frames := 1, cells := 0, slots := 0, locals := 22 }) (va_Pc [.ref h0, .int p0, .int wa, .int wb, .int wc, .int wd] (rc_Pre D cB cI sz [(h0, .inr (0, [.ref a1, .ref a2, .ref a3])), (a1, .inl (cB, 32, .inl g))])) (va_Qv (fun _ : Unit => True) (fun _ t => rc_B D cB cI (va_A [(h0, .inr (0, [.ref a1, .ref a2, .ref a3])), (a1, .inl (cB, 32, .inl g))] sz) [(h0, .inr (0, [.ref a1, .ref a2, .ref a3])), (a1, .inl (cB, 32, .inl (rc_4 g o wa wb wc wd)))] t) (va_A [(h0, .inr (0, [.ref a1, .ref a2, .ref a3])), (a1, .inl (cB, 32, .inl g))] sz)) 0 0 (va_A [(h0, .inr (0, [.ref a1, .ref a2, .ref a3])), (a1, .inl (cB, 32, .inl g))] sz) := by
  refine Met.ofW (cc := cX1_key) (maxL := 7) (ret := none) (by decide) rfl ?_
  intro p e s m args below meth c s₁ B hml hv
  obtain ⟨rfl, hsz, hP, hK, hD0, hX⟩ := hv
  have hx := B.exec
  have hb := B.bytes
  have hr := B.returns
  have hts := atoms_spec (ws := ws_ yX1_key cX1_key 7 none) B.pre
  have hts : ∀ w ∈ lw_all, w.before _ s = true := fun w h => hts w (List.mem_cons_of_mem _ h)
  have hown : s.vm.findClass RX1 = some m.cls := findClass_of_methodNamed B.named
  have hlocks := B.notSynchronized
  subst hsz
  have hD := hD0.self (sz := s.heap.size)
  generalize hAe : va_A [(h0, .inr (0, [.ref a1, .ref a2, .ref a3])), (a1, .inl (cB, 32, .inl g))] s.heap.size = A at hD ⊢
  have hA : ∀ q : Nat, s.heap.size ≤ q → A q := fun q h => by rw [← hAe]; exact Or.inr h
  have hS : va_S A s.heap s.heap [] := va_S.rf
  have hP : va_P D vwCl [(h0, .inr (0, [.ref a1, .ref a2, .ref a3])), (a1, .inl (cB, 32, .inl g))] s.heap := hP
  have hl := lv_entry ([.ref h0, .int p0, .int wa, .int wb, .int wc, .int wd]) (n := 7) (Nat.le_of_ble_eq_true rfl)
  rw [lg_entry_eq]
  generalize (lg_sl ([.ref h0, .int p0, .int wa, .int wb, .int wc, .int wd]) ++ List.replicate (7 - (lg_sl ([.ref h0, .int p0, .int wa, .int wb, .int wc, .int wd])).length) Slot.unset).toArray = ls at hl ⊢
  have hl : lv_has ls 7 [(0, .ref h0), (1, .int p0), (2, .int wa), (3, .int wb), (4, .int wc), (5, .int wd)] := hl
  refine lv_iload_n hx hb dX1_key_0 rfl (lv_at hl 1 rfl) ?_
  refine lv_iconst (v := 1) hx hb dX1_key_1 (by decide) ?_
  refine lv_iand hx hb dX1_key_2 ?_
  refine lv_iconst (v := 4) hx hb dX1_key_3 (by decide) ?_
  refine lv_ishl hx hb dX1_key_4 ?_
  refine rc_is (nI o) hp ?_
  refine lv_istore (lv' := [(6, .int (nI o)), (0, .ref h0), (1, .int p0), (2, .int wa), (3, .int wb), (4, .int wc), (5, .int wd)]) hx hb dX1_key_5 hl (by decide) rfl (fun ls hl => ?_)
  refine lv_aload_n hx hb dX1_key_7 rfl (lv_at hl 1 rfl) ?_
  refine va_get (D := D) (ci := 0) (v := .ref a1) (C := RX1) (T := TX1) (N := 3) hx hb hts in_X1 hown hK hP 0 rfl rfl 0 (by decide) (hts _ q265) (fun _ h9 => h9) rfl dX1_key_8 ?_
  refine lv_iload hx hb dX1_key_11 (lv_at hl 0 rfl) ?_
  refine lv_iload_n hx hb dX1_key_13 rfl (lv_at hl 3 rfl) ?_
  refine rc_cv (wr := [(h0, .inr (0, [.ref a1, .ref a2, .ref a3]))]) [1] [0] (va_runS (As := [.ref a1, .int (nI o), .int wa]) (rest := []) ⟨hx, hb, hml, hown, hts⟩ (met_X1_word l D cB cI a1 s.heap.size o 32 wa g (by omega) (by omega)) (va_cwS 3 hts (lw_S q282 q283 q10 q284) rfl rfl rfl (by decide +kernel) ⟨Nat.le_of_ble_eq_true rfl, Nat.le_of_ble_eq_true rfl⟩) (rc_ps (hP.sub [1] rfl) hK (hD.sub [1] (by decide) rfl) hX) rfl rfl hl.1 rfl (lv_room (Nat.le_of_ble_eq_true rfl)) dX1_key_14 ⟨Nat.le_of_ble_eq_true rfl, Nat.le_of_ble_eq_true rfl⟩) hP hD hS hA rfl rfl (by decide) (by decide) (fun _u H locs _hp hP hD hS => ?_)
  have hP : va_P D vwCl [(h0, .inr (0, [.ref a1, .ref a2, .ref a3])), (a1, .inl (cB, 32, .inl (rc_wd g o wa)))] H := hP
  have hD : va_D A [(h0, .inr (0, [.ref a1, .ref a2, .ref a3])), (a1, .inl (cB, 32, .inl (rc_wd g o wa)))] := hD
  refine lv_aload_n hx hb dX1_key_17 rfl (lv_at hl 1 rfl) ?_
  refine va_get (D := D) (ci := 0) (v := .ref a1) (C := RX1) (T := TX1) (N := 3) hx hb hts in_X1 hown hK hP 0 rfl rfl 0 (by decide) (hts _ q265) (fun _ h9 => h9) rfl dX1_key_18 ?_
  refine lv_iload hx hb dX1_key_21 (lv_at hl 0 rfl) ?_
  refine lv_iconst (v := 4) hx hb dX1_key_23 (by decide) ?_
  refine lv_iadd hx hb dX1_key_24 ?_
  refine rc_is (nI (o + 4)) (nI_add o 4) ?_
  refine lv_iload_n hx hb dX1_key_25 rfl (lv_at hl 4 rfl) ?_
  refine rc_cv (wr := [(h0, .inr (0, [.ref a1, .ref a2, .ref a3]))]) [1] [0] (va_runS (As := [.ref a1, .int (nI (o + 4)), .int wb]) (rest := []) ⟨hx, hb, hml, hown, hts⟩ (met_X1_word l D cB cI a1 H.size (o + 4) 32 wb (rc_wd g o wa) (by omega) (by omega)) (va_cwS 3 hts (lw_S q282 q283 q10 q284) rfl rfl rfl (by decide +kernel) ⟨Nat.le_of_ble_eq_true rfl, Nat.le_of_ble_eq_true rfl⟩) (rc_ps (hP.sub [1] rfl) hK (hD.sub [1] (by decide) rfl) hX) rfl rfl hl.1 rfl (lv_room (Nat.le_of_ble_eq_true rfl)) dX1_key_26 ⟨Nat.le_of_ble_eq_true rfl, Nat.le_of_ble_eq_true rfl⟩) hP hD hS hA rfl rfl (by decide) (by decide) (fun _u H locs _hp hP hD hS => ?_)
  have hP : va_P D vwCl [(h0, .inr (0, [.ref a1, .ref a2, .ref a3])), (a1, .inl (cB, 32, .inl (rc_wd (rc_wd g o wa) (o + 4) wb)))] H := hP
  have hD : va_D A [(h0, .inr (0, [.ref a1, .ref a2, .ref a3])), (a1, .inl (cB, 32, .inl (rc_wd (rc_wd g o wa) (o + 4) wb)))] := hD
  refine lv_aload_n hx hb dX1_key_29 rfl (lv_at hl 1 rfl) ?_
  refine va_get (D := D) (ci := 0) (v := .ref a1) (C := RX1) (T := TX1) (N := 3) hx hb hts in_X1 hown hK hP 0 rfl rfl 0 (by decide) (hts _ q265) (fun _ h9 => h9) rfl dX1_key_30 ?_
  refine lv_iload hx hb dX1_key_33 (lv_at hl 0 rfl) ?_
  refine lv_bipush (v := 8) hx hb dX1_key_35 (by decide) ?_
  refine lv_iadd hx hb dX1_key_37 ?_
  refine rc_is (nI (o + 8)) (nI_add o 8) ?_
  refine lv_iload hx hb dX1_key_38 (lv_at hl 5 rfl) ?_
  refine rc_cv (wr := [(h0, .inr (0, [.ref a1, .ref a2, .ref a3]))]) [1] [0] (va_runS (As := [.ref a1, .int (nI (o + 8)), .int wc]) (rest := []) ⟨hx, hb, hml, hown, hts⟩ (met_X1_word l D cB cI a1 H.size (o + 8) 32 wc (rc_wd (rc_wd g o wa) (o + 4) wb) (by omega) (by omega)) (va_cwS 3 hts (lw_S q282 q283 q10 q284) rfl rfl rfl (by decide +kernel) ⟨Nat.le_of_ble_eq_true rfl, Nat.le_of_ble_eq_true rfl⟩) (rc_ps (hP.sub [1] rfl) hK (hD.sub [1] (by decide) rfl) hX) rfl rfl hl.1 rfl (lv_room (Nat.le_of_ble_eq_true rfl)) dX1_key_40 ⟨Nat.le_of_ble_eq_true rfl, Nat.le_of_ble_eq_true rfl⟩) hP hD hS hA rfl rfl (by decide) (by decide) (fun _u H locs _hp hP hD hS => ?_)
  have hP : va_P D vwCl [(h0, .inr (0, [.ref a1, .ref a2, .ref a3])), (a1, .inl (cB, 32, .inl (rc_wd (rc_wd (rc_wd g o wa) (o + 4) wb) (o + 8) wc)))] H := hP
  have hD : va_D A [(h0, .inr (0, [.ref a1, .ref a2, .ref a3])), (a1, .inl (cB, 32, .inl (rc_wd (rc_wd (rc_wd g o wa) (o + 4) wb) (o + 8) wc)))] := hD
  refine lv_aload_n hx hb dX1_key_43 rfl (lv_at hl 1 rfl) ?_
  refine va_get (D := D) (ci := 0) (v := .ref a1) (C := RX1) (T := TX1) (N := 3) hx hb hts in_X1 hown hK hP 0 rfl rfl 0 (by decide) (hts _ q265) (fun _ h9 => h9) rfl dX1_key_44 ?_
  refine lv_iload hx hb dX1_key_47 (lv_at hl 0 rfl) ?_
  refine lv_bipush (v := 12) hx hb dX1_key_49 (by decide) ?_
  refine lv_iadd hx hb dX1_key_51 ?_
  refine rc_is (nI (o + 12)) (nI_add o 12) ?_
  refine lv_iload hx hb dX1_key_52 (lv_at hl 6 rfl) ?_
  refine rc_cv (wr := [(h0, .inr (0, [.ref a1, .ref a2, .ref a3]))]) [1] [0] (va_runS (As := [.ref a1, .int (nI (o + 12)), .int wd]) (rest := []) ⟨hx, hb, hml, hown, hts⟩ (met_X1_word l D cB cI a1 H.size (o + 12) 32 wd (rc_wd (rc_wd (rc_wd g o wa) (o + 4) wb) (o + 8) wc) (by omega) (by omega)) (va_cwS 3 hts (lw_S q282 q283 q10 q284) rfl rfl rfl (by decide +kernel) ⟨Nat.le_of_ble_eq_true rfl, Nat.le_of_ble_eq_true rfl⟩) (rc_ps (hP.sub [1] rfl) hK (hD.sub [1] (by decide) rfl) hX) rfl rfl hl.1 rfl (lv_room (Nat.le_of_ble_eq_true rfl)) dX1_key_54 ⟨Nat.le_of_ble_eq_true rfl, Nat.le_of_ble_eq_true rfl⟩) hP hD hS hA rfl rfl (by decide) (by decide) (fun _u H locs _hp hP hD hS => ?_)
  have hP : va_P D vwCl [(h0, .inr (0, [.ref a1, .ref a2, .ref a3])), (a1, .inl (cB, 32, .inl (rc_wd (rc_wd (rc_wd (rc_wd g o wa) (o + 4) wb) (o + 8) wc) (o + 12) wd)))] H := hP
  have hD : va_D A [(h0, .inr (0, [.ref a1, .ref a2, .ref a3])), (a1, .inl (cB, 32, .inl (rc_wd (rc_wd (rc_wd (rc_wd g o wa) (o + 4) wb) (o + 8) wc) (o + 12) wd)))] := hD
  have hP9 := hP.sub (ws' := [(h0, .inr (0, [.ref a1, .ref a2, .ref a3])), (a1, .inl (cB, 32, .inl (rc_4 g o wa wb wc wd)))]) [0, 1] rfl
  have hD9 := hD.sub (ws' := [(h0, .inr (0, [.ref a1, .ref a2, .ref a3])), (a1, .inl (cB, 32, .inl (rc_4 g o wa wb wc wd)))]) [0, 1] (by decide) rfl
  exact W.vret hx hb hr (fun t ht hW => ⟨⟨(), rfl, trivial, by rw [ht]; exact hP9, va_K.moved hW.alike hK, hD9⟩, hS.F ht⟩) hS.2.2 dX1_key_57

set_option maxHeartbeats 4000000 in
set_option maxRecDepth 100000 in
/-- block(a, b, c, d) -/
theorem met_X1_block (l : Launch) (D : va_G) (cB cI : ClassId) (h0 a1 a2 a3 sz : Nat) (wa wb wc wd : Int32) (g : Nat → Int32) : Met l yX1_block (ws_ yX1_block cX1_block 5 none) ({ frames := 1, cells := 0, slots := 0, locals := 22 }) (va_Pc [.ref h0, .int wa, .int wb, .int wc, .int wd] (rc_Pre D cB cI sz [(h0, .inr (0, [.ref a1, .ref a2, .ref a3])), (a2, .inl (cB, 16, .inl g))])) (va_Qv (fun _ : Unit => True) (fun _ t => rc_B D cB cI (va_A [(h0, .inr (0, [.ref a1, .ref a2, .ref a3])), (a2, .inl (cB, 16, .inl g))] sz) [(h0, .inr (0, [.ref a1, .ref a2, .ref a3])), (a2, .inl (cB, 16, .inl (rc_4 g 0 wa wb wc wd)))] t) (va_A [(h0, .inr (0, [.ref a1, .ref a2, .ref a3])), (a2, .inl (cB, 16, .inl g))] sz)) 0 0 (va_A [(h0, .inr (0, [.ref a1, .ref a2, .ref a3])), (a2, .inl (cB, 16, .inl g))] sz) := by
  refine Met.ofW (cc := cX1_block) (maxL := 5) (ret := none) (by decide) rfl ?_
  intro p e s m args below meth c s₁ B hml hv
  obtain ⟨rfl, hsz, hP, hK, hD0, hX⟩ := hv
  have hx := B.exec
  have hb := B.bytes
  have hr := B.returns
  have hts := atoms_spec (ws := ws_ yX1_block cX1_block 5 none) B.pre
  have hts : ∀ w ∈ lw_all, w.before _ s = true := fun w h => hts w (List.mem_cons_of_mem _ h)
  have hown : s.vm.findClass RX1 = some m.cls := findClass_of_methodNamed B.named
  have hlocks := B.notSynchronized
  subst hsz
  have hD := hD0.self (sz := s.heap.size)
  generalize hAe : va_A [(h0, .inr (0, [.ref a1, .ref a2, .ref a3])), (a2, .inl (cB, 16, .inl g))] s.heap.size = A at hD ⊢
  have hA : ∀ q : Nat, s.heap.size ≤ q → A q := fun q h => by rw [← hAe]; exact Or.inr h
  have hS : va_S A s.heap s.heap [] := va_S.rf
  have hP : va_P D vwCl [(h0, .inr (0, [.ref a1, .ref a2, .ref a3])), (a2, .inl (cB, 16, .inl g))] s.heap := hP
  have hl := lv_entry ([.ref h0, .int wa, .int wb, .int wc, .int wd]) (n := 5) (Nat.le_of_ble_eq_true rfl)
  rw [lg_entry_eq]
  generalize (lg_sl ([.ref h0, .int wa, .int wb, .int wc, .int wd]) ++ List.replicate (5 - (lg_sl ([.ref h0, .int wa, .int wb, .int wc, .int wd])).length) Slot.unset).toArray = ls at hl ⊢
  have hl : lv_has ls 5 [(0, .ref h0), (1, .int wa), (2, .int wb), (3, .int wc), (4, .int wd)] := hl
  refine lv_aload_n hx hb dX1_block_0 rfl (lv_at hl 0 rfl) ?_
  refine va_get (D := D) (ci := 0) (v := .ref a2) (C := RX1) (T := TX1) (N := 3) hx hb hts in_X1 hown hK hP 0 rfl rfl 1 (by decide) (hts _ q266) (fun _ h9 => h9) rfl dX1_block_1 ?_
  refine lv_iconst (v := 0) hx hb dX1_block_4 (by decide) ?_
  refine lv_iload_n hx hb dX1_block_5 rfl (lv_at hl 1 rfl) ?_
  refine rc_cv (wr := [(h0, .inr (0, [.ref a1, .ref a2, .ref a3]))]) [1] [0] (va_runS (As := [.ref a2, .int 0, .int wa]) (rest := []) ⟨hx, hb, hml, hown, hts⟩ (met_X1_word l D cB cI a2 s.heap.size 0 16 wa g (by omega) (by omega)) (va_cwS 3 hts (lw_S q282 q283 q10 q284) rfl rfl rfl (by decide +kernel) ⟨Nat.le_of_ble_eq_true rfl, Nat.le_of_ble_eq_true rfl⟩) (rc_ps (hP.sub [1] rfl) hK (hD.sub [1] (by decide) rfl) hX) rfl rfl hl.1 rfl (lv_room (Nat.le_of_ble_eq_true rfl)) dX1_block_6 ⟨Nat.le_of_ble_eq_true rfl, Nat.le_of_ble_eq_true rfl⟩) hP hD hS hA rfl rfl (by decide) (by decide) (fun _u H locs _hp hP hD hS => ?_)
  have hP : va_P D vwCl [(h0, .inr (0, [.ref a1, .ref a2, .ref a3])), (a2, .inl (cB, 16, .inl (rc_wd g 0 wa)))] H := hP
  have hD : va_D A [(h0, .inr (0, [.ref a1, .ref a2, .ref a3])), (a2, .inl (cB, 16, .inl (rc_wd g 0 wa)))] := hD
  refine lv_aload_n hx hb dX1_block_9 rfl (lv_at hl 0 rfl) ?_
  refine va_get (D := D) (ci := 0) (v := .ref a2) (C := RX1) (T := TX1) (N := 3) hx hb hts in_X1 hown hK hP 0 rfl rfl 1 (by decide) (hts _ q266) (fun _ h9 => h9) rfl dX1_block_10 ?_
  refine lv_iconst (v := 4) hx hb dX1_block_13 (by decide) ?_
  refine lv_iload_n hx hb dX1_block_14 rfl (lv_at hl 2 rfl) ?_
  refine rc_cv (wr := [(h0, .inr (0, [.ref a1, .ref a2, .ref a3]))]) [1] [0] (va_runS (As := [.ref a2, .int 4, .int wb]) (rest := []) ⟨hx, hb, hml, hown, hts⟩ (met_X1_word l D cB cI a2 H.size 4 16 wb (rc_wd g 0 wa) (by omega) (by omega)) (va_cwS 3 hts (lw_S q282 q283 q10 q284) rfl rfl rfl (by decide +kernel) ⟨Nat.le_of_ble_eq_true rfl, Nat.le_of_ble_eq_true rfl⟩) (rc_ps (hP.sub [1] rfl) hK (hD.sub [1] (by decide) rfl) hX) rfl rfl hl.1 rfl (lv_room (Nat.le_of_ble_eq_true rfl)) dX1_block_15 ⟨Nat.le_of_ble_eq_true rfl, Nat.le_of_ble_eq_true rfl⟩) hP hD hS hA rfl rfl (by decide) (by decide) (fun _u H locs _hp hP hD hS => ?_)
  have hP : va_P D vwCl [(h0, .inr (0, [.ref a1, .ref a2, .ref a3])), (a2, .inl (cB, 16, .inl (rc_wd (rc_wd g 0 wa) 4 wb)))] H := hP
  have hD : va_D A [(h0, .inr (0, [.ref a1, .ref a2, .ref a3])), (a2, .inl (cB, 16, .inl (rc_wd (rc_wd g 0 wa) 4 wb)))] := hD
  refine lv_aload_n hx hb dX1_block_18 rfl (lv_at hl 0 rfl) ?_
  refine va_get (D := D) (ci := 0) (v := .ref a2) (C := RX1) (T := TX1) (N := 3) hx hb hts in_X1 hown hK hP 0 rfl rfl 1 (by decide) (hts _ q266) (fun _ h9 => h9) rfl dX1_block_19 ?_
  refine lv_bipush (v := 8) hx hb dX1_block_22 (by decide) ?_
  refine lv_iload_n hx hb dX1_block_24 rfl (lv_at hl 3 rfl) ?_
  refine rc_cv (wr := [(h0, .inr (0, [.ref a1, .ref a2, .ref a3]))]) [1] [0] (va_runS (As := [.ref a2, .int 8, .int wc]) (rest := []) ⟨hx, hb, hml, hown, hts⟩ (met_X1_word l D cB cI a2 H.size 8 16 wc (rc_wd (rc_wd g 0 wa) 4 wb) (by omega) (by omega)) (va_cwS 3 hts (lw_S q282 q283 q10 q284) rfl rfl rfl (by decide +kernel) ⟨Nat.le_of_ble_eq_true rfl, Nat.le_of_ble_eq_true rfl⟩) (rc_ps (hP.sub [1] rfl) hK (hD.sub [1] (by decide) rfl) hX) rfl rfl hl.1 rfl (lv_room (Nat.le_of_ble_eq_true rfl)) dX1_block_25 ⟨Nat.le_of_ble_eq_true rfl, Nat.le_of_ble_eq_true rfl⟩) hP hD hS hA rfl rfl (by decide) (by decide) (fun _u H locs _hp hP hD hS => ?_)
  have hP : va_P D vwCl [(h0, .inr (0, [.ref a1, .ref a2, .ref a3])), (a2, .inl (cB, 16, .inl (rc_wd (rc_wd (rc_wd g 0 wa) 4 wb) 8 wc)))] H := hP
  have hD : va_D A [(h0, .inr (0, [.ref a1, .ref a2, .ref a3])), (a2, .inl (cB, 16, .inl (rc_wd (rc_wd (rc_wd g 0 wa) 4 wb) 8 wc)))] := hD
  refine lv_aload_n hx hb dX1_block_28 rfl (lv_at hl 0 rfl) ?_
  refine va_get (D := D) (ci := 0) (v := .ref a2) (C := RX1) (T := TX1) (N := 3) hx hb hts in_X1 hown hK hP 0 rfl rfl 1 (by decide) (hts _ q266) (fun _ h9 => h9) rfl dX1_block_29 ?_
  refine lv_bipush (v := 12) hx hb dX1_block_32 (by decide) ?_
  refine lv_iload hx hb dX1_block_34 (lv_at hl 4 rfl) ?_
  refine rc_cv (wr := [(h0, .inr (0, [.ref a1, .ref a2, .ref a3]))]) [1] [0] (va_runS (As := [.ref a2, .int 12, .int wd]) (rest := []) ⟨hx, hb, hml, hown, hts⟩ (met_X1_word l D cB cI a2 H.size 12 16 wd (rc_wd (rc_wd (rc_wd g 0 wa) 4 wb) 8 wc) (by omega) (by omega)) (va_cwS 3 hts (lw_S q282 q283 q10 q284) rfl rfl rfl (by decide +kernel) ⟨Nat.le_of_ble_eq_true rfl, Nat.le_of_ble_eq_true rfl⟩) (rc_ps (hP.sub [1] rfl) hK (hD.sub [1] (by decide) rfl) hX) rfl rfl hl.1 rfl (lv_room (Nat.le_of_ble_eq_true rfl)) dX1_block_36 ⟨Nat.le_of_ble_eq_true rfl, Nat.le_of_ble_eq_true rfl⟩) hP hD hS hA rfl rfl (by decide) (by decide) (fun _u H locs _hp hP hD hS => ?_)
  have hP : va_P D vwCl [(h0, .inr (0, [.ref a1, .ref a2, .ref a3])), (a2, .inl (cB, 16, .inl (rc_wd (rc_wd (rc_wd (rc_wd g 0 wa) 4 wb) 8 wc) 12 wd)))] H := hP
  have hD : va_D A [(h0, .inr (0, [.ref a1, .ref a2, .ref a3])), (a2, .inl (cB, 16, .inl (rc_wd (rc_wd (rc_wd (rc_wd g 0 wa) 4 wb) 8 wc) 12 wd)))] := hD
  have hP9 := hP.sub (ws' := [(h0, .inr (0, [.ref a1, .ref a2, .ref a3])), (a2, .inl (cB, 16, .inl (rc_4 g 0 wa wb wc wd)))]) [0, 1] rfl
  have hD9 := hD.sub (ws' := [(h0, .inr (0, [.ref a1, .ref a2, .ref a3])), (a2, .inl (cB, 16, .inl (rc_4 g 0 wa wb wc wd)))]) [0, 1] (by decide) rfl
  exact W.vret hx hb hr (fun t ht hW => ⟨⟨(), rfl, trivial, by rw [ht]; exact hP9, va_K.moved hW.alike hK, hD9⟩, hS.F ht⟩) hS.2.2 dX1_block_39

set_option maxHeartbeats 4000000 in
set_option maxRecDepth 100000 in
/-- size(kind), kind 0, 1 or 2 -/
theorem met_X1_size (l : Launch) (x y : Int32) (hxy : x = 0 ∧ y = 16 ∨ x = 1 ∧ y = 24 ∨ x = 2 ∧ y = 32) : Met l yX1_size (ws_ yX1_size cX1_size 1 (some .int)) ({ frames := 0, cells := 0, slots := 0, locals := 0 }) (va_Pc [.int x] (fun _ => True)) (vp_Si (fun r => r = y)) 0 0 (fun _ => False) := by
  rcases hxy with ⟨rfl, rfl⟩ | ⟨rfl, rfl⟩ | ⟨rfl, rfl⟩
  · refine Met.ofW (cc := cX1_size) (maxL := 1) (ret := (some .int)) (by decide) rfl ?_
    intro p e s m args below meth c s₁ B hml hv
    obtain ⟨rfl, -⟩ := hv
    have hx := B.exec
    have hb := B.bytes
    have hr := B.returns
    have hts := atoms_spec (ws := ws_ yX1_size cX1_size 1 (some .int)) B.pre
    have hts : ∀ w ∈ lw_all, w.before _ s = true := fun w h => hts w (List.mem_cons_of_mem _ h)
    have hown : s.vm.findClass RX1 = some m.cls := findClass_of_methodNamed B.named
    have hlocks := B.notSynchronized
    have hl := lv_entry ([.int 0]) (n := 1) (Nat.le_of_ble_eq_true rfl)
    rw [lg_entry_eq]
    generalize (lg_sl ([.int 0]) ++ List.replicate (1 - (lg_sl ([.int 0])).length) Slot.unset).toArray = ls at hl ⊢
    have hl : lv_has ls 1 [(0, .int 0)] := hl
    refine lv_iload_n hx hb dX1_size_0 rfl (lv_at hl 0 rfl) ?_
    refine lv_iconst (v := 3) hx hb dX1_size_1 (by decide) ?_
    refine lv_iand hx hb dX1_size_2 ?_
    refine rc_is 0 (by decide) ?_
    refine lv_iconst (v := 3) hx hb dX1_size_3 (by decide) ?_
    refine lv_irem hx hb dX1_size_4 (by decide) ?_
    refine rc_is 0 (by decide) ?_
    refine lv_if_ne (tgt := 13) hx hb dX1_size_5 (by decide) (fun c_ => absurd (by decide) c_) (fun _ => ?_)
    refine lv_bipush (v := 16) hx hb dX1_size_8 (by decide) ?_
    refine lv_goto (tgt := 29) hx hb dX1_size_10 (by decide) ?_
    exact W.iret (v := 16) hx hb hr (fun t ht hW => ⟨_, rfl, rfl, ht⟩) (fun _ h => by cases h) dX1_size_29
  · refine Met.ofW (cc := cX1_size) (maxL := 1) (ret := (some .int)) (by decide) rfl ?_
    intro p e s m args below meth c s₁ B hml hv
    obtain ⟨rfl, -⟩ := hv
    have hx := B.exec
    have hb := B.bytes
    have hr := B.returns
    have hts := atoms_spec (ws := ws_ yX1_size cX1_size 1 (some .int)) B.pre
    have hts : ∀ w ∈ lw_all, w.before _ s = true := fun w h => hts w (List.mem_cons_of_mem _ h)
    have hown : s.vm.findClass RX1 = some m.cls := findClass_of_methodNamed B.named
    have hlocks := B.notSynchronized
    have hl := lv_entry ([.int 1]) (n := 1) (Nat.le_of_ble_eq_true rfl)
    rw [lg_entry_eq]
    generalize (lg_sl ([.int 1]) ++ List.replicate (1 - (lg_sl ([.int 1])).length) Slot.unset).toArray = ls at hl ⊢
    have hl : lv_has ls 1 [(0, .int 1)] := hl
    refine lv_iload_n hx hb dX1_size_0 rfl (lv_at hl 0 rfl) ?_
    refine lv_iconst (v := 3) hx hb dX1_size_1 (by decide) ?_
    refine lv_iand hx hb dX1_size_2 ?_
    refine rc_is 1 (by decide) ?_
    refine lv_iconst (v := 3) hx hb dX1_size_3 (by decide) ?_
    refine lv_irem hx hb dX1_size_4 (by decide) ?_
    refine rc_is 1 (by decide) ?_
    refine lv_if_ne (tgt := 13) hx hb dX1_size_5 (by decide) (fun _ => ?_) (fun c_ => absurd c_ (by decide))
    refine lv_iload_n hx hb dX1_size_13 rfl (lv_at hl 0 rfl) ?_
    refine lv_iconst (v := 3) hx hb dX1_size_14 (by decide) ?_
    refine lv_iand hx hb dX1_size_15 ?_
    refine rc_is 1 (by decide) ?_
    refine lv_iconst (v := 3) hx hb dX1_size_16 (by decide) ?_
    refine lv_irem hx hb dX1_size_17 (by decide) ?_
    refine rc_is 1 (by decide) ?_
    refine lv_iconst (v := 1) hx hb dX1_size_18 (by decide) ?_
    refine lv_icmp_ne (tgt := 27) hx hb dX1_size_19 (by decide) (fun c_ => absurd (by decide) c_) (fun _ => ?_)
    refine lv_bipush (v := 24) hx hb dX1_size_22 (by decide) ?_
    refine lv_goto (tgt := 29) hx hb dX1_size_24 (by decide) ?_
    exact W.iret (v := 24) hx hb hr (fun t ht hW => ⟨_, rfl, rfl, ht⟩) (fun _ h => by cases h) dX1_size_29
  · refine Met.ofW (cc := cX1_size) (maxL := 1) (ret := (some .int)) (by decide) rfl ?_
    intro p e s m args below meth c s₁ B hml hv
    obtain ⟨rfl, -⟩ := hv
    have hx := B.exec
    have hb := B.bytes
    have hr := B.returns
    have hts := atoms_spec (ws := ws_ yX1_size cX1_size 1 (some .int)) B.pre
    have hts : ∀ w ∈ lw_all, w.before _ s = true := fun w h => hts w (List.mem_cons_of_mem _ h)
    have hown : s.vm.findClass RX1 = some m.cls := findClass_of_methodNamed B.named
    have hlocks := B.notSynchronized
    have hl := lv_entry ([.int 2]) (n := 1) (Nat.le_of_ble_eq_true rfl)
    rw [lg_entry_eq]
    generalize (lg_sl ([.int 2]) ++ List.replicate (1 - (lg_sl ([.int 2])).length) Slot.unset).toArray = ls at hl ⊢
    have hl : lv_has ls 1 [(0, .int 2)] := hl
    refine lv_iload_n hx hb dX1_size_0 rfl (lv_at hl 0 rfl) ?_
    refine lv_iconst (v := 3) hx hb dX1_size_1 (by decide) ?_
    refine lv_iand hx hb dX1_size_2 ?_
    refine rc_is 2 (by decide) ?_
    refine lv_iconst (v := 3) hx hb dX1_size_3 (by decide) ?_
    refine lv_irem hx hb dX1_size_4 (by decide) ?_
    refine rc_is 2 (by decide) ?_
    refine lv_if_ne (tgt := 13) hx hb dX1_size_5 (by decide) (fun _ => ?_) (fun c_ => absurd c_ (by decide))
    refine lv_iload_n hx hb dX1_size_13 rfl (lv_at hl 0 rfl) ?_
    refine lv_iconst (v := 3) hx hb dX1_size_14 (by decide) ?_
    refine lv_iand hx hb dX1_size_15 ?_
    refine rc_is 2 (by decide) ?_
    refine lv_iconst (v := 3) hx hb dX1_size_16 (by decide) ?_
    refine lv_irem hx hb dX1_size_17 (by decide) ?_
    refine rc_is 2 (by decide) ?_
    refine lv_iconst (v := 1) hx hb dX1_size_18 (by decide) ?_
    refine lv_icmp_ne (tgt := 27) hx hb dX1_size_19 (by decide) (fun _ => ?_) (fun c_ => absurd c_ (by decide))
    refine lv_bipush (v := 32) hx hb dX1_size_27 (by decide) ?_
    exact W.iret (v := 32) hx hb hr (fun t ht hW => ⟨_, rfl, rfl, ht⟩) (fun _ h => by cases h) dX1_size_29

theorem rc_sz {kk : Nat} (h : kk < 3) : nI kk = 0 ∧ nI (4 * (4 + 2 * kk)) = 16 ∨ nI kk = 1 ∧ nI (4 * (4 + 2 * kk)) = 24 ∨ nI kk = 2 ∧ nI (4 * (4 + 2 * kk)) = 32 := by
  have h1 : kk = 0 ∨ kk = 1 ∨ kk = 2 := by omega
  rcases h1 with rfl | rfl | rfl
  · exact Or.inl ⟨rfl, rfl⟩
  · exact Or.inr (Or.inl ⟨rfl, rfl⟩)
  · exact Or.inr (Or.inr ⟨rfl, rfl⟩)
theorem rc_and3 {kk : Nat} (h : kk < 3) : nI kk &&& 3 = nI kk := by
  have h1 : kk = 0 ∨ kk = 1 ∨ kk = 2 := by omega
  rcases h1 with rfl | rfl | rfl <;> decide
theorem rc_and15 {i : Nat} (h : i < 16) : nI i &&& 15 = nI i := by
  have h3 : nI i &&& 15 = nI (i % 2 ^ 4) := pk_andN (by omega) 4 rfl
  rw [h3]
  congr 1
  omega

set_option maxHeartbeats 4000000 in
set_option maxRecDepth 100000 in
/-- RcSixDesk() -/
theorem met_X1_init (l : Launch) (D : va_G) (cB cI : ClassId) (h0 sz : Nat) : Met l yX1_init (ws_ yX1_init cX1_init 1 none) ({ frames := 1, cells := 3, slots := 64, locals := 12 }) (va_Pc [.ref h0] (rc_Pre D cB cI sz [(h0, .inr (0, [.null, .null, .null]))])) (va_Qv (fun _ : Nat × Nat × Nat => True) (fun u t => rc_B D cB cI (va_A [(h0, .inr (0, [.null, .null, .null]))] sz) [(h0, .inr (0, [.ref u.1, .ref u.2.1, .ref u.2.2])), (u.1, .inl (cB, 32, .inl (fun _ => 0))), (u.2.1, .inl (cB, 16, .inl (fun _ => 0))), (u.2.2, .inl (cB, 16, .inl (fun _ => 0)))] t) (va_A [(h0, .inr (0, [.null, .null, .null]))] sz)) 3 64 (va_A [(h0, .inr (0, [.null, .null, .null]))] sz) := by
  refine Met.ofW (cc := cX1_init) (maxL := 1) (ret := none) (by decide) rfl ?_
  intro p e s m args below meth c s₁ B hml hv
  obtain ⟨rfl, hsz, hP, hK, hD0, hX⟩ := hv
  have hx := B.exec
  have hb := B.bytes
  have hr := B.returns
  have hts := atoms_spec (ws := ws_ yX1_init cX1_init 1 none) B.pre
  have hts : ∀ w ∈ lw_all, w.before _ s = true := fun w h => hts w (List.mem_cons_of_mem _ h)
  have hown : s.vm.findClass RX1 = some m.cls := findClass_of_methodNamed B.named
  have hlocks := B.notSynchronized
  have hin : meth.name = "<init>" := (name_of_methodNamed B.named B.method).1
  subst hsz
  have hD := hD0.self (sz := s.heap.size)
  generalize hAe : va_A [(h0, .inr (0, [.null, .null, .null]))] s.heap.size = A at hD ⊢
  have hA : ∀ q : Nat, s.heap.size ≤ q → A q := fun q h => by rw [← hAe]; exact Or.inr h
  have hS : va_S A s.heap s.heap [] := va_S.rf
  have hP : va_P D vwCl [(h0, .inr (0, [.null, .null, .null]))] s.heap := hP
  have hl := lv_entry ([.ref h0]) (n := 1) (Nat.le_of_ble_eq_true rfl)
  rw [lg_entry_eq]
  generalize (lg_sl ([.ref h0]) ++ List.replicate (1 - (lg_sl ([.ref h0])).length) Slot.unset).toArray = ls at hl ⊢
  have hl : lv_has ls 1 [(0, .ref h0)] := hl
  refine lv_aload_n hx hb dX1_init_0 rfl (lv_at hl 0 rfl) ?_
  refine W.objInit hx hb hown (hts _ q264) (hts _ q40) (hts _ q41) rfl (by rw [hml]; exact hl.1) rfl dX1_init_1 (Nat.le_of_ble_eq_true rfl) (Nat.le_of_ble_eq_true rfl) ?_
  refine W.eq (g2 := F0 m 4 ls []) rfl ?_
  refine lv_aload_n hx hb dX1_init_4 rfl (lv_at hl 0 rfl) ?_
  refine lv_bipush (v := 32) hx hb dX1_init_5 (by decide) ?_
  refine rc_nwb hx hb (hts _ q49) hK hP hD hS hA 32 rfl (by omega) (Nat.le_of_ble_eq_true rfl) (Nat.le_of_ble_eq_true rfl) dX1_init_7 (fun a1 H hP hD hS => ?_)
  have hP : va_P D vwCl [(h0, .inr (0, [.null, .null, .null])), (a1, .inl (cB, 32, .inl (fun _ => 0)))] H := hP
  have hD : va_D A [(h0, .inr (0, [.null, .null, .null])), (a1, .inl (cB, 32, .inl (fun _ => 0)))] := hD
  refine va_putF (D := D) (ci := 0) (v := .ref a1) (ty := .array .byte) (C := RX1) (T := TX1) (N := 3) hx hb hts in_X1 tyX1 tyX1_ok nmX1 hown hK hP hD hS 0 rfl rfl 0 (by decide) (hts _ q265) (fun _ h9 => h9) rfl hin rfl (by decide +kernel) rfl rfl (Nat.le_of_ble_eq_true rfl) dX1_init_9 (fun H locs hP hD hS => ?_)
  have hP : va_P D vwCl [(h0, .inr (0, [.ref a1, .null, .null])), (a1, .inl (cB, 32, .inl (fun _ => 0)))] H := hP
  have hD : va_D A [(h0, .inr (0, [.ref a1, .null, .null])), (a1, .inl (cB, 32, .inl (fun _ => 0)))] := hD
  refine lv_aload_n hx hb dX1_init_12 rfl (lv_at hl 0 rfl) ?_
  refine lv_bipush (v := 16) hx hb dX1_init_13 (by decide) ?_
  refine rc_nwb hx hb (hts _ q49) hK hP hD hS hA 16 rfl (by omega) (Nat.le_of_ble_eq_true rfl) (Nat.le_of_ble_eq_true rfl) dX1_init_15 (fun a2 H hP hD hS => ?_)
  have hP : va_P D vwCl [(h0, .inr (0, [.ref a1, .null, .null])), (a1, .inl (cB, 32, .inl (fun _ => 0))), (a2, .inl (cB, 16, .inl (fun _ => 0)))] H := hP
  have hD : va_D A [(h0, .inr (0, [.ref a1, .null, .null])), (a1, .inl (cB, 32, .inl (fun _ => 0))), (a2, .inl (cB, 16, .inl (fun _ => 0)))] := hD
  refine va_putF (D := D) (ci := 0) (v := .ref a2) (ty := .array .byte) (C := RX1) (T := TX1) (N := 3) hx hb hts in_X1 tyX1 tyX1_ok nmX1 hown hK hP hD hS 0 rfl rfl 1 (by decide) (hts _ q266) (fun _ h9 => h9) rfl hin rfl (by decide +kernel) rfl rfl (Nat.le_of_ble_eq_true rfl) dX1_init_17 (fun H locs hP hD hS => ?_)
  have hP : va_P D vwCl [(h0, .inr (0, [.ref a1, .ref a2, .null])), (a1, .inl (cB, 32, .inl (fun _ => 0))), (a2, .inl (cB, 16, .inl (fun _ => 0)))] H := hP
  have hD : va_D A [(h0, .inr (0, [.ref a1, .ref a2, .null])), (a1, .inl (cB, 32, .inl (fun _ => 0))), (a2, .inl (cB, 16, .inl (fun _ => 0)))] := hD
  refine lv_aload_n hx hb dX1_init_20 rfl (lv_at hl 0 rfl) ?_
  refine lv_bipush (v := 16) hx hb dX1_init_21 (by decide) ?_
  refine rc_nwb hx hb (hts _ q49) hK hP hD hS hA 16 rfl (by omega) (Nat.le_of_ble_eq_true rfl) (Nat.le_of_ble_eq_true rfl) dX1_init_23 (fun a3 H hP hD hS => ?_)
  have hP : va_P D vwCl [(h0, .inr (0, [.ref a1, .ref a2, .null])), (a1, .inl (cB, 32, .inl (fun _ => 0))), (a2, .inl (cB, 16, .inl (fun _ => 0))), (a3, .inl (cB, 16, .inl (fun _ => 0)))] H := hP
  have hD : va_D A [(h0, .inr (0, [.ref a1, .ref a2, .null])), (a1, .inl (cB, 32, .inl (fun _ => 0))), (a2, .inl (cB, 16, .inl (fun _ => 0))), (a3, .inl (cB, 16, .inl (fun _ => 0)))] := hD
  refine va_putF (D := D) (ci := 0) (v := .ref a3) (ty := .array .byte) (C := RX1) (T := TX1) (N := 3) hx hb hts in_X1 tyX1 tyX1_ok nmX1 hown hK hP hD hS 0 rfl rfl 2 (by decide) (hts _ q267) (fun _ h9 => h9) rfl hin rfl (by decide +kernel) rfl rfl (Nat.le_of_ble_eq_true rfl) dX1_init_25 (fun H locs hP hD hS => ?_)
  have hP : va_P D vwCl [(h0, .inr (0, [.ref a1, .ref a2, .ref a3])), (a1, .inl (cB, 32, .inl (fun _ => 0))), (a2, .inl (cB, 16, .inl (fun _ => 0))), (a3, .inl (cB, 16, .inl (fun _ => 0)))] H := hP
  have hD : va_D A [(h0, .inr (0, [.ref a1, .ref a2, .ref a3])), (a1, .inl (cB, 32, .inl (fun _ => 0))), (a2, .inl (cB, 16, .inl (fun _ => 0))), (a3, .inl (cB, 16, .inl (fun _ => 0)))] := hD
  have hP9 := hP.sub (ws' := [(h0, .inr (0, [.ref a1, .ref a2, .ref a3])), (a1, .inl (cB, 32, .inl (fun _ => 0))), (a2, .inl (cB, 16, .inl (fun _ => 0))), (a3, .inl (cB, 16, .inl (fun _ => 0)))]) [0, 1, 2, 3] rfl
  have hD9 := hD.sub (ws' := [(h0, .inr (0, [.ref a1, .ref a2, .ref a3])), (a1, .inl (cB, 32, .inl (fun _ => 0))), (a2, .inl (cB, 16, .inl (fun _ => 0))), (a3, .inl (cB, 16, .inl (fun _ => 0)))]) [0, 1, 2, 3] (by decide) rfl
  exact W.vret hx hb hr (fun t ht hW => ⟨⟨(a1, a2, a3), rfl, trivial, by rw [ht]; exact hP9, va_K.moved hW.alike hK, hD9⟩, hS.F ht⟩) hS.2.2 dX1_init_28

set_option maxHeartbeats 4000000 in
set_option maxRecDepth 100000 in
/-- out(i) -/
theorem met_X1_out (l : Launch) (D : va_G) (cB cI : ClassId) (h0 a1 a2 a3 sz i : Nat) (g : Nat → Int32) (hi : i < 16) : Met l yX1_out (ws_ yX1_out cX1_out 2 (some .int)) ({ frames := 0, cells := 0, slots := 0, locals := 0 }) (va_Pc [.ref h0, .int (nI i)] (rc_Pre D cB cI sz [(h0, .inr (0, [.ref a1, .ref a2, .ref a3])), (a3, .inl (cB, 16, .inl g))])) (vp_Si (fun r => r = g i &&& 255)) 0 0 (fun _ => False) := by
  refine Met.ofW (cc := cX1_out) (maxL := 2) (ret := (some .int)) (by decide) rfl ?_
  intro p e s m args below meth c s₁ B hml hv
  obtain ⟨rfl, hsz, hP, hK, hD0, hX⟩ := hv
  have hx := B.exec
  have hb := B.bytes
  have hr := B.returns
  have hts := atoms_spec (ws := ws_ yX1_out cX1_out 2 (some .int)) B.pre
  have hts : ∀ w ∈ lw_all, w.before _ s = true := fun w h => hts w (List.mem_cons_of_mem _ h)
  have hown : s.vm.findClass RX1 = some m.cls := findClass_of_methodNamed B.named
  have hlocks := B.notSynchronized
  subst hsz
  have hD := hD0
  have hS : va_S (fun _ => True) s.heap s.heap [] := va_S.rf
  have hP : va_P D vwCl [(h0, .inr (0, [.ref a1, .ref a2, .ref a3])), (a3, .inl (cB, 16, .inl g))] s.heap := hP
  have hl := lv_entry ([.ref h0, .int (nI i)]) (n := 2) (Nat.le_of_ble_eq_true rfl)
  rw [lg_entry_eq]
  generalize (lg_sl ([.ref h0, .int (nI i)]) ++ List.replicate (2 - (lg_sl ([.ref h0, .int (nI i)])).length) Slot.unset).toArray = ls at hl ⊢
  have hl : lv_has ls 2 [(0, .ref h0), (1, .int (nI i))] := hl
  refine lv_aload_n hx hb dX1_out_0 rfl (lv_at hl 0 rfl) ?_
  refine va_get (D := D) (ci := 0) (v := .ref a3) (C := RX1) (T := TX1) (N := 3) hx hb hts in_X1 hown hK hP 0 rfl rfl 2 (by decide) (hts _ q267) (fun _ h9 => h9) rfl dX1_out_1 ?_
  refine lv_iload_n hx hb dX1_out_4 rfl (lv_at hl 1 rfl) ?_
  refine lv_bipush (v := 15) hx hb dX1_out_5 (by decide) ?_
  refine lv_iand hx hb dX1_out_7 ?_
  refine rc_is (nI i) (rc_and15 hi) ?_
  refine rc_ldb hx hb hK hP 1 0 rfl rfl i rfl (by omega) (by omega) (g i) rfl dX1_out_8 ?_
  refine lv_sipush (v := 255) hx hb dX1_out_9 (by decide) ?_
  refine lv_iand hx hb dX1_out_12 ?_
  exact W.iret (v := g i &&& 255) hx hb hr (fun t ht hW => ⟨_, rfl, rfl, ht⟩) (fun _ h => by cases h) dX1_out_13

set_option maxHeartbeats 4000000 in
set_option maxRecDepth 100000 in
/-- again's loop: i bytes are copied, r are left -/
theorem seg_again {p : Program} {l : Launch} {e : Env} {s : State} {m : MethodId} {args : Array Value} {below : List Frame} {meth : Method} {c : Code} {Q : State → Prop} {D : va_G} {cB cI : ClassId} {A : Nat → Prop} {H0 : Heap} (h0 a1 a2 a3 : Nat) (fb fo : Nat → Int32) (F : CallFix p m c cX1_again 2 s args lw_all RX1) (hK : va_K D vwCl (rc_T cB cI) s) (hA : ∀ q, H0.size ≤ q → A q) (kend : ∀ (H : Heap) (locs : List Loc) (ls : Array Slot), va_P D vwCl [(h0, .inr (0, [.ref a1, .ref a2, .ref a3])), (a2, .inl (cB, 16, .inl (rc_cp 16 fo fb))), (a3, .inl (cB, 16, .inl fo))] H → va_D A [(h0, .inr (0, [.ref a1, .ref a2, .ref a3])), (a2, .inl (cB, 16, .inl (rc_cp 16 fo fb))), (a3, .inl (cB, 16, .inl fo))] → va_S A H0 H locs → lv_has ls 2 [(0, .ref h0)] → W p l e ({ frames := 0, cells := 0, slots := 0, locals := 0 }) s m args below meth c H locs 0 0 Q (F0 m 26 ls [])) : ∀ (r i : Nat), i + r = 16 → ∀ (H : Heap) (locs : List Loc) (ls : Array Slot), va_P D vwCl [(h0, .inr (0, [.ref a1, .ref a2, .ref a3])), (a2, .inl (cB, 16, .inl (rc_cp i fo fb))), (a3, .inl (cB, 16, .inl fo))] H → va_D A [(h0, .inr (0, [.ref a1, .ref a2, .ref a3])), (a2, .inl (cB, 16, .inl (rc_cp i fo fb))), (a3, .inl (cB, 16, .inl fo))] → va_S A H0 H locs → lv_has ls 2 [(0, .ref h0), (1, .int (nI i))] → W p l e ({ frames := 0, cells := 0, slots := 0, locals := 0 }) s m args below meth c H locs 0 0 Q (F0 m 2 ls []) := by
  obtain ⟨hx, hb, hml, hown, hts⟩ := id F
  intro r
  induction r with
  | zero =>
    intro i hi H locs ls hP hD hS hl
    obtain rfl : i = 16 := by omega
    refine lv_iload_n hx hb dX1_again_2 rfl (lv_at hl 1 rfl) ?_
    refine lv_bipush (v := 16) hx hb dX1_again_3 (by decide) ?_
    refine lv_icmp_ge (tgt := 26) hx hb dX1_again_5 (by decide) (fun _ => ?_) (fun c_ => absurd (by decide) c_)
    exact kend H locs ls hP hD hS (lv_sub hl [0] rfl)
  | succ r ih =>
    intro i hi H locs ls hP hD hS hl
    refine lv_iload_n hx hb dX1_again_2 rfl (lv_at hl 1 rfl) ?_
    refine lv_bipush (v := 16) hx hb dX1_again_3 (by decide) ?_
    refine lv_icmp_ge (tgt := 26) hx hb dX1_again_5 (by decide) (fun c_ => absurd c_ (nI_ge (a := i) (b := 16) (by omega) (by omega))) (fun _ => ?_)
    refine lv_aload_n hx hb dX1_again_8 rfl (lv_at hl 0 rfl) ?_
    refine va_get (D := D) (ci := 0) (v := .ref a2) (C := RX1) (T := TX1) (N := 3) hx hb hts in_X1 hown hK hP 0 rfl rfl 1 (by decide) (hts _ q266) (fun _ h9 => h9) rfl dX1_again_9 ?_
    refine lv_iload_n hx hb dX1_again_12 rfl (lv_at hl 1 rfl) ?_
    refine lv_aload_n hx hb dX1_again_13 rfl (lv_at hl 0 rfl) ?_
    refine va_get (D := D) (ci := 0) (v := .ref a3) (C := RX1) (T := TX1) (N := 3) hx hb hts in_X1 hown hK hP 0 rfl rfl 2 (by decide) (hts _ q267) (fun _ h9 => h9) rfl dX1_again_14 ?_
    refine lv_iload_n hx hb dX1_again_17 rfl (lv_at hl 1 rfl) ?_
    refine rc_ldb hx hb hK hP 2 0 rfl rfl i rfl (by omega) (by omega) (fo i) rfl dX1_again_18 ?_
    refine rc_stb hx hb hK hP hD hS 1 0 rfl rfl i rfl (by omega) (by omega) (rc_cp (i + 1) fo fb) (rc_cp_s i fo fb) [(h0, .inr (0, [.ref a1, .ref a2, .ref a3])), (a2, .inl (cB, 16, .inl (rc_cp (i + 1) fo fb))), (a3, .inl (cB, 16, .inl fo))] rfl dX1_again_19 (fun H locs hP hD hS => ?_)
    refine lv_iinc (v := nI (i + 1)) (lv' := [(1, .int (nI (i + 1))), (0, .ref h0)]) hx hb dX1_again_20 hl (k := 1) rfl (nI_1 i) (by decide) rfl (fun ls hl => ?_)
    refine lv_goto (tgt := 2) hx hb dX1_again_23 (by decide) ?_
    exact ih (i + 1) (by omega) H locs ls hP hD hS (lv_sub hl [1, 0] rfl)

set_option maxHeartbeats 4000000 in
set_option maxRecDepth 100000 in
/-- again(): out becomes the block -/
theorem met_X1_again (l : Launch) (D : va_G) (cB cI : ClassId) (h0 a1 a2 a3 sz : Nat) (fb fo : Nat → Int32) : Met l yX1_again (ws_ yX1_again cX1_again 2 none) ({ frames := 0, cells := 0, slots := 0, locals := 0 }) (va_Pc [.ref h0] (rc_Pre D cB cI sz [(h0, .inr (0, [.ref a1, .ref a2, .ref a3])), (a2, .inl (cB, 16, .inl fb)), (a3, .inl (cB, 16, .inl fo))])) (va_Qv (fun _ : Unit => True) (fun _ t => rc_B D cB cI (va_A [(h0, .inr (0, [.ref a1, .ref a2, .ref a3])), (a2, .inl (cB, 16, .inl fb)), (a3, .inl (cB, 16, .inl fo))] sz) [(h0, .inr (0, [.ref a1, .ref a2, .ref a3])), (a2, .inl (cB, 16, .inl (rc_cp 16 fo fb))), (a3, .inl (cB, 16, .inl fo))] t) (va_A [(h0, .inr (0, [.ref a1, .ref a2, .ref a3])), (a2, .inl (cB, 16, .inl fb)), (a3, .inl (cB, 16, .inl fo))] sz)) 0 0 (va_A [(h0, .inr (0, [.ref a1, .ref a2, .ref a3])), (a2, .inl (cB, 16, .inl fb)), (a3, .inl (cB, 16, .inl fo))] sz) := by
  refine Met.ofW (cc := cX1_again) (maxL := 2) (ret := none) (by decide) rfl ?_
  intro p e s m args below meth c s₁ B hml hv
  obtain ⟨rfl, hsz, hP, hK, hD0, hX⟩ := hv
  have hx := B.exec
  have hb := B.bytes
  have hr := B.returns
  have hts := atoms_spec (ws := ws_ yX1_again cX1_again 2 none) B.pre
  have hts : ∀ w ∈ lw_all, w.before _ s = true := fun w h => hts w (List.mem_cons_of_mem _ h)
  have hown : s.vm.findClass RX1 = some m.cls := findClass_of_methodNamed B.named
  have hlocks := B.notSynchronized
  subst hsz
  have hD := hD0.self (sz := s.heap.size)
  generalize hAe : va_A [(h0, .inr (0, [.ref a1, .ref a2, .ref a3])), (a2, .inl (cB, 16, .inl fb)), (a3, .inl (cB, 16, .inl fo))] s.heap.size = A at hD ⊢
  have hA : ∀ q : Nat, s.heap.size ≤ q → A q := fun q h => by rw [← hAe]; exact Or.inr h
  have hS : va_S A s.heap s.heap [] := va_S.rf
  have hP : va_P D vwCl [(h0, .inr (0, [.ref a1, .ref a2, .ref a3])), (a2, .inl (cB, 16, .inl fb)), (a3, .inl (cB, 16, .inl fo))] s.heap := hP
  have hl := lv_entry ([.ref h0]) (n := 2) (Nat.le_of_ble_eq_true rfl)
  rw [lg_entry_eq]
  generalize (lg_sl ([.ref h0]) ++ List.replicate (2 - (lg_sl ([.ref h0])).length) Slot.unset).toArray = ls at hl ⊢
  have hl : lv_has ls 2 [(0, .ref h0)] := hl
  refine lv_iconst (v := 0) hx hb dX1_again_0 (by decide) ?_
  refine lv_istore_n (lv' := [(1, .int 0), (0, .ref h0)]) hx hb dX1_again_1 rfl hl (by decide) rfl (fun ls hl => ?_)
  refine seg_again h0 a1 a2 a3 fb fo ⟨hx, hb, hml, hown, hts⟩ hK hA (fun H locs ls hP hD hS hl => ?_) 16 0 rfl s.heap _ ls (by rw [rc_cp_0]; exact hP) (by rw [rc_cp_0]; exact hD) hS (lv_sub hl [1, 0] rfl)
  have hP9 := hP.sub (ws' := [(h0, .inr (0, [.ref a1, .ref a2, .ref a3])), (a2, .inl (cB, 16, .inl (rc_cp 16 fo fb))), (a3, .inl (cB, 16, .inl fo))]) [0, 1, 2] rfl
  have hD9 := hD.sub (ws' := [(h0, .inr (0, [.ref a1, .ref a2, .ref a3])), (a2, .inl (cB, 16, .inl (rc_cp 16 fo fb))), (a3, .inl (cB, 16, .inl fo))]) [0, 1, 2] (by decide) rfl
  exact W.vret hx hb hr (fun t ht hW => ⟨⟨(), rfl, trivial, by rw [ht]; exact hP9, va_K.moved hW.alike hK, hD9⟩, hS.F ht⟩) hS.2.2 dX1_again_26

set_option maxHeartbeats 4000000 in
set_option maxRecDepth 100000 in
/-- run's loop: i bytes of the key are copied, r are left -/
theorem seg_run {p : Program} {l : Launch} {e : Env} {s : State} {m : MethodId} {args : Array Value} {below : List Frame} {meth : Method} {c : Code} {Q : State → Prop} {D : va_G} {cB cI : ClassId} {A : Nat → Prop} {H0 : Heap} (h0 a1 a2 a3 ka c0 : Nat) (hc : c0 ≤ 8) (b : Bool) (fk fb fo : Nat → Int32) (F : CallFix p m c cX1_run 6 s args lw_all RX1) (hK : va_K D vwCl (rc_T cB cI) s) (hA : ∀ q, H0.size ≤ q → A q) (kend : ∀ (H : Heap) (locs : List Loc) (ls : Array Slot), va_P D vwCl [(h0, .inr (0, [.ref a1, .ref a2, .ref a3])), (a1, .inl (cB, 32, .inl fk)), (a2, .inl (cB, 16, .inl fb)), (a3, .inl (cB, 16, .inl fo)), (ka, .inl (cB, 4 * c0, .inl (rc_cp (4 * c0) fk (fun _ => 0))))] H → va_D A [(h0, .inr (0, [.ref a1, .ref a2, .ref a3])), (a1, .inl (cB, 32, .inl fk)), (a2, .inl (cB, 16, .inl fb)), (a3, .inl (cB, 16, .inl fo)), (ka, .inl (cB, 4 * c0, .inl (rc_cp (4 * c0) fk (fun _ => 0))))] → va_S A H0 H locs → lv_has ls 6 [(0, .ref h0), (1, .int (rc_bi b)), (3, .int (nI (4 * c0))), (4, .ref ka)] → W p l e ({ frames := 4, cells := 6, slots := 119, locals := 104 }) s m args below meth c H locs 1 32 Q (F0 m 39 ls [])) : ∀ (r i : Nat), i + r = 4 * c0 → ∀ (H : Heap) (locs : List Loc) (ls : Array Slot), va_P D vwCl [(h0, .inr (0, [.ref a1, .ref a2, .ref a3])), (a1, .inl (cB, 32, .inl fk)), (a2, .inl (cB, 16, .inl fb)), (a3, .inl (cB, 16, .inl fo)), (ka, .inl (cB, 4 * c0, .inl (rc_cp i fk (fun _ => 0))))] H → va_D A [(h0, .inr (0, [.ref a1, .ref a2, .ref a3])), (a1, .inl (cB, 32, .inl fk)), (a2, .inl (cB, 16, .inl fb)), (a3, .inl (cB, 16, .inl fo)), (ka, .inl (cB, 4 * c0, .inl (rc_cp i fk (fun _ => 0))))] → va_S A H0 H locs → lv_has ls 6 [(0, .ref h0), (1, .int (rc_bi b)), (3, .int (nI (4 * c0))), (4, .ref ka), (5, .int (nI i))] → W p l e ({ frames := 4, cells := 6, slots := 119, locals := 104 }) s m args below meth c H locs 1 32 Q (F0 m 15 ls []) := by
  obtain ⟨hx, hb, hml, hown, hts⟩ := id F
  intro r
  induction r with
  | zero =>
    intro i hi H locs ls hP hD hS hl
    obtain rfl : i = 4 * c0 := by omega
    refine lv_iload hx hb dX1_run_15 (lv_at hl 4 rfl) ?_
    refine lv_iload_n hx hb dX1_run_17 rfl (lv_at hl 2 rfl) ?_
    refine lv_icmp_ge (tgt := 39) hx hb dX1_run_18 (by decide) (fun _ => ?_) (fun c_ => absurd (nI_le (Nat.le_refl (4 * c0)) (by omega)) c_)
    exact kend H locs ls hP hD hS (lv_sub hl [0, 1, 2, 3] rfl)
  | succ r ih =>
    intro i hi H locs ls hP hD hS hl
    refine lv_iload hx hb dX1_run_15 (lv_at hl 4 rfl) ?_
    refine lv_iload_n hx hb dX1_run_17 rfl (lv_at hl 2 rfl) ?_
    refine lv_icmp_ge (tgt := 39) hx hb dX1_run_18 (by decide) (fun c_ => absurd c_ (nI_ge (a := i) (b := 4 * c0) (by omega) (by omega))) (fun _ => ?_)
    refine lv_aload hx hb dX1_run_21 (lv_at hl 3 rfl) ?_
    refine lv_iload hx hb dX1_run_23 (lv_at hl 4 rfl) ?_
    refine lv_aload_n hx hb dX1_run_25 rfl (lv_at hl 0 rfl) ?_
    refine va_get (D := D) (ci := 0) (v := .ref a1) (C := RX1) (T := TX1) (N := 3) hx hb hts in_X1 hown hK hP 0 rfl rfl 0 (by decide) (hts _ q265) (fun _ h9 => h9) rfl dX1_run_26 ?_
    refine lv_iload hx hb dX1_run_29 (lv_at hl 4 rfl) ?_
    refine rc_ldb hx hb hK hP 1 0 rfl rfl i rfl (by omega) (by omega) (fk i) rfl dX1_run_31 ?_
    refine rc_stb hx hb hK hP hD hS 4 0 rfl rfl i rfl (by omega) (by omega) (rc_cp (i + 1) fk (fun _ => 0)) (rc_cp_s i fk (fun _ => 0)) [(h0, .inr (0, [.ref a1, .ref a2, .ref a3])), (a1, .inl (cB, 32, .inl fk)), (a2, .inl (cB, 16, .inl fb)), (a3, .inl (cB, 16, .inl fo)), (ka, .inl (cB, 4 * c0, .inl (rc_cp (i + 1) fk (fun _ => 0))))] rfl dX1_run_32 (fun H locs hP hD hS => ?_)
    refine lv_iinc (v := nI (i + 1)) (lv' := [(5, .int (nI (i + 1))), (0, .ref h0), (1, .int (rc_bi b)), (3, .int (nI (4 * c0))), (4, .ref ka)]) hx hb dX1_run_33 hl (k := 4) rfl (nI_1 i) (by decide) rfl (fun ls hl => ?_)
    refine lv_goto (tgt := 15) hx hb dX1_run_36 (by decide) ?_
    exact ih (i + 1) (by omega) H locs ls hP hD hS (lv_sub hl [1, 2, 3, 4, 0] rfl)

set_option maxHeartbeats 4000000 in
set_option maxRecDepth 100000 in
/-- run(b, kind) -/
theorem met_X1_run (l : Launch) (D : va_G) (cB cI : ClassId) (h0 a1 a2 a3 sz kk c0 : Nat) (hk : kk < 3) (hc : c0 = 4 + 2 * kk) (b : Bool) (fk fb fo : Nat → Int32) : Met l yX1_run (ws_ yX1_run cX1_run 6 none) ({ frames := 4, cells := 6, slots := 119, locals := 104 }) (va_Pc [.ref h0, .int (rc_bi b), .int (nI kk)] (rc_Pre D cB cI sz [(h0, .inr (0, [.ref a1, .ref a2, .ref a3])), (a1, .inl (cB, 32, .inl fk)), (a2, .inl (cB, 16, .inl fb)), (a3, .inl (cB, 16, .inl fo))])) (va_Qv (fun _ : Unit => True) (fun _ t => rc_B D cB cI (va_A [(h0, .inr (0, [.ref a1, .ref a2, .ref a3])), (a1, .inl (cB, 32, .inl fk)), (a2, .inl (cB, 16, .inl fb)), (a3, .inl (cB, 16, .inl fo))] sz) [(h0, .inr (0, [.ref a1, .ref a2, .ref a3])), (a1, .inl (cB, 32, .inl fk)), (a2, .inl (cB, 16, .inl fb)), (a3, .inl (cB, 16, .inl (rc_cry b c0 fk fb fo)))] t) (va_A [(h0, .inr (0, [.ref a1, .ref a2, .ref a3])), (a1, .inl (cB, 32, .inl fk)), (a2, .inl (cB, 16, .inl fb)), (a3, .inl (cB, 16, .inl fo))] sz)) 6 119 (va_A [(h0, .inr (0, [.ref a1, .ref a2, .ref a3])), (a1, .inl (cB, 32, .inl fk)), (a2, .inl (cB, 16, .inl fb)), (a3, .inl (cB, 16, .inl fo))] sz) := by
  refine Met.ofW (cc := cX1_run) (maxL := 6) (ret := none) (by decide) rfl ?_
  intro p e s m args below meth c s₁ B hml hv
  obtain ⟨rfl, hsz, hP, hK, hD0, hX⟩ := hv
  have hx := B.exec
  have hb := B.bytes
  have hr := B.returns
  have hts := atoms_spec (ws := ws_ yX1_run cX1_run 6 none) B.pre
  have hts : ∀ w ∈ lw_all, w.before _ s = true := fun w h => hts w (List.mem_cons_of_mem _ h)
  have hown : s.vm.findClass RX1 = some m.cls := findClass_of_methodNamed B.named
  have hlocks := B.notSynchronized
  subst hsz
  have hD := hD0.self (sz := s.heap.size)
  generalize hAe : va_A [(h0, .inr (0, [.ref a1, .ref a2, .ref a3])), (a1, .inl (cB, 32, .inl fk)), (a2, .inl (cB, 16, .inl fb)), (a3, .inl (cB, 16, .inl fo))] s.heap.size = A at hD ⊢
  have hA : ∀ q : Nat, s.heap.size ≤ q → A q := fun q h => by rw [← hAe]; exact Or.inr h
  have hS : va_S A s.heap s.heap [] := va_S.rf
  have hP : va_P D vwCl [(h0, .inr (0, [.ref a1, .ref a2, .ref a3])), (a1, .inl (cB, 32, .inl fk)), (a2, .inl (cB, 16, .inl fb)), (a3, .inl (cB, 16, .inl fo))] s.heap := hP
  have hl := lv_entry ([.ref h0, .int (rc_bi b), .int (nI kk)]) (n := 6) (Nat.le_of_ble_eq_true rfl)
  rw [lg_entry_eq]
  generalize (lg_sl ([.ref h0, .int (rc_bi b), .int (nI kk)]) ++ List.replicate (6 - (lg_sl ([.ref h0, .int (rc_bi b), .int (nI kk)])).length) Slot.unset).toArray = ls at hl ⊢
  have hl : lv_has ls 6 [(0, .ref h0), (1, .int (rc_bi b)), (2, .int (nI kk))] := hl
  refine lv_iload_n hx hb dX1_run_0 rfl (lv_at hl 2 rfl) ?_
  refine lv_iconst (v := 3) hx hb dX1_run_1 (by decide) ?_
  refine lv_iand hx hb dX1_run_2 ?_
  refine rc_is (nI kk) (rc_and3 hk) ?_
  refine vp_callSi (W.runS (As := [.int (nI kk)]) (rest := []) ⟨hx, hb, hml, hown, hts⟩ (met_X1_size l (nI kk) (nI (4 * c0)) (by rw [hc]; exact rc_sz hk)) (va_cwS 1 hts (lw_S q31 q32 q10 q33) rfl rfl rfl (by decide +kernel) ⟨Nat.le_of_ble_eq_true rfl, Nat.le_of_ble_eq_true rfl⟩) (rc_ps0) rfl rfl hl.1 rfl (lv_room (Nat.le_of_ble_eq_true rfl)) dX1_run_3 ⟨Nat.le_of_ble_eq_true rfl, Nat.le_of_ble_eq_true rfl⟩) (fun r_1 er_1 => ?_)
  have er_1 := er_1.symm
  subst er_1
  refine lv_istore_n (lv' := [(3, .int (nI (4 * c0))), (0, .ref h0), (1, .int (rc_bi b)), (2, .int (nI kk))]) hx hb dX1_run_6 rfl hl (by decide) rfl (fun ls hl => ?_)
  refine lv_iload_n hx hb dX1_run_7 rfl (lv_at hl 0 rfl) ?_
  refine rc_nwb hx hb (hts _ q49) hK hP hD hS hA (4 * c0) rfl (by omega) (Nat.le_of_ble_eq_true rfl) (by show 0 + 4 * c0 ≤ 119; omega) dX1_run_8 (fun ka H hP hD hS => ?_)
  have hP : va_P D vwCl [(h0, .inr (0, [.ref a1, .ref a2, .ref a3])), (a1, .inl (cB, 32, .inl fk)), (a2, .inl (cB, 16, .inl fb)), (a3, .inl (cB, 16, .inl fo)), (ka, .inl (cB, 4 * c0, .inl (fun _ => 0)))] H := hP
  have hD : va_D A [(h0, .inr (0, [.ref a1, .ref a2, .ref a3])), (a1, .inl (cB, 32, .inl fk)), (a2, .inl (cB, 16, .inl fb)), (a3, .inl (cB, 16, .inl fo)), (ka, .inl (cB, 4 * c0, .inl (fun _ => 0)))] := hD
  refine W.widen (k := 1) (n := 32) (by omega) (by omega) ?_
  refine lv_astore (lv' := [(4, .ref ka), (3, .int (nI (4 * c0))), (0, .ref h0), (1, .int (rc_bi b)), (2, .int (nI kk))]) hx hb dX1_run_10 hl (by decide) rfl (fun ls hl => ?_)
  refine lv_iconst (v := 0) hx hb dX1_run_12 (by decide) ?_
  refine lv_istore (lv' := [(5, .int 0), (4, .ref ka), (3, .int (nI (4 * c0))), (0, .ref h0), (1, .int (rc_bi b)), (2, .int (nI kk))]) hx hb dX1_run_13 hl (by decide) rfl (fun ls hl => ?_)
  refine seg_run h0 a1 a2 a3 ka c0 (by omega) b fk fb fo ⟨hx, hb, hml, hown, hts⟩ hK hA (fun H locs ls hP hD hS hl => ?_) (4 * c0) 0 (by omega) H _ ls (by rw [rc_cp_0]; exact hP) (by rw [rc_cp_0]; exact hD) hS (lv_sub hl [3, 4, 2, 1, 0] rfl)
  refine va_new (ci := 1) (fs := [.null, .int 0]) (C := RX2) (T := TX2) (N := 2) hx hb hts in_X2 tyX2 tyX2_ok hown (hts _ q34) (hts _ q35) (hts _ q11) hK hP hD hS hA rfl (fun j hj => by rcases (show j = 0 ∨ j = 1 by omega) with rfl | rfl <;> rfl) (Nat.le_of_ble_eq_true rfl) (Nat.le_of_ble_eq_true rfl) dX1_run_39 (fun en H hP hD hS => ?_)
  have hP : va_P D vwCl [(h0, .inr (0, [.ref a1, .ref a2, .ref a3])), (a1, .inl (cB, 32, .inl fk)), (a2, .inl (cB, 16, .inl fb)), (a3, .inl (cB, 16, .inl fo)), (ka, .inl (cB, 4 * c0, .inl (rc_cp (4 * c0) fk (fun _ => 0)))), (en, .inr (1, [.null, .int 0]))] H := hP
  have hD : va_D A [(h0, .inr (0, [.ref a1, .ref a2, .ref a3])), (a1, .inl (cB, 32, .inl fk)), (a2, .inl (cB, 16, .inl fb)), (a3, .inl (cB, 16, .inl fo)), (ka, .inl (cB, 4 * c0, .inl (rc_cp (4 * c0) fk (fun _ => 0)))), (en, .inr (1, [.null, .int 0]))] := hD
  refine lv_dup hx hb dX1_run_42 rfl ?_
  refine rc_cv (wr := [(h0, .inr (0, [.ref a1, .ref a2, .ref a3])), (a1, .inl (cB, 32, .inl fk)), (a2, .inl (cB, 16, .inl fb)), (a3, .inl (cB, 16, .inl fo)), (ka, .inl (cB, 4 * c0, .inl (rc_cp (4 * c0) fk (fun _ => 0))))]) [5] [0, 1, 2, 3, 4] (va_runI (As := []) (rest := [.ref en]) ⟨hx, hb, hml, hown, hts⟩ (met_X2_init l D cB cI en H.size) (cwI 0 hts (lw_meth q38) rfl rfl rfl (hts _ q11) (hts _ q36) (hts _ q37) rfl (by decide +kernel) ⟨Nat.le_of_ble_eq_true rfl, Nat.le_of_ble_eq_true rfl⟩) (rc_ps (hP.sub [5] rfl) hK (hD.sub [5] (by decide) rfl) hX) rfl rfl hl.1 rfl (lv_room (Nat.le_of_ble_eq_true rfl)) dX1_run_43 ⟨Nat.le_of_ble_eq_true rfl, Nat.le_of_ble_eq_true rfl⟩) hP hD hS hA rfl rfl (by decide) (by decide) (fun _u H locs _hp hP hD hS => ?_)
  have hP : va_P D vwCl [(h0, .inr (0, [.ref a1, .ref a2, .ref a3])), (a1, .inl (cB, 32, .inl fk)), (a2, .inl (cB, 16, .inl fb)), (a3, .inl (cB, 16, .inl fo)), (ka, .inl (cB, 4 * c0, .inl (rc_cp (4 * c0) fk (fun _ => 0)))), (en, .inr (1, [.null, .int 0]))] H := hP
  have hD : va_D A [(h0, .inr (0, [.ref a1, .ref a2, .ref a3])), (a1, .inl (cB, 32, .inl fk)), (a2, .inl (cB, 16, .inl fb)), (a3, .inl (cB, 16, .inl fo)), (ka, .inl (cB, 4 * c0, .inl (rc_cp (4 * c0) fk (fun _ => 0)))), (en, .inr (1, [.null, .int 0]))] := hD
  refine lv_astore (lv' := [(5, .ref en), (0, .ref h0), (1, .int (rc_bi b)), (3, .int (nI (4 * c0))), (4, .ref ka)]) hx hb dX1_run_46 hl (by decide) rfl (fun ls hl => ?_)
  refine lv_aload hx hb dX1_run_48 (lv_at hl 0 rfl) ?_
  refine lv_iload_n hx hb dX1_run_50 rfl (lv_at hl 2 rfl) ?_
  refine va_new (ci := 2) (fs := [.null]) (C := RX3) (T := TX3) (N := 1) hx hb hts in_X3 tyX3 tyX3_ok hown (hts _ q50) (hts _ q51) (hts _ q12) hK hP hD hS hA rfl (fun j hj => by rcases (show j = 0 by omega) with rfl <;> rfl) (Nat.le_of_ble_eq_true rfl) (Nat.le_of_ble_eq_true rfl) dX1_run_51 (fun kp H hP hD hS => ?_)
  have hP : va_P D vwCl [(h0, .inr (0, [.ref a1, .ref a2, .ref a3])), (a1, .inl (cB, 32, .inl fk)), (a2, .inl (cB, 16, .inl fb)), (a3, .inl (cB, 16, .inl fo)), (ka, .inl (cB, 4 * c0, .inl (rc_cp (4 * c0) fk (fun _ => 0)))), (en, .inr (1, [.null, .int 0])), (kp, .inr (2, [.null]))] H := hP
  have hD : va_D A [(h0, .inr (0, [.ref a1, .ref a2, .ref a3])), (a1, .inl (cB, 32, .inl fk)), (a2, .inl (cB, 16, .inl fb)), (a3, .inl (cB, 16, .inl fo)), (ka, .inl (cB, 4 * c0, .inl (rc_cp (4 * c0) fk (fun _ => 0)))), (en, .inr (1, [.null, .int 0])), (kp, .inr (2, [.null]))] := hD
  refine lv_dup hx hb dX1_run_54 rfl ?_
  refine lv_aload hx hb dX1_run_55 (lv_at hl 4 rfl) ?_
  refine rc_cv (wr := [(h0, .inr (0, [.ref a1, .ref a2, .ref a3])), (a1, .inl (cB, 32, .inl fk)), (a2, .inl (cB, 16, .inl fb)), (a3, .inl (cB, 16, .inl fo)), (en, .inr (1, [.null, .int 0]))]) [6, 4] [0, 1, 2, 3, 5] (va_runI (As := [.ref ka]) (rest := [.ref kp, .int (rc_bi b), .ref en]) ⟨hx, hb, hml, hown, hts⟩ (met_X3_init l D cB cI kp ka H.size (4 * c0) (rc_cp (4 * c0) fk (fun _ => 0)) (by omega) (fun i hi => rc_cp_fit fk (fun _ => 0) hi)) (cwI 1 hts (lw_meth q54) rfl rfl rfl (hts _ q12) (hts _ q52) (hts _ q53) rfl (by decide +kernel) ⟨Nat.le_of_ble_eq_true rfl, Nat.le_of_ble_eq_true rfl⟩) (rc_ps (hP.sub [6, 4] rfl) hK (hD.sub [6, 4] (by decide) rfl) hX) rfl rfl hl.1 rfl (lv_room (Nat.le_of_ble_eq_true rfl)) dX1_run_57 ⟨Nat.le_of_ble_eq_true rfl, Nat.le_of_ble_eq_true rfl⟩) hP hD hS hA rfl rfl (by decide) (by decide) (fun kb H locs _hp hP hD hS => ?_)
  have hP : va_P D vwCl [(h0, .inr (0, [.ref a1, .ref a2, .ref a3])), (a1, .inl (cB, 32, .inl fk)), (a2, .inl (cB, 16, .inl fb)), (a3, .inl (cB, 16, .inl fo)), (en, .inr (1, [.null, .int 0])), (kp, .inr (2, [.ref kb])), (kb, .inl (cB, 4 * c0, .inl (va_cpy (rc_cp (4 * c0) fk (fun _ => 0)) (fun _ => 0) 0 0 (4 * c0)))), (ka, .inl (cB, 4 * c0, .inl (rc_cp (4 * c0) fk (fun _ => 0))))] H := hP
  have hD : va_D A [(h0, .inr (0, [.ref a1, .ref a2, .ref a3])), (a1, .inl (cB, 32, .inl fk)), (a2, .inl (cB, 16, .inl fb)), (a3, .inl (cB, 16, .inl fo)), (en, .inr (1, [.null, .int 0])), (kp, .inr (2, [.ref kb])), (kb, .inl (cB, 4 * c0, .inl (va_cpy (rc_cp (4 * c0) fk (fun _ => 0)) (fun _ => 0) 0 0 (4 * c0)))), (ka, .inl (cB, 4 * c0, .inl (rc_cp (4 * c0) fk (fun _ => 0))))] := hD
  refine rc_cFv (wr := [(h0, .inr (0, [.ref a1, .ref a2, .ref a3])), (a1, .inl (cB, 32, .inl fk)), (a2, .inl (cB, 16, .inl fb)), (a3, .inl (cB, 16, .inl fo)), (ka, .inl (cB, 4 * c0, .inl (rc_cp (4 * c0) fk (fun _ => 0))))]) [4, 5, 6] [0, 1, 2, 3, 7] (va_runF (As := [.int (rc_bi b), .ref kp]) (rest := []) (hK.1 1 _ rfl).2 ⟨hx, hb, hml, hown, hts⟩ (met_X2_init_2 l D cB cI en kp kb H.size c0 (by omega) (by omega) b (va_cpy (rc_cp (4 * c0) fk (fun _ => 0)) (fun _ => 0) 0 0 (4 * c0))) (va_cwF (C := "RC6Engine") 2 hts (lw_app (lw_in _ [70, 74, 76, 11] (by decide +kernel) (by decide +kernel)) (lw_meth q78)) rfl rfl rfl hX.1 (by decide +kernel) ⟨Nat.le_of_ble_eq_true rfl, Nat.le_of_ble_eq_true rfl⟩) (rc_pv (va_recv hK hP (ci := 1) (q0 := 4) rfl rfl) (hP.sub [4, 5, 6] rfl) hK (hD.sub [4, 5, 6] (by decide) rfl) hX) rfl rfl hl.1 rfl (lv_room (Nat.le_of_ble_eq_true rfl)) dX1_run_60 ⟨Nat.le_of_ble_eq_true rfl, Nat.le_of_ble_eq_true rfl⟩) hP hD hS hA rfl rfl (by decide) (by decide) (fun sA H locs _hp hP hD hS => ?_)
  have hP : va_P D vwCl [(h0, .inr (0, [.ref a1, .ref a2, .ref a3])), (a1, .inl (cB, 32, .inl fk)), (a2, .inl (cB, 16, .inl fb)), (a3, .inl (cB, 16, .inl fo)), (ka, .inl (cB, 4 * c0, .inl (rc_cp (4 * c0) fk (fun _ => 0)))), (en, .inr (1, [.ref sA, .int (rc_bi b)])), (sA, .inl (cI, 44, .inl (rc_key c0 (va_cpy (rc_cp (4 * c0) fk (fun _ => 0)) (fun _ => 0) 0 0 (4 * c0)))))] H := hP
  have hD : va_D A [(h0, .inr (0, [.ref a1, .ref a2, .ref a3])), (a1, .inl (cB, 32, .inl fk)), (a2, .inl (cB, 16, .inl fb)), (a3, .inl (cB, 16, .inl fo)), (ka, .inl (cB, 4 * c0, .inl (rc_cp (4 * c0) fk (fun _ => 0)))), (en, .inr (1, [.ref sA, .int (rc_bi b)])), (sA, .inl (cI, 44, .inl (rc_key c0 (va_cpy (rc_cp (4 * c0) fk (fun _ => 0)) (fun _ => 0) 0 0 (4 * c0)))))] := hD
  refine lv_aload hx hb dX1_run_65 (lv_at hl 0 rfl) ?_
  refine lv_aload_n hx hb dX1_run_67 rfl (lv_at hl 1 rfl) ?_
  refine va_get (D := D) (ci := 0) (v := .ref a2) (C := RX1) (T := TX1) (N := 3) hx hb hts in_X1 hown hK hP 0 rfl rfl 1 (by decide) (hts _ q266) (fun _ h9 => h9) rfl dX1_run_68 ?_
  refine lv_iconst (v := 0) hx hb dX1_run_71 (by decide) ?_
  refine lv_aload_n hx hb dX1_run_72 rfl (lv_at hl 1 rfl) ?_
  refine va_get (D := D) (ci := 0) (v := .ref a3) (C := RX1) (T := TX1) (N := 3) hx hb hts in_X1 hown hK hP 0 rfl rfl 2 (by decide) (hts _ q267) (fun _ h9 => h9) rfl dX1_run_73 ?_
  refine lv_iconst (v := 0) hx hb dX1_run_76 (by decide) ?_
  refine rc_cFi (wr := [(h0, .inr (0, [.ref a1, .ref a2, .ref a3])), (a1, .inl (cB, 32, .inl fk)), (ka, .inl (cB, 4 * c0, .inl (rc_cp (4 * c0) fk (fun _ => 0))))]) [5, 6, 2, 3] [0, 1, 4] (va_runF (As := [.ref a2, .int 0, .ref a3, .int 0]) (rest := []) (hK.1 1 _ rfl).2 ⟨hx, hb, hml, hown, hts⟩ (met_X2_processBlock l D cB cI en sA a2 a3 H.size b (rc_key c0 (va_cpy (rc_cp (4 * c0) fk (fun _ => 0)) (fun _ => 0) 0 0 (4 * c0))) fb fo) (va_cwF (C := "RC6Engine") 4 hts (lw_app (lw_in _ [163, 166, 168, 11] (by decide +kernel) (by decide +kernel)) (lw_meth q170)) rfl rfl rfl hX.2 (by decide +kernel) ⟨Nat.le_of_ble_eq_true rfl, Nat.le_of_ble_eq_true rfl⟩) (rc_pv (va_recv hK hP (ci := 1) (q0 := 5) rfl rfl) (hP.sub [5, 6, 2, 3] rfl) hK (hD.sub [5, 6, 2, 3] (by decide) rfl) hX) rfl rfl hl.1 rfl (lv_room (Nat.le_of_ble_eq_true rfl)) dX1_run_77 ⟨Nat.le_of_ble_eq_true rfl, Nat.le_of_ble_eq_true rfl⟩) hP hD hS hA rfl rfl (by decide) (by decide) (fun r_8 _u H locs _hp hP hD hS => ?_)
  have hP : va_P D vwCl [(h0, .inr (0, [.ref a1, .ref a2, .ref a3])), (a1, .inl (cB, 32, .inl fk)), (ka, .inl (cB, 4 * c0, .inl (rc_cp (4 * c0) fk (fun _ => 0)))), (en, .inr (1, [.ref sA, .int (rc_bi b)])), (sA, .inl (cI, 44, .inl (rc_key c0 (va_cpy (rc_cp (4 * c0) fk (fun _ => 0)) (fun _ => 0) 0 0 (4 * c0))))), (a2, .inl (cB, 16, .inl fb)), (a3, .inl (cB, 16, .inl (rc_out fo (if b then rc_enc (rc_key c0 (va_cpy (rc_cp (4 * c0) fk (fun _ => 0)) (fun _ => 0) 0 0 (4 * c0))) (rc_in fb) else rc_dec (rc_key c0 (va_cpy (rc_cp (4 * c0) fk (fun _ => 0)) (fun _ => 0) 0 0 (4 * c0))) (rc_in fb)))))] H := hP
  have hD : va_D A [(h0, .inr (0, [.ref a1, .ref a2, .ref a3])), (a1, .inl (cB, 32, .inl fk)), (ka, .inl (cB, 4 * c0, .inl (rc_cp (4 * c0) fk (fun _ => 0)))), (en, .inr (1, [.ref sA, .int (rc_bi b)])), (sA, .inl (cI, 44, .inl (rc_key c0 (va_cpy (rc_cp (4 * c0) fk (fun _ => 0)) (fun _ => 0) 0 0 (4 * c0))))), (a2, .inl (cB, 16, .inl fb)), (a3, .inl (cB, 16, .inl (rc_out fo (if b then rc_enc (rc_key c0 (va_cpy (rc_cp (4 * c0) fk (fun _ => 0)) (fun _ => 0) 0 0 (4 * c0))) (rc_in fb) else rc_dec (rc_key c0 (va_cpy (rc_cp (4 * c0) fk (fun _ => 0)) (fun _ => 0) 0 0 (4 * c0))) (rc_in fb)))))] := hD
  refine lv_pop hx hb dX1_run_82 rfl ?_
  have hP9 := hP.sub (ws' := [(h0, .inr (0, [.ref a1, .ref a2, .ref a3])), (a1, .inl (cB, 32, .inl fk)), (a2, .inl (cB, 16, .inl fb)), (a3, .inl (cB, 16, .inl (rc_cry b c0 fk fb fo)))]) [0, 1, 5, 6] rfl
  have hD9 := hD.sub (ws' := [(h0, .inr (0, [.ref a1, .ref a2, .ref a3])), (a1, .inl (cB, 32, .inl fk)), (a2, .inl (cB, 16, .inl fb)), (a3, .inl (cB, 16, .inl (rc_cry b c0 fk fb fo)))]) [0, 1, 5, 6] (by decide) rfl
  exact W.vret hx hb hr (fun t ht hW => ⟨⟨(), rfl, trivial, by rw [ht]; exact hP9, va_K.moved hW.alike hK, hD9⟩, hS.F ht⟩) hS.2.2 dX1_run_83

set_option maxHeartbeats 4000000 in
set_option maxRecDepth 100000 in
/-- lock(kind) -/
theorem met_X1_lock (l : Launch) (D : va_G) (cB cI : ClassId) (h0 a1 a2 a3 sz kk c0 : Nat) (hk : kk < 3) (hc : c0 = 4 + 2 * kk) (fk fb fo : Nat → Int32) : Met l yX1_lock (ws_ yX1_lock cX1_lock 2 none) ({ frames := 5, cells := 6, slots := 119, locals := 129 }) (va_Pc [.ref h0, .int (nI kk)] (rc_Pre D cB cI sz [(h0, .inr (0, [.ref a1, .ref a2, .ref a3])), (a1, .inl (cB, 32, .inl fk)), (a2, .inl (cB, 16, .inl fb)), (a3, .inl (cB, 16, .inl fo))])) (va_Qv (fun _ : Unit => True) (fun _ t => rc_B D cB cI (va_A [(h0, .inr (0, [.ref a1, .ref a2, .ref a3])), (a1, .inl (cB, 32, .inl fk)), (a2, .inl (cB, 16, .inl fb)), (a3, .inl (cB, 16, .inl fo))] sz) [(h0, .inr (0, [.ref a1, .ref a2, .ref a3])), (a1, .inl (cB, 32, .inl fk)), (a2, .inl (cB, 16, .inl fb)), (a3, .inl (cB, 16, .inl (rc_cry true c0 fk fb fo)))] t) (va_A [(h0, .inr (0, [.ref a1, .ref a2, .ref a3])), (a1, .inl (cB, 32, .inl fk)), (a2, .inl (cB, 16, .inl fb)), (a3, .inl (cB, 16, .inl fo))] sz)) 6 119 (va_A [(h0, .inr (0, [.ref a1, .ref a2, .ref a3])), (a1, .inl (cB, 32, .inl fk)), (a2, .inl (cB, 16, .inl fb)), (a3, .inl (cB, 16, .inl fo))] sz) := by
  refine Met.ofW (cc := cX1_lock) (maxL := 2) (ret := none) (by decide) rfl ?_
  intro p e s m args below meth c s₁ B hml hv
  obtain ⟨rfl, hsz, hP, hK, hD0, hX⟩ := hv
  have hx := B.exec
  have hb := B.bytes
  have hr := B.returns
  have hts := atoms_spec (ws := ws_ yX1_lock cX1_lock 2 none) B.pre
  have hts : ∀ w ∈ lw_all, w.before _ s = true := fun w h => hts w (List.mem_cons_of_mem _ h)
  have hown : s.vm.findClass RX1 = some m.cls := findClass_of_methodNamed B.named
  have hlocks := B.notSynchronized
  subst hsz
  have hD := hD0.self (sz := s.heap.size)
  generalize hAe : va_A [(h0, .inr (0, [.ref a1, .ref a2, .ref a3])), (a1, .inl (cB, 32, .inl fk)), (a2, .inl (cB, 16, .inl fb)), (a3, .inl (cB, 16, .inl fo))] s.heap.size = A at hD ⊢
  have hA : ∀ q : Nat, s.heap.size ≤ q → A q := fun q h => by rw [← hAe]; exact Or.inr h
  have hS : va_S A s.heap s.heap [] := va_S.rf
  have hP : va_P D vwCl [(h0, .inr (0, [.ref a1, .ref a2, .ref a3])), (a1, .inl (cB, 32, .inl fk)), (a2, .inl (cB, 16, .inl fb)), (a3, .inl (cB, 16, .inl fo))] s.heap := hP
  have hl := lv_entry ([.ref h0, .int (nI kk)]) (n := 2) (Nat.le_of_ble_eq_true rfl)
  rw [lg_entry_eq]
  generalize (lg_sl ([.ref h0, .int (nI kk)]) ++ List.replicate (2 - (lg_sl ([.ref h0, .int (nI kk)])).length) Slot.unset).toArray = ls at hl ⊢
  have hl : lv_has ls 2 [(0, .ref h0), (1, .int (nI kk))] := hl
  refine lv_aload_n hx hb dX1_lock_0 rfl (lv_at hl 0 rfl) ?_
  refine lv_iconst (v := 1) hx hb dX1_lock_1 (by decide) ?_
  refine lv_iload_n hx hb dX1_lock_2 rfl (lv_at hl 1 rfl) ?_
  refine rc_cv (wr := []) [0, 1, 2, 3] [] (va_runV (As := [.int 1, .int (nI kk)]) (rest := []) ⟨hx, hb, hml, hown, hts⟩ (met_X1_run l D cB cI h0 a1 a2 a3 s.heap.size kk c0 hk hc true fk fb fo) (cwV 2 hts (lw_V q26 q28 qs0 q10 q30) rfl rfl rfl (by decide +kernel) ⟨Nat.le_of_ble_eq_true rfl, Nat.le_of_ble_eq_true rfl⟩) (rc_pv (va_recv hK hP (ci := 0) (q0 := 0) rfl rfl) (hP.sub [0, 1, 2, 3] rfl) hK (hD.sub [0, 1, 2, 3] (by decide) rfl) hX) rfl rfl hl.1 rfl (lv_room (Nat.le_of_ble_eq_true rfl)) dX1_lock_3 ⟨Nat.le_of_ble_eq_true rfl, Nat.le_of_ble_eq_true rfl⟩) hP hD hS hA rfl rfl (by decide) (by decide) (fun _u H locs _hp hP hD hS => ?_)
  have hP : va_P D vwCl [(h0, .inr (0, [.ref a1, .ref a2, .ref a3])), (a1, .inl (cB, 32, .inl fk)), (a2, .inl (cB, 16, .inl fb)), (a3, .inl (cB, 16, .inl (rc_cry true c0 fk fb fo)))] H := hP
  have hD : va_D A [(h0, .inr (0, [.ref a1, .ref a2, .ref a3])), (a1, .inl (cB, 32, .inl fk)), (a2, .inl (cB, 16, .inl fb)), (a3, .inl (cB, 16, .inl (rc_cry true c0 fk fb fo)))] := hD
  have hP9 := hP.sub (ws' := [(h0, .inr (0, [.ref a1, .ref a2, .ref a3])), (a1, .inl (cB, 32, .inl fk)), (a2, .inl (cB, 16, .inl fb)), (a3, .inl (cB, 16, .inl (rc_cry true c0 fk fb fo)))]) [0, 1, 2, 3] rfl
  have hD9 := hD.sub (ws' := [(h0, .inr (0, [.ref a1, .ref a2, .ref a3])), (a1, .inl (cB, 32, .inl fk)), (a2, .inl (cB, 16, .inl fb)), (a3, .inl (cB, 16, .inl (rc_cry true c0 fk fb fo)))]) [0, 1, 2, 3] (by decide) rfl
  exact W.vret hx hb hr (fun t ht hW => ⟨⟨(), rfl, trivial, by rw [ht]; exact hP9, va_K.moved hW.alike hK, hD9⟩, hS.F ht⟩) hS.2.2 dX1_lock_6

set_option maxHeartbeats 4000000 in
set_option maxRecDepth 100000 in
/-- open(kind) -/
theorem met_X1_open (l : Launch) (D : va_G) (cB cI : ClassId) (h0 a1 a2 a3 sz kk c0 : Nat) (hk : kk < 3) (hc : c0 = 4 + 2 * kk) (fk fb fo : Nat → Int32) : Met l yX1_open (ws_ yX1_open cX1_open 2 none) ({ frames := 5, cells := 6, slots := 119, locals := 129 }) (va_Pc [.ref h0, .int (nI kk)] (rc_Pre D cB cI sz [(h0, .inr (0, [.ref a1, .ref a2, .ref a3])), (a1, .inl (cB, 32, .inl fk)), (a2, .inl (cB, 16, .inl fb)), (a3, .inl (cB, 16, .inl fo))])) (va_Qv (fun _ : Unit => True) (fun _ t => rc_B D cB cI (va_A [(h0, .inr (0, [.ref a1, .ref a2, .ref a3])), (a1, .inl (cB, 32, .inl fk)), (a2, .inl (cB, 16, .inl fb)), (a3, .inl (cB, 16, .inl fo))] sz) [(h0, .inr (0, [.ref a1, .ref a2, .ref a3])), (a1, .inl (cB, 32, .inl fk)), (a2, .inl (cB, 16, .inl fb)), (a3, .inl (cB, 16, .inl (rc_cry false c0 fk fb fo)))] t) (va_A [(h0, .inr (0, [.ref a1, .ref a2, .ref a3])), (a1, .inl (cB, 32, .inl fk)), (a2, .inl (cB, 16, .inl fb)), (a3, .inl (cB, 16, .inl fo))] sz)) 6 119 (va_A [(h0, .inr (0, [.ref a1, .ref a2, .ref a3])), (a1, .inl (cB, 32, .inl fk)), (a2, .inl (cB, 16, .inl fb)), (a3, .inl (cB, 16, .inl fo))] sz) := by
  refine Met.ofW (cc := cX1_open) (maxL := 2) (ret := none) (by decide) rfl ?_
  intro p e s m args below meth c s₁ B hml hv
  obtain ⟨rfl, hsz, hP, hK, hD0, hX⟩ := hv
  have hx := B.exec
  have hb := B.bytes
  have hr := B.returns
  have hts := atoms_spec (ws := ws_ yX1_open cX1_open 2 none) B.pre
  have hts : ∀ w ∈ lw_all, w.before _ s = true := fun w h => hts w (List.mem_cons_of_mem _ h)
  have hown : s.vm.findClass RX1 = some m.cls := findClass_of_methodNamed B.named
  have hlocks := B.notSynchronized
  subst hsz
  have hD := hD0.self (sz := s.heap.size)
  generalize hAe : va_A [(h0, .inr (0, [.ref a1, .ref a2, .ref a3])), (a1, .inl (cB, 32, .inl fk)), (a2, .inl (cB, 16, .inl fb)), (a3, .inl (cB, 16, .inl fo))] s.heap.size = A at hD ⊢
  have hA : ∀ q : Nat, s.heap.size ≤ q → A q := fun q h => by rw [← hAe]; exact Or.inr h
  have hS : va_S A s.heap s.heap [] := va_S.rf
  have hP : va_P D vwCl [(h0, .inr (0, [.ref a1, .ref a2, .ref a3])), (a1, .inl (cB, 32, .inl fk)), (a2, .inl (cB, 16, .inl fb)), (a3, .inl (cB, 16, .inl fo))] s.heap := hP
  have hl := lv_entry ([.ref h0, .int (nI kk)]) (n := 2) (Nat.le_of_ble_eq_true rfl)
  rw [lg_entry_eq]
  generalize (lg_sl ([.ref h0, .int (nI kk)]) ++ List.replicate (2 - (lg_sl ([.ref h0, .int (nI kk)])).length) Slot.unset).toArray = ls at hl ⊢
  have hl : lv_has ls 2 [(0, .ref h0), (1, .int (nI kk))] := hl
  refine lv_aload_n hx hb dX1_open_0 rfl (lv_at hl 0 rfl) ?_
  refine lv_iconst (v := 0) hx hb dX1_open_1 (by decide) ?_
  refine lv_iload_n hx hb dX1_open_2 rfl (lv_at hl 1 rfl) ?_
  refine rc_cv (wr := []) [0, 1, 2, 3] [] (va_runV (As := [.int 0, .int (nI kk)]) (rest := []) ⟨hx, hb, hml, hown, hts⟩ (met_X1_run l D cB cI h0 a1 a2 a3 s.heap.size kk c0 hk hc false fk fb fo) (cwV 2 hts (lw_V q26 q28 qs0 q10 q30) rfl rfl rfl (by decide +kernel) ⟨Nat.le_of_ble_eq_true rfl, Nat.le_of_ble_eq_true rfl⟩) (rc_pv (va_recv hK hP (ci := 0) (q0 := 0) rfl rfl) (hP.sub [0, 1, 2, 3] rfl) hK (hD.sub [0, 1, 2, 3] (by decide) rfl) hX) rfl rfl hl.1 rfl (lv_room (Nat.le_of_ble_eq_true rfl)) dX1_open_3 ⟨Nat.le_of_ble_eq_true rfl, Nat.le_of_ble_eq_true rfl⟩) hP hD hS hA rfl rfl (by decide) (by decide) (fun _u H locs _hp hP hD hS => ?_)
  have hP : va_P D vwCl [(h0, .inr (0, [.ref a1, .ref a2, .ref a3])), (a1, .inl (cB, 32, .inl fk)), (a2, .inl (cB, 16, .inl fb)), (a3, .inl (cB, 16, .inl (rc_cry false c0 fk fb fo)))] H := hP
  have hD : va_D A [(h0, .inr (0, [.ref a1, .ref a2, .ref a3])), (a1, .inl (cB, 32, .inl fk)), (a2, .inl (cB, 16, .inl fb)), (a3, .inl (cB, 16, .inl (rc_cry false c0 fk fb fo)))] := hD
  have hP9 := hP.sub (ws' := [(h0, .inr (0, [.ref a1, .ref a2, .ref a3])), (a1, .inl (cB, 32, .inl fk)), (a2, .inl (cB, 16, .inl fb)), (a3, .inl (cB, 16, .inl (rc_cry false c0 fk fb fo)))]) [0, 1, 2, 3] rfl
  have hD9 := hD.sub (ws' := [(h0, .inr (0, [.ref a1, .ref a2, .ref a3])), (a1, .inl (cB, 32, .inl fk)), (a2, .inl (cB, 16, .inl fb)), (a3, .inl (cB, 16, .inl (rc_cry false c0 fk fb fo)))]) [0, 1, 2, 3] (by decide) rfl
  exact W.vret hx hb hr (fun t ht hW => ⟨⟨(), rfl, trivial, by rw [ht]; exact hP9, va_K.moved hW.alike hK, hD9⟩, hS.F ht⟩) hS.2.2 dX1_open_6
end
section
/-! ===== the law's helpers: cell, with, same, known ===== -/
def rc_cell (L : Nat) (xs : Nat → Int32) (k : Nat) : Int32 := if k < L then xs k else 0
/-- the script, as a method's start tells of it -/
theorem rc_psx {s : State} {H H0 : Heap} {A : Nat → Prop} {locs : List Loc} {b L : Nat} {xs : Nat → Int32} {As : List Value} (hXs : va_X b L xs s H0) (hbl : b < H0.size) (hbA : ¬ A b) (hS : va_S A H0 H locs) : PreS s H (va_Pc As (fun U => va_X b L xs U U.heap)) As :=
  ⟨fun a U g mk q => ⟨q.1, va_X.moved (u := U) (U := U.calling g mk a) (Vm.Alike.refl U.vm) q.2⟩, fun U hU hW => ⟨rfl, by show va_X b L xs U U.heap; rw [hU]; exact va_X.moved hW.alike (hXs.kept (hS.2.1 b hbl hbA))⟩⟩
theorem rc_psw {s : State} {H H0 : Heap} {A A2 : Nat → Prop} {locs : List Loc} {b L : Nat} {xs : Nat → Int32} {ws : va_W} {As : List Value} {D : va_G} {cB cI : ClassId} (hP : va_P D vwCl ws H) (hK : va_K D vwCl (rc_T cB cI) s) (hD : va_D A2 ws) (hX : rc_X s) (hXs : va_X b L xs s H0) (hbl : b < H0.size) (hbA : ¬ A b) (hS : va_S A H0 H locs) : PreS s H (va_Pc As (fun U => rc_Pre D cB cI H.size ws U ∧ va_X b L xs U U.heap)) As := by
  refine ⟨fun a U g mk q => ?_, fun U hU hW => ⟨rfl, ((rc_ps (As := As) hP hK hD hX).2 U hU hW).2, ?_⟩⟩
  · obtain ⟨q0, q1, q2⟩ := q
    obtain ⟨-, q3⟩ := rc_blind a U g mk ⟨q0, q1⟩
    exact ⟨q0, q3, va_X.moved (u := U) (U := U.calling g mk a) (Vm.Alike.refl U.vm) q2⟩
  · rw [hU]
    exact va_X.moved hW.alike (hXs.kept (hS.2.1 b hbl hbA))
theorem rc_xlt {b L : Nat} {xs : Nat → Int32} {U : State} {H : Heap} (h : va_X b L xs U H) : b < H.size := by
  obtain ⟨scr, h1, -⟩ := h
  exact (Array.getElem?_eq_some_iff.mp h1).1
section RCS
variable {p : Program} {l : Launch} {e : Env} {R : Room} {s : State} {m : MethodId} {args : Array Value} {below : List Frame} {meth : Method} {c : Code} {H : Heap} {locs : List Loc} {cells slots : Nat} {Q : State → Prop}
variable {cc : ByteArray} {pc : Nat} {ls : Array Slot} {rest : List Value} {A : Nat → Prop} {H0 : Heap}
theorem rc_sld (hexec : p.tables.exec = Jvm.exec) (hb : c.code = cc) {b L : Nat} {xs : Nat → Int32} (hX : va_X b L xs s H0) (hbl : b < H0.size) (hbA : ¬ A b) (hS : va_S A H0 H locs) {i : Int32} (j : Nat) (hi : i = nI j) (hj : j < L) (hL : L < 2147483648) (hdg : decode cc pc = .ok (.iaload, 1))
    (kk : W p l e R s m args below meth c H locs cells slots Q (F0 m (pc + 1) ls (.int (xs j) :: rest))) : W p l e R s m args below meth c H locs cells slots Q (F0 m pc ls (.int i :: .ref b :: rest)) := by
  subst hi
  refine va_sld hexec hb hX hbl hbA hS (vp_in_nI hj hL) hdg ?_
  rw [nI_clamp (show j < 2 ^ 31 by omega)]
  exact kk
end RCS

set_option maxHeartbeats 4000000 in
set_option maxRecDepth 100000 in
/-- cell(s, k) -/
theorem met_X0_cell (l : Launch) (b L k : Nat) (xs : Nat → Int32) (hL : L ≤ 12) (hk : k < 100) : Met l yX0_cell (ws_ yX0_cell cX0_cell 2 (some .int)) ({ frames := 0, cells := 0, slots := 0, locals := 0 }) (va_Pc [.ref b, .int (nI k)] (fun U => va_X b L xs U U.heap)) (vp_Si (fun r => r = rc_cell L xs k)) 0 0 (fun _ => False) := by
  refine Met.ofW (cc := cX0_cell) (maxL := 2) (ret := (some .int)) (by decide) rfl ?_
  intro p e s m args below meth c s₁ B hml hv
  obtain ⟨rfl, hXs⟩ := hv
  have hx := B.exec
  have hb := B.bytes
  have hr := B.returns
  have hts := atoms_spec (ws := ws_ yX0_cell cX0_cell 2 (some .int)) B.pre
  have hts : ∀ w ∈ lw_all, w.before _ s = true := fun w h => hts w (List.mem_cons_of_mem _ h)
  have hown : s.vm.findClass RX0 = some m.cls := findClass_of_methodNamed B.named
  have hlocks := B.notSynchronized
  have hl := lv_entry ([.ref b, .int (nI k)]) (n := 2) (Nat.le_of_ble_eq_true rfl)
  rw [lg_entry_eq]
  generalize (lg_sl ([.ref b, .int (nI k)]) ++ List.replicate (2 - (lg_sl ([.ref b, .int (nI k)])).length) Slot.unset).toArray = ls at hl ⊢
  have hl : lv_has ls 2 [(0, .ref b), (1, .int (nI k))] := hl
  have hbl := rc_xlt hXs
  have hbA : ¬ (fun _ : Nat => False) b := fun h => h
  have hS : va_S (fun _ => False) s.heap s.heap [] := va_S.rf
  refine lv_iload_n hx hb dX0_cell_0 rfl (lv_at hl 1 rfl) ?_
  refine lv_aload_n hx hb dX0_cell_1 rfl (lv_at hl 0 rfl) ?_
  refine va_slen hx hb hXs hbl hbA hS dX0_cell_2 ?_
  refine rc_is (nI L) rfl ?_
  rcases Nat.lt_or_ge k L with hkL | hkL
  · refine lv_icmp_ge (tgt := 12) hx hb dX0_cell_3 (by decide) (fun c_ => absurd c_ (nI_ge (a := k) (b := L) hkL (by omega))) (fun _ => ?_)
    refine lv_aload_n hx hb dX0_cell_6 rfl (lv_at hl 0 rfl) ?_
    refine lv_iload_n hx hb dX0_cell_7 rfl (lv_at hl 1 rfl) ?_
    refine rc_sld hx hb hXs hbl hbA hS k rfl hkL (by omega) dX0_cell_8 ?_
    refine lv_goto (tgt := 13) hx hb dX0_cell_9 (by decide) ?_
    exact W.iret (v := xs k) hx hb hr (fun t ht hW => ⟨_, rfl, (if_pos hkL).symm, ht⟩) (fun _ h => by cases h) dX0_cell_13
  · refine lv_icmp_ge (tgt := 12) hx hb dX0_cell_3 (by decide) (fun _ => ?_) (fun c_ => absurd (nI_le (a := L) (b := k) hkL (by omega)) c_)
    refine lv_iconst (v := 0) hx hb dX0_cell_12 (by decide) ?_
    exact W.iret (v := 0) hx hb hr (fun t ht hW => ⟨_, rfl, (if_neg (Nat.not_lt.mpr hkL)).symm, ht⟩) (fun _ h => by cases h) dX0_cell_13

/-- the key and the block that the law lays, of a script of L ints -/
def rc_fk (L : Nat) (xs : Nat → Int32) : Nat → Int32 := rc_4 (rc_4 (fun _ => 0) 0 (rc_cell L xs 0) (rc_cell L xs 1) (rc_cell L xs 2) (rc_cell L xs 3)) 16 (rc_cell L xs 4) (rc_cell L xs 5) (rc_cell L xs 6) (rc_cell L xs 7)
def rc_fb (L : Nat) (xs : Nat → Int32) : Nat → Int32 := rc_4 (fun _ => 0) 0 (rc_cell L xs 8) (rc_cell L xs 9) (rc_cell L xs 10) (rc_cell L xs 11)

set_option maxHeartbeats 4000000 in
set_option maxRecDepth 100000 in
/-- with(s) -/
theorem met_X0_with (l : Launch) (D : va_G) (cB cI : ClassId) (b sz L : Nat) (xs : Nat → Int32) (hL : L ≤ 12) : Met l yX0_with (ws_ yX0_with cX0_with 2 (some (.object "RcSixDesk"))) ({ frames := 2, cells := 4, slots := 67, locals := 48 }) (va_Pc [.ref b] (fun U => rc_Pre D cB cI sz [] U ∧ va_X b L xs U U.heap)) (va_Qr (fun _ : Nat × Nat × Nat => True) (fun u ra t => rc_B D cB cI (va_A [] sz) [(ra, .inr (0, [.ref u.1, .ref u.2.1, .ref u.2.2])), (u.1, .inl (cB, 32, .inl (rc_fk L xs))), (u.2.1, .inl (cB, 16, .inl (rc_fb L xs))), (u.2.2, .inl (cB, 16, .inl (fun _ => 0)))] t) (va_A [] sz)) 4 67 (va_A [] sz) := by
  refine Met.ofW (cc := cX0_with) (maxL := 2) (ret := (some (.object "RcSixDesk"))) (by decide) rfl ?_
  intro p e s m args below meth c s₁ B hml hv
  obtain ⟨rfl, ⟨hsz, hP, hK, hD0, hX⟩, hXs⟩ := hv
  have hx := B.exec
  have hb := B.bytes
  have hr := B.returns
  have hts := atoms_spec (ws := ws_ yX0_with cX0_with 2 (some (.object "RcSixDesk"))) B.pre
  have hts : ∀ w ∈ lw_all, w.before _ s = true := fun w h => hts w (List.mem_cons_of_mem _ h)
  have hown : s.vm.findClass RX0 = some m.cls := findClass_of_methodNamed B.named
  have hlocks := B.notSynchronized
  subst hsz
  have hD := hD0.self (sz := s.heap.size)
  generalize hAe : va_A [] s.heap.size = A at hD ⊢
  have hA : ∀ q : Nat, s.heap.size ≤ q → A q := fun q h => by rw [← hAe]; exact Or.inr h
  have hS : va_S A s.heap s.heap [] := va_S.rf
  have hP : va_P D vwCl [] s.heap := hP
  have hl := lv_entry ([.ref b]) (n := 2) (Nat.le_of_ble_eq_true rfl)
  rw [lg_entry_eq]
  generalize (lg_sl ([.ref b]) ++ List.replicate (2 - (lg_sl ([.ref b])).length) Slot.unset).toArray = ls at hl ⊢
  have hl : lv_has ls 2 [(0, .ref b)] := hl
  have hbl := rc_xlt hXs
  have hbA : ¬ A b := by
    rw [← hAe]
    rintro (⟨k, e, h⟩ | h)
    · simp at h
    · omega
  refine va_new (ci := 0) (fs := [.null, .null, .null]) (C := RX1) (T := TX1) (N := 3) hx hb hts in_X1 tyX1 tyX1_ok hown (hts _ q260) (hts _ q29) (hts _ q10) hK hP hD hS hA rfl (fun j hj => by rcases (show j = 0 ∨ j = 1 ∨ j = 2 by omega) with rfl | rfl | rfl <;> rfl) (Nat.le_of_ble_eq_true rfl) (Nat.le_of_ble_eq_true rfl) dX0_with_0 (fun q0 H hP hD hS => ?_)
  have hP : va_P D vwCl [(q0, .inr (0, [.null, .null, .null]))] H := hP
  have hD : va_D A [(q0, .inr (0, [.null, .null, .null]))] := hD
  refine lv_dup hx hb dX0_with_3 rfl ?_
  refine rc_cv (wr := []) [0] [] (va_runI (As := []) (rest := [.ref q0]) ⟨hx, hb, hml, hown, hts⟩ (met_X1_init l D cB cI q0 H.size) (cwI 0 hts (lw_meth q263) rfl rfl rfl (hts _ q10) (hts _ q261) (hts _ q262) rfl (by decide +kernel) ⟨Nat.le_of_ble_eq_true rfl, Nat.le_of_ble_eq_true rfl⟩) (rc_ps (hP.sub [0] rfl) hK (hD.sub [0] (by decide) rfl) hX) rfl rfl hl.1 rfl (lv_room (Nat.le_of_ble_eq_true rfl)) dX0_with_4 ⟨Nat.le_of_ble_eq_true rfl, Nat.le_of_ble_eq_true rfl⟩) hP hD hS hA rfl rfl (by decide) (by decide) (fun ⟨a1, a2, a3⟩ H locs _hp hP hD hS => ?_)
  have hP : va_P D vwCl [(q0, .inr (0, [.ref a1, .ref a2, .ref a3])), (a1, .inl (cB, 32, .inl (fun _ => 0))), (a2, .inl (cB, 16, .inl (fun _ => 0))), (a3, .inl (cB, 16, .inl (fun _ => 0)))] H := hP
  have hD : va_D A [(q0, .inr (0, [.ref a1, .ref a2, .ref a3])), (a1, .inl (cB, 32, .inl (fun _ => 0))), (a2, .inl (cB, 16, .inl (fun _ => 0))), (a3, .inl (cB, 16, .inl (fun _ => 0)))] := hD
  refine lv_astore_n (lv' := [(1, .ref q0), (0, .ref b)]) hx hb dX0_with_7 rfl hl (by decide) rfl (fun ls hl => ?_)
  refine lv_aload_n hx hb dX0_with_8 rfl (lv_at hl 0 rfl) ?_
  refine lv_iconst (v := 0) hx hb dX0_with_9 (by decide) ?_
  refine lv_aload_n hx hb dX0_with_10 rfl (lv_at hl 1 rfl) ?_
  refine lv_iconst (v := 0) hx hb dX0_with_11 (by decide) ?_
  refine vp_callSi (W.runS (As := [.ref b, .int 0]) (rest := [.int 0, .ref q0]) ⟨hx, hb, hml, hown, hts⟩ (met_X0_cell l b L 0 xs hL (by omega)) (va_cwS 2 hts (lw_S q275 q276 q9 q277) rfl rfl rfl (by decide +kernel) ⟨Nat.le_of_ble_eq_true rfl, Nat.le_of_ble_eq_true rfl⟩) (rc_psx hXs hbl hbA hS) rfl rfl hl.1 rfl (lv_room (Nat.le_of_ble_eq_true rfl)) dX0_with_12 ⟨Nat.le_of_ble_eq_true rfl, Nat.le_of_ble_eq_true rfl⟩) (fun r_3 er_3 => ?_)
  have er_3 := er_3.symm
  subst er_3
  refine lv_aload_n hx hb dX0_with_15 rfl (lv_at hl 1 rfl) ?_
  refine lv_iconst (v := 1) hx hb dX0_with_16 (by decide) ?_
  refine vp_callSi (W.runS (As := [.ref b, .int 1]) (rest := [.int (rc_cell L xs 0), .int 0, .ref q0]) ⟨hx, hb, hml, hown, hts⟩ (met_X0_cell l b L 1 xs hL (by omega)) (va_cwS 2 hts (lw_S q275 q276 q9 q277) rfl rfl rfl (by decide +kernel) ⟨Nat.le_of_ble_eq_true rfl, Nat.le_of_ble_eq_true rfl⟩) (rc_psx hXs hbl hbA hS) rfl rfl hl.1 rfl (lv_room (Nat.le_of_ble_eq_true rfl)) dX0_with_17 ⟨Nat.le_of_ble_eq_true rfl, Nat.le_of_ble_eq_true rfl⟩) (fun r_4 er_4 => ?_)
  have er_4 := er_4.symm
  subst er_4
  refine lv_aload_n hx hb dX0_with_20 rfl (lv_at hl 1 rfl) ?_
  refine lv_iconst (v := 2) hx hb dX0_with_21 (by decide) ?_
  refine vp_callSi (W.runS (As := [.ref b, .int 2]) (rest := [.int (rc_cell L xs 1), .int (rc_cell L xs 0), .int 0, .ref q0]) ⟨hx, hb, hml, hown, hts⟩ (met_X0_cell l b L 2 xs hL (by omega)) (va_cwS 2 hts (lw_S q275 q276 q9 q277) rfl rfl rfl (by decide +kernel) ⟨Nat.le_of_ble_eq_true rfl, Nat.le_of_ble_eq_true rfl⟩) (rc_psx hXs hbl hbA hS) rfl rfl hl.1 rfl (lv_room (Nat.le_of_ble_eq_true rfl)) dX0_with_22 ⟨Nat.le_of_ble_eq_true rfl, Nat.le_of_ble_eq_true rfl⟩) (fun r_5 er_5 => ?_)
  have er_5 := er_5.symm
  subst er_5
  refine lv_aload_n hx hb dX0_with_25 rfl (lv_at hl 1 rfl) ?_
  refine lv_iconst (v := 3) hx hb dX0_with_26 (by decide) ?_
  refine vp_callSi (W.runS (As := [.ref b, .int 3]) (rest := [.int (rc_cell L xs 2), .int (rc_cell L xs 1), .int (rc_cell L xs 0), .int 0, .ref q0]) ⟨hx, hb, hml, hown, hts⟩ (met_X0_cell l b L 3 xs hL (by omega)) (va_cwS 2 hts (lw_S q275 q276 q9 q277) rfl rfl rfl (by decide +kernel) ⟨Nat.le_of_ble_eq_true rfl, Nat.le_of_ble_eq_true rfl⟩) (rc_psx hXs hbl hbA hS) rfl rfl hl.1 rfl (lv_room (Nat.le_of_ble_eq_true rfl)) dX0_with_27 ⟨Nat.le_of_ble_eq_true rfl, Nat.le_of_ble_eq_true rfl⟩) (fun r_6 er_6 => ?_)
  have er_6 := er_6.symm
  subst er_6
  refine rc_cv (wr := [(a2, .inl (cB, 16, .inl (fun _ => 0))), (a3, .inl (cB, 16, .inl (fun _ => 0)))]) [0, 1] [2, 3] (va_runV (As := [.int 0, .int (rc_cell L xs 0), .int (rc_cell L xs 1), .int (rc_cell L xs 2), .int (rc_cell L xs 3)]) (rest := []) ⟨hx, hb, hml, hown, hts⟩ (met_X1_key l D cB cI q0 a1 a2 a3 H.size 0 0 (rc_cell L xs 0) (rc_cell L xs 1) (rc_cell L xs 2) (rc_cell L xs 3) (fun _ => 0) (by decide) (by omega)) (cwV 5 hts (lw_V q278 q279 q280 q10 q281) rfl rfl rfl (by decide +kernel) ⟨Nat.le_of_ble_eq_true rfl, Nat.le_of_ble_eq_true rfl⟩) (rc_pv (va_recv hK hP (ci := 0) (q0 := 0) rfl rfl) (hP.sub [0, 1] rfl) hK (hD.sub [0, 1] (by decide) rfl) hX) rfl rfl hl.1 rfl (lv_room (Nat.le_of_ble_eq_true rfl)) dX0_with_30 ⟨Nat.le_of_ble_eq_true rfl, Nat.le_of_ble_eq_true rfl⟩) hP hD hS hA rfl rfl (by decide) (by decide) (fun _u H locs _hp hP hD hS => ?_)
  have hP : va_P D vwCl [(a2, .inl (cB, 16, .inl (fun _ => 0))), (a3, .inl (cB, 16, .inl (fun _ => 0))), (q0, .inr (0, [.ref a1, .ref a2, .ref a3])), (a1, .inl (cB, 32, .inl (rc_4 (fun _ => 0) 0 (rc_cell L xs 0) (rc_cell L xs 1) (rc_cell L xs 2) (rc_cell L xs 3))))] H := hP
  have hD : va_D A [(a2, .inl (cB, 16, .inl (fun _ => 0))), (a3, .inl (cB, 16, .inl (fun _ => 0))), (q0, .inr (0, [.ref a1, .ref a2, .ref a3])), (a1, .inl (cB, 32, .inl (rc_4 (fun _ => 0) 0 (rc_cell L xs 0) (rc_cell L xs 1) (rc_cell L xs 2) (rc_cell L xs 3))))] := hD
  refine lv_aload_n hx hb dX0_with_33 rfl (lv_at hl 0 rfl) ?_
  refine lv_iconst (v := 1) hx hb dX0_with_34 (by decide) ?_
  refine lv_aload_n hx hb dX0_with_35 rfl (lv_at hl 1 rfl) ?_
  refine lv_iconst (v := 4) hx hb dX0_with_36 (by decide) ?_
  refine vp_callSi (W.runS (As := [.ref b, .int 4]) (rest := [.int 1, .ref q0]) ⟨hx, hb, hml, hown, hts⟩ (met_X0_cell l b L 4 xs hL (by omega)) (va_cwS 2 hts (lw_S q275 q276 q9 q277) rfl rfl rfl (by decide +kernel) ⟨Nat.le_of_ble_eq_true rfl, Nat.le_of_ble_eq_true rfl⟩) (rc_psx hXs hbl hbA hS) rfl rfl hl.1 rfl (lv_room (Nat.le_of_ble_eq_true rfl)) dX0_with_37 ⟨Nat.le_of_ble_eq_true rfl, Nat.le_of_ble_eq_true rfl⟩) (fun r_8 er_8 => ?_)
  have er_8 := er_8.symm
  subst er_8
  refine lv_aload_n hx hb dX0_with_40 rfl (lv_at hl 1 rfl) ?_
  refine lv_iconst (v := 5) hx hb dX0_with_41 (by decide) ?_
  refine vp_callSi (W.runS (As := [.ref b, .int 5]) (rest := [.int (rc_cell L xs 4), .int 1, .ref q0]) ⟨hx, hb, hml, hown, hts⟩ (met_X0_cell l b L 5 xs hL (by omega)) (va_cwS 2 hts (lw_S q275 q276 q9 q277) rfl rfl rfl (by decide +kernel) ⟨Nat.le_of_ble_eq_true rfl, Nat.le_of_ble_eq_true rfl⟩) (rc_psx hXs hbl hbA hS) rfl rfl hl.1 rfl (lv_room (Nat.le_of_ble_eq_true rfl)) dX0_with_42 ⟨Nat.le_of_ble_eq_true rfl, Nat.le_of_ble_eq_true rfl⟩) (fun r_9 er_9 => ?_)
  have er_9 := er_9.symm
  subst er_9
  refine lv_aload_n hx hb dX0_with_45 rfl (lv_at hl 1 rfl) ?_
  refine lv_bipush (v := 6) hx hb dX0_with_46 (by decide) ?_
  refine vp_callSi (W.runS (As := [.ref b, .int 6]) (rest := [.int (rc_cell L xs 5), .int (rc_cell L xs 4), .int 1, .ref q0]) ⟨hx, hb, hml, hown, hts⟩ (met_X0_cell l b L 6 xs hL (by omega)) (va_cwS 2 hts (lw_S q275 q276 q9 q277) rfl rfl rfl (by decide +kernel) ⟨Nat.le_of_ble_eq_true rfl, Nat.le_of_ble_eq_true rfl⟩) (rc_psx hXs hbl hbA hS) rfl rfl hl.1 rfl (lv_room (Nat.le_of_ble_eq_true rfl)) dX0_with_48 ⟨Nat.le_of_ble_eq_true rfl, Nat.le_of_ble_eq_true rfl⟩) (fun r_10 er_10 => ?_)
  have er_10 := er_10.symm
  subst er_10
  refine lv_aload_n hx hb dX0_with_51 rfl (lv_at hl 1 rfl) ?_
  refine lv_bipush (v := 7) hx hb dX0_with_52 (by decide) ?_
  refine vp_callSi (W.runS (As := [.ref b, .int 7]) (rest := [.int (rc_cell L xs 6), .int (rc_cell L xs 5), .int (rc_cell L xs 4), .int 1, .ref q0]) ⟨hx, hb, hml, hown, hts⟩ (met_X0_cell l b L 7 xs hL (by omega)) (va_cwS 2 hts (lw_S q275 q276 q9 q277) rfl rfl rfl (by decide +kernel) ⟨Nat.le_of_ble_eq_true rfl, Nat.le_of_ble_eq_true rfl⟩) (rc_psx hXs hbl hbA hS) rfl rfl hl.1 rfl (lv_room (Nat.le_of_ble_eq_true rfl)) dX0_with_54 ⟨Nat.le_of_ble_eq_true rfl, Nat.le_of_ble_eq_true rfl⟩) (fun r_11 er_11 => ?_)
  have er_11 := er_11.symm
  subst er_11
  refine rc_cv (wr := [(a2, .inl (cB, 16, .inl (fun _ => 0))), (a3, .inl (cB, 16, .inl (fun _ => 0)))]) [2, 3] [0, 1] (va_runV (As := [.int 1, .int (rc_cell L xs 4), .int (rc_cell L xs 5), .int (rc_cell L xs 6), .int (rc_cell L xs 7)]) (rest := []) ⟨hx, hb, hml, hown, hts⟩ (met_X1_key l D cB cI q0 a1 a2 a3 H.size 16 1 (rc_cell L xs 4) (rc_cell L xs 5) (rc_cell L xs 6) (rc_cell L xs 7) (rc_4 (fun _ => 0) 0 (rc_cell L xs 0) (rc_cell L xs 1) (rc_cell L xs 2) (rc_cell L xs 3)) (by decide) (by omega)) (cwV 5 hts (lw_V q278 q279 q280 q10 q281) rfl rfl rfl (by decide +kernel) ⟨Nat.le_of_ble_eq_true rfl, Nat.le_of_ble_eq_true rfl⟩) (rc_pv (va_recv hK hP (ci := 0) (q0 := 2) rfl rfl) (hP.sub [2, 3] rfl) hK (hD.sub [2, 3] (by decide) rfl) hX) rfl rfl hl.1 rfl (lv_room (Nat.le_of_ble_eq_true rfl)) dX0_with_57 ⟨Nat.le_of_ble_eq_true rfl, Nat.le_of_ble_eq_true rfl⟩) hP hD hS hA rfl rfl (by decide) (by decide) (fun _u H locs _hp hP hD hS => ?_)
  have hP : va_P D vwCl [(a2, .inl (cB, 16, .inl (fun _ => 0))), (a3, .inl (cB, 16, .inl (fun _ => 0))), (q0, .inr (0, [.ref a1, .ref a2, .ref a3])), (a1, .inl (cB, 32, .inl (rc_4 (rc_4 (fun _ => 0) 0 (rc_cell L xs 0) (rc_cell L xs 1) (rc_cell L xs 2) (rc_cell L xs 3)) 16 (rc_cell L xs 4) (rc_cell L xs 5) (rc_cell L xs 6) (rc_cell L xs 7))))] H := hP
  have hD : va_D A [(a2, .inl (cB, 16, .inl (fun _ => 0))), (a3, .inl (cB, 16, .inl (fun _ => 0))), (q0, .inr (0, [.ref a1, .ref a2, .ref a3])), (a1, .inl (cB, 32, .inl (rc_4 (rc_4 (fun _ => 0) 0 (rc_cell L xs 0) (rc_cell L xs 1) (rc_cell L xs 2) (rc_cell L xs 3)) 16 (rc_cell L xs 4) (rc_cell L xs 5) (rc_cell L xs 6) (rc_cell L xs 7))))] := hD
  refine lv_aload_n hx hb dX0_with_60 rfl (lv_at hl 0 rfl) ?_
  refine lv_aload_n hx hb dX0_with_61 rfl (lv_at hl 1 rfl) ?_
  refine lv_bipush (v := 8) hx hb dX0_with_62 (by decide) ?_
  refine vp_callSi (W.runS (As := [.ref b, .int 8]) (rest := [.ref q0]) ⟨hx, hb, hml, hown, hts⟩ (met_X0_cell l b L 8 xs hL (by omega)) (va_cwS 2 hts (lw_S q275 q276 q9 q277) rfl rfl rfl (by decide +kernel) ⟨Nat.le_of_ble_eq_true rfl, Nat.le_of_ble_eq_true rfl⟩) (rc_psx hXs hbl hbA hS) rfl rfl hl.1 rfl (lv_room (Nat.le_of_ble_eq_true rfl)) dX0_with_64 ⟨Nat.le_of_ble_eq_true rfl, Nat.le_of_ble_eq_true rfl⟩) (fun r_13 er_13 => ?_)
  have er_13 := er_13.symm
  subst er_13
  refine lv_aload_n hx hb dX0_with_67 rfl (lv_at hl 1 rfl) ?_
  refine lv_bipush (v := 9) hx hb dX0_with_68 (by decide) ?_
  refine vp_callSi (W.runS (As := [.ref b, .int 9]) (rest := [.int (rc_cell L xs 8), .ref q0]) ⟨hx, hb, hml, hown, hts⟩ (met_X0_cell l b L 9 xs hL (by omega)) (va_cwS 2 hts (lw_S q275 q276 q9 q277) rfl rfl rfl (by decide +kernel) ⟨Nat.le_of_ble_eq_true rfl, Nat.le_of_ble_eq_true rfl⟩) (rc_psx hXs hbl hbA hS) rfl rfl hl.1 rfl (lv_room (Nat.le_of_ble_eq_true rfl)) dX0_with_70 ⟨Nat.le_of_ble_eq_true rfl, Nat.le_of_ble_eq_true rfl⟩) (fun r_14 er_14 => ?_)
  have er_14 := er_14.symm
  subst er_14
  refine lv_aload_n hx hb dX0_with_73 rfl (lv_at hl 1 rfl) ?_
  refine lv_bipush (v := 10) hx hb dX0_with_74 (by decide) ?_
  refine vp_callSi (W.runS (As := [.ref b, .int 10]) (rest := [.int (rc_cell L xs 9), .int (rc_cell L xs 8), .ref q0]) ⟨hx, hb, hml, hown, hts⟩ (met_X0_cell l b L 10 xs hL (by omega)) (va_cwS 2 hts (lw_S q275 q276 q9 q277) rfl rfl rfl (by decide +kernel) ⟨Nat.le_of_ble_eq_true rfl, Nat.le_of_ble_eq_true rfl⟩) (rc_psx hXs hbl hbA hS) rfl rfl hl.1 rfl (lv_room (Nat.le_of_ble_eq_true rfl)) dX0_with_76 ⟨Nat.le_of_ble_eq_true rfl, Nat.le_of_ble_eq_true rfl⟩) (fun r_15 er_15 => ?_)
  have er_15 := er_15.symm
  subst er_15
  refine lv_aload_n hx hb dX0_with_79 rfl (lv_at hl 1 rfl) ?_
  refine lv_bipush (v := 11) hx hb dX0_with_80 (by decide) ?_
  refine vp_callSi (W.runS (As := [.ref b, .int 11]) (rest := [.int (rc_cell L xs 10), .int (rc_cell L xs 9), .int (rc_cell L xs 8), .ref q0]) ⟨hx, hb, hml, hown, hts⟩ (met_X0_cell l b L 11 xs hL (by omega)) (va_cwS 2 hts (lw_S q275 q276 q9 q277) rfl rfl rfl (by decide +kernel) ⟨Nat.le_of_ble_eq_true rfl, Nat.le_of_ble_eq_true rfl⟩) (rc_psx hXs hbl hbA hS) rfl rfl hl.1 rfl (lv_room (Nat.le_of_ble_eq_true rfl)) dX0_with_82 ⟨Nat.le_of_ble_eq_true rfl, Nat.le_of_ble_eq_true rfl⟩) (fun r_16 er_16 => ?_)
  have er_16 := er_16.symm
  subst er_16
  refine rc_cv (wr := [(a3, .inl (cB, 16, .inl (fun _ => 0))), (a1, .inl (cB, 32, .inl (rc_4 (rc_4 (fun _ => 0) 0 (rc_cell L xs 0) (rc_cell L xs 1) (rc_cell L xs 2) (rc_cell L xs 3)) 16 (rc_cell L xs 4) (rc_cell L xs 5) (rc_cell L xs 6) (rc_cell L xs 7))))]) [2, 0] [1, 3] (va_runV (As := [.int (rc_cell L xs 8), .int (rc_cell L xs 9), .int (rc_cell L xs 10), .int (rc_cell L xs 11)]) (rest := []) ⟨hx, hb, hml, hown, hts⟩ (met_X1_block l D cB cI q0 a1 a2 a3 H.size (rc_cell L xs 8) (rc_cell L xs 9) (rc_cell L xs 10) (rc_cell L xs 11) (fun _ => 0)) (cwV 4 hts (lw_V q285 q286 q287 q10 q288) rfl rfl rfl (by decide +kernel) ⟨Nat.le_of_ble_eq_true rfl, Nat.le_of_ble_eq_true rfl⟩) (rc_pv (va_recv hK hP (ci := 0) (q0 := 2) rfl rfl) (hP.sub [2, 0] rfl) hK (hD.sub [2, 0] (by decide) rfl) hX) rfl rfl hl.1 rfl (lv_room (Nat.le_of_ble_eq_true rfl)) dX0_with_85 ⟨Nat.le_of_ble_eq_true rfl, Nat.le_of_ble_eq_true rfl⟩) hP hD hS hA rfl rfl (by decide) (by decide) (fun _u H locs _hp hP hD hS => ?_)
  have hP : va_P D vwCl [(a3, .inl (cB, 16, .inl (fun _ => 0))), (a1, .inl (cB, 32, .inl (rc_4 (rc_4 (fun _ => 0) 0 (rc_cell L xs 0) (rc_cell L xs 1) (rc_cell L xs 2) (rc_cell L xs 3)) 16 (rc_cell L xs 4) (rc_cell L xs 5) (rc_cell L xs 6) (rc_cell L xs 7)))), (q0, .inr (0, [.ref a1, .ref a2, .ref a3])), (a2, .inl (cB, 16, .inl (rc_4 (fun _ => 0) 0 (rc_cell L xs 8) (rc_cell L xs 9) (rc_cell L xs 10) (rc_cell L xs 11))))] H := hP
  have hD : va_D A [(a3, .inl (cB, 16, .inl (fun _ => 0))), (a1, .inl (cB, 32, .inl (rc_4 (rc_4 (fun _ => 0) 0 (rc_cell L xs 0) (rc_cell L xs 1) (rc_cell L xs 2) (rc_cell L xs 3)) 16 (rc_cell L xs 4) (rc_cell L xs 5) (rc_cell L xs 6) (rc_cell L xs 7)))), (q0, .inr (0, [.ref a1, .ref a2, .ref a3])), (a2, .inl (cB, 16, .inl (rc_4 (fun _ => 0) 0 (rc_cell L xs 8) (rc_cell L xs 9) (rc_cell L xs 10) (rc_cell L xs 11))))] := hD
  refine lv_aload_n hx hb dX0_with_88 rfl (lv_at hl 0 rfl) ?_
  have hP9 := hP.sub (ws' := [(q0, .inr (0, [.ref a1, .ref a2, .ref a3])), (a1, .inl (cB, 32, .inl (rc_fk L xs))), (a2, .inl (cB, 16, .inl (rc_fb L xs))), (a3, .inl (cB, 16, .inl (fun _ => 0)))]) [2, 1, 3, 0] rfl
  have hD9 := hD.sub (ws' := [(q0, .inr (0, [.ref a1, .ref a2, .ref a3])), (a1, .inl (cB, 32, .inl (rc_fk L xs))), (a2, .inl (cB, 16, .inl (rc_fb L xs))), (a3, .inl (cB, 16, .inl (fun _ => 0)))]) [2, 1, 3, 0] (by decide) rfl
  exact W.aret (rt := .object "RcSixDesk") hx hb hr (Or.inl ⟨_, rfl⟩) (Or.inr ⟨_, rfl⟩) (fun t ht hW => ⟨⟨(a1, a2, a3), q0, rfl, trivial, by rw [ht]; exact hP9, va_K.moved hW.alike hK, hD9⟩, hS.F ht⟩) hS.2.2 dX0_with_89

set_option maxHeartbeats 4000000 in
set_option maxRecDepth 100000 in
/-- same's loop: i bytes agree, r are left -/
theorem seg_same {p : Program} {l : Launch} {e : Env} {s : State} {m : MethodId} {args : Array Value} {below : List Frame} {meth : Method} {c : Code} {Q : State → Prop} {D : va_G} {cB cI : ClassId} {A A2 : Nat → Prop} {H H0 : Heap} {locs : List Loc} (h0 a1 a2 a3 b L : Nat) (xs : Nat → Int32) (hL : L ≤ 12) (fo : Nat → Int32) (hs : ∀ i, i < 16 → fo i &&& 255 = rc_ex (rc_cell L xs (8 + i / 4)) i) (F : CallFix p m c cX0_same 3 s args lw_all RX0) (hK : va_K D vwCl (rc_T cB cI) s) (hX : rc_X s) (hP : va_P D vwCl [(h0, .inr (0, [.ref a1, .ref a2, .ref a3])), (a3, .inl (cB, 16, .inl fo))] H) (hD : va_D A2 [(h0, .inr (0, [.ref a1, .ref a2, .ref a3])), (a3, .inl (cB, 16, .inl fo))]) (hXs : va_X b L xs s H0) (hbl : b < H0.size) (hbA : ¬ A b) (hS : va_S A H0 H locs) (kend : ∀ ls : Array Slot, lv_has ls 3 [] → W p l e ({ frames := 1, cells := 0, slots := 0, locals := 21 }) s m args below meth c H locs 0 0 Q (F0 m 48 ls [])) : ∀ (r i : Nat), i + r = 16 → ∀ ls : Array Slot, lv_has ls 3 [(0, .ref h0), (1, .ref b), (2, .int (nI i))] → W p l e ({ frames := 1, cells := 0, slots := 0, locals := 21 }) s m args below meth c H locs 0 0 Q (F0 m 2 ls []) := by
  obtain ⟨hx, hb, hml, hown, hts⟩ := id F
  intro r
  induction r with
  | zero =>
    intro i hi ls hl
    obtain rfl : i = 16 := by omega
    refine lv_iload_n hx hb dX0_same_2 rfl (lv_at hl 2 rfl) ?_
    refine lv_bipush (v := 16) hx hb dX0_same_3 (by decide) ?_
    refine lv_icmp_ge (tgt := 48) hx hb dX0_same_5 (by decide) (fun _ => ?_) (fun c_ => absurd (by decide) c_)
    exact kend ls (lv_sub hl [] rfl)
  | succ r ih =>
    intro i hi ls hl
    refine lv_iload_n hx hb dX0_same_2 rfl (lv_at hl 2 rfl) ?_
    refine lv_bipush (v := 16) hx hb dX0_same_3 (by decide) ?_
    refine lv_icmp_ge (tgt := 48) hx hb dX0_same_5 (by decide) (fun c_ => absurd c_ (nI_ge (a := i) (b := 16) (by omega) (by omega))) (fun _ => ?_)
    refine lv_aload_n hx hb dX0_same_8 rfl (lv_at hl 0 rfl) ?_
    refine lv_iload_n hx hb dX0_same_9 rfl (lv_at hl 2 rfl) ?_
    refine vp_callSi (W.runV (As := [.int (nI i)]) (rest := []) ⟨hx, hb, hml, hown, hts⟩ (met_X1_out l D cB cI h0 a1 a2 a3 H.size i fo (by omega)) (cwV 1 hts (lw_V q292 q293 q294 q10 q295) rfl rfl rfl (by decide +kernel) ⟨Nat.le_of_ble_eq_true rfl, Nat.le_of_ble_eq_true rfl⟩) (rc_pv (va_recv hK hP (ci := 0) (q0 := 0) rfl rfl) (hP.sub [0, 1] rfl) hK (hD.sub [0, 1] (by decide) rfl) hX) rfl rfl hl.1 rfl (lv_room (Nat.le_of_ble_eq_true rfl)) dX0_same_10 ⟨Nat.le_of_ble_eq_true rfl, Nat.le_of_ble_eq_true rfl⟩) (fun r_1 er_1 => ?_)
    have er_1 := er_1.symm
    subst er_1
    refine lv_aload_n hx hb dX0_same_13 rfl (lv_at hl 1 rfl) ?_
    refine lv_bipush (v := 8) hx hb dX0_same_14 (by decide) ?_
    refine lv_iload_n hx hb dX0_same_16 rfl (lv_at hl 2 rfl) ?_
    refine lv_iconst (v := 4) hx hb dX0_same_17 (by decide) ?_
    refine lv_idiv hx hb dX0_same_18 (by decide) ?_
    refine rc_is (nI (i / 4)) (pk_div (a := i) (d := 4) (by omega) (by omega) (by omega)) ?_
    refine lv_iadd hx hb dX0_same_19 ?_
    refine rc_is (nI (8 + i / 4)) (nI_add 8 (i / 4)) ?_
    refine vp_callSi (W.runS (As := [.ref b, .int (nI (8 + i / 4))]) (rest := [.int (fo i &&& 255)]) ⟨hx, hb, hml, hown, hts⟩ (met_X0_cell l b L (8 + i / 4) xs hL (by omega)) (va_cwS 2 hts (lw_S q275 q276 q9 q277) rfl rfl rfl (by decide +kernel) ⟨Nat.le_of_ble_eq_true rfl, Nat.le_of_ble_eq_true rfl⟩) (rc_psx hXs hbl hbA hS) rfl rfl hl.1 rfl (lv_room (Nat.le_of_ble_eq_true rfl)) dX0_same_20 ⟨Nat.le_of_ble_eq_true rfl, Nat.le_of_ble_eq_true rfl⟩) (fun r_2 er_2 => ?_)
    have er_2 := er_2.symm
    subst er_2
    refine lv_bipush (v := 24) hx hb dX0_same_23 (by decide) ?_
    refine lv_bipush (v := 8) hx hb dX0_same_25 (by decide) ?_
    refine lv_iload_n hx hb dX0_same_27 rfl (lv_at hl 2 rfl) ?_
    refine lv_iconst (v := 4) hx hb dX0_same_28 (by decide) ?_
    refine lv_irem hx hb dX0_same_29 (by decide) ?_
    refine rc_is (nI (i % 4)) (pk_rem (a := i) (d := 4) (by omega) (by omega) (by omega)) ?_
    refine lv_imul hx hb dX0_same_30 ?_
    refine rc_is (nI (8 * (i % 4))) (pk_mul 8 (i % 4)) ?_
    refine lv_isub hx hb dX0_same_31 ?_
    refine rc_is (nI (24 - (8 * (i % 4)))) (pk_sub (a := 24) (b := (8 * (i % 4))) (by omega)) ?_
    refine lv_iushr (v := (((rc_cell L xs (8 + i / 4))).toUInt32 >>> (((nI (24 - (8 * (i % 4)))) : Int32).toUInt32 &&& Int32.toUInt32 31)).toInt32) hx hb dX0_same_32 rfl ?_
    refine lv_sipush (v := 255) hx hb dX0_same_33 (by decide) ?_
    refine lv_iand hx hb dX0_same_36 ?_
    refine rc_is (rc_ex (rc_cell L xs (8 + i / 4)) i) rfl ?_
    refine lv_icmp_eq (tgt := 42) hx hb dX0_same_37 (by decide) (fun _ => ?_) (fun c_ => absurd (hs i (by omega)) c_)
    refine lv_iinc (v := nI (i + 1)) (lv' := [(2, .int (nI (i + 1))), (0, .ref h0), (1, .ref b)]) hx hb dX0_same_42 hl (k := 2) rfl (nI_1 i) (by decide) rfl (fun ls hl => ?_)
    refine lv_goto (tgt := 2) hx hb dX0_same_45 (by decide) ?_
    exact ih (i + 1) (by omega) ls (lv_sub hl [1, 2, 0] rfl)

set_option maxHeartbeats 4000000 in
set_option maxRecDepth 100000 in
/-- same(x, s), where the bytes agree -/
theorem met_X0_same (l : Launch) (D : va_G) (cB cI : ClassId) (h0 a1 a2 a3 b sz L : Nat) (xs : Nat → Int32) (hL : L ≤ 12) (fo : Nat → Int32) (hs : ∀ i, i < 16 → fo i &&& 255 = rc_ex (rc_cell L xs (8 + i / 4)) i) : Met l yX0_same (ws_ yX0_same cX0_same 3 (some .boolean)) ({ frames := 1, cells := 0, slots := 0, locals := 21 }) (va_Pc [.ref h0, .ref b] (fun U => rc_Pre D cB cI sz [(h0, .inr (0, [.ref a1, .ref a2, .ref a3])), (a3, .inl (cB, 16, .inl fo))] U ∧ va_X b L xs U U.heap)) (vp_Si (fun r => r = 1)) 0 0 (fun _ => False) := by
  refine Met.ofW (cc := cX0_same) (maxL := 3) (ret := (some .boolean)) (by decide) rfl ?_
  intro p e s m args below meth c s₁ B hml hv
  obtain ⟨rfl, ⟨hsz, hP, hK, hD0, hX⟩, hXs⟩ := hv
  have hx := B.exec
  have hb := B.bytes
  have hr := B.returns
  have hts := atoms_spec (ws := ws_ yX0_same cX0_same 3 (some .boolean)) B.pre
  have hts : ∀ w ∈ lw_all, w.before _ s = true := fun w h => hts w (List.mem_cons_of_mem _ h)
  have hown : s.vm.findClass RX0 = some m.cls := findClass_of_methodNamed B.named
  have hlocks := B.notSynchronized
  subst hsz
  have hD := hD0
  have hS : va_S (fun _ => True) s.heap s.heap [] := va_S.rf
  have hP : va_P D vwCl [(h0, .inr (0, [.ref a1, .ref a2, .ref a3])), (a3, .inl (cB, 16, .inl fo))] s.heap := hP
  have hl := lv_entry ([.ref h0, .ref b]) (n := 3) (Nat.le_of_ble_eq_true rfl)
  rw [lg_entry_eq]
  generalize (lg_sl ([.ref h0, .ref b]) ++ List.replicate (3 - (lg_sl ([.ref h0, .ref b])).length) Slot.unset).toArray = ls at hl ⊢
  have hl : lv_has ls 3 [(0, .ref h0), (1, .ref b)] := hl
  have hbl := rc_xlt hXs
  have hbA : ¬ (fun _ : Nat => False) b := fun h => h
  have hS : va_S (fun _ => False) s.heap s.heap [] := va_S.rf
  refine lv_iconst (v := 0) hx hb dX0_same_0 (by decide) ?_
  refine lv_istore_n (lv' := [(2, .int 0), (0, .ref h0), (1, .ref b)]) hx hb dX0_same_1 rfl hl (by decide) rfl (fun ls hl => ?_)
  refine seg_same h0 a1 a2 a3 b L xs hL fo hs ⟨hx, hb, hml, hown, hts⟩ hK hX hP hD hXs hbl hbA hS (fun ls hl => ?_) 16 0 rfl ls (lv_sub hl [1, 2, 0] rfl)
  refine lv_iconst (v := 1) hx hb dX0_same_48 (by decide) ?_
  exact W.zret (v := 1) hx hb hr rfl (fun t ht hW => ⟨_, rfl, rfl, ht⟩) (fun _ h => by cases h) dX0_same_49

set_option maxHeartbeats 4000000 in
set_option maxRecDepth 100000 in
/-- known: the comparing loop of its part 0 -/
theorem seg_kl0 {p : Program} {l : Launch} {e : Env} {s : State} {m : MethodId} {args : Array Value} {below : List Frame} {meth : Method} {c : Code} {Q : State → Prop} {D : va_G} {cB cI : ClassId} {A : Nat → Prop} {H : Heap} {locs : List Loc} (q0 a1 a2 a3 xa : Nat) (F : CallFix p m c cX0_known 7 s args lw_all RX0) (hK : va_K D vwCl (rc_T cB cI) s) (hX : rc_X s) (hP : va_P D vwCl [(q0, .inr (0, [.ref a1, .ref a2, .ref a3])), (a3, .inl (cB, 16, .inl (rc_cry true 4 (fun _ => 0) (fun _ => 0) (fun _ => 0)))), (xa, .inl (cI, 16, .inl (rc_fill rc_l16 16)))] H) (hD : va_D A [(q0, .inr (0, [.ref a1, .ref a2, .ref a3])), (a3, .inl (cB, 16, .inl (rc_cry true 4 (fun _ => 0) (fun _ => 0) (fun _ => 0)))), (xa, .inl (cI, 16, .inl (rc_fill rc_l16 16)))]) (kend : ∀ ls : Array Slot, lv_has ls 7 [] → W p l e ({ frames := 6, cells := 33, slots := 606, locals := 150 }) s m args below meth c H locs 11 202 Q (F0 m 170 ls [])) : ∀ (r i : Nat), i + r = 16 → ∀ ls : Array Slot, lv_has ls 7 [(0, .ref q0), (1, .ref xa), (2, .int (nI i))] → W p l e ({ frames := 6, cells := 33, slots := 606, locals := 150 }) s m args below meth c H locs 11 202 Q (F0 m 145 ls []) := by
  obtain ⟨hx, hb, hml, hown, hts⟩ := id F
  intro r
  induction r with
  | zero =>
    intro i hi ls hl
    obtain rfl : i = 16 := by omega
    refine lv_iload_n hx hb dX0_known_145 rfl (lv_at hl 2 rfl) ?_
    refine lv_bipush (v := 16) hx hb dX0_known_146 (by decide) ?_
    refine lv_icmp_ge (tgt := 170) hx hb dX0_known_148 (by decide) (fun _ => ?_) (fun c_ => absurd (by decide) c_)
    exact kend ls (lv_sub hl [] rfl)
  | succ r ih =>
    intro i hi ls hl
    refine lv_iload_n hx hb dX0_known_145 rfl (lv_at hl 2 rfl) ?_
    refine lv_bipush (v := 16) hx hb dX0_known_146 (by decide) ?_
    refine lv_icmp_ge (tgt := 170) hx hb dX0_known_148 (by decide) (fun c_ => absurd c_ (nI_ge (a := i) (b := 16) (by omega) (by omega))) (fun _ => ?_)
    refine lv_aload_n hx hb dX0_known_151 rfl (lv_at hl 0 rfl) ?_
    refine lv_iload_n hx hb dX0_known_152 rfl (lv_at hl 2 rfl) ?_
    refine vp_callSi (W.runV (As := [.int (nI i)]) (rest := []) ⟨hx, hb, hml, hown, hts⟩ (met_X1_out l D cB cI q0 a1 a2 a3 H.size i (rc_cry true 4 (fun _ => 0) (fun _ => 0) (fun _ => 0)) (by omega)) (cwV 1 hts (lw_V q292 q293 q294 q10 q295) rfl rfl rfl (by decide +kernel) ⟨Nat.le_of_ble_eq_true rfl, Nat.le_of_ble_eq_true rfl⟩) (rc_pv (va_recv hK hP (ci := 0) (q0 := 0) rfl rfl) (hP.sub [0, 1] rfl) hK (hD.sub [0, 1] (by decide) rfl) hX) rfl rfl hl.1 rfl (lv_room (Nat.le_of_ble_eq_true rfl)) dX0_known_153 ⟨Nat.le_of_ble_eq_true rfl, Nat.le_of_ble_eq_true rfl⟩) (fun r_1 er_1 => ?_)
    have er_1 := er_1.symm
    subst er_1
    refine lv_aload_n hx hb dX0_known_156 rfl (lv_at hl 1 rfl) ?_
    refine lv_iload_n hx hb dX0_known_157 rfl (lv_at hl 2 rfl) ?_
    refine rc_ldi hx hb hK hP 2 1 rfl rfl i rfl (by omega) (by omega) ((rc_fill rc_l16 16) i) rfl dX0_known_158 ?_
    refine lv_icmp_eq (tgt := 164) hx hb dX0_known_159 (by decide) (fun _ => ?_) (fun c_ => absurd (rc_known_16 (fun _ => 0) (show i < 16 by omega)) c_)
    refine lv_iinc (v := nI (i + 1)) (lv' := [(2, .int (nI (i + 1))), (0, .ref q0), (1, .ref xa)]) hx hb dX0_known_164 hl (k := 2) rfl (nI_1 i) (by decide) rfl (fun ls hl => ?_)
    refine lv_goto (tgt := 145) hx hb dX0_known_167 (by decide) ?_
    exact ih (i + 1) (by omega) ls (lv_sub hl [1, 2, 0] rfl)

set_option maxHeartbeats 4000000 in
set_option maxRecDepth 100000 in
/-- known: its part 0 -/
theorem seg_kn0 {p : Program} {l : Launch} {e : Env} {s : State} {m : MethodId} {args : Array Value} {below : List Frame} {meth : Method} {c : Code} {Q : State → Prop} {D : va_G} {cB cI : ClassId} {A : Nat → Prop} {H0 : Heap} (F : CallFix p m c cX0_known 7 s args lw_all RX0) (hK : va_K D vwCl (rc_T cB cI) s) (hX : rc_X s) (hA : ∀ q, H0.size ≤ q → A q) (kend : ∀ (H : Heap) (locs : List Loc) (ls : Array Slot), va_P D vwCl [] H → va_D A [] → va_S A H0 H locs → lv_has ls 7 [] → W p l e ({ frames := 6, cells := 33, slots := 606, locals := 150 }) s m args below meth c H locs 11 202 Q (F0 m 170 ls [])) (H : Heap) (locs : List Loc) (ls : Array Slot) (hP : va_P D vwCl [] H) (hD : va_D A []) (hS : va_S A H0 H locs) (hl : lv_has ls 7 []) : W p l e ({ frames := 6, cells := 33, slots := 606, locals := 150 }) s m args below meth c H locs 0 0 Q (F0 m 0 ls []) := by
  obtain ⟨hx, hb, hml, hown, hts⟩ := id F
  refine va_new (ci := 0) (fs := [.null, .null, .null]) (C := RX1) (T := TX1) (N := 3) hx hb hts in_X1 tyX1 tyX1_ok hown (hts _ q260) (hts _ q29) (hts _ q10) hK hP hD hS hA rfl (fun j hj => by rcases (show j = 0 ∨ j = 1 ∨ j = 2 by omega) with rfl | rfl | rfl <;> rfl) (Nat.le_of_ble_eq_true rfl) (Nat.le_of_ble_eq_true rfl) dX0_known_0 (fun q0 H hP hD hS => ?_)
  have hP : va_P D vwCl [(q0, .inr (0, [.null, .null, .null]))] H := hP
  have hD : va_D A [(q0, .inr (0, [.null, .null, .null]))] := hD
  refine lv_dup hx hb dX0_known_3 rfl ?_
  refine rc_cv (wr := []) [0] [] (va_runI (As := []) (rest := [.ref q0]) ⟨hx, hb, hml, hown, hts⟩ (met_X1_init l D cB cI q0 H.size) (cwI 0 hts (lw_meth q263) rfl rfl rfl (hts _ q10) (hts _ q261) (hts _ q262) rfl (by decide +kernel) ⟨Nat.le_of_ble_eq_true rfl, Nat.le_of_ble_eq_true rfl⟩) (rc_ps (hP.sub [0] rfl) hK (hD.sub [0] (by decide) rfl) hX) rfl rfl hl.1 rfl (lv_room (Nat.le_of_ble_eq_true rfl)) dX0_known_4 ⟨Nat.le_of_ble_eq_true rfl, Nat.le_of_ble_eq_true rfl⟩) hP hD hS hA rfl rfl (by decide) (by decide) (fun ⟨a1, a2, a3⟩ H locs _hp hP hD hS => ?_)
  have hP : va_P D vwCl [(q0, .inr (0, [.ref a1, .ref a2, .ref a3])), (a1, .inl (cB, 32, .inl (fun _ => 0))), (a2, .inl (cB, 16, .inl (fun _ => 0))), (a3, .inl (cB, 16, .inl (fun _ => 0)))] H := hP
  have hD : va_D A [(q0, .inr (0, [.ref a1, .ref a2, .ref a3])), (a1, .inl (cB, 32, .inl (fun _ => 0))), (a2, .inl (cB, 16, .inl (fun _ => 0))), (a3, .inl (cB, 16, .inl (fun _ => 0)))] := hD
  refine lv_astore_n (lv' := [(0, .ref q0)]) hx hb dX0_known_7 rfl hl (by decide) rfl (fun ls hl => ?_)
  refine lv_aload_n hx hb dX0_known_8 rfl (lv_at hl 0 rfl) ?_
  refine lv_iconst (v := 0) hx hb dX0_known_9 (by decide) ?_
  refine lv_iconst (v := 0) hx hb dX0_known_10 (by decide) ?_
  refine lv_iconst (v := 0) hx hb dX0_known_11 (by decide) ?_
  refine lv_iconst (v := 0) hx hb dX0_known_12 (by decide) ?_
  refine lv_iconst (v := 0) hx hb dX0_known_13 (by decide) ?_
  refine rc_cv (wr := [(a2, .inl (cB, 16, .inl (fun _ => 0))), (a3, .inl (cB, 16, .inl (fun _ => 0)))]) [0, 1] [2, 3] (va_runV (As := [.int 0, .int 0, .int 0, .int 0, .int 0]) (rest := []) ⟨hx, hb, hml, hown, hts⟩ (met_X1_key l D cB cI q0 a1 a2 a3 H.size 0 0 0 0 0 0 (fun _ => 0) (by decide) (by omega)) (cwV 5 hts (lw_V q278 q279 q280 q10 q281) rfl rfl rfl (by decide +kernel) ⟨Nat.le_of_ble_eq_true rfl, Nat.le_of_ble_eq_true rfl⟩) (rc_pv (va_recv hK hP (ci := 0) (q0 := 0) rfl rfl) (hP.sub [0, 1] rfl) hK (hD.sub [0, 1] (by decide) rfl) hX) rfl rfl hl.1 rfl (lv_room (Nat.le_of_ble_eq_true rfl)) dX0_known_14 ⟨Nat.le_of_ble_eq_true rfl, Nat.le_of_ble_eq_true rfl⟩) hP hD hS hA rfl rfl (by decide) (by decide) (fun _u H locs _hp hP hD hS => ?_)
  have hP : va_P D vwCl [(a2, .inl (cB, 16, .inl (fun _ => 0))), (a3, .inl (cB, 16, .inl (fun _ => 0))), (q0, .inr (0, [.ref a1, .ref a2, .ref a3])), (a1, .inl (cB, 32, .inl (rc_4 (fun _ => 0) 0 0 0 0 0)))] H := hP
  have hD : va_D A [(a2, .inl (cB, 16, .inl (fun _ => 0))), (a3, .inl (cB, 16, .inl (fun _ => 0))), (q0, .inr (0, [.ref a1, .ref a2, .ref a3])), (a1, .inl (cB, 32, .inl (rc_4 (fun _ => 0) 0 0 0 0 0)))] := hD
  rw [rn_z4] at hP hD
  have hP : va_P D vwCl [(a2, .inl (cB, 16, .inl (fun _ => 0))), (a3, .inl (cB, 16, .inl (fun _ => 0))), (q0, .inr (0, [.ref a1, .ref a2, .ref a3])), (a1, .inl (cB, 32, .inl (fun _ => 0)))] H := hP
  have hD : va_D A [(a2, .inl (cB, 16, .inl (fun _ => 0))), (a3, .inl (cB, 16, .inl (fun _ => 0))), (q0, .inr (0, [.ref a1, .ref a2, .ref a3])), (a1, .inl (cB, 32, .inl (fun _ => 0)))] := hD
  refine lv_aload_n hx hb dX0_known_17 rfl (lv_at hl 0 rfl) ?_
  refine lv_iconst (v := 1) hx hb dX0_known_18 (by decide) ?_
  refine lv_iconst (v := 0) hx hb dX0_known_19 (by decide) ?_
  refine lv_iconst (v := 0) hx hb dX0_known_20 (by decide) ?_
  refine lv_iconst (v := 0) hx hb dX0_known_21 (by decide) ?_
  refine lv_iconst (v := 0) hx hb dX0_known_22 (by decide) ?_
  refine rc_cv (wr := [(a2, .inl (cB, 16, .inl (fun _ => 0))), (a3, .inl (cB, 16, .inl (fun _ => 0)))]) [2, 3] [0, 1] (va_runV (As := [.int 1, .int 0, .int 0, .int 0, .int 0]) (rest := []) ⟨hx, hb, hml, hown, hts⟩ (met_X1_key l D cB cI q0 a1 a2 a3 H.size 16 1 0 0 0 0 (fun _ => 0) (by decide) (by omega)) (cwV 5 hts (lw_V q278 q279 q280 q10 q281) rfl rfl rfl (by decide +kernel) ⟨Nat.le_of_ble_eq_true rfl, Nat.le_of_ble_eq_true rfl⟩) (rc_pv (va_recv hK hP (ci := 0) (q0 := 2) rfl rfl) (hP.sub [2, 3] rfl) hK (hD.sub [2, 3] (by decide) rfl) hX) rfl rfl hl.1 rfl (lv_room (Nat.le_of_ble_eq_true rfl)) dX0_known_23 ⟨Nat.le_of_ble_eq_true rfl, Nat.le_of_ble_eq_true rfl⟩) hP hD hS hA rfl rfl (by decide) (by decide) (fun _u H locs _hp hP hD hS => ?_)
  have hP : va_P D vwCl [(a2, .inl (cB, 16, .inl (fun _ => 0))), (a3, .inl (cB, 16, .inl (fun _ => 0))), (q0, .inr (0, [.ref a1, .ref a2, .ref a3])), (a1, .inl (cB, 32, .inl (rc_4 (fun _ => 0) 16 0 0 0 0)))] H := hP
  have hD : va_D A [(a2, .inl (cB, 16, .inl (fun _ => 0))), (a3, .inl (cB, 16, .inl (fun _ => 0))), (q0, .inr (0, [.ref a1, .ref a2, .ref a3])), (a1, .inl (cB, 32, .inl (rc_4 (fun _ => 0) 16 0 0 0 0)))] := hD
  rw [rn_z4] at hP hD
  have hP : va_P D vwCl [(a2, .inl (cB, 16, .inl (fun _ => 0))), (a3, .inl (cB, 16, .inl (fun _ => 0))), (q0, .inr (0, [.ref a1, .ref a2, .ref a3])), (a1, .inl (cB, 32, .inl (fun _ => 0)))] H := hP
  have hD : va_D A [(a2, .inl (cB, 16, .inl (fun _ => 0))), (a3, .inl (cB, 16, .inl (fun _ => 0))), (q0, .inr (0, [.ref a1, .ref a2, .ref a3])), (a1, .inl (cB, 32, .inl (fun _ => 0)))] := hD
  refine lv_aload_n hx hb dX0_known_26 rfl (lv_at hl 0 rfl) ?_
  refine lv_iconst (v := 0) hx hb dX0_known_27 (by decide) ?_
  refine lv_iconst (v := 0) hx hb dX0_known_28 (by decide) ?_
  refine lv_iconst (v := 0) hx hb dX0_known_29 (by decide) ?_
  refine lv_iconst (v := 0) hx hb dX0_known_30 (by decide) ?_
  refine rc_cv (wr := [(a3, .inl (cB, 16, .inl (fun _ => 0))), (a1, .inl (cB, 32, .inl (fun _ => 0)))]) [2, 0] [1, 3] (va_runV (As := [.int 0, .int 0, .int 0, .int 0]) (rest := []) ⟨hx, hb, hml, hown, hts⟩ (met_X1_block l D cB cI q0 a1 a2 a3 H.size 0 0 0 0 (fun _ => 0)) (cwV 4 hts (lw_V q285 q286 q287 q10 q288) rfl rfl rfl (by decide +kernel) ⟨Nat.le_of_ble_eq_true rfl, Nat.le_of_ble_eq_true rfl⟩) (rc_pv (va_recv hK hP (ci := 0) (q0 := 2) rfl rfl) (hP.sub [2, 0] rfl) hK (hD.sub [2, 0] (by decide) rfl) hX) rfl rfl hl.1 rfl (lv_room (Nat.le_of_ble_eq_true rfl)) dX0_known_31 ⟨Nat.le_of_ble_eq_true rfl, Nat.le_of_ble_eq_true rfl⟩) hP hD hS hA rfl rfl (by decide) (by decide) (fun _u H locs _hp hP hD hS => ?_)
  have hP : va_P D vwCl [(a3, .inl (cB, 16, .inl (fun _ => 0))), (a1, .inl (cB, 32, .inl (fun _ => 0))), (q0, .inr (0, [.ref a1, .ref a2, .ref a3])), (a2, .inl (cB, 16, .inl (rc_4 (fun _ => 0) 0 0 0 0 0)))] H := hP
  have hD : va_D A [(a3, .inl (cB, 16, .inl (fun _ => 0))), (a1, .inl (cB, 32, .inl (fun _ => 0))), (q0, .inr (0, [.ref a1, .ref a2, .ref a3])), (a2, .inl (cB, 16, .inl (rc_4 (fun _ => 0) 0 0 0 0 0)))] := hD
  rw [rn_z4] at hP hD
  have hP : va_P D vwCl [(a3, .inl (cB, 16, .inl (fun _ => 0))), (a1, .inl (cB, 32, .inl (fun _ => 0))), (q0, .inr (0, [.ref a1, .ref a2, .ref a3])), (a2, .inl (cB, 16, .inl (fun _ => 0)))] H := hP
  have hD : va_D A [(a3, .inl (cB, 16, .inl (fun _ => 0))), (a1, .inl (cB, 32, .inl (fun _ => 0))), (q0, .inr (0, [.ref a1, .ref a2, .ref a3])), (a2, .inl (cB, 16, .inl (fun _ => 0)))] := hD
  refine lv_aload_n hx hb dX0_known_34 rfl (lv_at hl 0 rfl) ?_
  refine lv_iconst (v := 0) hx hb dX0_known_35 (by decide) ?_
  refine rc_cv (wr := []) [2, 1, 3, 0] [] (va_runV (As := [.int 0]) (rest := []) ⟨hx, hb, hml, hown, hts⟩ (met_X1_lock l D cB cI q0 a1 a2 a3 H.size 0 4 (by omega) (by omega) (fun _ => 0) (fun _ => 0) (fun _ => 0)) (cwV 1 hts (lw_V q22 q23 q24 q10 q25) rfl rfl rfl (by decide +kernel) ⟨Nat.le_of_ble_eq_true rfl, Nat.le_of_ble_eq_true rfl⟩) (rc_pv (va_recv hK hP (ci := 0) (q0 := 2) rfl rfl) (hP.sub [2, 1, 3, 0] rfl) hK (hD.sub [2, 1, 3, 0] (by decide) rfl) hX) rfl rfl hl.1 rfl (lv_room (Nat.le_of_ble_eq_true rfl)) dX0_known_36 ⟨Nat.le_of_ble_eq_true rfl, Nat.le_of_ble_eq_true rfl⟩) hP hD hS hA rfl rfl (by decide) (by decide) (fun _u H locs _hp hP hD hS => ?_)
  have hP : va_P D vwCl [(q0, .inr (0, [.ref a1, .ref a2, .ref a3])), (a1, .inl (cB, 32, .inl (fun _ => 0))), (a2, .inl (cB, 16, .inl (fun _ => 0))), (a3, .inl (cB, 16, .inl (rc_cry true 4 (fun _ => 0) (fun _ => 0) (fun _ => 0))))] H := hP
  have hD : va_D A [(q0, .inr (0, [.ref a1, .ref a2, .ref a3])), (a1, .inl (cB, 32, .inl (fun _ => 0))), (a2, .inl (cB, 16, .inl (fun _ => 0))), (a3, .inl (cB, 16, .inl (rc_cry true 4 (fun _ => 0) (fun _ => 0) (fun _ => 0))))] := hD
  refine lv_bipush (v := 16) hx hb dX0_known_39 (by decide) ?_
  refine rc_nwi hx hb (hts _ q191) hK hP hD hS hA 16 rfl (by omega) (Nat.le_of_ble_eq_true rfl) (Nat.le_of_ble_eq_true rfl) dX0_known_41 (fun xa H hP hD hS => ?_)
  have hP : va_P D vwCl [(q0, .inr (0, [.ref a1, .ref a2, .ref a3])), (a1, .inl (cB, 32, .inl (fun _ => 0))), (a2, .inl (cB, 16, .inl (fun _ => 0))), (a3, .inl (cB, 16, .inl (rc_cry true 4 (fun _ => 0) (fun _ => 0) (fun _ => 0)))), (xa, .inl (cI, 16, .inl (fun _ => 0)))] H := hP
  have hD : va_D A [(q0, .inr (0, [.ref a1, .ref a2, .ref a3])), (a1, .inl (cB, 32, .inl (fun _ => 0))), (a2, .inl (cB, 16, .inl (fun _ => 0))), (a3, .inl (cB, 16, .inl (rc_cry true 4 (fun _ => 0) (fun _ => 0) (fun _ => 0)))), (xa, .inl (cI, 16, .inl (fun _ => 0)))] := hD
  refine lv_dup hx hb dX0_known_43 rfl ?_
  refine lv_iconst (v := 0) hx hb dX0_known_44 (by decide) ?_
  refine lv_sipush (v := 143) hx hb dX0_known_45 (by decide) ?_
  refine rc_sti hx hb hK hP hD hS 4 1 rfl rfl 0 rfl (by omega) (by omega) (rc_fill rc_l16 1) (by rw [rc_fill_0 rc_l16]; exact rc_fill_s rc_l16 0 rfl) [(q0, .inr (0, [.ref a1, .ref a2, .ref a3])), (a1, .inl (cB, 32, .inl (fun _ => 0))), (a2, .inl (cB, 16, .inl (fun _ => 0))), (a3, .inl (cB, 16, .inl (rc_cry true 4 (fun _ => 0) (fun _ => 0) (fun _ => 0)))), (xa, .inl (cI, 16, .inl (rc_fill rc_l16 1)))] rfl dX0_known_48 (fun H locs hP hD hS => ?_)
  refine lv_dup hx hb dX0_known_49 rfl ?_
  refine lv_iconst (v := 1) hx hb dX0_known_50 (by decide) ?_
  refine lv_sipush (v := 195) hx hb dX0_known_51 (by decide) ?_
  refine rc_sti hx hb hK hP hD hS 4 1 rfl rfl 1 rfl (by omega) (by omega) (rc_fill rc_l16 2) (rc_fill_s rc_l16 1 rfl) [(q0, .inr (0, [.ref a1, .ref a2, .ref a3])), (a1, .inl (cB, 32, .inl (fun _ => 0))), (a2, .inl (cB, 16, .inl (fun _ => 0))), (a3, .inl (cB, 16, .inl (rc_cry true 4 (fun _ => 0) (fun _ => 0) (fun _ => 0)))), (xa, .inl (cI, 16, .inl (rc_fill rc_l16 2)))] rfl dX0_known_54 (fun H locs hP hD hS => ?_)
  refine lv_dup hx hb dX0_known_55 rfl ?_
  refine lv_iconst (v := 2) hx hb dX0_known_56 (by decide) ?_
  refine lv_sipush (v := 165) hx hb dX0_known_57 (by decide) ?_
  refine rc_sti hx hb hK hP hD hS 4 1 rfl rfl 2 rfl (by omega) (by omega) (rc_fill rc_l16 3) (rc_fill_s rc_l16 2 rfl) [(q0, .inr (0, [.ref a1, .ref a2, .ref a3])), (a1, .inl (cB, 32, .inl (fun _ => 0))), (a2, .inl (cB, 16, .inl (fun _ => 0))), (a3, .inl (cB, 16, .inl (rc_cry true 4 (fun _ => 0) (fun _ => 0) (fun _ => 0)))), (xa, .inl (cI, 16, .inl (rc_fill rc_l16 3)))] rfl dX0_known_60 (fun H locs hP hD hS => ?_)
  refine lv_dup hx hb dX0_known_61 rfl ?_
  refine lv_iconst (v := 3) hx hb dX0_known_62 (by decide) ?_
  refine lv_bipush (v := 54) hx hb dX0_known_63 (by decide) ?_
  refine rc_sti hx hb hK hP hD hS 4 1 rfl rfl 3 rfl (by omega) (by omega) (rc_fill rc_l16 4) (rc_fill_s rc_l16 3 rfl) [(q0, .inr (0, [.ref a1, .ref a2, .ref a3])), (a1, .inl (cB, 32, .inl (fun _ => 0))), (a2, .inl (cB, 16, .inl (fun _ => 0))), (a3, .inl (cB, 16, .inl (rc_cry true 4 (fun _ => 0) (fun _ => 0) (fun _ => 0)))), (xa, .inl (cI, 16, .inl (rc_fill rc_l16 4)))] rfl dX0_known_65 (fun H locs hP hD hS => ?_)
  refine lv_dup hx hb dX0_known_66 rfl ?_
  refine lv_iconst (v := 4) hx hb dX0_known_67 (by decide) ?_
  refine lv_bipush (v := 86) hx hb dX0_known_68 (by decide) ?_
  refine rc_sti hx hb hK hP hD hS 4 1 rfl rfl 4 rfl (by omega) (by omega) (rc_fill rc_l16 5) (rc_fill_s rc_l16 4 rfl) [(q0, .inr (0, [.ref a1, .ref a2, .ref a3])), (a1, .inl (cB, 32, .inl (fun _ => 0))), (a2, .inl (cB, 16, .inl (fun _ => 0))), (a3, .inl (cB, 16, .inl (rc_cry true 4 (fun _ => 0) (fun _ => 0) (fun _ => 0)))), (xa, .inl (cI, 16, .inl (rc_fill rc_l16 5)))] rfl dX0_known_70 (fun H locs hP hD hS => ?_)
  refine lv_dup hx hb dX0_known_71 rfl ?_
  refine lv_iconst (v := 5) hx hb dX0_known_72 (by decide) ?_
  refine lv_sipush (v := 177) hx hb dX0_known_73 (by decide) ?_
  refine rc_sti hx hb hK hP hD hS 4 1 rfl rfl 5 rfl (by omega) (by omega) (rc_fill rc_l16 6) (rc_fill_s rc_l16 5 rfl) [(q0, .inr (0, [.ref a1, .ref a2, .ref a3])), (a1, .inl (cB, 32, .inl (fun _ => 0))), (a2, .inl (cB, 16, .inl (fun _ => 0))), (a3, .inl (cB, 16, .inl (rc_cry true 4 (fun _ => 0) (fun _ => 0) (fun _ => 0)))), (xa, .inl (cI, 16, .inl (rc_fill rc_l16 6)))] rfl dX0_known_76 (fun H locs hP hD hS => ?_)
  refine lv_dup hx hb dX0_known_77 rfl ?_
  refine lv_bipush (v := 6) hx hb dX0_known_78 (by decide) ?_
  refine lv_sipush (v := 247) hx hb dX0_known_80 (by decide) ?_
  refine rc_sti hx hb hK hP hD hS 4 1 rfl rfl 6 rfl (by omega) (by omega) (rc_fill rc_l16 7) (rc_fill_s rc_l16 6 rfl) [(q0, .inr (0, [.ref a1, .ref a2, .ref a3])), (a1, .inl (cB, 32, .inl (fun _ => 0))), (a2, .inl (cB, 16, .inl (fun _ => 0))), (a3, .inl (cB, 16, .inl (rc_cry true 4 (fun _ => 0) (fun _ => 0) (fun _ => 0)))), (xa, .inl (cI, 16, .inl (rc_fill rc_l16 7)))] rfl dX0_known_83 (fun H locs hP hD hS => ?_)
  refine lv_dup hx hb dX0_known_84 rfl ?_
  refine lv_bipush (v := 7) hx hb dX0_known_85 (by decide) ?_
  refine lv_bipush (v := 120) hx hb dX0_known_87 (by decide) ?_
  refine rc_sti hx hb hK hP hD hS 4 1 rfl rfl 7 rfl (by omega) (by omega) (rc_fill rc_l16 8) (rc_fill_s rc_l16 7 rfl) [(q0, .inr (0, [.ref a1, .ref a2, .ref a3])), (a1, .inl (cB, 32, .inl (fun _ => 0))), (a2, .inl (cB, 16, .inl (fun _ => 0))), (a3, .inl (cB, 16, .inl (rc_cry true 4 (fun _ => 0) (fun _ => 0) (fun _ => 0)))), (xa, .inl (cI, 16, .inl (rc_fill rc_l16 8)))] rfl dX0_known_89 (fun H locs hP hD hS => ?_)
  refine lv_dup hx hb dX0_known_90 rfl ?_
  refine lv_bipush (v := 8) hx hb dX0_known_91 (by decide) ?_
  refine lv_sipush (v := 193) hx hb dX0_known_93 (by decide) ?_
  refine rc_sti hx hb hK hP hD hS 4 1 rfl rfl 8 rfl (by omega) (by omega) (rc_fill rc_l16 9) (rc_fill_s rc_l16 8 rfl) [(q0, .inr (0, [.ref a1, .ref a2, .ref a3])), (a1, .inl (cB, 32, .inl (fun _ => 0))), (a2, .inl (cB, 16, .inl (fun _ => 0))), (a3, .inl (cB, 16, .inl (rc_cry true 4 (fun _ => 0) (fun _ => 0) (fun _ => 0)))), (xa, .inl (cI, 16, .inl (rc_fill rc_l16 9)))] rfl dX0_known_96 (fun H locs hP hD hS => ?_)
  refine lv_dup hx hb dX0_known_97 rfl ?_
  refine lv_bipush (v := 9) hx hb dX0_known_98 (by decide) ?_
  refine lv_bipush (v := 41) hx hb dX0_known_100 (by decide) ?_
  refine rc_sti hx hb hK hP hD hS 4 1 rfl rfl 9 rfl (by omega) (by omega) (rc_fill rc_l16 10) (rc_fill_s rc_l16 9 rfl) [(q0, .inr (0, [.ref a1, .ref a2, .ref a3])), (a1, .inl (cB, 32, .inl (fun _ => 0))), (a2, .inl (cB, 16, .inl (fun _ => 0))), (a3, .inl (cB, 16, .inl (rc_cry true 4 (fun _ => 0) (fun _ => 0) (fun _ => 0)))), (xa, .inl (cI, 16, .inl (rc_fill rc_l16 10)))] rfl dX0_known_102 (fun H locs hP hD hS => ?_)
  refine lv_dup hx hb dX0_known_103 rfl ?_
  refine lv_bipush (v := 10) hx hb dX0_known_104 (by decide) ?_
  refine lv_sipush (v := 223) hx hb dX0_known_106 (by decide) ?_
  refine rc_sti hx hb hK hP hD hS 4 1 rfl rfl 10 rfl (by omega) (by omega) (rc_fill rc_l16 11) (rc_fill_s rc_l16 10 rfl) [(q0, .inr (0, [.ref a1, .ref a2, .ref a3])), (a1, .inl (cB, 32, .inl (fun _ => 0))), (a2, .inl (cB, 16, .inl (fun _ => 0))), (a3, .inl (cB, 16, .inl (rc_cry true 4 (fun _ => 0) (fun _ => 0) (fun _ => 0)))), (xa, .inl (cI, 16, .inl (rc_fill rc_l16 11)))] rfl dX0_known_109 (fun H locs hP hD hS => ?_)
  refine lv_dup hx hb dX0_known_110 rfl ?_
  refine lv_bipush (v := 11) hx hb dX0_known_111 (by decide) ?_
  refine lv_bipush (v := 78) hx hb dX0_known_113 (by decide) ?_
  refine rc_sti hx hb hK hP hD hS 4 1 rfl rfl 11 rfl (by omega) (by omega) (rc_fill rc_l16 12) (rc_fill_s rc_l16 11 rfl) [(q0, .inr (0, [.ref a1, .ref a2, .ref a3])), (a1, .inl (cB, 32, .inl (fun _ => 0))), (a2, .inl (cB, 16, .inl (fun _ => 0))), (a3, .inl (cB, 16, .inl (rc_cry true 4 (fun _ => 0) (fun _ => 0) (fun _ => 0)))), (xa, .inl (cI, 16, .inl (rc_fill rc_l16 12)))] rfl dX0_known_115 (fun H locs hP hD hS => ?_)
  refine lv_dup hx hb dX0_known_116 rfl ?_
  refine lv_bipush (v := 12) hx hb dX0_known_117 (by decide) ?_
  refine lv_sipush (v := 152) hx hb dX0_known_119 (by decide) ?_
  refine rc_sti hx hb hK hP hD hS 4 1 rfl rfl 12 rfl (by omega) (by omega) (rc_fill rc_l16 13) (rc_fill_s rc_l16 12 rfl) [(q0, .inr (0, [.ref a1, .ref a2, .ref a3])), (a1, .inl (cB, 32, .inl (fun _ => 0))), (a2, .inl (cB, 16, .inl (fun _ => 0))), (a3, .inl (cB, 16, .inl (rc_cry true 4 (fun _ => 0) (fun _ => 0) (fun _ => 0)))), (xa, .inl (cI, 16, .inl (rc_fill rc_l16 13)))] rfl dX0_known_122 (fun H locs hP hD hS => ?_)
  refine lv_dup hx hb dX0_known_123 rfl ?_
  refine lv_bipush (v := 13) hx hb dX0_known_124 (by decide) ?_
  refine lv_bipush (v := 72) hx hb dX0_known_126 (by decide) ?_
  refine rc_sti hx hb hK hP hD hS 4 1 rfl rfl 13 rfl (by omega) (by omega) (rc_fill rc_l16 14) (rc_fill_s rc_l16 13 rfl) [(q0, .inr (0, [.ref a1, .ref a2, .ref a3])), (a1, .inl (cB, 32, .inl (fun _ => 0))), (a2, .inl (cB, 16, .inl (fun _ => 0))), (a3, .inl (cB, 16, .inl (rc_cry true 4 (fun _ => 0) (fun _ => 0) (fun _ => 0)))), (xa, .inl (cI, 16, .inl (rc_fill rc_l16 14)))] rfl dX0_known_128 (fun H locs hP hD hS => ?_)
  refine lv_dup hx hb dX0_known_129 rfl ?_
  refine lv_bipush (v := 14) hx hb dX0_known_130 (by decide) ?_
  refine lv_sipush (v := 164) hx hb dX0_known_132 (by decide) ?_
  refine rc_sti hx hb hK hP hD hS 4 1 rfl rfl 14 rfl (by omega) (by omega) (rc_fill rc_l16 15) (rc_fill_s rc_l16 14 rfl) [(q0, .inr (0, [.ref a1, .ref a2, .ref a3])), (a1, .inl (cB, 32, .inl (fun _ => 0))), (a2, .inl (cB, 16, .inl (fun _ => 0))), (a3, .inl (cB, 16, .inl (rc_cry true 4 (fun _ => 0) (fun _ => 0) (fun _ => 0)))), (xa, .inl (cI, 16, .inl (rc_fill rc_l16 15)))] rfl dX0_known_135 (fun H locs hP hD hS => ?_)
  refine lv_dup hx hb dX0_known_136 rfl ?_
  refine lv_bipush (v := 15) hx hb dX0_known_137 (by decide) ?_
  refine lv_bipush (v := 30) hx hb dX0_known_139 (by decide) ?_
  refine rc_sti hx hb hK hP hD hS 4 1 rfl rfl 15 rfl (by omega) (by omega) (rc_fill rc_l16 16) (rc_fill_s rc_l16 15 rfl) [(q0, .inr (0, [.ref a1, .ref a2, .ref a3])), (a1, .inl (cB, 32, .inl (fun _ => 0))), (a2, .inl (cB, 16, .inl (fun _ => 0))), (a3, .inl (cB, 16, .inl (rc_cry true 4 (fun _ => 0) (fun _ => 0) (fun _ => 0)))), (xa, .inl (cI, 16, .inl (rc_fill rc_l16 16)))] rfl dX0_known_141 (fun H locs hP hD hS => ?_)
  refine lv_astore_n (lv' := [(1, .ref xa), (0, .ref q0)]) hx hb dX0_known_142 rfl hl (by decide) rfl (fun ls hl => ?_)
  refine lv_iconst (v := 0) hx hb dX0_known_143 (by decide) ?_
  refine lv_istore_n (lv' := [(2, .int 0), (1, .ref xa), (0, .ref q0)]) hx hb dX0_known_144 rfl hl (by decide) rfl (fun ls hl => ?_)
  refine seg_kl0 q0 a1 a2 a3 xa ⟨hx, hb, hml, hown, hts⟩ hK hX (hP.sub [0, 3, 4] rfl) (hD.sub [0, 3, 4] (by decide) rfl) (fun ls hl => ?_) 16 0 rfl ls (lv_sub hl [2, 1, 0] rfl)
  exact kend H _ ls (hP.sub [] rfl) (hD.sub [] (by decide) rfl) hS hl

set_option maxHeartbeats 4000000 in
set_option maxRecDepth 100000 in
/-- known: the comparing loop of its part 1 -/
theorem seg_kl1 {p : Program} {l : Launch} {e : Env} {s : State} {m : MethodId} {args : Array Value} {below : List Frame} {meth : Method} {c : Code} {Q : State → Prop} {D : va_G} {cB cI : ClassId} {A : Nat → Prop} {H : Heap} {locs : List Loc} (q0 a1 a2 a3 xa : Nat) (F : CallFix p m c cX0_known 7 s args lw_all RX0) (hK : va_K D vwCl (rc_T cB cI) s) (hX : rc_X s) (hP : va_P D vwCl [(q0, .inr (0, [.ref a1, .ref a2, .ref a3])), (a3, .inl (cB, 16, .inl (rc_cry true 6 (fun _ => 0) (fun _ => 0) (fun _ => 0)))), (xa, .inl (cI, 16, .inl (rc_fill rc_l24 16)))] H) (hD : va_D A [(q0, .inr (0, [.ref a1, .ref a2, .ref a3])), (a3, .inl (cB, 16, .inl (rc_cry true 6 (fun _ => 0) (fun _ => 0) (fun _ => 0)))), (xa, .inl (cI, 16, .inl (rc_fill rc_l24 16)))]) (kend : ∀ ls : Array Slot, lv_has ls 7 [] → W p l e ({ frames := 6, cells := 33, slots := 606, locals := 150 }) s m args below meth c H locs 22 404 Q (F0 m 342 ls [])) : ∀ (r i : Nat), i + r = 16 → ∀ ls : Array Slot, lv_has ls 7 [(2, .ref q0), (3, .ref xa), (4, .int (nI i))] → W p l e ({ frames := 6, cells := 33, slots := 606, locals := 150 }) s m args below meth c H locs 22 404 Q (F0 m 314 ls []) := by
  obtain ⟨hx, hb, hml, hown, hts⟩ := id F
  intro r
  induction r with
  | zero =>
    intro i hi ls hl
    obtain rfl : i = 16 := by omega
    refine lv_iload hx hb dX0_known_314 (lv_at hl 2 rfl) ?_
    refine lv_bipush (v := 16) hx hb dX0_known_316 (by decide) ?_
    refine lv_icmp_ge (tgt := 342) hx hb dX0_known_318 (by decide) (fun _ => ?_) (fun c_ => absurd (by decide) c_)
    exact kend ls (lv_sub hl [] rfl)
  | succ r ih =>
    intro i hi ls hl
    refine lv_iload hx hb dX0_known_314 (lv_at hl 2 rfl) ?_
    refine lv_bipush (v := 16) hx hb dX0_known_316 (by decide) ?_
    refine lv_icmp_ge (tgt := 342) hx hb dX0_known_318 (by decide) (fun c_ => absurd c_ (nI_ge (a := i) (b := 16) (by omega) (by omega))) (fun _ => ?_)
    refine lv_aload_n hx hb dX0_known_321 rfl (lv_at hl 0 rfl) ?_
    refine lv_iload hx hb dX0_known_322 (lv_at hl 2 rfl) ?_
    refine vp_callSi (W.runV (As := [.int (nI i)]) (rest := []) ⟨hx, hb, hml, hown, hts⟩ (met_X1_out l D cB cI q0 a1 a2 a3 H.size i (rc_cry true 6 (fun _ => 0) (fun _ => 0) (fun _ => 0)) (by omega)) (cwV 1 hts (lw_V q292 q293 q294 q10 q295) rfl rfl rfl (by decide +kernel) ⟨Nat.le_of_ble_eq_true rfl, Nat.le_of_ble_eq_true rfl⟩) (rc_pv (va_recv hK hP (ci := 0) (q0 := 0) rfl rfl) (hP.sub [0, 1] rfl) hK (hD.sub [0, 1] (by decide) rfl) hX) rfl rfl hl.1 rfl (lv_room (Nat.le_of_ble_eq_true rfl)) dX0_known_324 ⟨Nat.le_of_ble_eq_true rfl, Nat.le_of_ble_eq_true rfl⟩) (fun r_1 er_1 => ?_)
    have er_1 := er_1.symm
    subst er_1
    refine lv_aload_n hx hb dX0_known_327 rfl (lv_at hl 1 rfl) ?_
    refine lv_iload hx hb dX0_known_328 (lv_at hl 2 rfl) ?_
    refine rc_ldi hx hb hK hP 2 1 rfl rfl i rfl (by omega) (by omega) ((rc_fill rc_l24 16) i) rfl dX0_known_330 ?_
    refine lv_icmp_eq (tgt := 336) hx hb dX0_known_331 (by decide) (fun _ => ?_) (fun c_ => absurd (rc_known_24 (fun _ => 0) (show i < 16 by omega)) c_)
    refine lv_iinc (v := nI (i + 1)) (lv' := [(4, .int (nI (i + 1))), (2, .ref q0), (3, .ref xa)]) hx hb dX0_known_336 hl (k := 2) rfl (nI_1 i) (by decide) rfl (fun ls hl => ?_)
    refine lv_goto (tgt := 314) hx hb dX0_known_339 (by decide) ?_
    exact ih (i + 1) (by omega) ls (lv_sub hl [1, 2, 0] rfl)

set_option maxHeartbeats 4000000 in
set_option maxRecDepth 100000 in
/-- known: its part 1 -/
theorem seg_kn1 {p : Program} {l : Launch} {e : Env} {s : State} {m : MethodId} {args : Array Value} {below : List Frame} {meth : Method} {c : Code} {Q : State → Prop} {D : va_G} {cB cI : ClassId} {A : Nat → Prop} {H0 : Heap} (F : CallFix p m c cX0_known 7 s args lw_all RX0) (hK : va_K D vwCl (rc_T cB cI) s) (hX : rc_X s) (hA : ∀ q, H0.size ≤ q → A q) (kend : ∀ (H : Heap) (locs : List Loc) (ls : Array Slot), va_P D vwCl [] H → va_D A [] → va_S A H0 H locs → lv_has ls 7 [] → W p l e ({ frames := 6, cells := 33, slots := 606, locals := 150 }) s m args below meth c H locs 22 404 Q (F0 m 342 ls [])) (H : Heap) (locs : List Loc) (ls : Array Slot) (hP : va_P D vwCl [] H) (hD : va_D A []) (hS : va_S A H0 H locs) (hl : lv_has ls 7 []) : W p l e ({ frames := 6, cells := 33, slots := 606, locals := 150 }) s m args below meth c H locs 11 202 Q (F0 m 170 ls []) := by
  obtain ⟨hx, hb, hml, hown, hts⟩ := id F
  refine va_new (ci := 0) (fs := [.null, .null, .null]) (C := RX1) (T := TX1) (N := 3) hx hb hts in_X1 tyX1 tyX1_ok hown (hts _ q260) (hts _ q29) (hts _ q10) hK hP hD hS hA rfl (fun j hj => by rcases (show j = 0 ∨ j = 1 ∨ j = 2 by omega) with rfl | rfl | rfl <;> rfl) (Nat.le_of_ble_eq_true rfl) (Nat.le_of_ble_eq_true rfl) dX0_known_170 (fun q0 H hP hD hS => ?_)
  have hP : va_P D vwCl [(q0, .inr (0, [.null, .null, .null]))] H := hP
  have hD : va_D A [(q0, .inr (0, [.null, .null, .null]))] := hD
  refine lv_dup hx hb dX0_known_173 rfl ?_
  refine rc_cv (wr := []) [0] [] (va_runI (As := []) (rest := [.ref q0]) ⟨hx, hb, hml, hown, hts⟩ (met_X1_init l D cB cI q0 H.size) (cwI 0 hts (lw_meth q263) rfl rfl rfl (hts _ q10) (hts _ q261) (hts _ q262) rfl (by decide +kernel) ⟨Nat.le_of_ble_eq_true rfl, Nat.le_of_ble_eq_true rfl⟩) (rc_ps (hP.sub [0] rfl) hK (hD.sub [0] (by decide) rfl) hX) rfl rfl hl.1 rfl (lv_room (Nat.le_of_ble_eq_true rfl)) dX0_known_174 ⟨Nat.le_of_ble_eq_true rfl, Nat.le_of_ble_eq_true rfl⟩) hP hD hS hA rfl rfl (by decide) (by decide) (fun ⟨a1, a2, a3⟩ H locs _hp hP hD hS => ?_)
  have hP : va_P D vwCl [(q0, .inr (0, [.ref a1, .ref a2, .ref a3])), (a1, .inl (cB, 32, .inl (fun _ => 0))), (a2, .inl (cB, 16, .inl (fun _ => 0))), (a3, .inl (cB, 16, .inl (fun _ => 0)))] H := hP
  have hD : va_D A [(q0, .inr (0, [.ref a1, .ref a2, .ref a3])), (a1, .inl (cB, 32, .inl (fun _ => 0))), (a2, .inl (cB, 16, .inl (fun _ => 0))), (a3, .inl (cB, 16, .inl (fun _ => 0)))] := hD
  refine lv_astore_n (lv' := [(2, .ref q0)]) hx hb dX0_known_177 rfl hl (by decide) rfl (fun ls hl => ?_)
  refine lv_aload_n hx hb dX0_known_178 rfl (lv_at hl 0 rfl) ?_
  refine lv_iconst (v := 0) hx hb dX0_known_179 (by decide) ?_
  refine lv_iconst (v := 0) hx hb dX0_known_180 (by decide) ?_
  refine lv_iconst (v := 0) hx hb dX0_known_181 (by decide) ?_
  refine lv_iconst (v := 0) hx hb dX0_known_182 (by decide) ?_
  refine lv_iconst (v := 0) hx hb dX0_known_183 (by decide) ?_
  refine rc_cv (wr := [(a2, .inl (cB, 16, .inl (fun _ => 0))), (a3, .inl (cB, 16, .inl (fun _ => 0)))]) [0, 1] [2, 3] (va_runV (As := [.int 0, .int 0, .int 0, .int 0, .int 0]) (rest := []) ⟨hx, hb, hml, hown, hts⟩ (met_X1_key l D cB cI q0 a1 a2 a3 H.size 0 0 0 0 0 0 (fun _ => 0) (by decide) (by omega)) (cwV 5 hts (lw_V q278 q279 q280 q10 q281) rfl rfl rfl (by decide +kernel) ⟨Nat.le_of_ble_eq_true rfl, Nat.le_of_ble_eq_true rfl⟩) (rc_pv (va_recv hK hP (ci := 0) (q0 := 0) rfl rfl) (hP.sub [0, 1] rfl) hK (hD.sub [0, 1] (by decide) rfl) hX) rfl rfl hl.1 rfl (lv_room (Nat.le_of_ble_eq_true rfl)) dX0_known_184 ⟨Nat.le_of_ble_eq_true rfl, Nat.le_of_ble_eq_true rfl⟩) hP hD hS hA rfl rfl (by decide) (by decide) (fun _u H locs _hp hP hD hS => ?_)
  have hP : va_P D vwCl [(a2, .inl (cB, 16, .inl (fun _ => 0))), (a3, .inl (cB, 16, .inl (fun _ => 0))), (q0, .inr (0, [.ref a1, .ref a2, .ref a3])), (a1, .inl (cB, 32, .inl (rc_4 (fun _ => 0) 0 0 0 0 0)))] H := hP
  have hD : va_D A [(a2, .inl (cB, 16, .inl (fun _ => 0))), (a3, .inl (cB, 16, .inl (fun _ => 0))), (q0, .inr (0, [.ref a1, .ref a2, .ref a3])), (a1, .inl (cB, 32, .inl (rc_4 (fun _ => 0) 0 0 0 0 0)))] := hD
  rw [rn_z4] at hP hD
  have hP : va_P D vwCl [(a2, .inl (cB, 16, .inl (fun _ => 0))), (a3, .inl (cB, 16, .inl (fun _ => 0))), (q0, .inr (0, [.ref a1, .ref a2, .ref a3])), (a1, .inl (cB, 32, .inl (fun _ => 0)))] H := hP
  have hD : va_D A [(a2, .inl (cB, 16, .inl (fun _ => 0))), (a3, .inl (cB, 16, .inl (fun _ => 0))), (q0, .inr (0, [.ref a1, .ref a2, .ref a3])), (a1, .inl (cB, 32, .inl (fun _ => 0)))] := hD
  refine lv_aload_n hx hb dX0_known_187 rfl (lv_at hl 0 rfl) ?_
  refine lv_iconst (v := 1) hx hb dX0_known_188 (by decide) ?_
  refine lv_iconst (v := 0) hx hb dX0_known_189 (by decide) ?_
  refine lv_iconst (v := 0) hx hb dX0_known_190 (by decide) ?_
  refine lv_iconst (v := 0) hx hb dX0_known_191 (by decide) ?_
  refine lv_iconst (v := 0) hx hb dX0_known_192 (by decide) ?_
  refine rc_cv (wr := [(a2, .inl (cB, 16, .inl (fun _ => 0))), (a3, .inl (cB, 16, .inl (fun _ => 0)))]) [2, 3] [0, 1] (va_runV (As := [.int 1, .int 0, .int 0, .int 0, .int 0]) (rest := []) ⟨hx, hb, hml, hown, hts⟩ (met_X1_key l D cB cI q0 a1 a2 a3 H.size 16 1 0 0 0 0 (fun _ => 0) (by decide) (by omega)) (cwV 5 hts (lw_V q278 q279 q280 q10 q281) rfl rfl rfl (by decide +kernel) ⟨Nat.le_of_ble_eq_true rfl, Nat.le_of_ble_eq_true rfl⟩) (rc_pv (va_recv hK hP (ci := 0) (q0 := 2) rfl rfl) (hP.sub [2, 3] rfl) hK (hD.sub [2, 3] (by decide) rfl) hX) rfl rfl hl.1 rfl (lv_room (Nat.le_of_ble_eq_true rfl)) dX0_known_193 ⟨Nat.le_of_ble_eq_true rfl, Nat.le_of_ble_eq_true rfl⟩) hP hD hS hA rfl rfl (by decide) (by decide) (fun _u H locs _hp hP hD hS => ?_)
  have hP : va_P D vwCl [(a2, .inl (cB, 16, .inl (fun _ => 0))), (a3, .inl (cB, 16, .inl (fun _ => 0))), (q0, .inr (0, [.ref a1, .ref a2, .ref a3])), (a1, .inl (cB, 32, .inl (rc_4 (fun _ => 0) 16 0 0 0 0)))] H := hP
  have hD : va_D A [(a2, .inl (cB, 16, .inl (fun _ => 0))), (a3, .inl (cB, 16, .inl (fun _ => 0))), (q0, .inr (0, [.ref a1, .ref a2, .ref a3])), (a1, .inl (cB, 32, .inl (rc_4 (fun _ => 0) 16 0 0 0 0)))] := hD
  rw [rn_z4] at hP hD
  have hP : va_P D vwCl [(a2, .inl (cB, 16, .inl (fun _ => 0))), (a3, .inl (cB, 16, .inl (fun _ => 0))), (q0, .inr (0, [.ref a1, .ref a2, .ref a3])), (a1, .inl (cB, 32, .inl (fun _ => 0)))] H := hP
  have hD : va_D A [(a2, .inl (cB, 16, .inl (fun _ => 0))), (a3, .inl (cB, 16, .inl (fun _ => 0))), (q0, .inr (0, [.ref a1, .ref a2, .ref a3])), (a1, .inl (cB, 32, .inl (fun _ => 0)))] := hD
  refine lv_aload_n hx hb dX0_known_196 rfl (lv_at hl 0 rfl) ?_
  refine lv_iconst (v := 0) hx hb dX0_known_197 (by decide) ?_
  refine lv_iconst (v := 0) hx hb dX0_known_198 (by decide) ?_
  refine lv_iconst (v := 0) hx hb dX0_known_199 (by decide) ?_
  refine lv_iconst (v := 0) hx hb dX0_known_200 (by decide) ?_
  refine rc_cv (wr := [(a3, .inl (cB, 16, .inl (fun _ => 0))), (a1, .inl (cB, 32, .inl (fun _ => 0)))]) [2, 0] [1, 3] (va_runV (As := [.int 0, .int 0, .int 0, .int 0]) (rest := []) ⟨hx, hb, hml, hown, hts⟩ (met_X1_block l D cB cI q0 a1 a2 a3 H.size 0 0 0 0 (fun _ => 0)) (cwV 4 hts (lw_V q285 q286 q287 q10 q288) rfl rfl rfl (by decide +kernel) ⟨Nat.le_of_ble_eq_true rfl, Nat.le_of_ble_eq_true rfl⟩) (rc_pv (va_recv hK hP (ci := 0) (q0 := 2) rfl rfl) (hP.sub [2, 0] rfl) hK (hD.sub [2, 0] (by decide) rfl) hX) rfl rfl hl.1 rfl (lv_room (Nat.le_of_ble_eq_true rfl)) dX0_known_201 ⟨Nat.le_of_ble_eq_true rfl, Nat.le_of_ble_eq_true rfl⟩) hP hD hS hA rfl rfl (by decide) (by decide) (fun _u H locs _hp hP hD hS => ?_)
  have hP : va_P D vwCl [(a3, .inl (cB, 16, .inl (fun _ => 0))), (a1, .inl (cB, 32, .inl (fun _ => 0))), (q0, .inr (0, [.ref a1, .ref a2, .ref a3])), (a2, .inl (cB, 16, .inl (rc_4 (fun _ => 0) 0 0 0 0 0)))] H := hP
  have hD : va_D A [(a3, .inl (cB, 16, .inl (fun _ => 0))), (a1, .inl (cB, 32, .inl (fun _ => 0))), (q0, .inr (0, [.ref a1, .ref a2, .ref a3])), (a2, .inl (cB, 16, .inl (rc_4 (fun _ => 0) 0 0 0 0 0)))] := hD
  rw [rn_z4] at hP hD
  have hP : va_P D vwCl [(a3, .inl (cB, 16, .inl (fun _ => 0))), (a1, .inl (cB, 32, .inl (fun _ => 0))), (q0, .inr (0, [.ref a1, .ref a2, .ref a3])), (a2, .inl (cB, 16, .inl (fun _ => 0)))] H := hP
  have hD : va_D A [(a3, .inl (cB, 16, .inl (fun _ => 0))), (a1, .inl (cB, 32, .inl (fun _ => 0))), (q0, .inr (0, [.ref a1, .ref a2, .ref a3])), (a2, .inl (cB, 16, .inl (fun _ => 0)))] := hD
  refine lv_aload_n hx hb dX0_known_204 rfl (lv_at hl 0 rfl) ?_
  refine lv_iconst (v := 1) hx hb dX0_known_205 (by decide) ?_
  refine rc_cv (wr := []) [2, 1, 3, 0] [] (va_runV (As := [.int 1]) (rest := []) ⟨hx, hb, hml, hown, hts⟩ (met_X1_lock l D cB cI q0 a1 a2 a3 H.size 1 6 (by omega) (by omega) (fun _ => 0) (fun _ => 0) (fun _ => 0)) (cwV 1 hts (lw_V q22 q23 q24 q10 q25) rfl rfl rfl (by decide +kernel) ⟨Nat.le_of_ble_eq_true rfl, Nat.le_of_ble_eq_true rfl⟩) (rc_pv (va_recv hK hP (ci := 0) (q0 := 2) rfl rfl) (hP.sub [2, 1, 3, 0] rfl) hK (hD.sub [2, 1, 3, 0] (by decide) rfl) hX) rfl rfl hl.1 rfl (lv_room (Nat.le_of_ble_eq_true rfl)) dX0_known_206 ⟨Nat.le_of_ble_eq_true rfl, Nat.le_of_ble_eq_true rfl⟩) hP hD hS hA rfl rfl (by decide) (by decide) (fun _u H locs _hp hP hD hS => ?_)
  have hP : va_P D vwCl [(q0, .inr (0, [.ref a1, .ref a2, .ref a3])), (a1, .inl (cB, 32, .inl (fun _ => 0))), (a2, .inl (cB, 16, .inl (fun _ => 0))), (a3, .inl (cB, 16, .inl (rc_cry true 6 (fun _ => 0) (fun _ => 0) (fun _ => 0))))] H := hP
  have hD : va_D A [(q0, .inr (0, [.ref a1, .ref a2, .ref a3])), (a1, .inl (cB, 32, .inl (fun _ => 0))), (a2, .inl (cB, 16, .inl (fun _ => 0))), (a3, .inl (cB, 16, .inl (rc_cry true 6 (fun _ => 0) (fun _ => 0) (fun _ => 0))))] := hD
  refine lv_bipush (v := 16) hx hb dX0_known_209 (by decide) ?_
  refine rc_nwi hx hb (hts _ q191) hK hP hD hS hA 16 rfl (by omega) (Nat.le_of_ble_eq_true rfl) (Nat.le_of_ble_eq_true rfl) dX0_known_211 (fun xa H hP hD hS => ?_)
  have hP : va_P D vwCl [(q0, .inr (0, [.ref a1, .ref a2, .ref a3])), (a1, .inl (cB, 32, .inl (fun _ => 0))), (a2, .inl (cB, 16, .inl (fun _ => 0))), (a3, .inl (cB, 16, .inl (rc_cry true 6 (fun _ => 0) (fun _ => 0) (fun _ => 0)))), (xa, .inl (cI, 16, .inl (fun _ => 0)))] H := hP
  have hD : va_D A [(q0, .inr (0, [.ref a1, .ref a2, .ref a3])), (a1, .inl (cB, 32, .inl (fun _ => 0))), (a2, .inl (cB, 16, .inl (fun _ => 0))), (a3, .inl (cB, 16, .inl (rc_cry true 6 (fun _ => 0) (fun _ => 0) (fun _ => 0)))), (xa, .inl (cI, 16, .inl (fun _ => 0)))] := hD
  refine lv_dup hx hb dX0_known_213 rfl ?_
  refine lv_iconst (v := 0) hx hb dX0_known_214 (by decide) ?_
  refine lv_bipush (v := 108) hx hb dX0_known_215 (by decide) ?_
  refine rc_sti hx hb hK hP hD hS 4 1 rfl rfl 0 rfl (by omega) (by omega) (rc_fill rc_l24 1) (by rw [rc_fill_0 rc_l24]; exact rc_fill_s rc_l24 0 rfl) [(q0, .inr (0, [.ref a1, .ref a2, .ref a3])), (a1, .inl (cB, 32, .inl (fun _ => 0))), (a2, .inl (cB, 16, .inl (fun _ => 0))), (a3, .inl (cB, 16, .inl (rc_cry true 6 (fun _ => 0) (fun _ => 0) (fun _ => 0)))), (xa, .inl (cI, 16, .inl (rc_fill rc_l24 1)))] rfl dX0_known_217 (fun H locs hP hD hS => ?_)
  refine lv_dup hx hb dX0_known_218 rfl ?_
  refine lv_iconst (v := 1) hx hb dX0_known_219 (by decide) ?_
  refine lv_sipush (v := 214) hx hb dX0_known_220 (by decide) ?_
  refine rc_sti hx hb hK hP hD hS 4 1 rfl rfl 1 rfl (by omega) (by omega) (rc_fill rc_l24 2) (rc_fill_s rc_l24 1 rfl) [(q0, .inr (0, [.ref a1, .ref a2, .ref a3])), (a1, .inl (cB, 32, .inl (fun _ => 0))), (a2, .inl (cB, 16, .inl (fun _ => 0))), (a3, .inl (cB, 16, .inl (rc_cry true 6 (fun _ => 0) (fun _ => 0) (fun _ => 0)))), (xa, .inl (cI, 16, .inl (rc_fill rc_l24 2)))] rfl dX0_known_223 (fun H locs hP hD hS => ?_)
  refine lv_dup hx hb dX0_known_224 rfl ?_
  refine lv_iconst (v := 2) hx hb dX0_known_225 (by decide) ?_
  refine lv_bipush (v := 27) hx hb dX0_known_226 (by decide) ?_
  refine rc_sti hx hb hK hP hD hS 4 1 rfl rfl 2 rfl (by omega) (by omega) (rc_fill rc_l24 3) (rc_fill_s rc_l24 2 rfl) [(q0, .inr (0, [.ref a1, .ref a2, .ref a3])), (a1, .inl (cB, 32, .inl (fun _ => 0))), (a2, .inl (cB, 16, .inl (fun _ => 0))), (a3, .inl (cB, 16, .inl (rc_cry true 6 (fun _ => 0) (fun _ => 0) (fun _ => 0)))), (xa, .inl (cI, 16, .inl (rc_fill rc_l24 3)))] rfl dX0_known_228 (fun H locs hP hD hS => ?_)
  refine lv_dup hx hb dX0_known_229 rfl ?_
  refine lv_iconst (v := 3) hx hb dX0_known_230 (by decide) ?_
  refine lv_sipush (v := 203) hx hb dX0_known_231 (by decide) ?_
  refine rc_sti hx hb hK hP hD hS 4 1 rfl rfl 3 rfl (by omega) (by omega) (rc_fill rc_l24 4) (rc_fill_s rc_l24 3 rfl) [(q0, .inr (0, [.ref a1, .ref a2, .ref a3])), (a1, .inl (cB, 32, .inl (fun _ => 0))), (a2, .inl (cB, 16, .inl (fun _ => 0))), (a3, .inl (cB, 16, .inl (rc_cry true 6 (fun _ => 0) (fun _ => 0) (fun _ => 0)))), (xa, .inl (cI, 16, .inl (rc_fill rc_l24 4)))] rfl dX0_known_234 (fun H locs hP hD hS => ?_)
  refine lv_dup hx hb dX0_known_235 rfl ?_
  refine lv_iconst (v := 4) hx hb dX0_known_236 (by decide) ?_
  refine lv_bipush (v := 25) hx hb dX0_known_237 (by decide) ?_
  refine rc_sti hx hb hK hP hD hS 4 1 rfl rfl 4 rfl (by omega) (by omega) (rc_fill rc_l24 5) (rc_fill_s rc_l24 4 rfl) [(q0, .inr (0, [.ref a1, .ref a2, .ref a3])), (a1, .inl (cB, 32, .inl (fun _ => 0))), (a2, .inl (cB, 16, .inl (fun _ => 0))), (a3, .inl (cB, 16, .inl (rc_cry true 6 (fun _ => 0) (fun _ => 0) (fun _ => 0)))), (xa, .inl (cI, 16, .inl (rc_fill rc_l24 5)))] rfl dX0_known_239 (fun H locs hP hD hS => ?_)
  refine lv_dup hx hb dX0_known_240 rfl ?_
  refine lv_iconst (v := 5) hx hb dX0_known_241 (by decide) ?_
  refine lv_bipush (v := 11) hx hb dX0_known_242 (by decide) ?_
  refine rc_sti hx hb hK hP hD hS 4 1 rfl rfl 5 rfl (by omega) (by omega) (rc_fill rc_l24 6) (rc_fill_s rc_l24 5 rfl) [(q0, .inr (0, [.ref a1, .ref a2, .ref a3])), (a1, .inl (cB, 32, .inl (fun _ => 0))), (a2, .inl (cB, 16, .inl (fun _ => 0))), (a3, .inl (cB, 16, .inl (rc_cry true 6 (fun _ => 0) (fun _ => 0) (fun _ => 0)))), (xa, .inl (cI, 16, .inl (rc_fill rc_l24 6)))] rfl dX0_known_244 (fun H locs hP hD hS => ?_)
  refine lv_dup hx hb dX0_known_245 rfl ?_
  refine lv_bipush (v := 6) hx hb dX0_known_246 (by decide) ?_
  refine lv_bipush (v := 48) hx hb dX0_known_248 (by decide) ?_
  refine rc_sti hx hb hK hP hD hS 4 1 rfl rfl 6 rfl (by omega) (by omega) (rc_fill rc_l24 7) (rc_fill_s rc_l24 6 rfl) [(q0, .inr (0, [.ref a1, .ref a2, .ref a3])), (a1, .inl (cB, 32, .inl (fun _ => 0))), (a2, .inl (cB, 16, .inl (fun _ => 0))), (a3, .inl (cB, 16, .inl (rc_cry true 6 (fun _ => 0) (fun _ => 0) (fun _ => 0)))), (xa, .inl (cI, 16, .inl (rc_fill rc_l24 7)))] rfl dX0_known_250 (fun H locs hP hD hS => ?_)
  refine lv_dup hx hb dX0_known_251 rfl ?_
  refine lv_bipush (v := 7) hx hb dX0_known_252 (by decide) ?_
  refine lv_bipush (v := 56) hx hb dX0_known_254 (by decide) ?_
  refine rc_sti hx hb hK hP hD hS 4 1 rfl rfl 7 rfl (by omega) (by omega) (rc_fill rc_l24 8) (rc_fill_s rc_l24 7 rfl) [(q0, .inr (0, [.ref a1, .ref a2, .ref a3])), (a1, .inl (cB, 32, .inl (fun _ => 0))), (a2, .inl (cB, 16, .inl (fun _ => 0))), (a3, .inl (cB, 16, .inl (rc_cry true 6 (fun _ => 0) (fun _ => 0) (fun _ => 0)))), (xa, .inl (cI, 16, .inl (rc_fill rc_l24 8)))] rfl dX0_known_256 (fun H locs hP hD hS => ?_)
  refine lv_dup hx hb dX0_known_257 rfl ?_
  refine lv_bipush (v := 8) hx hb dX0_known_258 (by decide) ?_
  refine lv_bipush (v := 78) hx hb dX0_known_260 (by decide) ?_
  refine rc_sti hx hb hK hP hD hS 4 1 rfl rfl 8 rfl (by omega) (by omega) (rc_fill rc_l24 9) (rc_fill_s rc_l24 8 rfl) [(q0, .inr (0, [.ref a1, .ref a2, .ref a3])), (a1, .inl (cB, 32, .inl (fun _ => 0))), (a2, .inl (cB, 16, .inl (fun _ => 0))), (a3, .inl (cB, 16, .inl (rc_cry true 6 (fun _ => 0) (fun _ => 0) (fun _ => 0)))), (xa, .inl (cI, 16, .inl (rc_fill rc_l24 9)))] rfl dX0_known_262 (fun H locs hP hD hS => ?_)
  refine lv_dup hx hb dX0_known_263 rfl ?_
  refine lv_bipush (v := 9) hx hb dX0_known_264 (by decide) ?_
  refine lv_sipush (v := 138) hx hb dX0_known_266 (by decide) ?_
  refine rc_sti hx hb hK hP hD hS 4 1 rfl rfl 9 rfl (by omega) (by omega) (rc_fill rc_l24 10) (rc_fill_s rc_l24 9 rfl) [(q0, .inr (0, [.ref a1, .ref a2, .ref a3])), (a1, .inl (cB, 32, .inl (fun _ => 0))), (a2, .inl (cB, 16, .inl (fun _ => 0))), (a3, .inl (cB, 16, .inl (rc_cry true 6 (fun _ => 0) (fun _ => 0) (fun _ => 0)))), (xa, .inl (cI, 16, .inl (rc_fill rc_l24 10)))] rfl dX0_known_269 (fun H locs hP hD hS => ?_)
  refine lv_dup hx hb dX0_known_270 rfl ?_
  refine lv_bipush (v := 10) hx hb dX0_known_271 (by decide) ?_
  refine lv_bipush (v := 63) hx hb dX0_known_273 (by decide) ?_
  refine rc_sti hx hb hK hP hD hS 4 1 rfl rfl 10 rfl (by omega) (by omega) (rc_fill rc_l24 11) (rc_fill_s rc_l24 10 rfl) [(q0, .inr (0, [.ref a1, .ref a2, .ref a3])), (a1, .inl (cB, 32, .inl (fun _ => 0))), (a2, .inl (cB, 16, .inl (fun _ => 0))), (a3, .inl (cB, 16, .inl (rc_cry true 6 (fun _ => 0) (fun _ => 0) (fun _ => 0)))), (xa, .inl (cI, 16, .inl (rc_fill rc_l24 11)))] rfl dX0_known_275 (fun H locs hP hD hS => ?_)
  refine lv_dup hx hb dX0_known_276 rfl ?_
  refine lv_bipush (v := 11) hx hb dX0_known_277 (by decide) ?_
  refine lv_bipush (v := 22) hx hb dX0_known_279 (by decide) ?_
  refine rc_sti hx hb hK hP hD hS 4 1 rfl rfl 11 rfl (by omega) (by omega) (rc_fill rc_l24 12) (rc_fill_s rc_l24 11 rfl) [(q0, .inr (0, [.ref a1, .ref a2, .ref a3])), (a1, .inl (cB, 32, .inl (fun _ => 0))), (a2, .inl (cB, 16, .inl (fun _ => 0))), (a3, .inl (cB, 16, .inl (rc_cry true 6 (fun _ => 0) (fun _ => 0) (fun _ => 0)))), (xa, .inl (cI, 16, .inl (rc_fill rc_l24 12)))] rfl dX0_known_281 (fun H locs hP hD hS => ?_)
  refine lv_dup hx hb dX0_known_282 rfl ?_
  refine lv_bipush (v := 12) hx hb dX0_known_283 (by decide) ?_
  refine lv_sipush (v := 134) hx hb dX0_known_285 (by decide) ?_
  refine rc_sti hx hb hK hP hD hS 4 1 rfl rfl 12 rfl (by omega) (by omega) (rc_fill rc_l24 13) (rc_fill_s rc_l24 12 rfl) [(q0, .inr (0, [.ref a1, .ref a2, .ref a3])), (a1, .inl (cB, 32, .inl (fun _ => 0))), (a2, .inl (cB, 16, .inl (fun _ => 0))), (a3, .inl (cB, 16, .inl (rc_cry true 6 (fun _ => 0) (fun _ => 0) (fun _ => 0)))), (xa, .inl (cI, 16, .inl (rc_fill rc_l24 13)))] rfl dX0_known_288 (fun H locs hP hD hS => ?_)
  refine lv_dup hx hb dX0_known_289 rfl ?_
  refine lv_bipush (v := 13) hx hb dX0_known_290 (by decide) ?_
  refine lv_sipush (v := 144) hx hb dX0_known_292 (by decide) ?_
  refine rc_sti hx hb hK hP hD hS 4 1 rfl rfl 13 rfl (by omega) (by omega) (rc_fill rc_l24 14) (rc_fill_s rc_l24 13 rfl) [(q0, .inr (0, [.ref a1, .ref a2, .ref a3])), (a1, .inl (cB, 32, .inl (fun _ => 0))), (a2, .inl (cB, 16, .inl (fun _ => 0))), (a3, .inl (cB, 16, .inl (rc_cry true 6 (fun _ => 0) (fun _ => 0) (fun _ => 0)))), (xa, .inl (cI, 16, .inl (rc_fill rc_l24 14)))] rfl dX0_known_295 (fun H locs hP hD hS => ?_)
  refine lv_dup hx hb dX0_known_296 rfl ?_
  refine lv_bipush (v := 14) hx hb dX0_known_297 (by decide) ?_
  refine lv_sipush (v := 174) hx hb dX0_known_299 (by decide) ?_
  refine rc_sti hx hb hK hP hD hS 4 1 rfl rfl 14 rfl (by omega) (by omega) (rc_fill rc_l24 15) (rc_fill_s rc_l24 14 rfl) [(q0, .inr (0, [.ref a1, .ref a2, .ref a3])), (a1, .inl (cB, 32, .inl (fun _ => 0))), (a2, .inl (cB, 16, .inl (fun _ => 0))), (a3, .inl (cB, 16, .inl (rc_cry true 6 (fun _ => 0) (fun _ => 0) (fun _ => 0)))), (xa, .inl (cI, 16, .inl (rc_fill rc_l24 15)))] rfl dX0_known_302 (fun H locs hP hD hS => ?_)
  refine lv_dup hx hb dX0_known_303 rfl ?_
  refine lv_bipush (v := 15) hx hb dX0_known_304 (by decide) ?_
  refine lv_sipush (v := 130) hx hb dX0_known_306 (by decide) ?_
  refine rc_sti hx hb hK hP hD hS 4 1 rfl rfl 15 rfl (by omega) (by omega) (rc_fill rc_l24 16) (rc_fill_s rc_l24 15 rfl) [(q0, .inr (0, [.ref a1, .ref a2, .ref a3])), (a1, .inl (cB, 32, .inl (fun _ => 0))), (a2, .inl (cB, 16, .inl (fun _ => 0))), (a3, .inl (cB, 16, .inl (rc_cry true 6 (fun _ => 0) (fun _ => 0) (fun _ => 0)))), (xa, .inl (cI, 16, .inl (rc_fill rc_l24 16)))] rfl dX0_known_309 (fun H locs hP hD hS => ?_)
  refine lv_astore_n (lv' := [(3, .ref xa), (2, .ref q0)]) hx hb dX0_known_310 rfl hl (by decide) rfl (fun ls hl => ?_)
  refine lv_iconst (v := 0) hx hb dX0_known_311 (by decide) ?_
  refine lv_istore (lv' := [(4, .int 0), (3, .ref xa), (2, .ref q0)]) hx hb dX0_known_312 hl (by decide) rfl (fun ls hl => ?_)
  refine seg_kl1 q0 a1 a2 a3 xa ⟨hx, hb, hml, hown, hts⟩ hK hX (hP.sub [0, 3, 4] rfl) (hD.sub [0, 3, 4] (by decide) rfl) (fun ls hl => ?_) 16 0 rfl ls (lv_sub hl [2, 1, 0] rfl)
  exact kend H _ ls (hP.sub [] rfl) (hD.sub [] (by decide) rfl) hS hl

set_option maxHeartbeats 4000000 in
set_option maxRecDepth 100000 in
/-- known: the comparing loop of its part 2 -/
theorem seg_kl2 {p : Program} {l : Launch} {e : Env} {s : State} {m : MethodId} {args : Array Value} {below : List Frame} {meth : Method} {c : Code} {Q : State → Prop} {D : va_G} {cB cI : ClassId} {A : Nat → Prop} {H : Heap} {locs : List Loc} (q0 a1 a2 a3 xa : Nat) (F : CallFix p m c cX0_known 7 s args lw_all RX0) (hK : va_K D vwCl (rc_T cB cI) s) (hX : rc_X s) (hP : va_P D vwCl [(q0, .inr (0, [.ref a1, .ref a2, .ref a3])), (a3, .inl (cB, 16, .inl (rc_cry true 8 (fun _ => 0) (fun _ => 0) (fun _ => 0)))), (xa, .inl (cI, 16, .inl (rc_fill rc_l32 16)))] H) (hD : va_D A [(q0, .inr (0, [.ref a1, .ref a2, .ref a3])), (a3, .inl (cB, 16, .inl (rc_cry true 8 (fun _ => 0) (fun _ => 0) (fun _ => 0)))), (xa, .inl (cI, 16, .inl (rc_fill rc_l32 16)))]) (kend : ∀ ls : Array Slot, lv_has ls 7 [] → W p l e ({ frames := 6, cells := 33, slots := 606, locals := 150 }) s m args below meth c H locs 33 606 Q (F0 m 523 ls [])) : ∀ (r i : Nat), i + r = 16 → ∀ ls : Array Slot, lv_has ls 7 [(4, .ref q0), (5, .ref xa), (6, .int (nI i))] → W p l e ({ frames := 6, cells := 33, slots := 606, locals := 150 }) s m args below meth c H locs 33 606 Q (F0 m 493 ls []) := by
  obtain ⟨hx, hb, hml, hown, hts⟩ := id F
  intro r
  induction r with
  | zero =>
    intro i hi ls hl
    obtain rfl : i = 16 := by omega
    refine lv_iload hx hb dX0_known_493 (lv_at hl 2 rfl) ?_
    refine lv_bipush (v := 16) hx hb dX0_known_495 (by decide) ?_
    refine lv_icmp_ge (tgt := 523) hx hb dX0_known_497 (by decide) (fun _ => ?_) (fun c_ => absurd (by decide) c_)
    exact kend ls (lv_sub hl [] rfl)
  | succ r ih =>
    intro i hi ls hl
    refine lv_iload hx hb dX0_known_493 (lv_at hl 2 rfl) ?_
    refine lv_bipush (v := 16) hx hb dX0_known_495 (by decide) ?_
    refine lv_icmp_ge (tgt := 523) hx hb dX0_known_497 (by decide) (fun c_ => absurd c_ (nI_ge (a := i) (b := 16) (by omega) (by omega))) (fun _ => ?_)
    refine lv_aload hx hb dX0_known_500 (lv_at hl 0 rfl) ?_
    refine lv_iload hx hb dX0_known_502 (lv_at hl 2 rfl) ?_
    refine vp_callSi (W.runV (As := [.int (nI i)]) (rest := []) ⟨hx, hb, hml, hown, hts⟩ (met_X1_out l D cB cI q0 a1 a2 a3 H.size i (rc_cry true 8 (fun _ => 0) (fun _ => 0) (fun _ => 0)) (by omega)) (cwV 1 hts (lw_V q292 q293 q294 q10 q295) rfl rfl rfl (by decide +kernel) ⟨Nat.le_of_ble_eq_true rfl, Nat.le_of_ble_eq_true rfl⟩) (rc_pv (va_recv hK hP (ci := 0) (q0 := 0) rfl rfl) (hP.sub [0, 1] rfl) hK (hD.sub [0, 1] (by decide) rfl) hX) rfl rfl hl.1 rfl (lv_room (Nat.le_of_ble_eq_true rfl)) dX0_known_504 ⟨Nat.le_of_ble_eq_true rfl, Nat.le_of_ble_eq_true rfl⟩) (fun r_1 er_1 => ?_)
    have er_1 := er_1.symm
    subst er_1
    refine lv_aload hx hb dX0_known_507 (lv_at hl 1 rfl) ?_
    refine lv_iload hx hb dX0_known_509 (lv_at hl 2 rfl) ?_
    refine rc_ldi hx hb hK hP 2 1 rfl rfl i rfl (by omega) (by omega) ((rc_fill rc_l32 16) i) rfl dX0_known_511 ?_
    refine lv_icmp_eq (tgt := 517) hx hb dX0_known_512 (by decide) (fun _ => ?_) (fun c_ => absurd (rc_known_32 (fun _ => 0) (show i < 16 by omega)) c_)
    refine lv_iinc (v := nI (i + 1)) (lv' := [(6, .int (nI (i + 1))), (4, .ref q0), (5, .ref xa)]) hx hb dX0_known_517 hl (k := 2) rfl (nI_1 i) (by decide) rfl (fun ls hl => ?_)
    refine lv_goto (tgt := 493) hx hb dX0_known_520 (by decide) ?_
    exact ih (i + 1) (by omega) ls (lv_sub hl [1, 2, 0] rfl)

set_option maxHeartbeats 4000000 in
set_option maxRecDepth 100000 in
/-- known: its part 2 -/
theorem seg_kn2 {p : Program} {l : Launch} {e : Env} {s : State} {m : MethodId} {args : Array Value} {below : List Frame} {meth : Method} {c : Code} {Q : State → Prop} {D : va_G} {cB cI : ClassId} {A : Nat → Prop} {H0 : Heap} (F : CallFix p m c cX0_known 7 s args lw_all RX0) (hK : va_K D vwCl (rc_T cB cI) s) (hX : rc_X s) (hA : ∀ q, H0.size ≤ q → A q) (kend : ∀ (H : Heap) (locs : List Loc) (ls : Array Slot), va_P D vwCl [] H → va_D A [] → va_S A H0 H locs → lv_has ls 7 [] → W p l e ({ frames := 6, cells := 33, slots := 606, locals := 150 }) s m args below meth c H locs 33 606 Q (F0 m 523 ls [])) (H : Heap) (locs : List Loc) (ls : Array Slot) (hP : va_P D vwCl [] H) (hD : va_D A []) (hS : va_S A H0 H locs) (hl : lv_has ls 7 []) : W p l e ({ frames := 6, cells := 33, slots := 606, locals := 150 }) s m args below meth c H locs 22 404 Q (F0 m 342 ls []) := by
  obtain ⟨hx, hb, hml, hown, hts⟩ := id F
  refine va_new (ci := 0) (fs := [.null, .null, .null]) (C := RX1) (T := TX1) (N := 3) hx hb hts in_X1 tyX1 tyX1_ok hown (hts _ q260) (hts _ q29) (hts _ q10) hK hP hD hS hA rfl (fun j hj => by rcases (show j = 0 ∨ j = 1 ∨ j = 2 by omega) with rfl | rfl | rfl <;> rfl) (Nat.le_of_ble_eq_true rfl) (Nat.le_of_ble_eq_true rfl) dX0_known_342 (fun q0 H hP hD hS => ?_)
  have hP : va_P D vwCl [(q0, .inr (0, [.null, .null, .null]))] H := hP
  have hD : va_D A [(q0, .inr (0, [.null, .null, .null]))] := hD
  refine lv_dup hx hb dX0_known_345 rfl ?_
  refine rc_cv (wr := []) [0] [] (va_runI (As := []) (rest := [.ref q0]) ⟨hx, hb, hml, hown, hts⟩ (met_X1_init l D cB cI q0 H.size) (cwI 0 hts (lw_meth q263) rfl rfl rfl (hts _ q10) (hts _ q261) (hts _ q262) rfl (by decide +kernel) ⟨Nat.le_of_ble_eq_true rfl, Nat.le_of_ble_eq_true rfl⟩) (rc_ps (hP.sub [0] rfl) hK (hD.sub [0] (by decide) rfl) hX) rfl rfl hl.1 rfl (lv_room (Nat.le_of_ble_eq_true rfl)) dX0_known_346 ⟨Nat.le_of_ble_eq_true rfl, Nat.le_of_ble_eq_true rfl⟩) hP hD hS hA rfl rfl (by decide) (by decide) (fun ⟨a1, a2, a3⟩ H locs _hp hP hD hS => ?_)
  have hP : va_P D vwCl [(q0, .inr (0, [.ref a1, .ref a2, .ref a3])), (a1, .inl (cB, 32, .inl (fun _ => 0))), (a2, .inl (cB, 16, .inl (fun _ => 0))), (a3, .inl (cB, 16, .inl (fun _ => 0)))] H := hP
  have hD : va_D A [(q0, .inr (0, [.ref a1, .ref a2, .ref a3])), (a1, .inl (cB, 32, .inl (fun _ => 0))), (a2, .inl (cB, 16, .inl (fun _ => 0))), (a3, .inl (cB, 16, .inl (fun _ => 0)))] := hD
  refine lv_astore (lv' := [(4, .ref q0)]) hx hb dX0_known_349 hl (by decide) rfl (fun ls hl => ?_)
  refine lv_aload hx hb dX0_known_351 (lv_at hl 0 rfl) ?_
  refine lv_iconst (v := 0) hx hb dX0_known_353 (by decide) ?_
  refine lv_iconst (v := 0) hx hb dX0_known_354 (by decide) ?_
  refine lv_iconst (v := 0) hx hb dX0_known_355 (by decide) ?_
  refine lv_iconst (v := 0) hx hb dX0_known_356 (by decide) ?_
  refine lv_iconst (v := 0) hx hb dX0_known_357 (by decide) ?_
  refine rc_cv (wr := [(a2, .inl (cB, 16, .inl (fun _ => 0))), (a3, .inl (cB, 16, .inl (fun _ => 0)))]) [0, 1] [2, 3] (va_runV (As := [.int 0, .int 0, .int 0, .int 0, .int 0]) (rest := []) ⟨hx, hb, hml, hown, hts⟩ (met_X1_key l D cB cI q0 a1 a2 a3 H.size 0 0 0 0 0 0 (fun _ => 0) (by decide) (by omega)) (cwV 5 hts (lw_V q278 q279 q280 q10 q281) rfl rfl rfl (by decide +kernel) ⟨Nat.le_of_ble_eq_true rfl, Nat.le_of_ble_eq_true rfl⟩) (rc_pv (va_recv hK hP (ci := 0) (q0 := 0) rfl rfl) (hP.sub [0, 1] rfl) hK (hD.sub [0, 1] (by decide) rfl) hX) rfl rfl hl.1 rfl (lv_room (Nat.le_of_ble_eq_true rfl)) dX0_known_358 ⟨Nat.le_of_ble_eq_true rfl, Nat.le_of_ble_eq_true rfl⟩) hP hD hS hA rfl rfl (by decide) (by decide) (fun _u H locs _hp hP hD hS => ?_)
  have hP : va_P D vwCl [(a2, .inl (cB, 16, .inl (fun _ => 0))), (a3, .inl (cB, 16, .inl (fun _ => 0))), (q0, .inr (0, [.ref a1, .ref a2, .ref a3])), (a1, .inl (cB, 32, .inl (rc_4 (fun _ => 0) 0 0 0 0 0)))] H := hP
  have hD : va_D A [(a2, .inl (cB, 16, .inl (fun _ => 0))), (a3, .inl (cB, 16, .inl (fun _ => 0))), (q0, .inr (0, [.ref a1, .ref a2, .ref a3])), (a1, .inl (cB, 32, .inl (rc_4 (fun _ => 0) 0 0 0 0 0)))] := hD
  rw [rn_z4] at hP hD
  have hP : va_P D vwCl [(a2, .inl (cB, 16, .inl (fun _ => 0))), (a3, .inl (cB, 16, .inl (fun _ => 0))), (q0, .inr (0, [.ref a1, .ref a2, .ref a3])), (a1, .inl (cB, 32, .inl (fun _ => 0)))] H := hP
  have hD : va_D A [(a2, .inl (cB, 16, .inl (fun _ => 0))), (a3, .inl (cB, 16, .inl (fun _ => 0))), (q0, .inr (0, [.ref a1, .ref a2, .ref a3])), (a1, .inl (cB, 32, .inl (fun _ => 0)))] := hD
  refine lv_aload hx hb dX0_known_361 (lv_at hl 0 rfl) ?_
  refine lv_iconst (v := 1) hx hb dX0_known_363 (by decide) ?_
  refine lv_iconst (v := 0) hx hb dX0_known_364 (by decide) ?_
  refine lv_iconst (v := 0) hx hb dX0_known_365 (by decide) ?_
  refine lv_iconst (v := 0) hx hb dX0_known_366 (by decide) ?_
  refine lv_iconst (v := 0) hx hb dX0_known_367 (by decide) ?_
  refine rc_cv (wr := [(a2, .inl (cB, 16, .inl (fun _ => 0))), (a3, .inl (cB, 16, .inl (fun _ => 0)))]) [2, 3] [0, 1] (va_runV (As := [.int 1, .int 0, .int 0, .int 0, .int 0]) (rest := []) ⟨hx, hb, hml, hown, hts⟩ (met_X1_key l D cB cI q0 a1 a2 a3 H.size 16 1 0 0 0 0 (fun _ => 0) (by decide) (by omega)) (cwV 5 hts (lw_V q278 q279 q280 q10 q281) rfl rfl rfl (by decide +kernel) ⟨Nat.le_of_ble_eq_true rfl, Nat.le_of_ble_eq_true rfl⟩) (rc_pv (va_recv hK hP (ci := 0) (q0 := 2) rfl rfl) (hP.sub [2, 3] rfl) hK (hD.sub [2, 3] (by decide) rfl) hX) rfl rfl hl.1 rfl (lv_room (Nat.le_of_ble_eq_true rfl)) dX0_known_368 ⟨Nat.le_of_ble_eq_true rfl, Nat.le_of_ble_eq_true rfl⟩) hP hD hS hA rfl rfl (by decide) (by decide) (fun _u H locs _hp hP hD hS => ?_)
  have hP : va_P D vwCl [(a2, .inl (cB, 16, .inl (fun _ => 0))), (a3, .inl (cB, 16, .inl (fun _ => 0))), (q0, .inr (0, [.ref a1, .ref a2, .ref a3])), (a1, .inl (cB, 32, .inl (rc_4 (fun _ => 0) 16 0 0 0 0)))] H := hP
  have hD : va_D A [(a2, .inl (cB, 16, .inl (fun _ => 0))), (a3, .inl (cB, 16, .inl (fun _ => 0))), (q0, .inr (0, [.ref a1, .ref a2, .ref a3])), (a1, .inl (cB, 32, .inl (rc_4 (fun _ => 0) 16 0 0 0 0)))] := hD
  rw [rn_z4] at hP hD
  have hP : va_P D vwCl [(a2, .inl (cB, 16, .inl (fun _ => 0))), (a3, .inl (cB, 16, .inl (fun _ => 0))), (q0, .inr (0, [.ref a1, .ref a2, .ref a3])), (a1, .inl (cB, 32, .inl (fun _ => 0)))] H := hP
  have hD : va_D A [(a2, .inl (cB, 16, .inl (fun _ => 0))), (a3, .inl (cB, 16, .inl (fun _ => 0))), (q0, .inr (0, [.ref a1, .ref a2, .ref a3])), (a1, .inl (cB, 32, .inl (fun _ => 0)))] := hD
  refine lv_aload hx hb dX0_known_371 (lv_at hl 0 rfl) ?_
  refine lv_iconst (v := 0) hx hb dX0_known_373 (by decide) ?_
  refine lv_iconst (v := 0) hx hb dX0_known_374 (by decide) ?_
  refine lv_iconst (v := 0) hx hb dX0_known_375 (by decide) ?_
  refine lv_iconst (v := 0) hx hb dX0_known_376 (by decide) ?_
  refine rc_cv (wr := [(a3, .inl (cB, 16, .inl (fun _ => 0))), (a1, .inl (cB, 32, .inl (fun _ => 0)))]) [2, 0] [1, 3] (va_runV (As := [.int 0, .int 0, .int 0, .int 0]) (rest := []) ⟨hx, hb, hml, hown, hts⟩ (met_X1_block l D cB cI q0 a1 a2 a3 H.size 0 0 0 0 (fun _ => 0)) (cwV 4 hts (lw_V q285 q286 q287 q10 q288) rfl rfl rfl (by decide +kernel) ⟨Nat.le_of_ble_eq_true rfl, Nat.le_of_ble_eq_true rfl⟩) (rc_pv (va_recv hK hP (ci := 0) (q0 := 2) rfl rfl) (hP.sub [2, 0] rfl) hK (hD.sub [2, 0] (by decide) rfl) hX) rfl rfl hl.1 rfl (lv_room (Nat.le_of_ble_eq_true rfl)) dX0_known_377 ⟨Nat.le_of_ble_eq_true rfl, Nat.le_of_ble_eq_true rfl⟩) hP hD hS hA rfl rfl (by decide) (by decide) (fun _u H locs _hp hP hD hS => ?_)
  have hP : va_P D vwCl [(a3, .inl (cB, 16, .inl (fun _ => 0))), (a1, .inl (cB, 32, .inl (fun _ => 0))), (q0, .inr (0, [.ref a1, .ref a2, .ref a3])), (a2, .inl (cB, 16, .inl (rc_4 (fun _ => 0) 0 0 0 0 0)))] H := hP
  have hD : va_D A [(a3, .inl (cB, 16, .inl (fun _ => 0))), (a1, .inl (cB, 32, .inl (fun _ => 0))), (q0, .inr (0, [.ref a1, .ref a2, .ref a3])), (a2, .inl (cB, 16, .inl (rc_4 (fun _ => 0) 0 0 0 0 0)))] := hD
  rw [rn_z4] at hP hD
  have hP : va_P D vwCl [(a3, .inl (cB, 16, .inl (fun _ => 0))), (a1, .inl (cB, 32, .inl (fun _ => 0))), (q0, .inr (0, [.ref a1, .ref a2, .ref a3])), (a2, .inl (cB, 16, .inl (fun _ => 0)))] H := hP
  have hD : va_D A [(a3, .inl (cB, 16, .inl (fun _ => 0))), (a1, .inl (cB, 32, .inl (fun _ => 0))), (q0, .inr (0, [.ref a1, .ref a2, .ref a3])), (a2, .inl (cB, 16, .inl (fun _ => 0)))] := hD
  refine lv_aload hx hb dX0_known_380 (lv_at hl 0 rfl) ?_
  refine lv_iconst (v := 2) hx hb dX0_known_382 (by decide) ?_
  refine rc_cv (wr := []) [2, 1, 3, 0] [] (va_runV (As := [.int 2]) (rest := []) ⟨hx, hb, hml, hown, hts⟩ (met_X1_lock l D cB cI q0 a1 a2 a3 H.size 2 8 (by omega) (by omega) (fun _ => 0) (fun _ => 0) (fun _ => 0)) (cwV 1 hts (lw_V q22 q23 q24 q10 q25) rfl rfl rfl (by decide +kernel) ⟨Nat.le_of_ble_eq_true rfl, Nat.le_of_ble_eq_true rfl⟩) (rc_pv (va_recv hK hP (ci := 0) (q0 := 2) rfl rfl) (hP.sub [2, 1, 3, 0] rfl) hK (hD.sub [2, 1, 3, 0] (by decide) rfl) hX) rfl rfl hl.1 rfl (lv_room (Nat.le_of_ble_eq_true rfl)) dX0_known_383 ⟨Nat.le_of_ble_eq_true rfl, Nat.le_of_ble_eq_true rfl⟩) hP hD hS hA rfl rfl (by decide) (by decide) (fun _u H locs _hp hP hD hS => ?_)
  have hP : va_P D vwCl [(q0, .inr (0, [.ref a1, .ref a2, .ref a3])), (a1, .inl (cB, 32, .inl (fun _ => 0))), (a2, .inl (cB, 16, .inl (fun _ => 0))), (a3, .inl (cB, 16, .inl (rc_cry true 8 (fun _ => 0) (fun _ => 0) (fun _ => 0))))] H := hP
  have hD : va_D A [(q0, .inr (0, [.ref a1, .ref a2, .ref a3])), (a1, .inl (cB, 32, .inl (fun _ => 0))), (a2, .inl (cB, 16, .inl (fun _ => 0))), (a3, .inl (cB, 16, .inl (rc_cry true 8 (fun _ => 0) (fun _ => 0) (fun _ => 0))))] := hD
  refine lv_bipush (v := 16) hx hb dX0_known_386 (by decide) ?_
  refine rc_nwi hx hb (hts _ q191) hK hP hD hS hA 16 rfl (by omega) (Nat.le_of_ble_eq_true rfl) (Nat.le_of_ble_eq_true rfl) dX0_known_388 (fun xa H hP hD hS => ?_)
  have hP : va_P D vwCl [(q0, .inr (0, [.ref a1, .ref a2, .ref a3])), (a1, .inl (cB, 32, .inl (fun _ => 0))), (a2, .inl (cB, 16, .inl (fun _ => 0))), (a3, .inl (cB, 16, .inl (rc_cry true 8 (fun _ => 0) (fun _ => 0) (fun _ => 0)))), (xa, .inl (cI, 16, .inl (fun _ => 0)))] H := hP
  have hD : va_D A [(q0, .inr (0, [.ref a1, .ref a2, .ref a3])), (a1, .inl (cB, 32, .inl (fun _ => 0))), (a2, .inl (cB, 16, .inl (fun _ => 0))), (a3, .inl (cB, 16, .inl (rc_cry true 8 (fun _ => 0) (fun _ => 0) (fun _ => 0)))), (xa, .inl (cI, 16, .inl (fun _ => 0)))] := hD
  refine lv_dup hx hb dX0_known_390 rfl ?_
  refine lv_iconst (v := 0) hx hb dX0_known_391 (by decide) ?_
  refine lv_sipush (v := 143) hx hb dX0_known_392 (by decide) ?_
  refine rc_sti hx hb hK hP hD hS 4 1 rfl rfl 0 rfl (by omega) (by omega) (rc_fill rc_l32 1) (by rw [rc_fill_0 rc_l32]; exact rc_fill_s rc_l32 0 rfl) [(q0, .inr (0, [.ref a1, .ref a2, .ref a3])), (a1, .inl (cB, 32, .inl (fun _ => 0))), (a2, .inl (cB, 16, .inl (fun _ => 0))), (a3, .inl (cB, 16, .inl (rc_cry true 8 (fun _ => 0) (fun _ => 0) (fun _ => 0)))), (xa, .inl (cI, 16, .inl (rc_fill rc_l32 1)))] rfl dX0_known_395 (fun H locs hP hD hS => ?_)
  refine lv_dup hx hb dX0_known_396 rfl ?_
  refine lv_iconst (v := 1) hx hb dX0_known_397 (by decide) ?_
  refine lv_bipush (v := 95) hx hb dX0_known_398 (by decide) ?_
  refine rc_sti hx hb hK hP hD hS 4 1 rfl rfl 1 rfl (by omega) (by omega) (rc_fill rc_l32 2) (rc_fill_s rc_l32 1 rfl) [(q0, .inr (0, [.ref a1, .ref a2, .ref a3])), (a1, .inl (cB, 32, .inl (fun _ => 0))), (a2, .inl (cB, 16, .inl (fun _ => 0))), (a3, .inl (cB, 16, .inl (rc_cry true 8 (fun _ => 0) (fun _ => 0) (fun _ => 0)))), (xa, .inl (cI, 16, .inl (rc_fill rc_l32 2)))] rfl dX0_known_400 (fun H locs hP hD hS => ?_)
  refine lv_dup hx hb dX0_known_401 rfl ?_
  refine lv_iconst (v := 2) hx hb dX0_known_402 (by decide) ?_
  refine lv_sipush (v := 189) hx hb dX0_known_403 (by decide) ?_
  refine rc_sti hx hb hK hP hD hS 4 1 rfl rfl 2 rfl (by omega) (by omega) (rc_fill rc_l32 3) (rc_fill_s rc_l32 2 rfl) [(q0, .inr (0, [.ref a1, .ref a2, .ref a3])), (a1, .inl (cB, 32, .inl (fun _ => 0))), (a2, .inl (cB, 16, .inl (fun _ => 0))), (a3, .inl (cB, 16, .inl (rc_cry true 8 (fun _ => 0) (fun _ => 0) (fun _ => 0)))), (xa, .inl (cI, 16, .inl (rc_fill rc_l32 3)))] rfl dX0_known_406 (fun H locs hP hD hS => ?_)
  refine lv_dup hx hb dX0_known_407 rfl ?_
  refine lv_iconst (v := 3) hx hb dX0_known_408 (by decide) ?_
  refine lv_iconst (v := 5) hx hb dX0_known_409 (by decide) ?_
  refine rc_sti hx hb hK hP hD hS 4 1 rfl rfl 3 rfl (by omega) (by omega) (rc_fill rc_l32 4) (rc_fill_s rc_l32 3 rfl) [(q0, .inr (0, [.ref a1, .ref a2, .ref a3])), (a1, .inl (cB, 32, .inl (fun _ => 0))), (a2, .inl (cB, 16, .inl (fun _ => 0))), (a3, .inl (cB, 16, .inl (rc_cry true 8 (fun _ => 0) (fun _ => 0) (fun _ => 0)))), (xa, .inl (cI, 16, .inl (rc_fill rc_l32 4)))] rfl dX0_known_410 (fun H locs hP hD hS => ?_)
  refine lv_dup hx hb dX0_known_411 rfl ?_
  refine lv_iconst (v := 4) hx hb dX0_known_412 (by decide) ?_
  refine lv_bipush (v := 16) hx hb dX0_known_413 (by decide) ?_
  refine rc_sti hx hb hK hP hD hS 4 1 rfl rfl 4 rfl (by omega) (by omega) (rc_fill rc_l32 5) (rc_fill_s rc_l32 4 rfl) [(q0, .inr (0, [.ref a1, .ref a2, .ref a3])), (a1, .inl (cB, 32, .inl (fun _ => 0))), (a2, .inl (cB, 16, .inl (fun _ => 0))), (a3, .inl (cB, 16, .inl (rc_cry true 8 (fun _ => 0) (fun _ => 0) (fun _ => 0)))), (xa, .inl (cI, 16, .inl (rc_fill rc_l32 5)))] rfl dX0_known_415 (fun H locs hP hD hS => ?_)
  refine lv_dup hx hb dX0_known_416 rfl ?_
  refine lv_iconst (v := 5) hx hb dX0_known_417 (by decide) ?_
  refine lv_sipush (v := 209) hx hb dX0_known_418 (by decide) ?_
  refine rc_sti hx hb hK hP hD hS 4 1 rfl rfl 5 rfl (by omega) (by omega) (rc_fill rc_l32 6) (rc_fill_s rc_l32 5 rfl) [(q0, .inr (0, [.ref a1, .ref a2, .ref a3])), (a1, .inl (cB, 32, .inl (fun _ => 0))), (a2, .inl (cB, 16, .inl (fun _ => 0))), (a3, .inl (cB, 16, .inl (rc_cry true 8 (fun _ => 0) (fun _ => 0) (fun _ => 0)))), (xa, .inl (cI, 16, .inl (rc_fill rc_l32 6)))] rfl dX0_known_421 (fun H locs hP hD hS => ?_)
  refine lv_dup hx hb dX0_known_422 rfl ?_
  refine lv_bipush (v := 6) hx hb dX0_known_423 (by decide) ?_
  refine lv_bipush (v := 95) hx hb dX0_known_425 (by decide) ?_
  refine rc_sti hx hb hK hP hD hS 4 1 rfl rfl 6 rfl (by omega) (by omega) (rc_fill rc_l32 7) (rc_fill_s rc_l32 6 rfl) [(q0, .inr (0, [.ref a1, .ref a2, .ref a3])), (a1, .inl (cB, 32, .inl (fun _ => 0))), (a2, .inl (cB, 16, .inl (fun _ => 0))), (a3, .inl (cB, 16, .inl (rc_cry true 8 (fun _ => 0) (fun _ => 0) (fun _ => 0)))), (xa, .inl (cI, 16, .inl (rc_fill rc_l32 7)))] rfl dX0_known_427 (fun H locs hP hD hS => ?_)
  refine lv_dup hx hb dX0_known_428 rfl ?_
  refine lv_bipush (v := 7) hx hb dX0_known_429 (by decide) ?_
  refine lv_sipush (v := 168) hx hb dX0_known_431 (by decide) ?_
  refine rc_sti hx hb hK hP hD hS 4 1 rfl rfl 7 rfl (by omega) (by omega) (rc_fill rc_l32 8) (rc_fill_s rc_l32 7 rfl) [(q0, .inr (0, [.ref a1, .ref a2, .ref a3])), (a1, .inl (cB, 32, .inl (fun _ => 0))), (a2, .inl (cB, 16, .inl (fun _ => 0))), (a3, .inl (cB, 16, .inl (rc_cry true 8 (fun _ => 0) (fun _ => 0) (fun _ => 0)))), (xa, .inl (cI, 16, .inl (rc_fill rc_l32 8)))] rfl dX0_known_434 (fun H locs hP hD hS => ?_)
  refine lv_dup hx hb dX0_known_435 rfl ?_
  refine lv_bipush (v := 8) hx hb dX0_known_436 (by decide) ?_
  refine lv_sipush (v := 147) hx hb dX0_known_438 (by decide) ?_
  refine rc_sti hx hb hK hP hD hS 4 1 rfl rfl 8 rfl (by omega) (by omega) (rc_fill rc_l32 9) (rc_fill_s rc_l32 8 rfl) [(q0, .inr (0, [.ref a1, .ref a2, .ref a3])), (a1, .inl (cB, 32, .inl (fun _ => 0))), (a2, .inl (cB, 16, .inl (fun _ => 0))), (a3, .inl (cB, 16, .inl (rc_cry true 8 (fun _ => 0) (fun _ => 0) (fun _ => 0)))), (xa, .inl (cI, 16, .inl (rc_fill rc_l32 9)))] rfl dX0_known_441 (fun H locs hP hD hS => ?_)
  refine lv_dup hx hb dX0_known_442 rfl ?_
  refine lv_bipush (v := 9) hx hb dX0_known_443 (by decide) ?_
  refine lv_sipush (v := 250) hx hb dX0_known_445 (by decide) ?_
  refine rc_sti hx hb hK hP hD hS 4 1 rfl rfl 9 rfl (by omega) (by omega) (rc_fill rc_l32 10) (rc_fill_s rc_l32 9 rfl) [(q0, .inr (0, [.ref a1, .ref a2, .ref a3])), (a1, .inl (cB, 32, .inl (fun _ => 0))), (a2, .inl (cB, 16, .inl (fun _ => 0))), (a3, .inl (cB, 16, .inl (rc_cry true 8 (fun _ => 0) (fun _ => 0) (fun _ => 0)))), (xa, .inl (cI, 16, .inl (rc_fill rc_l32 10)))] rfl dX0_known_448 (fun H locs hP hD hS => ?_)
  refine lv_dup hx hb dX0_known_449 rfl ?_
  refine lv_bipush (v := 10) hx hb dX0_known_450 (by decide) ?_
  refine lv_bipush (v := 63) hx hb dX0_known_452 (by decide) ?_
  refine rc_sti hx hb hK hP hD hS 4 1 rfl rfl 10 rfl (by omega) (by omega) (rc_fill rc_l32 11) (rc_fill_s rc_l32 10 rfl) [(q0, .inr (0, [.ref a1, .ref a2, .ref a3])), (a1, .inl (cB, 32, .inl (fun _ => 0))), (a2, .inl (cB, 16, .inl (fun _ => 0))), (a3, .inl (cB, 16, .inl (rc_cry true 8 (fun _ => 0) (fun _ => 0) (fun _ => 0)))), (xa, .inl (cI, 16, .inl (rc_fill rc_l32 11)))] rfl dX0_known_454 (fun H locs hP hD hS => ?_)
  refine lv_dup hx hb dX0_known_455 rfl ?_
  refine lv_bipush (v := 11) hx hb dX0_known_456 (by decide) ?_
  refine lv_sipush (v := 218) hx hb dX0_known_458 (by decide) ?_
  refine rc_sti hx hb hK hP hD hS 4 1 rfl rfl 11 rfl (by omega) (by omega) (rc_fill rc_l32 12) (rc_fill_s rc_l32 11 rfl) [(q0, .inr (0, [.ref a1, .ref a2, .ref a3])), (a1, .inl (cB, 32, .inl (fun _ => 0))), (a2, .inl (cB, 16, .inl (fun _ => 0))), (a3, .inl (cB, 16, .inl (rc_cry true 8 (fun _ => 0) (fun _ => 0) (fun _ => 0)))), (xa, .inl (cI, 16, .inl (rc_fill rc_l32 12)))] rfl dX0_known_461 (fun H locs hP hD hS => ?_)
  refine lv_dup hx hb dX0_known_462 rfl ?_
  refine lv_bipush (v := 12) hx hb dX0_known_463 (by decide) ?_
  refine lv_bipush (v := 110) hx hb dX0_known_465 (by decide) ?_
  refine rc_sti hx hb hK hP hD hS 4 1 rfl rfl 12 rfl (by omega) (by omega) (rc_fill rc_l32 13) (rc_fill_s rc_l32 12 rfl) [(q0, .inr (0, [.ref a1, .ref a2, .ref a3])), (a1, .inl (cB, 32, .inl (fun _ => 0))), (a2, .inl (cB, 16, .inl (fun _ => 0))), (a3, .inl (cB, 16, .inl (rc_cry true 8 (fun _ => 0) (fun _ => 0) (fun _ => 0)))), (xa, .inl (cI, 16, .inl (rc_fill rc_l32 13)))] rfl dX0_known_467 (fun H locs hP hD hS => ?_)
  refine lv_dup hx hb dX0_known_468 rfl ?_
  refine lv_bipush (v := 13) hx hb dX0_known_469 (by decide) ?_
  refine lv_sipush (v := 133) hx hb dX0_known_471 (by decide) ?_
  refine rc_sti hx hb hK hP hD hS 4 1 rfl rfl 13 rfl (by omega) (by omega) (rc_fill rc_l32 14) (rc_fill_s rc_l32 13 rfl) [(q0, .inr (0, [.ref a1, .ref a2, .ref a3])), (a1, .inl (cB, 32, .inl (fun _ => 0))), (a2, .inl (cB, 16, .inl (fun _ => 0))), (a3, .inl (cB, 16, .inl (rc_cry true 8 (fun _ => 0) (fun _ => 0) (fun _ => 0)))), (xa, .inl (cI, 16, .inl (rc_fill rc_l32 14)))] rfl dX0_known_474 (fun H locs hP hD hS => ?_)
  refine lv_dup hx hb dX0_known_475 rfl ?_
  refine lv_bipush (v := 14) hx hb dX0_known_476 (by decide) ?_
  refine lv_bipush (v := 126) hx hb dX0_known_478 (by decide) ?_
  refine rc_sti hx hb hK hP hD hS 4 1 rfl rfl 14 rfl (by omega) (by omega) (rc_fill rc_l32 15) (rc_fill_s rc_l32 14 rfl) [(q0, .inr (0, [.ref a1, .ref a2, .ref a3])), (a1, .inl (cB, 32, .inl (fun _ => 0))), (a2, .inl (cB, 16, .inl (fun _ => 0))), (a3, .inl (cB, 16, .inl (rc_cry true 8 (fun _ => 0) (fun _ => 0) (fun _ => 0)))), (xa, .inl (cI, 16, .inl (rc_fill rc_l32 15)))] rfl dX0_known_480 (fun H locs hP hD hS => ?_)
  refine lv_dup hx hb dX0_known_481 rfl ?_
  refine lv_bipush (v := 15) hx hb dX0_known_482 (by decide) ?_
  refine lv_sipush (v := 194) hx hb dX0_known_484 (by decide) ?_
  refine rc_sti hx hb hK hP hD hS 4 1 rfl rfl 15 rfl (by omega) (by omega) (rc_fill rc_l32 16) (rc_fill_s rc_l32 15 rfl) [(q0, .inr (0, [.ref a1, .ref a2, .ref a3])), (a1, .inl (cB, 32, .inl (fun _ => 0))), (a2, .inl (cB, 16, .inl (fun _ => 0))), (a3, .inl (cB, 16, .inl (rc_cry true 8 (fun _ => 0) (fun _ => 0) (fun _ => 0)))), (xa, .inl (cI, 16, .inl (rc_fill rc_l32 16)))] rfl dX0_known_487 (fun H locs hP hD hS => ?_)
  refine lv_astore (lv' := [(5, .ref xa), (4, .ref q0)]) hx hb dX0_known_488 hl (by decide) rfl (fun ls hl => ?_)
  refine lv_iconst (v := 0) hx hb dX0_known_490 (by decide) ?_
  refine lv_istore (lv' := [(6, .int 0), (5, .ref xa), (4, .ref q0)]) hx hb dX0_known_491 hl (by decide) rfl (fun ls hl => ?_)
  refine seg_kl2 q0 a1 a2 a3 xa ⟨hx, hb, hml, hown, hts⟩ hK hX (hP.sub [0, 3, 4] rfl) (hD.sub [0, 3, 4] (by decide) rfl) (fun ls hl => ?_) 16 0 rfl ls (lv_sub hl [2, 1, 0] rfl)
  exact kend H _ ls (hP.sub [] rfl) (hD.sub [] (by decide) rfl) hS hl

set_option maxHeartbeats 4000000 in
set_option maxRecDepth 100000 in
/-- known(): the published answers come out -/
theorem met_X0_known (l : Launch) (D : va_G) (cB cI : ClassId) (sz : Nat) : Met l yX0_known (ws_ yX0_known cX0_known 7 (some .boolean)) ({ frames := 6, cells := 33, slots := 606, locals := 150 }) (va_Pc [] (rc_Pre D cB cI sz [])) (va_Qi (fun (r : Int32) (_ : Unit) => r = 1) (fun _ t => rc_B D cB cI (va_A [] sz) [] t) (va_A [] sz)) 33 606 (va_A [] sz) := by
  refine Met.ofW (cc := cX0_known) (maxL := 7) (ret := (some .boolean)) (by decide) rfl ?_
  intro p e s m args below meth c s₁ B hml hv
  obtain ⟨rfl, hsz, hP, hK, hD0, hX⟩ := hv
  have hx := B.exec
  have hb := B.bytes
  have hr := B.returns
  have hts := atoms_spec (ws := ws_ yX0_known cX0_known 7 (some .boolean)) B.pre
  have hts : ∀ w ∈ lw_all, w.before _ s = true := fun w h => hts w (List.mem_cons_of_mem _ h)
  have hown : s.vm.findClass RX0 = some m.cls := findClass_of_methodNamed B.named
  have hlocks := B.notSynchronized
  subst hsz
  have hD := hD0.self (sz := s.heap.size)
  generalize hAe : va_A [] s.heap.size = A at hD ⊢
  have hA : ∀ q : Nat, s.heap.size ≤ q → A q := fun q h => by rw [← hAe]; exact Or.inr h
  have hS : va_S A s.heap s.heap [] := va_S.rf
  have hP : va_P D vwCl [] s.heap := hP
  have hl := lv_entry ([]) (n := 7) (Nat.le_of_ble_eq_true rfl)
  rw [lg_entry_eq]
  generalize (lg_sl ([]) ++ List.replicate (7 - (lg_sl ([])).length) Slot.unset).toArray = ls at hl ⊢
  have hl : lv_has ls 7 [] := hl
  refine seg_kn0 ⟨hx, hb, hml, hown, hts⟩ hK hX hA (fun H locs ls hP hD hS hl => ?_) s.heap [] ls hP hD hS hl
  refine seg_kn1 ⟨hx, hb, hml, hown, hts⟩ hK hX hA (fun H locs ls hP hD hS hl => ?_) H locs ls hP hD hS hl
  refine seg_kn2 ⟨hx, hb, hml, hown, hts⟩ hK hX hA (fun H locs ls hP hD hS hl => ?_) H locs ls hP hD hS hl
  refine lv_iconst (v := 1) hx hb dX0_known_523 (by decide) ?_
  have hP9 := hP.sub (ws' := []) [] rfl
  have hD9 := hD.sub (ws' := []) [] (by decide) rfl
  exact W.zret (v := 1) hx hb hr rfl (fun t ht hW => ⟨⟨1, (), rfl, rfl, by rw [ht]; exact hP9, va_K.moved hW.alike hK, hD9⟩, hS.F ht⟩) hS.2.2 dX0_known_524
end
section
/-! ===== the law's loop: one kind ===== -/
theorem rc_law (lk : Bool) (c L : Nat) (xs g g2 : Nat → Int32) : ∀ j, j < 16 → rc_cry (!lk) c (rc_fk L xs) (rc_cp 16 (rc_cry lk c (rc_fk L xs) (rc_fb L xs) g) (rc_fb L xs)) g2 j &&& 255 = rc_ex (rc_cell L xs (8 + j / 4)) j :=
  fun j hj => (rc_turn lk c (rc_fk L xs) (rc_fb L xs) g g2 hj).trans (rc_4_i (fun _ => 0) (fun n => rc_cell L xs (8 + n)) hj)
def rc_l3 : List Nat := [0, 1, 2]
theorem rc_ki {i : Nat} (hi : i < 3) : rc_fill rc_l3 3 i = nI i := by
  have h1 : i = 0 ∨ i = 1 ∨ i = 2 := by omega
  rcases h1 with rfl | rfl | rfl <;> rfl

set_option maxHeartbeats 4000000 in
set_option maxRecDepth 100000 in
/-- one round of the law's loop: the kind i, on two desks; both ways the block comes back -/
theorem seg_it {p : Program} {l : Launch} {e : Env} {s : State} {m : MethodId} {args : Array Value} {below : List Frame} {meth : Method} {c : Code} {Q : State → Prop} {D : va_G} {cB cI : ClassId} {A : Nat → Prop} {H0 : Heap} (b L : Nat) (xs : Nat → Int32) (hL : L ≤ 12) (kn i : Nat) (hi : i < 3) (ce sl : Nat) (hce : ce ≤ 1000) (hsl : sl ≤ 100000) (F : CallFix p m c cL_law 8 s args lw_all RX0) (hK : va_K D vwCl (rc_T cB cI) s) (hX : rc_X s) (hA : ∀ q, H0.size ≤ q → A q) (hXs : va_X b L xs s H0) (hbl : b < H0.size) (hbA : ¬ A b) (kend : ∀ (H : Heap) (locs : List Loc) (ls : Array Slot), va_P D vwCl [(kn, .inl (cI, 3, .inl (rc_fill rc_l3 3)))] H → va_D A [(kn, .inl (cI, 3, .inl (rc_fill rc_l3 3)))] → va_S A H0 H locs → lv_has ls 8 [(0, .ref b), (2, .ref kn), (3, .int 3), (4, .int (nI (i + 1)))] → W p l e room_1 s m args below meth c H locs (ce + 32) (sl + 610) Q (F0 m 32 ls [])) (H : Heap) (locs : List Loc) (ls : Array Slot) (hP : va_P D vwCl [(kn, .inl (cI, 3, .inl (rc_fill rc_l3 3)))] H) (hD : va_D A [(kn, .inl (cI, 3, .inl (rc_fill rc_l3 3)))]) (hS : va_S A H0 H locs) (hl : lv_has ls 8 [(0, .ref b), (2, .ref kn), (3, .int 3), (4, .int (nI i))]) : W p l e room_1 s m args below meth c H locs (ce) (sl) Q (F0 m 32 ls []) := by
  obtain ⟨hx, hb, hml, hown, hts⟩ := id F
  refine lv_iload hx hb dL_law_32 (lv_at hl 3 rfl) ?_
  refine lv_iload_n hx hb dL_law_34 rfl (lv_at hl 2 rfl) ?_
  refine lv_icmp_ge (tgt := 120) hx hb dL_law_35 (by decide) (fun c_ => absurd c_ (nI_ge (a := i) (b := 3) (by omega) (by omega))) (fun _ => ?_)
  refine lv_aload_n hx hb dL_law_38 rfl (lv_at hl 1 rfl) ?_
  refine lv_iload hx hb dL_law_39 (lv_at hl 3 rfl) ?_
  refine rc_ldi hx hb hK hP 0 1 rfl rfl i rfl (by omega) (by omega) ((rc_fill rc_l3 3) i) rfl dL_law_41 ?_
  refine rc_is (nI i) (rc_ki hi) ?_
  refine lv_istore (lv' := [(5, .int (nI i)), (0, .ref b), (2, .ref kn), (3, .int 3), (4, .int (nI i))]) hx hb dL_law_42 hl (by decide) rfl (fun ls hl => ?_)
  refine lv_aload_n hx hb dL_law_44 rfl (lv_at hl 1 rfl) ?_
  refine rc_cr (wr := [(kn, .inl (cI, 3, .inl (rc_fill rc_l3 3)))]) [] [0] (va_runS (As := [.ref b]) (rest := []) ⟨hx, hb, hml, hown, hts⟩ (met_X0_with l D cB cI b H.size L xs hL) (va_cwS 1 hts (lw_S q257 q258 q9 q259) rfl rfl rfl (by decide +kernel) ⟨Nat.le_of_ble_eq_true rfl, Nat.le_of_ble_eq_true rfl⟩) (rc_psw (hP.sub [] rfl) hK (hD.sub [] (by decide) rfl) hX hXs hbl hbA hS) rfl rfl hl.1 rfl (lv_room (Nat.le_of_ble_eq_true rfl)) dL_law_45 ⟨(by show ce + 4 ≤ 600024; omega), (by show sl + 67 ≤ 7302034; omega)⟩) hP hD hS hA rfl rfl (by decide) (by decide) (fun ⟨xa, xb, xc⟩ x0 H locs _hp hP hD hS => ?_)
  have hP : va_P D vwCl [(kn, .inl (cI, 3, .inl (rc_fill rc_l3 3))), (x0, .inr (0, [.ref xa, .ref xb, .ref xc])), (xa, .inl (cB, 32, .inl (rc_fk L xs))), (xb, .inl (cB, 16, .inl (rc_fb L xs))), (xc, .inl (cB, 16, .inl (fun _ => 0)))] H := hP
  have hD : va_D A [(kn, .inl (cI, 3, .inl (rc_fill rc_l3 3))), (x0, .inr (0, [.ref xa, .ref xb, .ref xc])), (xa, .inl (cB, 32, .inl (rc_fk L xs))), (xb, .inl (cB, 16, .inl (rc_fb L xs))), (xc, .inl (cB, 16, .inl (fun _ => 0)))] := hD
  refine lv_astore (lv' := [(6, .ref x0), (5, .int (nI i)), (0, .ref b), (2, .ref kn), (3, .int 3), (4, .int (nI i))]) hx hb dL_law_48 hl (by decide) rfl (fun ls hl => ?_)
  refine lv_aload_n hx hb dL_law_50 rfl (lv_at hl 2 rfl) ?_
  refine rc_cr (wr := [(kn, .inl (cI, 3, .inl (rc_fill rc_l3 3))), (x0, .inr (0, [.ref xa, .ref xb, .ref xc])), (xa, .inl (cB, 32, .inl (rc_fk L xs))), (xb, .inl (cB, 16, .inl (rc_fb L xs))), (xc, .inl (cB, 16, .inl (fun _ => 0)))]) [] [0, 1, 2, 3, 4] (va_runS (As := [.ref b]) (rest := []) ⟨hx, hb, hml, hown, hts⟩ (met_X0_with l D cB cI b H.size L xs hL) (va_cwS 1 hts (lw_S q257 q258 q9 q259) rfl rfl rfl (by decide +kernel) ⟨Nat.le_of_ble_eq_true rfl, Nat.le_of_ble_eq_true rfl⟩) (rc_psw (hP.sub [] rfl) hK (hD.sub [] (by decide) rfl) hX hXs hbl hbA hS) rfl rfl hl.1 rfl (lv_room (Nat.le_of_ble_eq_true rfl)) dL_law_51 ⟨(by show ce + 4 + 4 ≤ 600024; omega), (by show sl + 67 + 67 ≤ 7302034; omega)⟩) hP hD hS hA rfl rfl (by decide) (by decide) (fun ⟨ya, yb, yc⟩ y0 H locs _hp hP hD hS => ?_)
  have hP : va_P D vwCl [(kn, .inl (cI, 3, .inl (rc_fill rc_l3 3))), (x0, .inr (0, [.ref xa, .ref xb, .ref xc])), (xa, .inl (cB, 32, .inl (rc_fk L xs))), (xb, .inl (cB, 16, .inl (rc_fb L xs))), (xc, .inl (cB, 16, .inl (fun _ => 0))), (y0, .inr (0, [.ref ya, .ref yb, .ref yc])), (ya, .inl (cB, 32, .inl (rc_fk L xs))), (yb, .inl (cB, 16, .inl (rc_fb L xs))), (yc, .inl (cB, 16, .inl (fun _ => 0)))] H := hP
  have hD : va_D A [(kn, .inl (cI, 3, .inl (rc_fill rc_l3 3))), (x0, .inr (0, [.ref xa, .ref xb, .ref xc])), (xa, .inl (cB, 32, .inl (rc_fk L xs))), (xb, .inl (cB, 16, .inl (rc_fb L xs))), (xc, .inl (cB, 16, .inl (fun _ => 0))), (y0, .inr (0, [.ref ya, .ref yb, .ref yc])), (ya, .inl (cB, 32, .inl (rc_fk L xs))), (yb, .inl (cB, 16, .inl (rc_fb L xs))), (yc, .inl (cB, 16, .inl (fun _ => 0)))] := hD
  refine lv_astore (lv' := [(7, .ref y0), (6, .ref x0), (5, .int (nI i)), (0, .ref b), (2, .ref kn), (3, .int 3), (4, .int (nI i))]) hx hb dL_law_54 hl (by decide) rfl (fun ls hl => ?_)
  refine lv_aload hx hb dL_law_56 (lv_at hl 1 rfl) ?_
  refine lv_iload hx hb dL_law_58 (lv_at hl 2 rfl) ?_
  refine rc_cv (wr := [(kn, .inl (cI, 3, .inl (rc_fill rc_l3 3))), (y0, .inr (0, [.ref ya, .ref yb, .ref yc])), (ya, .inl (cB, 32, .inl (rc_fk L xs))), (yb, .inl (cB, 16, .inl (rc_fb L xs))), (yc, .inl (cB, 16, .inl (fun _ => 0)))]) [1, 2, 3, 4] [0, 5, 6, 7, 8] (va_runV (As := [.int (nI i)]) (rest := []) ⟨hx, hb, hml, hown, hts⟩ (met_X1_lock l D cB cI x0 xa xb xc H.size i (4 + 2 * i) hi rfl (rc_fk L xs) (rc_fb L xs) (fun _ => 0)) (cwV 1 hts (lw_V q22 q23 q24 q10 q25) rfl rfl rfl (by decide +kernel) ⟨Nat.le_of_ble_eq_true rfl, Nat.le_of_ble_eq_true rfl⟩) (rc_pv (va_recv hK hP (ci := 0) (q0 := 1) rfl rfl) (hP.sub [1, 2, 3, 4] rfl) hK (hD.sub [1, 2, 3, 4] (by decide) rfl) hX) rfl rfl hl.1 rfl (lv_room (Nat.le_of_ble_eq_true rfl)) dL_law_60 ⟨(by show ce + 4 + 4 + 6 ≤ 600024; omega), (by show sl + 67 + 67 + 119 ≤ 7302034; omega)⟩) hP hD hS hA rfl rfl (by decide) (by decide) (fun _u H locs _hp hP hD hS => ?_)
  have hP : va_P D vwCl [(kn, .inl (cI, 3, .inl (rc_fill rc_l3 3))), (y0, .inr (0, [.ref ya, .ref yb, .ref yc])), (ya, .inl (cB, 32, .inl (rc_fk L xs))), (yb, .inl (cB, 16, .inl (rc_fb L xs))), (yc, .inl (cB, 16, .inl (fun _ => 0))), (x0, .inr (0, [.ref xa, .ref xb, .ref xc])), (xa, .inl (cB, 32, .inl (rc_fk L xs))), (xb, .inl (cB, 16, .inl (rc_fb L xs))), (xc, .inl (cB, 16, .inl (rc_cry true (4 + 2 * i) (rc_fk L xs) (rc_fb L xs) (fun _ => 0))))] H := hP
  have hD : va_D A [(kn, .inl (cI, 3, .inl (rc_fill rc_l3 3))), (y0, .inr (0, [.ref ya, .ref yb, .ref yc])), (ya, .inl (cB, 32, .inl (rc_fk L xs))), (yb, .inl (cB, 16, .inl (rc_fb L xs))), (yc, .inl (cB, 16, .inl (fun _ => 0))), (x0, .inr (0, [.ref xa, .ref xb, .ref xc])), (xa, .inl (cB, 32, .inl (rc_fk L xs))), (xb, .inl (cB, 16, .inl (rc_fb L xs))), (xc, .inl (cB, 16, .inl (rc_cry true (4 + 2 * i) (rc_fk L xs) (rc_fb L xs) (fun _ => 0))))] := hD
  refine lv_aload hx hb dL_law_63 (lv_at hl 0 rfl) ?_
  refine lv_iload hx hb dL_law_65 (lv_at hl 2 rfl) ?_
  refine rc_cv (wr := [(kn, .inl (cI, 3, .inl (rc_fill rc_l3 3))), (x0, .inr (0, [.ref xa, .ref xb, .ref xc])), (xa, .inl (cB, 32, .inl (rc_fk L xs))), (xb, .inl (cB, 16, .inl (rc_fb L xs))), (xc, .inl (cB, 16, .inl (rc_cry true (4 + 2 * i) (rc_fk L xs) (rc_fb L xs) (fun _ => 0))))]) [1, 2, 3, 4] [0, 5, 6, 7, 8] (va_runV (As := [.int (nI i)]) (rest := []) ⟨hx, hb, hml, hown, hts⟩ (met_X1_open l D cB cI y0 ya yb yc H.size i (4 + 2 * i) hi rfl (rc_fk L xs) (rc_fb L xs) (fun _ => 0)) (cwV 1 hts (lw_V q249 q250 q251 q10 q252) rfl rfl rfl (by decide +kernel) ⟨Nat.le_of_ble_eq_true rfl, Nat.le_of_ble_eq_true rfl⟩) (rc_pv (va_recv hK hP (ci := 0) (q0 := 1) rfl rfl) (hP.sub [1, 2, 3, 4] rfl) hK (hD.sub [1, 2, 3, 4] (by decide) rfl) hX) rfl rfl hl.1 rfl (lv_room (Nat.le_of_ble_eq_true rfl)) dL_law_67 ⟨(by show ce + 4 + 4 + 6 + 6 ≤ 600024; omega), (by show sl + 67 + 67 + 119 + 119 ≤ 7302034; omega)⟩) hP hD hS hA rfl rfl (by decide) (by decide) (fun _u H locs _hp hP hD hS => ?_)
  have hP : va_P D vwCl [(kn, .inl (cI, 3, .inl (rc_fill rc_l3 3))), (x0, .inr (0, [.ref xa, .ref xb, .ref xc])), (xa, .inl (cB, 32, .inl (rc_fk L xs))), (xb, .inl (cB, 16, .inl (rc_fb L xs))), (xc, .inl (cB, 16, .inl (rc_cry true (4 + 2 * i) (rc_fk L xs) (rc_fb L xs) (fun _ => 0)))), (y0, .inr (0, [.ref ya, .ref yb, .ref yc])), (ya, .inl (cB, 32, .inl (rc_fk L xs))), (yb, .inl (cB, 16, .inl (rc_fb L xs))), (yc, .inl (cB, 16, .inl (rc_cry false (4 + 2 * i) (rc_fk L xs) (rc_fb L xs) (fun _ => 0))))] H := hP
  have hD : va_D A [(kn, .inl (cI, 3, .inl (rc_fill rc_l3 3))), (x0, .inr (0, [.ref xa, .ref xb, .ref xc])), (xa, .inl (cB, 32, .inl (rc_fk L xs))), (xb, .inl (cB, 16, .inl (rc_fb L xs))), (xc, .inl (cB, 16, .inl (rc_cry true (4 + 2 * i) (rc_fk L xs) (rc_fb L xs) (fun _ => 0)))), (y0, .inr (0, [.ref ya, .ref yb, .ref yc])), (ya, .inl (cB, 32, .inl (rc_fk L xs))), (yb, .inl (cB, 16, .inl (rc_fb L xs))), (yc, .inl (cB, 16, .inl (rc_cry false (4 + 2 * i) (rc_fk L xs) (rc_fb L xs) (fun _ => 0))))] := hD
  refine lv_aload hx hb dL_law_70 (lv_at hl 1 rfl) ?_
  refine rc_cv (wr := [(kn, .inl (cI, 3, .inl (rc_fill rc_l3 3))), (xa, .inl (cB, 32, .inl (rc_fk L xs))), (y0, .inr (0, [.ref ya, .ref yb, .ref yc])), (ya, .inl (cB, 32, .inl (rc_fk L xs))), (yb, .inl (cB, 16, .inl (rc_fb L xs))), (yc, .inl (cB, 16, .inl (rc_cry false (4 + 2 * i) (rc_fk L xs) (rc_fb L xs) (fun _ => 0))))]) [1, 3, 4] [0, 2, 5, 6, 7, 8] (va_runV (As := []) (rest := []) ⟨hx, hb, hml, hown, hts⟩ (met_X1_again l D cB cI x0 xa xb xc H.size (rc_fb L xs) (rc_cry true (4 + 2 * i) (rc_fk L xs) (rc_fb L xs) (fun _ => 0))) (cwV 0 hts (lw_V q253 q254 q255 q10 q256) rfl rfl rfl (by decide +kernel) ⟨Nat.le_of_ble_eq_true rfl, Nat.le_of_ble_eq_true rfl⟩) (rc_pv (va_recv hK hP (ci := 0) (q0 := 1) rfl rfl) (hP.sub [1, 3, 4] rfl) hK (hD.sub [1, 3, 4] (by decide) rfl) hX) rfl rfl hl.1 rfl (lv_room (Nat.le_of_ble_eq_true rfl)) dL_law_72 ⟨(by show ce + 4 + 4 + 6 + 6 + 0 ≤ 600024; omega), (by show sl + 67 + 67 + 119 + 119 + 0 ≤ 7302034; omega)⟩) hP hD hS hA rfl rfl (by decide) (by decide) (fun _u H locs _hp hP hD hS => ?_)
  have hP : va_P D vwCl [(kn, .inl (cI, 3, .inl (rc_fill rc_l3 3))), (xa, .inl (cB, 32, .inl (rc_fk L xs))), (y0, .inr (0, [.ref ya, .ref yb, .ref yc])), (ya, .inl (cB, 32, .inl (rc_fk L xs))), (yb, .inl (cB, 16, .inl (rc_fb L xs))), (yc, .inl (cB, 16, .inl (rc_cry false (4 + 2 * i) (rc_fk L xs) (rc_fb L xs) (fun _ => 0)))), (x0, .inr (0, [.ref xa, .ref xb, .ref xc])), (xb, .inl (cB, 16, .inl (rc_cp 16 (rc_cry true (4 + 2 * i) (rc_fk L xs) (rc_fb L xs) (fun _ => 0)) (rc_fb L xs)))), (xc, .inl (cB, 16, .inl (rc_cry true (4 + 2 * i) (rc_fk L xs) (rc_fb L xs) (fun _ => 0))))] H := hP
  have hD : va_D A [(kn, .inl (cI, 3, .inl (rc_fill rc_l3 3))), (xa, .inl (cB, 32, .inl (rc_fk L xs))), (y0, .inr (0, [.ref ya, .ref yb, .ref yc])), (ya, .inl (cB, 32, .inl (rc_fk L xs))), (yb, .inl (cB, 16, .inl (rc_fb L xs))), (yc, .inl (cB, 16, .inl (rc_cry false (4 + 2 * i) (rc_fk L xs) (rc_fb L xs) (fun _ => 0)))), (x0, .inr (0, [.ref xa, .ref xb, .ref xc])), (xb, .inl (cB, 16, .inl (rc_cp 16 (rc_cry true (4 + 2 * i) (rc_fk L xs) (rc_fb L xs) (fun _ => 0)) (rc_fb L xs)))), (xc, .inl (cB, 16, .inl (rc_cry true (4 + 2 * i) (rc_fk L xs) (rc_fb L xs) (fun _ => 0))))] := hD
  refine lv_aload hx hb dL_law_75 (lv_at hl 1 rfl) ?_
  refine lv_iload hx hb dL_law_77 (lv_at hl 2 rfl) ?_
  refine rc_cv (wr := [(kn, .inl (cI, 3, .inl (rc_fill rc_l3 3))), (y0, .inr (0, [.ref ya, .ref yb, .ref yc])), (ya, .inl (cB, 32, .inl (rc_fk L xs))), (yb, .inl (cB, 16, .inl (rc_fb L xs))), (yc, .inl (cB, 16, .inl (rc_cry false (4 + 2 * i) (rc_fk L xs) (rc_fb L xs) (fun _ => 0))))]) [6, 1, 7, 8] [0, 2, 3, 4, 5] (va_runV (As := [.int (nI i)]) (rest := []) ⟨hx, hb, hml, hown, hts⟩ (met_X1_open l D cB cI x0 xa xb xc H.size i (4 + 2 * i) hi rfl (rc_fk L xs) (rc_cp 16 (rc_cry true (4 + 2 * i) (rc_fk L xs) (rc_fb L xs) (fun _ => 0)) (rc_fb L xs)) (rc_cry true (4 + 2 * i) (rc_fk L xs) (rc_fb L xs) (fun _ => 0))) (cwV 1 hts (lw_V q249 q250 q251 q10 q252) rfl rfl rfl (by decide +kernel) ⟨Nat.le_of_ble_eq_true rfl, Nat.le_of_ble_eq_true rfl⟩) (rc_pv (va_recv hK hP (ci := 0) (q0 := 6) rfl rfl) (hP.sub [6, 1, 7, 8] rfl) hK (hD.sub [6, 1, 7, 8] (by decide) rfl) hX) rfl rfl hl.1 rfl (lv_room (Nat.le_of_ble_eq_true rfl)) dL_law_79 ⟨(by show ce + 4 + 4 + 6 + 6 + 6 ≤ 600024; omega), (by show sl + 67 + 67 + 119 + 119 + 119 ≤ 7302034; omega)⟩) hP hD hS hA rfl rfl (by decide) (by decide) (fun _u H locs _hp hP hD hS => ?_)
  have hP : va_P D vwCl [(kn, .inl (cI, 3, .inl (rc_fill rc_l3 3))), (y0, .inr (0, [.ref ya, .ref yb, .ref yc])), (ya, .inl (cB, 32, .inl (rc_fk L xs))), (yb, .inl (cB, 16, .inl (rc_fb L xs))), (yc, .inl (cB, 16, .inl (rc_cry false (4 + 2 * i) (rc_fk L xs) (rc_fb L xs) (fun _ => 0)))), (x0, .inr (0, [.ref xa, .ref xb, .ref xc])), (xa, .inl (cB, 32, .inl (rc_fk L xs))), (xb, .inl (cB, 16, .inl (rc_cp 16 (rc_cry true (4 + 2 * i) (rc_fk L xs) (rc_fb L xs) (fun _ => 0)) (rc_fb L xs)))), (xc, .inl (cB, 16, .inl (rc_cry false (4 + 2 * i) (rc_fk L xs) (rc_cp 16 (rc_cry true (4 + 2 * i) (rc_fk L xs) (rc_fb L xs) (fun _ => 0)) (rc_fb L xs)) (rc_cry true (4 + 2 * i) (rc_fk L xs) (rc_fb L xs) (fun _ => 0)))))] H := hP
  have hD : va_D A [(kn, .inl (cI, 3, .inl (rc_fill rc_l3 3))), (y0, .inr (0, [.ref ya, .ref yb, .ref yc])), (ya, .inl (cB, 32, .inl (rc_fk L xs))), (yb, .inl (cB, 16, .inl (rc_fb L xs))), (yc, .inl (cB, 16, .inl (rc_cry false (4 + 2 * i) (rc_fk L xs) (rc_fb L xs) (fun _ => 0)))), (x0, .inr (0, [.ref xa, .ref xb, .ref xc])), (xa, .inl (cB, 32, .inl (rc_fk L xs))), (xb, .inl (cB, 16, .inl (rc_cp 16 (rc_cry true (4 + 2 * i) (rc_fk L xs) (rc_fb L xs) (fun _ => 0)) (rc_fb L xs)))), (xc, .inl (cB, 16, .inl (rc_cry false (4 + 2 * i) (rc_fk L xs) (rc_cp 16 (rc_cry true (4 + 2 * i) (rc_fk L xs) (rc_fb L xs) (fun _ => 0)) (rc_fb L xs)) (rc_cry true (4 + 2 * i) (rc_fk L xs) (rc_fb L xs) (fun _ => 0)))))] := hD
  refine lv_aload hx hb dL_law_82 (lv_at hl 0 rfl) ?_
  refine rc_cv (wr := [(kn, .inl (cI, 3, .inl (rc_fill rc_l3 3))), (ya, .inl (cB, 32, .inl (rc_fk L xs))), (x0, .inr (0, [.ref xa, .ref xb, .ref xc])), (xa, .inl (cB, 32, .inl (rc_fk L xs))), (xb, .inl (cB, 16, .inl (rc_cp 16 (rc_cry true (4 + 2 * i) (rc_fk L xs) (rc_fb L xs) (fun _ => 0)) (rc_fb L xs)))), (xc, .inl (cB, 16, .inl (rc_cry false (4 + 2 * i) (rc_fk L xs) (rc_cp 16 (rc_cry true (4 + 2 * i) (rc_fk L xs) (rc_fb L xs) (fun _ => 0)) (rc_fb L xs)) (rc_cry true (4 + 2 * i) (rc_fk L xs) (rc_fb L xs) (fun _ => 0)))))]) [1, 3, 4] [0, 2, 5, 6, 7, 8] (va_runV (As := []) (rest := []) ⟨hx, hb, hml, hown, hts⟩ (met_X1_again l D cB cI y0 ya yb yc H.size (rc_fb L xs) (rc_cry false (4 + 2 * i) (rc_fk L xs) (rc_fb L xs) (fun _ => 0))) (cwV 0 hts (lw_V q253 q254 q255 q10 q256) rfl rfl rfl (by decide +kernel) ⟨Nat.le_of_ble_eq_true rfl, Nat.le_of_ble_eq_true rfl⟩) (rc_pv (va_recv hK hP (ci := 0) (q0 := 1) rfl rfl) (hP.sub [1, 3, 4] rfl) hK (hD.sub [1, 3, 4] (by decide) rfl) hX) rfl rfl hl.1 rfl (lv_room (Nat.le_of_ble_eq_true rfl)) dL_law_84 ⟨(by show ce + 4 + 4 + 6 + 6 + 6 + 0 ≤ 600024; omega), (by show sl + 67 + 67 + 119 + 119 + 119 + 0 ≤ 7302034; omega)⟩) hP hD hS hA rfl rfl (by decide) (by decide) (fun _u H locs _hp hP hD hS => ?_)
  have hP : va_P D vwCl [(kn, .inl (cI, 3, .inl (rc_fill rc_l3 3))), (ya, .inl (cB, 32, .inl (rc_fk L xs))), (x0, .inr (0, [.ref xa, .ref xb, .ref xc])), (xa, .inl (cB, 32, .inl (rc_fk L xs))), (xb, .inl (cB, 16, .inl (rc_cp 16 (rc_cry true (4 + 2 * i) (rc_fk L xs) (rc_fb L xs) (fun _ => 0)) (rc_fb L xs)))), (xc, .inl (cB, 16, .inl (rc_cry false (4 + 2 * i) (rc_fk L xs) (rc_cp 16 (rc_cry true (4 + 2 * i) (rc_fk L xs) (rc_fb L xs) (fun _ => 0)) (rc_fb L xs)) (rc_cry true (4 + 2 * i) (rc_fk L xs) (rc_fb L xs) (fun _ => 0))))), (y0, .inr (0, [.ref ya, .ref yb, .ref yc])), (yb, .inl (cB, 16, .inl (rc_cp 16 (rc_cry false (4 + 2 * i) (rc_fk L xs) (rc_fb L xs) (fun _ => 0)) (rc_fb L xs)))), (yc, .inl (cB, 16, .inl (rc_cry false (4 + 2 * i) (rc_fk L xs) (rc_fb L xs) (fun _ => 0))))] H := hP
  have hD : va_D A [(kn, .inl (cI, 3, .inl (rc_fill rc_l3 3))), (ya, .inl (cB, 32, .inl (rc_fk L xs))), (x0, .inr (0, [.ref xa, .ref xb, .ref xc])), (xa, .inl (cB, 32, .inl (rc_fk L xs))), (xb, .inl (cB, 16, .inl (rc_cp 16 (rc_cry true (4 + 2 * i) (rc_fk L xs) (rc_fb L xs) (fun _ => 0)) (rc_fb L xs)))), (xc, .inl (cB, 16, .inl (rc_cry false (4 + 2 * i) (rc_fk L xs) (rc_cp 16 (rc_cry true (4 + 2 * i) (rc_fk L xs) (rc_fb L xs) (fun _ => 0)) (rc_fb L xs)) (rc_cry true (4 + 2 * i) (rc_fk L xs) (rc_fb L xs) (fun _ => 0))))), (y0, .inr (0, [.ref ya, .ref yb, .ref yc])), (yb, .inl (cB, 16, .inl (rc_cp 16 (rc_cry false (4 + 2 * i) (rc_fk L xs) (rc_fb L xs) (fun _ => 0)) (rc_fb L xs)))), (yc, .inl (cB, 16, .inl (rc_cry false (4 + 2 * i) (rc_fk L xs) (rc_fb L xs) (fun _ => 0))))] := hD
  refine lv_aload hx hb dL_law_87 (lv_at hl 0 rfl) ?_
  refine lv_iload hx hb dL_law_89 (lv_at hl 2 rfl) ?_
  refine rc_cv (wr := [(kn, .inl (cI, 3, .inl (rc_fill rc_l3 3))), (x0, .inr (0, [.ref xa, .ref xb, .ref xc])), (xa, .inl (cB, 32, .inl (rc_fk L xs))), (xb, .inl (cB, 16, .inl (rc_cp 16 (rc_cry true (4 + 2 * i) (rc_fk L xs) (rc_fb L xs) (fun _ => 0)) (rc_fb L xs)))), (xc, .inl (cB, 16, .inl (rc_cry false (4 + 2 * i) (rc_fk L xs) (rc_cp 16 (rc_cry true (4 + 2 * i) (rc_fk L xs) (rc_fb L xs) (fun _ => 0)) (rc_fb L xs)) (rc_cry true (4 + 2 * i) (rc_fk L xs) (rc_fb L xs) (fun _ => 0)))))]) [6, 1, 7, 8] [0, 2, 3, 4, 5] (va_runV (As := [.int (nI i)]) (rest := []) ⟨hx, hb, hml, hown, hts⟩ (met_X1_lock l D cB cI y0 ya yb yc H.size i (4 + 2 * i) hi rfl (rc_fk L xs) (rc_cp 16 (rc_cry false (4 + 2 * i) (rc_fk L xs) (rc_fb L xs) (fun _ => 0)) (rc_fb L xs)) (rc_cry false (4 + 2 * i) (rc_fk L xs) (rc_fb L xs) (fun _ => 0))) (cwV 1 hts (lw_V q22 q23 q24 q10 q25) rfl rfl rfl (by decide +kernel) ⟨Nat.le_of_ble_eq_true rfl, Nat.le_of_ble_eq_true rfl⟩) (rc_pv (va_recv hK hP (ci := 0) (q0 := 6) rfl rfl) (hP.sub [6, 1, 7, 8] rfl) hK (hD.sub [6, 1, 7, 8] (by decide) rfl) hX) rfl rfl hl.1 rfl (lv_room (Nat.le_of_ble_eq_true rfl)) dL_law_91 ⟨(by show ce + 4 + 4 + 6 + 6 + 6 + 6 ≤ 600024; omega), (by show sl + 67 + 67 + 119 + 119 + 119 + 119 ≤ 7302034; omega)⟩) hP hD hS hA rfl rfl (by decide) (by decide) (fun _u H locs _hp hP hD hS => ?_)
  have hP : va_P D vwCl [(kn, .inl (cI, 3, .inl (rc_fill rc_l3 3))), (x0, .inr (0, [.ref xa, .ref xb, .ref xc])), (xa, .inl (cB, 32, .inl (rc_fk L xs))), (xb, .inl (cB, 16, .inl (rc_cp 16 (rc_cry true (4 + 2 * i) (rc_fk L xs) (rc_fb L xs) (fun _ => 0)) (rc_fb L xs)))), (xc, .inl (cB, 16, .inl (rc_cry false (4 + 2 * i) (rc_fk L xs) (rc_cp 16 (rc_cry true (4 + 2 * i) (rc_fk L xs) (rc_fb L xs) (fun _ => 0)) (rc_fb L xs)) (rc_cry true (4 + 2 * i) (rc_fk L xs) (rc_fb L xs) (fun _ => 0))))), (y0, .inr (0, [.ref ya, .ref yb, .ref yc])), (ya, .inl (cB, 32, .inl (rc_fk L xs))), (yb, .inl (cB, 16, .inl (rc_cp 16 (rc_cry false (4 + 2 * i) (rc_fk L xs) (rc_fb L xs) (fun _ => 0)) (rc_fb L xs)))), (yc, .inl (cB, 16, .inl (rc_cry true (4 + 2 * i) (rc_fk L xs) (rc_cp 16 (rc_cry false (4 + 2 * i) (rc_fk L xs) (rc_fb L xs) (fun _ => 0)) (rc_fb L xs)) (rc_cry false (4 + 2 * i) (rc_fk L xs) (rc_fb L xs) (fun _ => 0)))))] H := hP
  have hD : va_D A [(kn, .inl (cI, 3, .inl (rc_fill rc_l3 3))), (x0, .inr (0, [.ref xa, .ref xb, .ref xc])), (xa, .inl (cB, 32, .inl (rc_fk L xs))), (xb, .inl (cB, 16, .inl (rc_cp 16 (rc_cry true (4 + 2 * i) (rc_fk L xs) (rc_fb L xs) (fun _ => 0)) (rc_fb L xs)))), (xc, .inl (cB, 16, .inl (rc_cry false (4 + 2 * i) (rc_fk L xs) (rc_cp 16 (rc_cry true (4 + 2 * i) (rc_fk L xs) (rc_fb L xs) (fun _ => 0)) (rc_fb L xs)) (rc_cry true (4 + 2 * i) (rc_fk L xs) (rc_fb L xs) (fun _ => 0))))), (y0, .inr (0, [.ref ya, .ref yb, .ref yc])), (ya, .inl (cB, 32, .inl (rc_fk L xs))), (yb, .inl (cB, 16, .inl (rc_cp 16 (rc_cry false (4 + 2 * i) (rc_fk L xs) (rc_fb L xs) (fun _ => 0)) (rc_fb L xs)))), (yc, .inl (cB, 16, .inl (rc_cry true (4 + 2 * i) (rc_fk L xs) (rc_cp 16 (rc_cry false (4 + 2 * i) (rc_fk L xs) (rc_fb L xs) (fun _ => 0)) (rc_fb L xs)) (rc_cry false (4 + 2 * i) (rc_fk L xs) (rc_fb L xs) (fun _ => 0)))))] := hD
  refine lv_aload hx hb dL_law_94 (lv_at hl 1 rfl) ?_
  refine lv_aload_n hx hb dL_law_96 rfl (lv_at hl 3 rfl) ?_
  refine vp_callSi (W.runS (As := [.ref x0, .ref b]) (rest := []) ⟨hx, hb, hml, hown, hts⟩ (met_X0_same l D cB cI x0 xa xb xc b H.size L xs hL (rc_cry false (4 + 2 * i) (rc_fk L xs) (rc_cp 16 (rc_cry true (4 + 2 * i) (rc_fk L xs) (rc_fb L xs) (fun _ => 0)) (rc_fb L xs)) (rc_cry true (4 + 2 * i) (rc_fk L xs) (rc_fb L xs) (fun _ => 0))) (rc_law true (4 + 2 * i) L xs _ _)) (va_cwS 2 hts (lw_S q289 q290 q9 q291) rfl rfl rfl (by decide +kernel) ⟨Nat.le_of_ble_eq_true rfl, Nat.le_of_ble_eq_true rfl⟩) (rc_psw (hP.sub [1, 4] rfl) hK (hD.sub [1, 4] (by decide) rfl) hX hXs hbl hbA hS) rfl rfl hl.1 rfl (lv_room (Nat.le_of_ble_eq_true rfl)) dL_law_97 ⟨(by show ce + 4 + 4 + 6 + 6 + 6 + 6 + 0 ≤ 600024; omega), (by show sl + 67 + 67 + 119 + 119 + 119 + 119 + 0 ≤ 7302034; omega)⟩) (fun r_9 er_9 => ?_)
  have er_9 := er_9.symm
  subst er_9
  refine lv_if_eq (tgt := 112) hx hb dL_law_100 (by decide) (fun c_ => absurd c_ (by decide)) (fun _ => ?_)
  refine lv_aload hx hb dL_law_103 (lv_at hl 0 rfl) ?_
  refine lv_aload_n hx hb dL_law_105 rfl (lv_at hl 3 rfl) ?_
  refine vp_callSi (W.runS (As := [.ref y0, .ref b]) (rest := []) ⟨hx, hb, hml, hown, hts⟩ (met_X0_same l D cB cI y0 ya yb yc b H.size L xs hL (rc_cry true (4 + 2 * i) (rc_fk L xs) (rc_cp 16 (rc_cry false (4 + 2 * i) (rc_fk L xs) (rc_fb L xs) (fun _ => 0)) (rc_fb L xs)) (rc_cry false (4 + 2 * i) (rc_fk L xs) (rc_fb L xs) (fun _ => 0))) (rc_law false (4 + 2 * i) L xs _ _)) (va_cwS 2 hts (lw_S q289 q290 q9 q291) rfl rfl rfl (by decide +kernel) ⟨Nat.le_of_ble_eq_true rfl, Nat.le_of_ble_eq_true rfl⟩) (rc_psw (hP.sub [5, 8] rfl) hK (hD.sub [5, 8] (by decide) rfl) hX hXs hbl hbA hS) rfl rfl hl.1 rfl (lv_room (Nat.le_of_ble_eq_true rfl)) dL_law_106 ⟨(by show ce + 4 + 4 + 6 + 6 + 6 + 6 + 0 ≤ 600024; omega), (by show sl + 67 + 67 + 119 + 119 + 119 + 119 + 0 ≤ 7302034; omega)⟩) (fun r_10 er_10 => ?_)
  have er_10 := er_10.symm
  subst er_10
  refine lv_if_ne (tgt := 114) hx hb dL_law_109 (by decide) (fun _ => ?_) (fun c_ => absurd c_ (by decide))
  refine lv_iinc (v := nI (i + 1)) (lv' := [(4, .int (nI (i + 1))), (7, .ref y0), (6, .ref x0), (5, .int (nI i)), (0, .ref b), (2, .ref kn), (3, .int 3)]) hx hb dL_law_114 hl (k := 6) rfl (nI_1 i) (by decide) rfl (fun ls hl => ?_)
  refine lv_goto (tgt := 32) hx hb dL_law_117 (by decide) ?_
  refine W.widen (k := ce + 32) (n := sl + 610) (by omega) (by omega) ?_
  exact kend H _ ls (hP.sub [0] rfl) (hD.sub [0] (by decide) rfl) hS (lv_sub hl [4, 5, 6, 0] rfl)
end
section
-- ===== end of PART A; then your names; then what follows =====
/-! THE CLAIM OUT OF ONE WALK OF THE LAW'S BODY. Your part is whole_start (and what it stands on); all else here is the same for every law, but numbers. -/
def R_law : String := "RcSixDeskLaw"
def lw_P (b : Addr) (xs : List Int32) (args : Array Value) (s : State) : Prop := args = #[.ref b] ∧ s.IntsAt b xs ∧ xs.length ≤ 12 ∧ (Jvm.Cond.and given_1 narrow_1).before args s = true
def lw_Q (_ : Array Value) (s : State) (o : Outcome) (t : State) : Prop := o = .returned (some (.int 1)) ∧ Framed s o t [] 600024 7302034
def lw_Z (below : List Frame) (a : Array Value) (s : State) : State → Prop := fun t => ∃ o, t.status = .running ∧ Ended t below o ∧ lw_Q a s o t
/-- the law's own end, with 1 on the stack, nothing written that was there before, its room as the claim has it -/
theorem lw_ret {p : Program} {l : Launch} {e : Env} {s : State} {m : MethodId} {below : List Frame} {meth : Method} {c : Code} {b : Nat} (hx : p.tables.exec = Jvm.exec) (hb : c.code = code) (hr : meth.sig.returnType = ret) (hlocks : meth.locks = false) {pc : Nat} {H : Heap} {ls : Array Slot} (hdg : decode code pc = .ok (.ireturn, 1)) : W p l e room_1 s m #[Value.ref b] below meth c H [] 600024 7302034 (lw_Z below #[Value.ref b] s) (F0 m pc ls [.int 1]) := by
  intro T hT X
  obtain ⟨fs, hret, hrun, hended, hW, hframe⟩ := X.leave (v := some (.int 1)) (hlocks := hlocks) (fun h => by rw [hr] at h; cases h)
  have hmeth' : T.vm.method? m = some meth := X.method'
  refine ⟨T.setFrames fs, ?_, .returned (some (.int 1)), hrun, hended, rfl, ⟨_, rfl⟩, hW, hframe⟩
  jvm_step X.here [X.here.top, hx, hb, hdg, hmeth', hr, ret, narrow_b1]
  (try refine ⟨rfl, ?_⟩); (try refine ⟨rfl, ?_⟩)
  first | (intro acts; rw [hret _ acts rfl rfl rfl]) | rw [hret _ _ rfl rfl rfl]
  exact Steps.refl _
/-- what holds at the law's entry: the machine, the code, the tables' words (any of lw_tbl by 'hts w (by decide +kernel)'), the script of L ints xs at the cell b, what the Statement gives of the start (any of its parts by flat_of_before) -/
def lw_At (p : Program) (s : State) (m : MethodId) (meth : Method) (c : Code) (b L : Nat) (xs : Nat → Int32) : Prop :=
  p.tables.exec = Jvm.exec ∧ c.code = code ∧ meth.sig.returnType = ret ∧ c.maxLocals = 8 ∧ s.vm.findClass R_law = some m.cls ∧ (∀ w ∈ lw_tbl, w.before #[Value.ref b] s = true) ∧ va_X b L xs s s.heap ∧ b < s.heap.size ∧ meth.locks = false ∧ (Jvm.Cond.and given_1 narrow_1).before #[Value.ref b] s = true
-- ===== YOUR PART BEGINS =====
/-- an array class of the tables -/
theorem rc_arr {s : State} {args : Array Value} {ty : FieldType} (h : (Cond.arrayClass ty).before args s = true) (hp : ty = .byte ∨ ty = .int) : ∃ cA : ClassId, ArrOfT s cA ty ∧ va_RA s cA ty := by
  obtain ⟨cA, kA, comp, h1, h2, h3⟩ := Cond.arrayClass_spec h
  refine ⟨cA, fun n z => ⟨fun k h => (by cases h), kA, h2, comp, h3⟩, ?_⟩
  rcases hp with rfl | rfl
  · exact h1
  · exact h1
/-- the classes, known at the law's entry -/
theorem rc_start {s : State} {b : Addr} (ht0 : ∀ w ∈ lw_tbl, w.before #[Value.ref b] s = true) : ∃ (D : va_G) (cB cI : ClassId), va_K D vwCl (rc_T cB cI) s := by
  obtain ⟨c0, iS0, hKn0⟩ := u_known (C := RX1) (T := TX1) (N := 3) (n := 3) ht0 (fun w h => lw_all_tbl (in_X1 w h)) (ht0 _ (lw_all_tbl q29))
  obtain ⟨c1, iS1, hKn1⟩ := u_known (C := RX2) (T := TX2) (N := 2) (n := 2) ht0 (fun w h => lw_all_tbl (in_X2 w h)) (ht0 _ (lw_all_tbl q35))
  obtain ⟨c2, iS2, hKn2⟩ := u_known (C := RX3) (T := TX3) (N := 1) (n := 1) ht0 (fun w h => lw_all_tbl (in_X3 w h)) (ht0 _ (lw_all_tbl q51))
  obtain ⟨cB, hB1, hB2⟩ := rc_arr (ht0 _ (lw_all_tbl q49)) (Or.inl rfl)
  obtain ⟨cI, hI1, hI2⟩ := rc_arr (ht0 _ (lw_all_tbl q191)) (Or.inr rfl)
  refine ⟨(fun k => if k = 0 then c0 else if k = 1 then c1 else c2, fun k => if k = 0 then iS0 else if k = 1 then iS1 else iS2), cB, cI, ?_, ?_⟩
  · intro k q hq
    match k, hq with
    | 0, hq => cases hq; exact hKn0
    | 1, hq => cases hq; exact hKn1
    | 2, hq => cases hq; exact hKn2
    | k + 3, hq => simp [vwCl] at hq
  · intro k q hq
    match k, hq with
    | 0, hq => cases hq; exact ⟨hB1, hB2⟩
    | 1, hq => cases hq; exact ⟨hI1, hI2⟩
    | k + 2, hq => simp [rc_T] at hq
set_option maxHeartbeats 4000000 in
set_option maxRecDepth 100000 in
/-- THE LAW, from its entry -/
theorem whole_start {p : Program} {e : Env} {s : State} {m : MethodId} {below : List Frame} {meth : Method} {c : Code} (l : Launch) (hflags : l.flags = flags0) {b L : Nat} {xs : Nat → Int32} (hL : L ≤ 12) (C0 : lw_At p s m meth c b L xs) : W p l e room_1 s m #[Value.ref b] below meth c s.heap [] 0 0 (lw_Z below #[Value.ref b] s) (entryFrame m ([Value.ref b] : List Value).toArray 8) := by
  obtain ⟨hx, hb, hr, hml, hown, hts0, hXs, hbl, hlocks, hgv⟩ := id C0
  have hts : ∀ w ∈ lw_all, w.before #[Value.ref b] s = true := fun w h => hts0 w (lw_all_tbl h)
  obtain ⟨D, cB, cI, hK⟩ := rc_start hts0
  have hX : rc_X s := ⟨va_Fw.of (hts0 _ q72) (hts0 _ q71) (hts0 _ q77) (hts0 _ q75) (hts0 _ q73), va_Fw.of (hts0 _ q165) (hts0 _ q164) (hts0 _ q169) (hts0 _ q167) (hts0 _ q73)⟩
  obtain ⟨A, eA⟩ : ∃ A : Nat → Prop, A = fun q => s.heap.size ≤ q := ⟨_, rfl⟩
  have hA : ∀ q : Nat, s.heap.size ≤ q → A q := fun q h => by rw [eA]; exact h
  have hbA : ¬ A b := by rw [eA]; exact Nat.not_le.mpr hbl
  have hS : va_S A s.heap s.heap [] := va_S.rf
  have hP : va_P D vwCl [] s.heap := fun k q h => by simp at h
  have hD : va_D A [] := ⟨fun i j p q h => by simp at h, fun k q h => by simp at h⟩
  have hl := lv_entry ([.ref b]) (n := 8) (Nat.le_of_ble_eq_true rfl)
  rw [lg_entry_eq]
  generalize (lg_sl ([.ref b]) ++ List.replicate (8 - (lg_sl ([.ref b])).length) Slot.unset).toArray = ls at hl ⊢
  have hl : lv_has ls 8 [(0, .ref b)] := hl
  refine rc_ci (wr := []) [] [] (va_runS (As := []) (rest := []) ⟨hx, hb, hml, hown, hts⟩ (met_X0_known l D cB cI s.heap.size) (va_cwS 0 hts (lw_S q296 q297 q9 q298) rfl rfl rfl (by decide +kernel) ⟨Nat.le_of_ble_eq_true rfl, Nat.le_of_ble_eq_true rfl⟩) (rc_ps (hP.sub [] rfl) hK (hD.sub [] (by decide) rfl) hX) rfl rfl hl.1 rfl (lv_room (Nat.le_of_ble_eq_true rfl)) dL_law_0 ⟨Nat.le_of_ble_eq_true rfl, Nat.le_of_ble_eq_true rfl⟩) hP hD hS hA rfl rfl (by decide) (by decide) (fun r_1 _u H locs hkn hP hD hS => ?_)
  have hP : va_P D vwCl [] H := hP
  have hD : va_D A [] := hD
  have hkn : r_1 = 1 := hkn
  subst hkn
  refine lv_if_ne (tgt := 8) hx hb dL_law_3 (by decide) (fun _ => ?_) (fun c_ => absurd c_ (by decide))
  refine lv_iconst (v := 3) hx hb dL_law_8 (by decide) ?_
  refine rc_nwi hx hb (hts _ q191) hK hP hD hS hA 3 rfl (by omega) (Nat.le_of_ble_eq_true rfl) (Nat.le_of_ble_eq_true rfl) dL_law_9 (fun kn H hP hD hS => ?_)
  have hP : va_P D vwCl [(kn, .inl (cI, 3, .inl (fun _ => 0)))] H := hP
  have hD : va_D A [(kn, .inl (cI, 3, .inl (fun _ => 0)))] := hD
  refine lv_dup hx hb dL_law_11 rfl ?_
  refine lv_iconst (v := 0) hx hb dL_law_12 (by decide) ?_
  refine lv_iconst (v := 0) hx hb dL_law_13 (by decide) ?_
  refine rc_sti hx hb hK hP hD hS 0 1 rfl rfl 0 rfl (by omega) (by omega) (rc_fill rc_l3 1) (by rw [rc_fill_0 rc_l3]; exact rc_fill_s rc_l3 0 rfl) [(kn, .inl (cI, 3, .inl (rc_fill rc_l3 1)))] rfl dL_law_14 (fun H locs hP hD hS => ?_)
  refine lv_dup hx hb dL_law_15 rfl ?_
  refine lv_iconst (v := 1) hx hb dL_law_16 (by decide) ?_
  refine lv_iconst (v := 1) hx hb dL_law_17 (by decide) ?_
  refine rc_sti hx hb hK hP hD hS 0 1 rfl rfl 1 rfl (by omega) (by omega) (rc_fill rc_l3 2) (rc_fill_s rc_l3 1 rfl) [(kn, .inl (cI, 3, .inl (rc_fill rc_l3 2)))] rfl dL_law_18 (fun H locs hP hD hS => ?_)
  refine lv_dup hx hb dL_law_19 rfl ?_
  refine lv_iconst (v := 2) hx hb dL_law_20 (by decide) ?_
  refine lv_iconst (v := 2) hx hb dL_law_21 (by decide) ?_
  refine rc_sti hx hb hK hP hD hS 0 1 rfl rfl 2 rfl (by omega) (by omega) (rc_fill rc_l3 3) (rc_fill_s rc_l3 2 rfl) [(kn, .inl (cI, 3, .inl (rc_fill rc_l3 3)))] rfl dL_law_22 (fun H locs hP hD hS => ?_)
  refine lv_astore_n (lv' := [(1, .ref kn), (0, .ref b)]) hx hb dL_law_23 rfl hl (by decide) rfl (fun ls hl => ?_)
  refine lv_aload_n hx hb dL_law_24 rfl (lv_at hl 0 rfl) ?_
  refine lv_astore_n (lv' := [(2, .ref kn), (1, .ref kn), (0, .ref b)]) hx hb dL_law_25 rfl hl (by decide) rfl (fun ls hl => ?_)
  refine lv_aload_n hx hb dL_law_26 rfl (lv_at hl 0 rfl) ?_
  refine va_alen (v := 3) hx hb hK hP 0 1 rfl rfl rfl dL_law_27 ?_
  refine lv_istore_n (lv' := [(3, .int 3), (2, .ref kn), (1, .ref kn), (0, .ref b)]) hx hb dL_law_28 rfl hl (by decide) rfl (fun ls hl => ?_)
  refine lv_iconst (v := 0) hx hb dL_law_29 (by decide) ?_
  refine lv_istore (lv' := [(4, .int 0), (3, .int 3), (2, .ref kn), (1, .ref kn), (0, .ref b)]) hx hb dL_law_30 hl (by decide) rfl (fun ls hl => ?_)
  refine seg_it b L xs hL kn 0 (by omega) (34) (609) (by omega) (by omega) ⟨hx, hb, hml, hown, hts⟩ hK hX hA hXs hbl hbA (fun H locs ls hP hD hS hl => ?_) H _ ls hP hD hS (lv_sub hl [4, 2, 1, 0] rfl)
  refine seg_it b L xs hL kn 1 (by omega) (34 + 32) (609 + 610) (by omega) (by omega) ⟨hx, hb, hml, hown, hts⟩ hK hX hA hXs hbl hbA (fun H locs ls hP hD hS hl => ?_) H _ ls hP hD hS hl
  refine seg_it b L xs hL kn 2 (by omega) (34 + 32 + 32) (609 + 610 + 610) (by omega) (by omega) ⟨hx, hb, hml, hown, hts⟩ hK hX hA hXs hbl hbA (fun H locs ls hP hD hS hl => ?_) H _ ls hP hD hS hl
  refine lv_iload hx hb dL_law_32 (lv_at hl 3 rfl) ?_
  refine lv_iload_n hx hb dL_law_34 rfl (lv_at hl 2 rfl) ?_
  refine lv_icmp_ge (tgt := 120) hx hb dL_law_35 (by decide) (fun _ => ?_) (fun c_ => absurd (by decide) c_)
  refine lv_iconst (v := 1) hx hb dL_law_120 (by decide) ?_
  refine va_forget (fun q hq => by have h9 := hS.2.2 q hq; rw [eA] at h9; exact h9) ?_
  refine W.widen (k := 600024) (n := 7302034) (Nat.le_of_ble_eq_true rfl) (Nat.le_of_ble_eq_true rfl) ?_
  exact lw_ret hx hb hr hlocks dL_law_121
-- ===== YOUR PART ENDS =====
set_option maxHeartbeats 4000000 in
theorem lw_walk (l : Launch) (hflags : l.flags = flags0) (b : Addr) (xs : List Int32) : MetFree l x (headSpec (Jvm.Cond.code x code maxLocals ret :: tables_1) room_1) (lw_P b xs) (fun _ _ _ _ _ => True) lw_Q := by
  refine MetFree.of_bodyS (code := code) (maxLocals := maxLocals) (ret := ret) (by decide) ?_ ?_
  · intro args s m h hn
    obtain ⟨meth, c, h1, h2, h3, h4, h5, h6, -, -⟩ := Cond.code_spec hn (atoms_spec (ws := Jvm.Cond.code x code maxLocals ret :: tables_1) h _ List.mem_cons_self)
    exact ⟨meth, c, h1, h2, h3, h4, h5, h6⟩
  · intro p e s m args below meth c s₁ B hml0 hP _
    obtain ⟨rfl, hx, hbd, hgv⟩ := hP
    obtain ⟨scr, harrAt, hlist, hof, hsmall⟩ := hx
    obtain ⟨hcb, hkn, -, -⟩ := State.arrayAt?_spec harrAt
    have hown : s.vm.findClass R_law = some m.cls := findClass_of_methodNamed B.named
    have hts0 : ∀ c ∈ (Jvm.Cond.code x code maxLocals ret :: tables_1), c.before #[Value.ref b] s = true := atoms_spec (ws := Jvm.Cond.code x code maxLocals ret :: tables_1) B.pre
    have hts : ∀ w ∈ lw_tbl, w.before #[Value.ref b] s = true := k2_hts_sels lw_privs (fun w hw => hts0 w (List.mem_cons_of_mem _ hw)) lw_privs_ok
    have hml : c.maxLocals = 8 := B.maxLocals_eq (hts0 _ List.mem_cons_self)
    have X₀ : Stand p l e room_1 s m #[Value.ref b] below meth c s₁ [] 0 0 := Stand.of_body B
    have hh0 : s₁.heap = s.heap := by rw [B.state]; rfl
    have hsz : scr.slots.size = xs.length := by rw [← Array.length_toList, hlist, List.length_map]
    have hval : ∀ j : Nat, j < xs.length → scr.slots[j]? = some (.int (xs.getD j 0)) := fun j hj => by
      rw [← Array.getElem?_toList, hlist]
      simp [hj]
    have hbl : b < s.heap.size := (Array.getElem?_eq_some_iff.mp hcb).1
    have hX : va_X b xs.length (fun j => xs.getD j 0) s s.heap := ⟨scr, hcb, hof, hkn, hsz, hval⟩
    have K : W p l e room_1 s m #[Value.ref b] below meth c s₁.heap [] 0 0 (lw_Z below #[Value.ref b] s) (entryFrame m ([Value.ref b] : List Value).toArray 8) := by
      rw [hh0]
      exact whole_start l hflags hbd ⟨B.exec, B.bytes, B.returns, hml, hown, hts, hX, hbl, B.notSynchronized, hgv⟩
    obtain ⟨t, a1, o, b1, b2, b3⟩ := K s₁ rfl X₀
    exact ⟨t, o, a1, b1, b2, b3⟩
theorem lw_pre_spec {args : Array Value} {s : State} (h : (Jvm.Cond.and given_1 narrow_1).before args s = true) (hr : rest_1_c.before args s = true) : ∃ (b : Addr) (xs : List Int32), lw_P b xs args s := by
  have hs := flat_of_before _ h
  have hq := flat_of_before _ hr
  have hc : (Cond.count 1).before args s = true := hs _ (by decide +kernel)
  have harr : (Cond.arrayOf (.arg 0) .int).before args s = true := hs _ (by decide +kernel)
  have hle : (Cond.le (.length (.arg 0)) (.int 12)).before args s = true := hs _ (by decide +kernel)
  have hlen : (Cond.isInt (.length (.arg 0))).before args s = true := hq _ (by decide +kernel)
  have hall : (Cond.all (.arg 0) (.isInt (.elem (.arg 0) (.index 0)))).before args s = true := hq _ (by decide +kernel)
  obtain ⟨b, xs, hb, hx⟩ := State.ints_of_pre rfl harr hlen hall
  have hsm : xs.length < 2 ^ 31 := hx.choose_spec.2.2.2
  have hev : (Term.length (.arg 0)).eval args s none [] s = some (.int xs.length.toInt32) := hx.length_eval hb
  have hv := Cond.le_ints hev (show (Term.int 12).eval args s none [] s = some (.int 12) from rfl)
  have hd : xs.length.toInt32 ≤ 12 := by
    simpa [Cond.before, Cond.holds, hv] using hle
  have hN : xs.length ≤ 12 := (Int32.ofNat_le_ofNat hsm (by decide)).mp (show Int32.ofNat xs.length ≤ Int32.ofNat 12 from hd)
  exact ⟨b, xs, Cond.one_arg hc (show args[0]? = some (.ref b) from hb), hx, hN, h⟩
theorem lw_comes (l : Launch) (hflags : l.flags = flags0) : Comes l x (Jvm.Cond.code x code maxLocals ret :: tables_1) room_1 (fun tb e args s => Calls_1 tb e args s ∧ rest_1 tb e args s ∧ Pre_1 tb e args s)
    (fun _ _ args s o t => lw_Q args s o t) := by
  intro p e ha hc hk s m args below hf hfit hheap happ hpre
  obtain ⟨b, xs, hP⟩ := lw_pre_spec hpre.2.2 hpre.2.1
  obtain ⟨k, o, h1, h2, h3, hQ⟩ := lw_walk l hflags b xs p e ha hc hk s m args below hf ((Spec.applies_iff_loose hf).mp happ).1 hP trivial
  exact ⟨k, o, h1, h2, h3, hQ⟩
theorem lw_frame {s t : State} {o : Outcome} {args : Array Value} (h : Framed s o t [] 600024 7302034) :
    Framed s o t (fieldLocs frame_1_writes args s ++ arrayLocs frame_1_arrays args s ++ staticLocs frame_1_statics s) 600024 7302034 := h
theorem lw_limb (L : Cond) (hL : ∀ (args : Array Value) (s t : State), L.after args s (.returned (some (.int 1))) t = true) :
    ArmFor flags0 classFile x code maxLocals ret World_1 tables_1 room_1 Calls_1 rest_1 Pre_1
      (fun tb e a s o t => postC L tb e a s o t ∧ Framed s o t (fieldLocs frame_1_writes a s ++ arrayLocs frame_1_arrays a s ++ staticLocs frame_1_statics s) 600024 7302034) := by
  intro l hflags _ _ p e ha hc hk s m args below hf hfit hheap happ hpre
  obtain ⟨k, o, h1, h2, h3, rfl, hF⟩ := lw_comes l hflags p e ha hc hk s m args below hf hfit hheap happ hpre
  exact ⟨k, _, h1, h2, h3, hL args s _, lw_frame hF⟩
theorem i_vc : Claimed_1_1 ∧ Claimed_1_2 := ⟨lw_limb limb_1_1 (fun args s t => by simp [limb_1_1, Cond.after, Cond.holds, Cond.value]), lw_limb limb_1_2 (fun args s t => Cond.after_iff.mpr (by
  first | (rw [show limb_1_2 = Cond.eq .result (.int 1) from rfl, Cond.eq_ints (x := 1) (y := 1) rfl rfl]; simp; done) | (simp [limb_1_2, Cond.value, Term.eval]; done)))⟩
end
