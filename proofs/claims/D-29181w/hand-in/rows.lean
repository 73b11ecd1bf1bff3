section
-- ===== PART A: goes FIRST, ahead of the names: the tables' words, and 'selects' of the private methods out of them =====
/-- a private method of a class that the tables say can be made, by its rows of tables_1 -/
def lw_okq (q : MethodName × Nat) : Prop := (q.1.cls ≠ "java/lang/invoke/MethodHandle" ∧ q.1.cls ≠ "java/lang/invoke/VarHandle") ∧ Cond.instantiable q.1.cls q.2 ∈ tables_1 ∧ Cond.privateMethod q.1 ∈ tables_1 ∧ Cond.instanceMethod q.1 ∈ tables_1
set_option maxRecDepth 100000
theorem lw_t1 {w : Cond} (h : w ∈ tables_1_1) : w ∈ tables_1 := List.mem_append_left _ h
theorem lw_t2 {w : Cond} (h : w ∈ tables_1_2) : w ∈ tables_1 := List.mem_append_right _ h
theorem lw_p0 : lw_okq (⟨"RcWideDesk", "run", "(ZI)V"⟩, 3) := ⟨⟨by decide +kernel, by decide +kernel⟩, lw_t1 (List.mem_of_getElem? (i := 11) rfl), lw_t1 (List.mem_of_getElem? (i := 45) rfl), lw_t1 (List.mem_of_getElem? (i := 46) rfl)⟩
theorem lw_p1 : lw_okq (⟨"java/lang/Throwable", "fillInStackTrace", "(I)Ljava/lang/Throwable;"⟩, 6) := ⟨⟨by decide +kernel, by decide +kernel⟩, lw_t1 (List.mem_of_getElem? (i := 110) rfl), lw_t1 (List.mem_of_getElem? (i := 108) rfl), lw_t1 (List.mem_of_getElem? (i := 109) rfl)⟩
theorem lw_p2 : lw_okq (⟨"RC564Engine", "setKey", "([B)V"⟩, 3) := ⟨⟨by decide +kernel, by decide +kernel⟩, lw_t1 (List.mem_of_getElem? (i := 52) rfl), lw_t1 (List.mem_of_getElem? (i := 171) rfl), lw_t1 (List.mem_of_getElem? (i := 172) rfl)⟩
theorem lw_p3 : lw_okq (⟨"RC564Engine", "rotateLeft", "(JJ)J"⟩, 3) := ⟨⟨by decide +kernel, by decide +kernel⟩, lw_t1 (List.mem_of_getElem? (i := 52) rfl), lw_t1 (List.mem_of_getElem? (i := 178) rfl), lw_t1 (List.mem_of_getElem? (i := 179) rfl)⟩
theorem lw_p4 : lw_okq (⟨"RC564Engine", "encryptBlock", "([BI[BI)I"⟩, 3) := ⟨⟨by decide +kernel, by decide +kernel⟩, lw_t1 (List.mem_of_getElem? (i := 52) rfl), lw_t1 (List.mem_of_getElem? (i := 193) rfl), lw_t1 (List.mem_of_getElem? (i := 194) rfl)⟩
theorem lw_p5 : lw_okq (⟨"RC564Engine", "bytesToWord", "([BI)J"⟩, 3) := ⟨⟨by decide +kernel, by decide +kernel⟩, lw_t1 (List.mem_of_getElem? (i := 52) rfl), lw_t1 (List.mem_of_getElem? (i := 197) rfl), lw_t1 (List.mem_of_getElem? (i := 198) rfl)⟩
theorem lw_p6 : lw_okq (⟨"RC564Engine", "wordToBytes", "(J[BI)V"⟩, 3) := ⟨⟨by decide +kernel, by decide +kernel⟩, lw_t1 (List.mem_of_getElem? (i := 52) rfl), lw_t1 (List.mem_of_getElem? (i := 201) rfl), lw_t1 (List.mem_of_getElem? (i := 202) rfl)⟩
theorem lw_p7 : lw_okq (⟨"RC564Engine", "decryptBlock", "([BI[BI)I"⟩, 3) := ⟨⟨by decide +kernel, by decide +kernel⟩, lw_t1 (List.mem_of_getElem? (i := 52) rfl), lw_t1 (List.mem_of_getElem? (i := 205) rfl), lw_t1 (List.mem_of_getElem? (i := 206) rfl)⟩
theorem lw_p8 : lw_okq (⟨"RC564Engine", "rotateRight", "(JJ)J"⟩, 3) := ⟨⟨by decide +kernel, by decide +kernel⟩, lw_t1 (List.mem_of_getElem? (i := 52) rfl), lw_t1 (List.mem_of_getElem? (i := 209) rfl), lw_t1 (List.mem_of_getElem? (i := 210) rfl)⟩
theorem lw_p9 : lw_okq (⟨"RcWideDeskModel", "expanded", "()[J"⟩, 3) := ⟨⟨by decide +kernel, by decide +kernel⟩, lw_t1 (List.mem_of_getElem? (i := 226) rfl), lw_t2 (List.mem_of_getElem? (i := 29) rfl), lw_t2 (List.mem_of_getElem? (i := 30) rfl)⟩
theorem lw_p10 : lw_okq (⟨"RcWideDeskModel", "tells", "(JI)V"⟩, 3) := ⟨⟨by decide +kernel, by decide +kernel⟩, lw_t1 (List.mem_of_getElem? (i := 226) rfl), lw_t2 (List.mem_of_getElem? (i := 43) rfl), lw_t2 (List.mem_of_getElem? (i := 44) rfl)⟩
def lw_privs_1 : List (MethodName × Nat) := [(⟨"RcWideDesk", "run", "(ZI)V"⟩, 3), (⟨"java/lang/Throwable", "fillInStackTrace", "(I)Ljava/lang/Throwable;"⟩, 6), (⟨"RC564Engine", "setKey", "([B)V"⟩, 3), (⟨"RC564Engine", "rotateLeft", "(JJ)J"⟩, 3), (⟨"RC564Engine", "encryptBlock", "([BI[BI)I"⟩, 3), (⟨"RC564Engine", "bytesToWord", "([BI)J"⟩, 3), (⟨"RC564Engine", "wordToBytes", "(J[BI)V"⟩, 3), (⟨"RC564Engine", "decryptBlock", "([BI[BI)I"⟩, 3), (⟨"RC564Engine", "rotateRight", "(JJ)J"⟩, 3), (⟨"RcWideDeskModel", "expanded", "()[J"⟩, 3), (⟨"RcWideDeskModel", "tells", "(JI)V"⟩, 3)]
theorem lw_r1 : ∀ q ∈ lw_privs_1, lw_okq q := List.forall_mem_cons.mpr ⟨lw_p0, List.forall_mem_cons.mpr ⟨lw_p1, List.forall_mem_cons.mpr ⟨lw_p2, List.forall_mem_cons.mpr ⟨lw_p3, List.forall_mem_cons.mpr ⟨lw_p4, List.forall_mem_cons.mpr ⟨lw_p5, List.forall_mem_cons.mpr ⟨lw_p6, List.forall_mem_cons.mpr ⟨lw_p7, List.forall_mem_cons.mpr ⟨lw_p8, List.forall_mem_cons.mpr ⟨lw_p9, List.forall_mem_cons.mpr ⟨lw_p10, fun _ h => absurd h List.not_mem_nil⟩⟩⟩⟩⟩⟩⟩⟩⟩⟩⟩
def lw_privs : List (MethodName × Nat) := lw_privs_1
def lw_tbl : List Cond := k2_sels lw_privs ++ tables_1
theorem lw_privs_ok : ∀ q ∈ lw_privs, lw_okq q := lw_r1
-- ===== ONE list of words for every method: the tables' words that hold all through a run =====
def lw_all : List Cond := lw_tbl.filter goodWord
/-- a word of the tables by its place: claim/WORDS.tsv -/
theorem lw_w {w : Cond} (i : Nat) (h : lw_tbl[i]? = some w) (g : goodWord w = true) : w ∈ lw_all := List.mem_filter.mpr ⟨List.mem_of_getElem? h, g⟩
theorem lw_all_tbl {w : Cond} (h : w ∈ lw_all) : w ∈ lw_tbl := (List.mem_filter.mp h).1
theorem lw_self : GoodIn lw_all lw_all := fun w h => ⟨h, good_of_word (List.mem_filter.mp h).2⟩
/-- a class's field words, by their places -/
theorem lw_in (ws : List Cond) (ps : List Nat) (hp : ws = ps.filterMap (fun i => lw_tbl[i]?)) (hg : ws.all goodWord = true) : ∀ w ∈ ws, w ∈ lw_all := by
  intro w h
  have h1 := List.all_eq_true.mp hg w h
  rw [hp] at h
  obtain ⟨i, -, hi⟩ := List.mem_filterMap.mp h
  exact lw_w i hi h1
/-- the words of a contract for the method y with code b, L locals, answer r -/
abbrev ws_ (y : MethodName) (b : ByteArray) (L : Nat) (r : Option FieldType) : List Cond := Cond.code y b L r :: lw_all
theorem lw_meth {y : MethodName} {b : ByteArray} {L : Nat} {r : Option FieldType} (h : Cond.code y b L r ∈ lw_all) : GoodIn lw_all (ws_ y b L r) := by
  intro w hw
  rcases List.mem_cons.mp hw with e | e
  · rw [e]
    exact lw_self _ h
  · exact lw_self _ e
theorem lw_app {a c : List Cond} (ha : ∀ w ∈ a, w ∈ lw_all) (hc : GoodIn lw_all c) : GoodIn lw_all (a ++ c) := by
  intro w hw
  rcases List.mem_append.mp hw with e | e
  · exact lw_self w (ha w e)
  · exact hc w e
/-- what a call through an object asks: cwV n hts (lw_V ..) -/
theorem lw_V {own : String} {idx : Nat} {C : String} {y : MethodName} {b : ByteArray} {L : Nat} {r : Option FieldType} (h1 : Cond.methodLink own idx y ∈ lw_all) (h2 : Cond.instanceMethod y ∈ lw_all) (h3 : Cond.selects C y y ∈ lw_all) (h4 : Cond.initialized C ∈ lw_all) (h5 : Cond.code y b L r ∈ lw_all) : GoodIn lw_all (wsV own idx C y (ws_ y b L r)) := by
  refine lw_app ?_ (lw_meth h5)
  intro w hw
  simp only [List.mem_cons, List.not_mem_nil, or_false] at hw
  rcases hw with e | e | e | e
  · rw [e]; exact h1
  · rw [e]; exact h2
  · rw [e]; exact h3
  · rw [e]; exact h4
/-- what a static call asks: va_cwS n hts (lw_S ..) -/
theorem lw_S {own : String} {idx : Nat} {y : MethodName} {b : ByteArray} {L : Nat} {r : Option FieldType} (h1 : Cond.methodLink own idx y ∈ lw_all) (h2 : Cond.static y ∈ lw_all) (h3 : Cond.initialized y.cls ∈ lw_all) (h4 : Cond.code y b L r ∈ lw_all) : GoodIn lw_all (va_wsS own idx y (ws_ y b L r)) := by
  refine lw_app ?_ (lw_meth h4)
  intro w hw
  simp only [List.mem_cons, List.not_mem_nil, or_false] at hw
  rcases hw with e | e | e
  · rw [e]; exact h1
  · rw [e]; exact h2
  · rw [e]; exact h3
/-- the words of a contract for a method WITH HANDLERS (hh: its table) -/
abbrev wsW_ (y : MethodName) (b : ByteArray) (L : Nat) (r : Option FieldType) (hh : List (Nat × Nat × Nat × Nat)) : List Cond := Cond.codeWith y b L r hh :: lw_all
theorem lw_methW {y : MethodName} {b : ByteArray} {L : Nat} {r : Option FieldType} {hh : List (Nat × Nat × Nat × Nat)} (h : Cond.codeWith y b L r hh ∈ lw_all) : GoodIn lw_all (wsW_ y b L r hh) := by
  intro w hw
  rcases List.mem_cons.mp hw with e | e
  · rw [e]
    exact lw_self _ h
  · exact lw_self _ e
/-- any list of words by their places (lw_in), good -/
theorem lw_good {ws : List Cond} (h : ∀ w ∈ ws, w ∈ lw_all) : GoodIn lw_all ws := fun w hw => lw_self w (h w hw)
/-- what a call of a method with handlers asks: vx_cwVW n hts (lw_VW ..), vx_cwSW n hts (lw_SW ..) -/
theorem lw_VW {own : String} {idx : Nat} {C : String} {y : MethodName} {b : ByteArray} {L : Nat} {r : Option FieldType} {hh : List (Nat × Nat × Nat × Nat)} (h1 : Cond.methodLink own idx y ∈ lw_all) (h2 : Cond.instanceMethod y ∈ lw_all) (h3 : Cond.selects C y y ∈ lw_all) (h4 : Cond.initialized C ∈ lw_all) (h5 : Cond.codeWith y b L r hh ∈ lw_all) : GoodIn lw_all (wsV own idx C y (wsW_ y b L r hh)) := by
  refine lw_app ?_ (lw_methW h5)
  intro w hw
  simp only [List.mem_cons, List.not_mem_nil, or_false] at hw
  rcases hw with e | e | e | e
  · rw [e]; exact h1
  · rw [e]; exact h2
  · rw [e]; exact h3
  · rw [e]; exact h4
theorem lw_SW {own : String} {idx : Nat} {y : MethodName} {b : ByteArray} {L : Nat} {r : Option FieldType} {hh : List (Nat × Nat × Nat × Nat)} (h1 : Cond.methodLink own idx y ∈ lw_all) (h2 : Cond.static y ∈ lw_all) (h3 : Cond.initialized y.cls ∈ lw_all) (h4 : Cond.codeWith y b L r hh ∈ lw_all) : GoodIn lw_all (va_wsS own idx y (wsW_ y b L r hh)) := by
  refine lw_app ?_ (lw_methW h4)
  intro w hw
  simp only [List.mem_cons, List.not_mem_nil, or_false] at hw
  rcases hw with e | e | e
  · rw [e]; exact h1
  · rw [e]; exact h2
  · rw [e]; exact h3
/-- a word by its place in its run of the tables -/
theorem lw_at {r : List Cond} (hr : ∀ w ∈ r, w ∈ lw_tbl) {w : Cond} (i : Nat) (h : r[i]? = some w) : w ∈ lw_tbl := hr w (List.mem_of_getElem? h)
theorem lw_g {w : Cond} (h : w ∈ lw_tbl) (g : goodWord w = true) : w ∈ lw_all := List.mem_filter.mpr ⟨h, g⟩
theorem lw_ms : ∀ w ∈ k2_sels lw_privs, w ∈ lw_tbl := fun w h => show w ∈ k2_sels lw_privs ++ tables_1 from List.mem_append_left _ h
theorem lw_m1 : ∀ w ∈ tables_1_1, w ∈ lw_tbl := fun w h => show w ∈ k2_sels lw_privs ++ tables_1 from List.mem_append_right (k2_sels lw_privs) (show w ∈ tables_1 from List.mem_append_left _ h)
theorem lw_m2 : ∀ w ∈ tables_1_2, w ∈ lw_tbl := fun w h => show w ∈ k2_sels lw_privs ++ tables_1 from List.mem_append_right (k2_sels lw_privs) (show w ∈ tables_1 from List.mem_append_right _ h)
theorem qs0 : (Cond.selects "RcWideDesk" ⟨"RcWideDesk", "run", "(ZI)V"⟩ ⟨"RcWideDesk", "run", "(ZI)V"⟩) ∈ lw_all := lw_g (lw_at lw_ms 0 rfl) rfl
theorem qs1 : (Cond.selects "java/lang/Throwable" ⟨"java/lang/Throwable", "fillInStackTrace", "(I)Ljava/lang/Throwable;"⟩ ⟨"java/lang/Throwable", "fillInStackTrace", "(I)Ljava/lang/Throwable;"⟩) ∈ lw_all := lw_g (lw_at lw_ms 1 rfl) rfl
theorem qs2 : (Cond.selects "RC564Engine" ⟨"RC564Engine", "setKey", "([B)V"⟩ ⟨"RC564Engine", "setKey", "([B)V"⟩) ∈ lw_all := lw_g (lw_at lw_ms 2 rfl) rfl
theorem qs3 : (Cond.selects "RC564Engine" ⟨"RC564Engine", "rotateLeft", "(JJ)J"⟩ ⟨"RC564Engine", "rotateLeft", "(JJ)J"⟩) ∈ lw_all := lw_g (lw_at lw_ms 3 rfl) rfl
theorem qs4 : (Cond.selects "RC564Engine" ⟨"RC564Engine", "encryptBlock", "([BI[BI)I"⟩ ⟨"RC564Engine", "encryptBlock", "([BI[BI)I"⟩) ∈ lw_all := lw_g (lw_at lw_ms 4 rfl) rfl
theorem qs5 : (Cond.selects "RC564Engine" ⟨"RC564Engine", "bytesToWord", "([BI)J"⟩ ⟨"RC564Engine", "bytesToWord", "([BI)J"⟩) ∈ lw_all := lw_g (lw_at lw_ms 5 rfl) rfl
theorem qs6 : (Cond.selects "RC564Engine" ⟨"RC564Engine", "wordToBytes", "(J[BI)V"⟩ ⟨"RC564Engine", "wordToBytes", "(J[BI)V"⟩) ∈ lw_all := lw_g (lw_at lw_ms 6 rfl) rfl
theorem qs7 : (Cond.selects "RC564Engine" ⟨"RC564Engine", "decryptBlock", "([BI[BI)I"⟩ ⟨"RC564Engine", "decryptBlock", "([BI[BI)I"⟩) ∈ lw_all := lw_g (lw_at lw_ms 7 rfl) rfl
theorem qs8 : (Cond.selects "RC564Engine" ⟨"RC564Engine", "rotateRight", "(JJ)J"⟩ ⟨"RC564Engine", "rotateRight", "(JJ)J"⟩) ∈ lw_all := lw_g (lw_at lw_ms 8 rfl) rfl
theorem qs9 : (Cond.selects "RcWideDeskModel" ⟨"RcWideDeskModel", "expanded", "()[J"⟩ ⟨"RcWideDeskModel", "expanded", "()[J"⟩) ∈ lw_all := lw_g (lw_at lw_ms 9 rfl) rfl
theorem qs10 : (Cond.selects "RcWideDeskModel" ⟨"RcWideDeskModel", "tells", "(JI)V"⟩ ⟨"RcWideDeskModel", "tells", "(JI)V"⟩) ∈ lw_all := lw_g (lw_at lw_ms 10 rfl) rfl
end
section
/-! DECODE ROWS BY BYTES: one lemma an opcode; a method's code is cut into short pieces once, and a row reads its own piece alone. -/
set_option maxRecDepth 100000
/-- the code has just these bytes from pc on -/
def DkAt (code : ByteArray) (pc : Nat) (bs : List UInt8) : Prop := ∀ (j : Nat) (b : UInt8), bs[j]? = some b → code.data.toList[pc + j]? = some b
/-- the piece W has the bytes bs from its place j on -/
def dkIn (W : List UInt8) (j : Nat) (bs : List UInt8) : Bool := decide ((W.drop j).take bs.length = bs)
theorem dk_seg {l W T : List UInt8} {o o2 : Nat} (h : l.drop o = W ++ T) (n : Nat) (hn : W.length = n) (ho : o + n = o2) : l.drop o2 = T := by
  subst ho
  rw [← List.drop_drop, h, List.drop_left' hn]
theorem dk_at {code : ByteArray} {W T bs : List UInt8} {o pc : Nat} (h : code.data.toList.drop o = W ++ T) (j : Nat) (hp : o + j = pc) (hw : dkIn W j bs = true) : DkAt code pc bs := by
  subst hp
  intro i b e
  have h1 := of_decide_eq_true hw
  have h2 : i < bs.length := (List.getElem?_eq_some_iff.mp e).1
  have h3 : W[j + i]? = some b := by
    rw [← h1, List.getElem?_take, if_pos h2, List.getElem?_drop] at e
    exact e
  have h4 : j + i < W.length := (List.getElem?_eq_some_iff.mp h3).1
  have h5 : (code.data.toList.drop o)[j + i]? = some b := by
    rw [h, List.getElem?_append_left h4]
    exact h3
  rw [List.getElem?_drop, ← Nat.add_assoc] at h5
  exact h5
theorem dk_u1 {A : ByteArray} {p : Nat} {b : UInt8} (h : A.data.toList[p]? = some b) : (Reader.u1 : Reader DecodeError Nat) A p = .ok (b.toNat, p + 1) := by
  obtain ⟨h1, h2⟩ := List.getElem?_eq_some_iff.mp h
  have h3 : p < A.size := by simpa using h1
  have h4 : A[p]'h3 = b := h2
  have e : (Reader.u1 : Reader DecodeError Nat) A p = (if h : p < A.size then .ok (A[p].toNat, p + 1) else .error (HasTruncated.truncated p)) := by
    show (do if h : p < A.size then do set (p + 1); Pure.pure A[p].toNat else MonadExcept.throw (HasTruncated.truncated p) : Reader DecodeError Nat) A p = _
    by_cases hi : p < A.size
    · rw [dif_pos hi, dif_pos hi]; rfl
    · rw [dif_neg hi, dif_neg hi]; rfl
  rw [e, dif_pos h3, h4]
theorem dk_bind {α β : Type} {r : Reader DecodeError α} {f : α → Reader DecodeError β} {A : ByteArray} {p s : Nat} {a : α} (h : r A p = .ok (a, s)) : (r >>= f) A p = f a A s := by
  show (do let (a, s) ← r A p; f a A s : Except DecodeError (β × Nat)) = _
  rw [h]
  rfl
theorem dk_map {α β : Type} {r : Reader DecodeError α} {g : α → β} {A : ByteArray} {p s : Nat} {a : α} (h : r A p = .ok (a, s)) : (g <$> r) A p = .ok (g a, s) := by
  show (do let (a, s) ← r A p; .ok (g a, s) : Except DecodeError (β × Nat)) = _
  rw [h]
  rfl
theorem dk_u2 {A : ByteArray} {p : Nat} {a b : UInt8} (h : A.data.toList[p]? = some a) (h2 : A.data.toList[p + 1]? = some b) : (Reader.u2 : Reader DecodeError Nat) A p = .ok (a.toNat * 256 + b.toNat, p + 2) := by
  show (Reader.u1 >>= fun hi => Reader.u1 >>= fun lo => Pure.pure (hi * 256 + lo) : Reader DecodeError Nat) A p = _
  rw [dk_bind (dk_u1 h), dk_bind (dk_u1 h2)]
  rfl
theorem dk_of {code : ByteArray} {pc n : Nat} {i : Instr} (h : Decoder.instr pc code pc = .ok (i, pc + n)) : decode code pc = .ok (i, n) := by
  have e : decode code pc = (match Decoder.instr pc code pc with | .error x => .error x | .ok (j, s) => .ok (j, s - pc)) := by
    show (do let (j, s) ← Decoder.instr pc code pc; Pure.pure (j, s - pc) : Except DecodeError (Instr × Nat)) = _
    cases Decoder.instr pc code pc <;> rfl
  rw [e, h]
  show Except.ok (i, pc + n - pc) = _
  rw [Nat.add_sub_cancel_left]
theorem dk_1 {code : ByteArray} {pc : Nat} (h : DkAt code pc [1]) : decode code pc = .ok (.aconst_null, 1) := dk_of ((dk_bind (dk_u1 (h 0 _ rfl))).trans rfl)
theorem dk_3 {code : ByteArray} {pc : Nat} (h : DkAt code pc [3]) : decode code pc = .ok (.iconst 0, 1) := dk_of ((dk_bind (dk_u1 (h 0 _ rfl))).trans rfl)
theorem dk_4 {code : ByteArray} {pc : Nat} (h : DkAt code pc [4]) : decode code pc = .ok (.iconst 1, 1) := dk_of ((dk_bind (dk_u1 (h 0 _ rfl))).trans rfl)
theorem dk_5 {code : ByteArray} {pc : Nat} (h : DkAt code pc [5]) : decode code pc = .ok (.iconst 2, 1) := dk_of ((dk_bind (dk_u1 (h 0 _ rfl))).trans rfl)
theorem dk_6 {code : ByteArray} {pc : Nat} (h : DkAt code pc [6]) : decode code pc = .ok (.iconst 3, 1) := dk_of ((dk_bind (dk_u1 (h 0 _ rfl))).trans rfl)
theorem dk_7 {code : ByteArray} {pc : Nat} (h : DkAt code pc [7]) : decode code pc = .ok (.iconst 4, 1) := dk_of ((dk_bind (dk_u1 (h 0 _ rfl))).trans rfl)
theorem dk_8 {code : ByteArray} {pc : Nat} (h : DkAt code pc [8]) : decode code pc = .ok (.iconst 5, 1) := dk_of ((dk_bind (dk_u1 (h 0 _ rfl))).trans rfl)
theorem dk_9 {code : ByteArray} {pc : Nat} (h : DkAt code pc [9]) : decode code pc = .ok (.lconst 0, 1) := dk_of ((dk_bind (dk_u1 (h 0 _ rfl))).trans rfl)
theorem dk_16 {code : ByteArray} {pc : Nat} (a : UInt8) (h : DkAt code pc [16, a]) : decode code pc = .ok (.bipush (Reader.signed 8 a.toNat), 2) := dk_of ((dk_bind (dk_u1 (h 0 _ rfl))).trans ((dk_bind (dk_map (dk_u1 (h 1 _ rfl)))).trans rfl))
theorem dk_17 {code : ByteArray} {pc : Nat} (a b : UInt8) (h : DkAt code pc [17, a, b]) : decode code pc = .ok (.sipush (Reader.signed 16 (a.toNat * 256 + b.toNat)), 3) := dk_of ((dk_bind (dk_u1 (h 0 _ rfl))).trans ((dk_bind (dk_map (dk_u2 (h 1 _ rfl) (h 2 _ rfl)))).trans rfl))
theorem dk_18 {code : ByteArray} {pc : Nat} (a : UInt8) (h : DkAt code pc [18, a]) : decode code pc = .ok (.ldc a.toNat, 2) := dk_of ((dk_bind (dk_u1 (h 0 _ rfl))).trans ((dk_bind (dk_u1 (h 1 _ rfl))).trans rfl))
theorem dk_20 {code : ByteArray} {pc : Nat} (a b : UInt8) (h : DkAt code pc [20, a, b]) : decode code pc = .ok (.ldc2_w (a.toNat * 256 + b.toNat), 3) := dk_of ((dk_bind (dk_u1 (h 0 _ rfl))).trans ((dk_bind (dk_u2 (h 1 _ rfl) (h 2 _ rfl))).trans rfl))
theorem dk_21 {code : ByteArray} {pc : Nat} (a : UInt8) (h : DkAt code pc [21, a]) : decode code pc = .ok (.iload a.toNat, 2) := dk_of ((dk_bind (dk_u1 (h 0 _ rfl))).trans ((dk_bind (dk_u1 (h 1 _ rfl))).trans rfl))
theorem dk_22 {code : ByteArray} {pc : Nat} (a : UInt8) (h : DkAt code pc [22, a]) : decode code pc = .ok (.lload a.toNat, 2) := dk_of ((dk_bind (dk_u1 (h 0 _ rfl))).trans ((dk_bind (dk_u1 (h 1 _ rfl))).trans rfl))
theorem dk_25 {code : ByteArray} {pc : Nat} (a : UInt8) (h : DkAt code pc [25, a]) : decode code pc = .ok (.aload a.toNat, 2) := dk_of ((dk_bind (dk_u1 (h 0 _ rfl))).trans ((dk_bind (dk_u1 (h 1 _ rfl))).trans rfl))
theorem dk_27 {code : ByteArray} {pc : Nat} (h : DkAt code pc [27]) : decode code pc = .ok (.iload_n 1, 1) := dk_of ((dk_bind (dk_u1 (h 0 _ rfl))).trans rfl)
theorem dk_28 {code : ByteArray} {pc : Nat} (h : DkAt code pc [28]) : decode code pc = .ok (.iload_n 2, 1) := dk_of ((dk_bind (dk_u1 (h 0 _ rfl))).trans rfl)
theorem dk_29 {code : ByteArray} {pc : Nat} (h : DkAt code pc [29]) : decode code pc = .ok (.iload_n 3, 1) := dk_of ((dk_bind (dk_u1 (h 0 _ rfl))).trans rfl)
theorem dk_30 {code : ByteArray} {pc : Nat} (h : DkAt code pc [30]) : decode code pc = .ok (.lload_n 0, 1) := dk_of ((dk_bind (dk_u1 (h 0 _ rfl))).trans rfl)
theorem dk_31 {code : ByteArray} {pc : Nat} (h : DkAt code pc [31]) : decode code pc = .ok (.lload_n 1, 1) := dk_of ((dk_bind (dk_u1 (h 0 _ rfl))).trans rfl)
theorem dk_32 {code : ByteArray} {pc : Nat} (h : DkAt code pc [32]) : decode code pc = .ok (.lload_n 2, 1) := dk_of ((dk_bind (dk_u1 (h 0 _ rfl))).trans rfl)
theorem dk_33 {code : ByteArray} {pc : Nat} (h : DkAt code pc [33]) : decode code pc = .ok (.lload_n 3, 1) := dk_of ((dk_bind (dk_u1 (h 0 _ rfl))).trans rfl)
theorem dk_42 {code : ByteArray} {pc : Nat} (h : DkAt code pc [42]) : decode code pc = .ok (.aload_n 0, 1) := dk_of ((dk_bind (dk_u1 (h 0 _ rfl))).trans rfl)
theorem dk_43 {code : ByteArray} {pc : Nat} (h : DkAt code pc [43]) : decode code pc = .ok (.aload_n 1, 1) := dk_of ((dk_bind (dk_u1 (h 0 _ rfl))).trans rfl)
theorem dk_44 {code : ByteArray} {pc : Nat} (h : DkAt code pc [44]) : decode code pc = .ok (.aload_n 2, 1) := dk_of ((dk_bind (dk_u1 (h 0 _ rfl))).trans rfl)
theorem dk_45 {code : ByteArray} {pc : Nat} (h : DkAt code pc [45]) : decode code pc = .ok (.aload_n 3, 1) := dk_of ((dk_bind (dk_u1 (h 0 _ rfl))).trans rfl)
theorem dk_46 {code : ByteArray} {pc : Nat} (h : DkAt code pc [46]) : decode code pc = .ok (.iaload, 1) := dk_of ((dk_bind (dk_u1 (h 0 _ rfl))).trans rfl)
theorem dk_47 {code : ByteArray} {pc : Nat} (h : DkAt code pc [47]) : decode code pc = .ok (.laload, 1) := dk_of ((dk_bind (dk_u1 (h 0 _ rfl))).trans rfl)
theorem dk_51 {code : ByteArray} {pc : Nat} (h : DkAt code pc [51]) : decode code pc = .ok (.baload, 1) := dk_of ((dk_bind (dk_u1 (h 0 _ rfl))).trans rfl)
theorem dk_54 {code : ByteArray} {pc : Nat} (a : UInt8) (h : DkAt code pc [54, a]) : decode code pc = .ok (.istore a.toNat, 2) := dk_of ((dk_bind (dk_u1 (h 0 _ rfl))).trans ((dk_bind (dk_u1 (h 1 _ rfl))).trans rfl))
theorem dk_55 {code : ByteArray} {pc : Nat} (a : UInt8) (h : DkAt code pc [55, a]) : decode code pc = .ok (.lstore a.toNat, 2) := dk_of ((dk_bind (dk_u1 (h 0 _ rfl))).trans ((dk_bind (dk_u1 (h 1 _ rfl))).trans rfl))
theorem dk_58 {code : ByteArray} {pc : Nat} (a : UInt8) (h : DkAt code pc [58, a]) : decode code pc = .ok (.astore a.toNat, 2) := dk_of ((dk_bind (dk_u1 (h 0 _ rfl))).trans ((dk_bind (dk_u1 (h 1 _ rfl))).trans rfl))
theorem dk_60 {code : ByteArray} {pc : Nat} (h : DkAt code pc [60]) : decode code pc = .ok (.istore_n 1, 1) := dk_of ((dk_bind (dk_u1 (h 0 _ rfl))).trans rfl)
theorem dk_61 {code : ByteArray} {pc : Nat} (h : DkAt code pc [61]) : decode code pc = .ok (.istore_n 2, 1) := dk_of ((dk_bind (dk_u1 (h 0 _ rfl))).trans rfl)
theorem dk_62 {code : ByteArray} {pc : Nat} (h : DkAt code pc [62]) : decode code pc = .ok (.istore_n 3, 1) := dk_of ((dk_bind (dk_u1 (h 0 _ rfl))).trans rfl)
theorem dk_64 {code : ByteArray} {pc : Nat} (h : DkAt code pc [64]) : decode code pc = .ok (.lstore_n 1, 1) := dk_of ((dk_bind (dk_u1 (h 0 _ rfl))).trans rfl)
theorem dk_65 {code : ByteArray} {pc : Nat} (h : DkAt code pc [65]) : decode code pc = .ok (.lstore_n 2, 1) := dk_of ((dk_bind (dk_u1 (h 0 _ rfl))).trans rfl)
theorem dk_66 {code : ByteArray} {pc : Nat} (h : DkAt code pc [66]) : decode code pc = .ok (.lstore_n 3, 1) := dk_of ((dk_bind (dk_u1 (h 0 _ rfl))).trans rfl)
theorem dk_76 {code : ByteArray} {pc : Nat} (h : DkAt code pc [76]) : decode code pc = .ok (.astore_n 1, 1) := dk_of ((dk_bind (dk_u1 (h 0 _ rfl))).trans rfl)
theorem dk_77 {code : ByteArray} {pc : Nat} (h : DkAt code pc [77]) : decode code pc = .ok (.astore_n 2, 1) := dk_of ((dk_bind (dk_u1 (h 0 _ rfl))).trans rfl)
theorem dk_78 {code : ByteArray} {pc : Nat} (h : DkAt code pc [78]) : decode code pc = .ok (.astore_n 3, 1) := dk_of ((dk_bind (dk_u1 (h 0 _ rfl))).trans rfl)
theorem dk_79 {code : ByteArray} {pc : Nat} (h : DkAt code pc [79]) : decode code pc = .ok (.iastore, 1) := dk_of ((dk_bind (dk_u1 (h 0 _ rfl))).trans rfl)
theorem dk_80 {code : ByteArray} {pc : Nat} (h : DkAt code pc [80]) : decode code pc = .ok (.lastore, 1) := dk_of ((dk_bind (dk_u1 (h 0 _ rfl))).trans rfl)
theorem dk_84 {code : ByteArray} {pc : Nat} (h : DkAt code pc [84]) : decode code pc = .ok (.bastore, 1) := dk_of ((dk_bind (dk_u1 (h 0 _ rfl))).trans rfl)
theorem dk_87 {code : ByteArray} {pc : Nat} (h : DkAt code pc [87]) : decode code pc = .ok (.pop, 1) := dk_of ((dk_bind (dk_u1 (h 0 _ rfl))).trans rfl)
theorem dk_89 {code : ByteArray} {pc : Nat} (h : DkAt code pc [89]) : decode code pc = .ok (.dup, 1) := dk_of ((dk_bind (dk_u1 (h 0 _ rfl))).trans rfl)
theorem dk_92 {code : ByteArray} {pc : Nat} (h : DkAt code pc [92]) : decode code pc = .ok (.dup2, 1) := dk_of ((dk_bind (dk_u1 (h 0 _ rfl))).trans rfl)
theorem dk_94 {code : ByteArray} {pc : Nat} (h : DkAt code pc [94]) : decode code pc = .ok (.dup2_x2, 1) := dk_of ((dk_bind (dk_u1 (h 0 _ rfl))).trans rfl)
theorem dk_96 {code : ByteArray} {pc : Nat} (h : DkAt code pc [96]) : decode code pc = .ok (.iadd, 1) := dk_of ((dk_bind (dk_u1 (h 0 _ rfl))).trans rfl)
theorem dk_97 {code : ByteArray} {pc : Nat} (h : DkAt code pc [97]) : decode code pc = .ok (.ladd, 1) := dk_of ((dk_bind (dk_u1 (h 0 _ rfl))).trans rfl)
theorem dk_100 {code : ByteArray} {pc : Nat} (h : DkAt code pc [100]) : decode code pc = .ok (.isub, 1) := dk_of ((dk_bind (dk_u1 (h 0 _ rfl))).trans rfl)
theorem dk_101 {code : ByteArray} {pc : Nat} (h : DkAt code pc [101]) : decode code pc = .ok (.lsub, 1) := dk_of ((dk_bind (dk_u1 (h 0 _ rfl))).trans rfl)
theorem dk_104 {code : ByteArray} {pc : Nat} (h : DkAt code pc [104]) : decode code pc = .ok (.imul, 1) := dk_of ((dk_bind (dk_u1 (h 0 _ rfl))).trans rfl)
theorem dk_108 {code : ByteArray} {pc : Nat} (h : DkAt code pc [108]) : decode code pc = .ok (.idiv, 1) := dk_of ((dk_bind (dk_u1 (h 0 _ rfl))).trans rfl)
theorem dk_112 {code : ByteArray} {pc : Nat} (h : DkAt code pc [112]) : decode code pc = .ok (.irem, 1) := dk_of ((dk_bind (dk_u1 (h 0 _ rfl))).trans rfl)
theorem dk_120 {code : ByteArray} {pc : Nat} (h : DkAt code pc [120]) : decode code pc = .ok (.ishl, 1) := dk_of ((dk_bind (dk_u1 (h 0 _ rfl))).trans rfl)
theorem dk_121 {code : ByteArray} {pc : Nat} (h : DkAt code pc [121]) : decode code pc = .ok (.lshl, 1) := dk_of ((dk_bind (dk_u1 (h 0 _ rfl))).trans rfl)
theorem dk_122 {code : ByteArray} {pc : Nat} (h : DkAt code pc [122]) : decode code pc = .ok (.ishr, 1) := dk_of ((dk_bind (dk_u1 (h 0 _ rfl))).trans rfl)
theorem dk_123 {code : ByteArray} {pc : Nat} (h : DkAt code pc [123]) : decode code pc = .ok (.lshr, 1) := dk_of ((dk_bind (dk_u1 (h 0 _ rfl))).trans rfl)
theorem dk_125 {code : ByteArray} {pc : Nat} (h : DkAt code pc [125]) : decode code pc = .ok (.lushr, 1) := dk_of ((dk_bind (dk_u1 (h 0 _ rfl))).trans rfl)
theorem dk_126 {code : ByteArray} {pc : Nat} (h : DkAt code pc [126]) : decode code pc = .ok (.iand, 1) := dk_of ((dk_bind (dk_u1 (h 0 _ rfl))).trans rfl)
theorem dk_127 {code : ByteArray} {pc : Nat} (h : DkAt code pc [127]) : decode code pc = .ok (.land, 1) := dk_of ((dk_bind (dk_u1 (h 0 _ rfl))).trans rfl)
theorem dk_129 {code : ByteArray} {pc : Nat} (h : DkAt code pc [129]) : decode code pc = .ok (.lor, 1) := dk_of ((dk_bind (dk_u1 (h 0 _ rfl))).trans rfl)
theorem dk_131 {code : ByteArray} {pc : Nat} (h : DkAt code pc [131]) : decode code pc = .ok (.lxor, 1) := dk_of ((dk_bind (dk_u1 (h 0 _ rfl))).trans rfl)
theorem dk_132 {code : ByteArray} {pc : Nat} (a b : UInt8) (h : DkAt code pc [132, a, b]) : decode code pc = .ok (.iinc a.toNat (Reader.signed 8 b.toNat), 3) := dk_of ((dk_bind (dk_u1 (h 0 _ rfl))).trans ((dk_bind (dk_u1 (h 1 _ rfl))).trans ((dk_bind (dk_map (dk_u1 (h 2 _ rfl)))).trans rfl)))
theorem dk_133 {code : ByteArray} {pc : Nat} (h : DkAt code pc [133]) : decode code pc = .ok (.i2l, 1) := dk_of ((dk_bind (dk_u1 (h 0 _ rfl))).trans rfl)
theorem dk_136 {code : ByteArray} {pc : Nat} (h : DkAt code pc [136]) : decode code pc = .ok (.l2i, 1) := dk_of ((dk_bind (dk_u1 (h 0 _ rfl))).trans rfl)
theorem dk_145 {code : ByteArray} {pc : Nat} (h : DkAt code pc [145]) : decode code pc = .ok (.i2b, 1) := dk_of ((dk_bind (dk_u1 (h 0 _ rfl))).trans rfl)
theorem dk_153 {code : ByteArray} {pc : Nat} (a b : UInt8) (h : DkAt code pc [153, a, b]) : decode code pc = .ok (.ifCond .eq (Reader.signed 16 (a.toNat * 256 + b.toNat)), 3) := dk_of ((dk_bind (dk_u1 (h 0 _ rfl))).trans ((dk_bind (dk_map (dk_u2 (h 1 _ rfl) (h 2 _ rfl)))).trans rfl))
theorem dk_154 {code : ByteArray} {pc : Nat} (a b : UInt8) (h : DkAt code pc [154, a, b]) : decode code pc = .ok (.ifCond .ne (Reader.signed 16 (a.toNat * 256 + b.toNat)), 3) := dk_of ((dk_bind (dk_u1 (h 0 _ rfl))).trans ((dk_bind (dk_map (dk_u2 (h 1 _ rfl) (h 2 _ rfl)))).trans rfl))
theorem dk_155 {code : ByteArray} {pc : Nat} (a b : UInt8) (h : DkAt code pc [155, a, b]) : decode code pc = .ok (.ifCond .lt (Reader.signed 16 (a.toNat * 256 + b.toNat)), 3) := dk_of ((dk_bind (dk_u1 (h 0 _ rfl))).trans ((dk_bind (dk_map (dk_u2 (h 1 _ rfl) (h 2 _ rfl)))).trans rfl))
theorem dk_159 {code : ByteArray} {pc : Nat} (a b : UInt8) (h : DkAt code pc [159, a, b]) : decode code pc = .ok (.if_icmp .eq (Reader.signed 16 (a.toNat * 256 + b.toNat)), 3) := dk_of ((dk_bind (dk_u1 (h 0 _ rfl))).trans ((dk_bind (dk_map (dk_u2 (h 1 _ rfl) (h 2 _ rfl)))).trans rfl))
theorem dk_161 {code : ByteArray} {pc : Nat} (a b : UInt8) (h : DkAt code pc [161, a, b]) : decode code pc = .ok (.if_icmp .lt (Reader.signed 16 (a.toNat * 256 + b.toNat)), 3) := dk_of ((dk_bind (dk_u1 (h 0 _ rfl))).trans ((dk_bind (dk_map (dk_u2 (h 1 _ rfl) (h 2 _ rfl)))).trans rfl))
theorem dk_162 {code : ByteArray} {pc : Nat} (a b : UInt8) (h : DkAt code pc [162, a, b]) : decode code pc = .ok (.if_icmp .ge (Reader.signed 16 (a.toNat * 256 + b.toNat)), 3) := dk_of ((dk_bind (dk_u1 (h 0 _ rfl))).trans ((dk_bind (dk_map (dk_u2 (h 1 _ rfl) (h 2 _ rfl)))).trans rfl))
theorem dk_163 {code : ByteArray} {pc : Nat} (a b : UInt8) (h : DkAt code pc [163, a, b]) : decode code pc = .ok (.if_icmp .gt (Reader.signed 16 (a.toNat * 256 + b.toNat)), 3) := dk_of ((dk_bind (dk_u1 (h 0 _ rfl))).trans ((dk_bind (dk_map (dk_u2 (h 1 _ rfl) (h 2 _ rfl)))).trans rfl))
theorem dk_164 {code : ByteArray} {pc : Nat} (a b : UInt8) (h : DkAt code pc [164, a, b]) : decode code pc = .ok (.if_icmp .le (Reader.signed 16 (a.toNat * 256 + b.toNat)), 3) := dk_of ((dk_bind (dk_u1 (h 0 _ rfl))).trans ((dk_bind (dk_map (dk_u2 (h 1 _ rfl) (h 2 _ rfl)))).trans rfl))
theorem dk_167 {code : ByteArray} {pc : Nat} (a b : UInt8) (h : DkAt code pc [167, a, b]) : decode code pc = .ok (.goto (Reader.signed 16 (a.toNat * 256 + b.toNat)), 3) := dk_of ((dk_bind (dk_u1 (h 0 _ rfl))).trans ((dk_bind (dk_map (dk_u2 (h 1 _ rfl) (h 2 _ rfl)))).trans rfl))
theorem dk_172 {code : ByteArray} {pc : Nat} (h : DkAt code pc [172]) : decode code pc = .ok (.ireturn, 1) := dk_of ((dk_bind (dk_u1 (h 0 _ rfl))).trans rfl)
theorem dk_173 {code : ByteArray} {pc : Nat} (h : DkAt code pc [173]) : decode code pc = .ok (.lreturn, 1) := dk_of ((dk_bind (dk_u1 (h 0 _ rfl))).trans rfl)
theorem dk_176 {code : ByteArray} {pc : Nat} (h : DkAt code pc [176]) : decode code pc = .ok (.areturn, 1) := dk_of ((dk_bind (dk_u1 (h 0 _ rfl))).trans rfl)
theorem dk_177 {code : ByteArray} {pc : Nat} (h : DkAt code pc [177]) : decode code pc = .ok (.return_, 1) := dk_of ((dk_bind (dk_u1 (h 0 _ rfl))).trans rfl)
theorem dk_178 {code : ByteArray} {pc : Nat} (a b : UInt8) (h : DkAt code pc [178, a, b]) : decode code pc = .ok (.getstatic (a.toNat * 256 + b.toNat), 3) := dk_of ((dk_bind (dk_u1 (h 0 _ rfl))).trans ((dk_bind (dk_u2 (h 1 _ rfl) (h 2 _ rfl))).trans rfl))
theorem dk_180 {code : ByteArray} {pc : Nat} (a b : UInt8) (h : DkAt code pc [180, a, b]) : decode code pc = .ok (.getfield (a.toNat * 256 + b.toNat), 3) := dk_of ((dk_bind (dk_u1 (h 0 _ rfl))).trans ((dk_bind (dk_u2 (h 1 _ rfl) (h 2 _ rfl))).trans rfl))
theorem dk_181 {code : ByteArray} {pc : Nat} (a b : UInt8) (h : DkAt code pc [181, a, b]) : decode code pc = .ok (.putfield (a.toNat * 256 + b.toNat), 3) := dk_of ((dk_bind (dk_u1 (h 0 _ rfl))).trans ((dk_bind (dk_u2 (h 1 _ rfl) (h 2 _ rfl))).trans rfl))
theorem dk_182 {code : ByteArray} {pc : Nat} (a b : UInt8) (h : DkAt code pc [182, a, b]) : decode code pc = .ok (.invokevirtual (a.toNat * 256 + b.toNat), 3) := dk_of ((dk_bind (dk_u1 (h 0 _ rfl))).trans ((dk_bind (dk_u2 (h 1 _ rfl) (h 2 _ rfl))).trans rfl))
theorem dk_183 {code : ByteArray} {pc : Nat} (a b : UInt8) (h : DkAt code pc [183, a, b]) : decode code pc = .ok (.invokespecial (a.toNat * 256 + b.toNat), 3) := dk_of ((dk_bind (dk_u1 (h 0 _ rfl))).trans ((dk_bind (dk_u2 (h 1 _ rfl) (h 2 _ rfl))).trans rfl))
theorem dk_184 {code : ByteArray} {pc : Nat} (a b : UInt8) (h : DkAt code pc [184, a, b]) : decode code pc = .ok (.invokestatic (a.toNat * 256 + b.toNat), 3) := dk_of ((dk_bind (dk_u1 (h 0 _ rfl))).trans ((dk_bind (dk_u2 (h 1 _ rfl) (h 2 _ rfl))).trans rfl))
theorem dk_187 {code : ByteArray} {pc : Nat} (a b : UInt8) (h : DkAt code pc [187, a, b]) : decode code pc = .ok (.new (a.toNat * 256 + b.toNat), 3) := dk_of ((dk_bind (dk_u1 (h 0 _ rfl))).trans ((dk_bind (dk_u2 (h 1 _ rfl) (h 2 _ rfl))).trans rfl))
theorem dk_188_8 {code : ByteArray} {pc : Nat} (h : DkAt code pc [188, 8]) : decode code pc = .ok (.newarray .byte, 2) := dk_of ((dk_bind (dk_u1 (h 0 _ rfl))).trans ((dk_bind (dk_u1 (h 1 _ rfl))).trans rfl))
theorem dk_188_10 {code : ByteArray} {pc : Nat} (h : DkAt code pc [188, 10]) : decode code pc = .ok (.newarray .int, 2) := dk_of ((dk_bind (dk_u1 (h 0 _ rfl))).trans ((dk_bind (dk_u1 (h 1 _ rfl))).trans rfl))
theorem dk_188_11 {code : ByteArray} {pc : Nat} (h : DkAt code pc [188, 11]) : decode code pc = .ok (.newarray .long, 2) := dk_of ((dk_bind (dk_u1 (h 0 _ rfl))).trans ((dk_bind (dk_u1 (h 1 _ rfl))).trans rfl))
theorem dk_190 {code : ByteArray} {pc : Nat} (h : DkAt code pc [190]) : decode code pc = .ok (.arraylength, 1) := dk_of ((dk_bind (dk_u1 (h 0 _ rfl))).trans rfl)
theorem dk_191 {code : ByteArray} {pc : Nat} (h : DkAt code pc [191]) : decode code pc = .ok (.athrow, 1) := dk_of ((dk_bind (dk_u1 (h 0 _ rfl))).trans rfl)
theorem dk_192 {code : ByteArray} {pc : Nat} (a b : UInt8) (h : DkAt code pc [192, a, b]) : decode code pc = .ok (.checkcast (a.toNat * 256 + b.toNat), 3) := dk_of ((dk_bind (dk_u1 (h 0 _ rfl))).trans ((dk_bind (dk_u2 (h 1 _ rfl) (h 2 _ rfl))).trans rfl))
theorem dk_193 {code : ByteArray} {pc : Nat} (a b : UInt8) (h : DkAt code pc [193, a, b]) : decode code pc = .ok (.instanceof (a.toNat * 256 + b.toNat), 3) := dk_of ((dk_bind (dk_u1 (h 0 _ rfl))).trans ((dk_bind (dk_u2 (h 1 _ rfl) (h 2 _ rfl))).trans rfl))

theorem q39 : (Jvm.Cond.arrayClass Jvm.ClassFile.FieldType.byte) ∈ lw_all := lw_g (lw_at lw_m1 28 rfl) rfl
set_option maxRecDepth 100000
theorem q223 : (Jvm.Cond.arrayClass Jvm.ClassFile.FieldType.long) ∈ lw_all := lw_g (lw_at lw_m1 212 rfl) rfl
theorem q252 : (Jvm.Cond.arrayClass Jvm.ClassFile.FieldType.int) ∈ lw_all := lw_g (lw_at lw_m2 1 rfl) rfl

theorem q11 : (Jvm.Cond.initialized "RcWideDeskLaw") ∈ lw_all := lw_g (lw_at lw_m1 0 rfl) rfl
set_option maxRecDepth 100000
theorem q21 : (Jvm.Cond.classLink "RcWideDeskLaw" (7 : Nat) "RcWideDesk") ∈ lw_all := lw_g (lw_at lw_m1 10 rfl) rfl
theorem q23 : (Jvm.Cond.methodLink "RcWideDeskLaw" (9 : Nat) ({ cls := "RcWideDesk", name := "<init>", desc := "()V" } : Jvm.MethodName)) ∈ lw_all := lw_g (lw_at lw_m1 12 rfl) rfl
theorem q40 : (Jvm.Cond.methodLink "RcWideDeskLaw" (13 : Nat) ({ cls := "RcWideDesk", name := "key", desc := "(IIIII)V" } : Jvm.MethodName)) ∈ lw_all := lw_g (lw_at lw_m1 29 rfl) rfl
theorem q47 : (Jvm.Cond.methodLink "RcWideDeskLaw" (18 : Nat) ({ cls := "RcWideDesk", name := "block", desc := "(IIII)V" } : Jvm.MethodName)) ∈ lw_all := lw_g (lw_at lw_m1 36 rfl) rfl
theorem q51 : (Jvm.Cond.methodLink "RcWideDeskLaw" (23 : Nat) ({ cls := "RcWideDesk", name := "lock", desc := "(I)V" } : Jvm.MethodName)) ∈ lw_all := lw_g (lw_at lw_m1 40 rfl) rfl
theorem q224 : (Jvm.Cond.methodLink "RcWideDeskLaw" (28 : Nat) ({ cls := "RcWideDesk", name := "open", desc := "(I)V" } : Jvm.MethodName)) ∈ lw_all := lw_g (lw_at lw_m1 213 rfl) rfl
theorem q228 : (Jvm.Cond.methodLink "RcWideDeskLaw" (32 : Nat) ({ cls := "RcWideDesk", name := "again", desc := "()V" } : Jvm.MethodName)) ∈ lw_all := lw_g (lw_at lw_m1 217 rfl) rfl
theorem q232 : (Jvm.Cond.methodLink "RcWideDeskLaw" (36 : Nat) ({ cls := "RcWideDesk", name := "out", desc := "(I)I" } : Jvm.MethodName)) ∈ lw_all := lw_g (lw_at lw_m1 221 rfl) rfl
theorem q236 : (Jvm.Cond.classLink "RcWideDeskLaw" (10 : Nat) "RcWideDeskModel") ∈ lw_all := lw_g (lw_at lw_m1 225 rfl) rfl
theorem q238 : (Jvm.Cond.methodLink "RcWideDeskLaw" (12 : Nat) ({ cls := "RcWideDeskModel", name := "<init>", desc := "()V" } : Jvm.MethodName)) ∈ lw_all := lw_g (lw_at lw_m1 227 rfl) rfl
theorem q253 : (Jvm.Cond.methodLink "RcWideDeskLaw" (17 : Nat) ({ cls := "RcWideDeskModel", name := "key", desc := "(IIIII)V" } : Jvm.MethodName)) ∈ lw_all := lw_g (lw_at lw_m2 2 rfl) rfl
theorem q263 : (Jvm.Cond.methodLink "RcWideDeskLaw" (22 : Nat) ({ cls := "RcWideDeskModel", name := "block", desc := "(IIII)V" } : Jvm.MethodName)) ∈ lw_all := lw_g (lw_at lw_m2 12 rfl) rfl
theorem q267 : (Jvm.Cond.methodLink "RcWideDeskLaw" (35 : Nat) ({ cls := "RcWideDeskModel", name := "again", desc := "()V" } : Jvm.MethodName)) ∈ lw_all := lw_g (lw_at lw_m2 16 rfl) rfl
theorem q271 : (Jvm.Cond.methodLink "RcWideDeskLaw" (40 : Nat) ({ cls := "RcWideDeskModel", name := "out", desc := "(I)I" } : Jvm.MethodName)) ∈ lw_all := lw_g (lw_at lw_m2 20 rfl) rfl
theorem q275 : (Jvm.Cond.methodLink "RcWideDeskLaw" (27 : Nat) ({ cls := "RcWideDeskModel", name := "lock", desc := "(I)V" } : Jvm.MethodName)) ∈ lw_all := lw_g (lw_at lw_m2 24 rfl) rfl
theorem q298 : (Jvm.Cond.methodLink "RcWideDeskLaw" (31 : Nat) ({ cls := "RcWideDeskModel", name := "open", desc := "(I)V" } : Jvm.MethodName)) ∈ lw_all := lw_g (lw_at lw_m2 47 rfl) rfl

theorem q20 : (Jvm.Cond.initialized "java/lang/System") ∈ lw_all := lw_g (lw_at lw_m1 9 rfl) rfl
set_option maxRecDepth 100000
theorem q150 : (Jvm.Cond.static ({ cls := "java/lang/System", name := "arraycopy", desc := "(Ljava/lang/Object;ILjava/lang/Object;II)V" } : Jvm.MethodName)) ∈ lw_all := lw_g (lw_at lw_m1 139 rfl) rfl
theorem q151 : (Jvm.Cond.native ({ cls := "java/lang/System", name := "arraycopy", desc := "(Ljava/lang/Object;ILjava/lang/Object;II)V" } : Jvm.MethodName)) ∈ lw_all := lw_g (lw_at lw_m1 140 rfl) rfl

theorem q161 : (Jvm.Cond.interfaceMethod "BlockCipher" "BlockCipher" "init" "(ZLCipherParameters;)V") ∈ lw_tbl := lw_at lw_m1 150 rfl
set_option maxRecDepth 100000
theorem q162 : (Jvm.Cond.declares ({ cls := "BlockCipher", name := "init", desc := "(ZLCipherParameters;)V" } : Jvm.MethodName)) ∈ lw_tbl := lw_at lw_m1 151 rfl
theorem q196 : (Jvm.Cond.interfaceMethod "BlockCipher" "BlockCipher" "processBlock" "([BI[BI)I") ∈ lw_tbl := lw_at lw_m1 185 rfl
theorem q197 : (Jvm.Cond.declares ({ cls := "BlockCipher", name := "processBlock", desc := "([BI[BI)I" } : Jvm.MethodName)) ∈ lw_tbl := lw_at lw_m1 186 rfl

/-! java/lang/Object -/
set_option maxRecDepth 100000
def RJ4 : String := "java/lang/Object"
abbrev cJ4_init : ByteArray := object_method_1_code
def yJ4_init : MethodName := ⟨RJ4, "<init>", "()V"⟩
theorem dJ4_init_0 : decode cJ4_init 0 = .ok (.return_, 1) := by decide +kernel
theorem q27 : (Jvm.Cond.instanceMethod ({ cls := "java/lang/Object", name := "<init>", desc := "()V" } : Jvm.MethodName)) ∈ lw_all := lw_g (lw_at lw_m1 16 rfl) rfl
theorem q28 : (Jvm.Cond.code ({ cls := "java/lang/Object", name := "<init>", desc := "()V" } : Jvm.MethodName) object_method_1_code (1 : Nat) (Option.none : Option Jvm.ClassFile.FieldType)) ∈ lw_all := lw_g (lw_at lw_m1 17 rfl) rfl

/-! RcWideDesk -/
set_option maxRecDepth 100000
def RX0 : String := "RcWideDesk"
def TX0 : u_T := fun k => match k with
  | 0 => ("RcWideDesk", "key", "[B", true)
  | 1 => ("RcWideDesk", "block", "[B", true)
  | _ => ("RcWideDesk", "out", "[B", true)
def tyX0 : Nat → FieldType := fun k => match k with
  | 0 => .array .byte
  | 1 => .array .byte
  | _ => .array .byte
abbrev wsX00 : List Cond := u_ws RX0 TX0 3
theorem nmX0 : ∀ a, a < 3 → ∀ b, b < 3 → a ≠ b → (TX0 a).2.1 ≠ (TX0 b).2.1 := by decide +kernel
theorem tyX0_ok : ∀ k, k < 3 → parseFieldDescriptor (TX0 k).2.2.1 = some (tyX0 k) := by decide +kernel
abbrev cX0_init : ByteArray := prog_6_method_1_code
def yX0_init : MethodName := ⟨RX0, "<init>", "()V"⟩
def dkwX0_init_1 : List UInt8 := [188, 8, 181, 0, 16, 177]
abbrev dktX0_init_1 : List UInt8 := dkwX0_init_1 ++ []
def dkwX0_init_0 : List UInt8 := [42, 183, 0, 1, 42, 16, 32, 188, 8, 181, 0, 7, 42, 16, 16, 188, 8, 181, 0, 13, 42, 16, 16]
abbrev dktX0_init_0 : List UInt8 := dkwX0_init_0 ++ dktX0_init_1
theorem dksX0_init_0 : cX0_init.data.toList.drop 0 = dktX0_init_0 := by decide +kernel
theorem dksX0_init_1 : cX0_init.data.toList.drop 23 = dktX0_init_1 := dk_seg dksX0_init_0 23 rfl rfl
theorem dX0_init_0 : decode cX0_init 0 = .ok (.aload_n 0, 1) := dk_42 (dk_at dksX0_init_0 0 rfl rfl)
theorem dX0_init_1 : decode cX0_init 1 = .ok (.invokespecial 1, 3) := dk_183 0 1 (dk_at dksX0_init_0 1 rfl rfl)
theorem dX0_init_4 : decode cX0_init 4 = .ok (.aload_n 0, 1) := dk_42 (dk_at dksX0_init_0 4 rfl rfl)
theorem dX0_init_5 : decode cX0_init 5 = .ok (.bipush 32, 2) := dk_16 32 (dk_at dksX0_init_0 5 rfl rfl)
theorem dX0_init_7 : decode cX0_init 7 = .ok (.newarray .byte, 2) := dk_188_8 (dk_at dksX0_init_0 7 rfl rfl)
theorem dX0_init_9 : decode cX0_init 9 = .ok (.putfield 7, 3) := dk_181 0 7 (dk_at dksX0_init_0 9 rfl rfl)
theorem dX0_init_12 : decode cX0_init 12 = .ok (.aload_n 0, 1) := dk_42 (dk_at dksX0_init_0 12 rfl rfl)
theorem dX0_init_13 : decode cX0_init 13 = .ok (.bipush 16, 2) := dk_16 16 (dk_at dksX0_init_0 13 rfl rfl)
theorem dX0_init_15 : decode cX0_init 15 = .ok (.newarray .byte, 2) := dk_188_8 (dk_at dksX0_init_0 15 rfl rfl)
theorem dX0_init_17 : decode cX0_init 17 = .ok (.putfield 13, 3) := dk_181 0 13 (dk_at dksX0_init_0 17 rfl rfl)
theorem dX0_init_20 : decode cX0_init 20 = .ok (.aload_n 0, 1) := dk_42 (dk_at dksX0_init_0 20 rfl rfl)
theorem dX0_init_21 : decode cX0_init 21 = .ok (.bipush 16, 2) := dk_16 16 (dk_at dksX0_init_0 21 rfl rfl)
theorem dX0_init_23 : decode cX0_init 23 = .ok (.newarray .byte, 2) := dk_188_8 (dk_at dksX0_init_1 0 rfl rfl)
theorem dX0_init_25 : decode cX0_init 25 = .ok (.putfield 16, 3) := dk_181 0 16 (dk_at dksX0_init_1 2 rfl rfl)
theorem dX0_init_28 : decode cX0_init 28 = .ok (.return_, 1) := dk_177 (dk_at dksX0_init_1 5 rfl rfl)
abbrev cX0_key : ByteArray := prog_6_method_3_code
def yX0_key : MethodName := ⟨RX0, "key", "(IIIII)V"⟩
def dkwX0_key_2 : List UInt8 := [21, 6, 16, 12, 96, 21, 5, 184, 0, 19, 177]
abbrev dktX0_key_2 : List UInt8 := dkwX0_key_2 ++ []
def dkwX0_key_1 : List UInt8 := [96, 29, 184, 0, 19, 42, 180, 0, 7, 21, 6, 16, 8, 96, 21, 4, 184, 0, 19, 42, 180, 0, 7]
abbrev dktX0_key_1 : List UInt8 := dkwX0_key_1 ++ dktX0_key_2
def dkwX0_key_0 : List UInt8 := [27, 4, 126, 7, 120, 54, 6, 42, 180, 0, 7, 21, 6, 28, 184, 0, 19, 42, 180, 0, 7, 21, 6, 7]
abbrev dktX0_key_0 : List UInt8 := dkwX0_key_0 ++ dktX0_key_1
theorem dksX0_key_0 : cX0_key.data.toList.drop 0 = dktX0_key_0 := by decide +kernel
theorem dksX0_key_1 : cX0_key.data.toList.drop 24 = dktX0_key_1 := dk_seg dksX0_key_0 24 rfl rfl
theorem dksX0_key_2 : cX0_key.data.toList.drop 47 = dktX0_key_2 := dk_seg dksX0_key_1 23 rfl rfl
theorem dX0_key_0 : decode cX0_key 0 = .ok (.iload_n 1, 1) := dk_27 (dk_at dksX0_key_0 0 rfl rfl)
theorem dX0_key_1 : decode cX0_key 1 = .ok (.iconst 1, 1) := dk_4 (dk_at dksX0_key_0 1 rfl rfl)
theorem dX0_key_2 : decode cX0_key 2 = .ok (.iand, 1) := dk_126 (dk_at dksX0_key_0 2 rfl rfl)
theorem dX0_key_3 : decode cX0_key 3 = .ok (.iconst 4, 1) := dk_7 (dk_at dksX0_key_0 3 rfl rfl)
theorem dX0_key_4 : decode cX0_key 4 = .ok (.ishl, 1) := dk_120 (dk_at dksX0_key_0 4 rfl rfl)
theorem dX0_key_5 : decode cX0_key 5 = .ok (.istore 6, 2) := dk_54 6 (dk_at dksX0_key_0 5 rfl rfl)
theorem dX0_key_7 : decode cX0_key 7 = .ok (.aload_n 0, 1) := dk_42 (dk_at dksX0_key_0 7 rfl rfl)
theorem dX0_key_8 : decode cX0_key 8 = .ok (.getfield 7, 3) := dk_180 0 7 (dk_at dksX0_key_0 8 rfl rfl)
theorem dX0_key_11 : decode cX0_key 11 = .ok (.iload 6, 2) := dk_21 6 (dk_at dksX0_key_0 11 rfl rfl)
theorem dX0_key_13 : decode cX0_key 13 = .ok (.iload_n 2, 1) := dk_28 (dk_at dksX0_key_0 13 rfl rfl)
theorem dX0_key_14 : decode cX0_key 14 = .ok (.invokestatic 19, 3) := dk_184 0 19 (dk_at dksX0_key_0 14 rfl rfl)
theorem dX0_key_17 : decode cX0_key 17 = .ok (.aload_n 0, 1) := dk_42 (dk_at dksX0_key_0 17 rfl rfl)
theorem dX0_key_18 : decode cX0_key 18 = .ok (.getfield 7, 3) := dk_180 0 7 (dk_at dksX0_key_0 18 rfl rfl)
theorem dX0_key_21 : decode cX0_key 21 = .ok (.iload 6, 2) := dk_21 6 (dk_at dksX0_key_0 21 rfl rfl)
theorem dX0_key_23 : decode cX0_key 23 = .ok (.iconst 4, 1) := dk_7 (dk_at dksX0_key_0 23 rfl rfl)
theorem dX0_key_24 : decode cX0_key 24 = .ok (.iadd, 1) := dk_96 (dk_at dksX0_key_1 0 rfl rfl)
theorem dX0_key_25 : decode cX0_key 25 = .ok (.iload_n 3, 1) := dk_29 (dk_at dksX0_key_1 1 rfl rfl)
theorem dX0_key_26 : decode cX0_key 26 = .ok (.invokestatic 19, 3) := dk_184 0 19 (dk_at dksX0_key_1 2 rfl rfl)
theorem dX0_key_29 : decode cX0_key 29 = .ok (.aload_n 0, 1) := dk_42 (dk_at dksX0_key_1 5 rfl rfl)
theorem dX0_key_30 : decode cX0_key 30 = .ok (.getfield 7, 3) := dk_180 0 7 (dk_at dksX0_key_1 6 rfl rfl)
theorem dX0_key_33 : decode cX0_key 33 = .ok (.iload 6, 2) := dk_21 6 (dk_at dksX0_key_1 9 rfl rfl)
theorem dX0_key_35 : decode cX0_key 35 = .ok (.bipush 8, 2) := dk_16 8 (dk_at dksX0_key_1 11 rfl rfl)
theorem dX0_key_37 : decode cX0_key 37 = .ok (.iadd, 1) := dk_96 (dk_at dksX0_key_1 13 rfl rfl)
theorem dX0_key_38 : decode cX0_key 38 = .ok (.iload 4, 2) := dk_21 4 (dk_at dksX0_key_1 14 rfl rfl)
theorem dX0_key_40 : decode cX0_key 40 = .ok (.invokestatic 19, 3) := dk_184 0 19 (dk_at dksX0_key_1 16 rfl rfl)
theorem dX0_key_43 : decode cX0_key 43 = .ok (.aload_n 0, 1) := dk_42 (dk_at dksX0_key_1 19 rfl rfl)
theorem dX0_key_44 : decode cX0_key 44 = .ok (.getfield 7, 3) := dk_180 0 7 (dk_at dksX0_key_1 20 rfl rfl)
theorem dX0_key_47 : decode cX0_key 47 = .ok (.iload 6, 2) := dk_21 6 (dk_at dksX0_key_2 0 rfl rfl)
theorem dX0_key_49 : decode cX0_key 49 = .ok (.bipush 12, 2) := dk_16 12 (dk_at dksX0_key_2 2 rfl rfl)
theorem dX0_key_51 : decode cX0_key 51 = .ok (.iadd, 1) := dk_96 (dk_at dksX0_key_2 4 rfl rfl)
theorem dX0_key_52 : decode cX0_key 52 = .ok (.iload 5, 2) := dk_21 5 (dk_at dksX0_key_2 5 rfl rfl)
theorem dX0_key_54 : decode cX0_key 54 = .ok (.invokestatic 19, 3) := dk_184 0 19 (dk_at dksX0_key_2 7 rfl rfl)
theorem dX0_key_57 : decode cX0_key 57 = .ok (.return_, 1) := dk_177 (dk_at dksX0_key_2 10 rfl rfl)
abbrev cX0_word : ByteArray := prog_6_method_2_code
def yX0_word : MethodName := ⟨RX0, "word", "([BII)V"⟩
def dkwX0_word_1 : List UInt8 := [16, 8, 122, 145, 84, 42, 27, 6, 96, 28, 145, 84, 177]
abbrev dktX0_word_1 : List UInt8 := dkwX0_word_1 ++ []
def dkwX0_word_0 : List UInt8 := [42, 27, 28, 16, 24, 122, 145, 84, 42, 27, 4, 96, 28, 16, 16, 122, 145, 84, 42, 27, 5, 96, 28]
abbrev dktX0_word_0 : List UInt8 := dkwX0_word_0 ++ dktX0_word_1
theorem dksX0_word_0 : cX0_word.data.toList.drop 0 = dktX0_word_0 := by decide +kernel
theorem dksX0_word_1 : cX0_word.data.toList.drop 23 = dktX0_word_1 := dk_seg dksX0_word_0 23 rfl rfl
theorem dX0_word_0 : decode cX0_word 0 = .ok (.aload_n 0, 1) := dk_42 (dk_at dksX0_word_0 0 rfl rfl)
theorem dX0_word_1 : decode cX0_word 1 = .ok (.iload_n 1, 1) := dk_27 (dk_at dksX0_word_0 1 rfl rfl)
theorem dX0_word_2 : decode cX0_word 2 = .ok (.iload_n 2, 1) := dk_28 (dk_at dksX0_word_0 2 rfl rfl)
theorem dX0_word_3 : decode cX0_word 3 = .ok (.bipush 24, 2) := dk_16 24 (dk_at dksX0_word_0 3 rfl rfl)
theorem dX0_word_5 : decode cX0_word 5 = .ok (.ishr, 1) := dk_122 (dk_at dksX0_word_0 5 rfl rfl)
theorem dX0_word_6 : decode cX0_word 6 = .ok (.i2b, 1) := dk_145 (dk_at dksX0_word_0 6 rfl rfl)
theorem dX0_word_7 : decode cX0_word 7 = .ok (.bastore, 1) := dk_84 (dk_at dksX0_word_0 7 rfl rfl)
theorem dX0_word_8 : decode cX0_word 8 = .ok (.aload_n 0, 1) := dk_42 (dk_at dksX0_word_0 8 rfl rfl)
theorem dX0_word_9 : decode cX0_word 9 = .ok (.iload_n 1, 1) := dk_27 (dk_at dksX0_word_0 9 rfl rfl)
theorem dX0_word_10 : decode cX0_word 10 = .ok (.iconst 1, 1) := dk_4 (dk_at dksX0_word_0 10 rfl rfl)
theorem dX0_word_11 : decode cX0_word 11 = .ok (.iadd, 1) := dk_96 (dk_at dksX0_word_0 11 rfl rfl)
theorem dX0_word_12 : decode cX0_word 12 = .ok (.iload_n 2, 1) := dk_28 (dk_at dksX0_word_0 12 rfl rfl)
theorem dX0_word_13 : decode cX0_word 13 = .ok (.bipush 16, 2) := dk_16 16 (dk_at dksX0_word_0 13 rfl rfl)
theorem dX0_word_15 : decode cX0_word 15 = .ok (.ishr, 1) := dk_122 (dk_at dksX0_word_0 15 rfl rfl)
theorem dX0_word_16 : decode cX0_word 16 = .ok (.i2b, 1) := dk_145 (dk_at dksX0_word_0 16 rfl rfl)
theorem dX0_word_17 : decode cX0_word 17 = .ok (.bastore, 1) := dk_84 (dk_at dksX0_word_0 17 rfl rfl)
theorem dX0_word_18 : decode cX0_word 18 = .ok (.aload_n 0, 1) := dk_42 (dk_at dksX0_word_0 18 rfl rfl)
theorem dX0_word_19 : decode cX0_word 19 = .ok (.iload_n 1, 1) := dk_27 (dk_at dksX0_word_0 19 rfl rfl)
theorem dX0_word_20 : decode cX0_word 20 = .ok (.iconst 2, 1) := dk_5 (dk_at dksX0_word_0 20 rfl rfl)
theorem dX0_word_21 : decode cX0_word 21 = .ok (.iadd, 1) := dk_96 (dk_at dksX0_word_0 21 rfl rfl)
theorem dX0_word_22 : decode cX0_word 22 = .ok (.iload_n 2, 1) := dk_28 (dk_at dksX0_word_0 22 rfl rfl)
theorem dX0_word_23 : decode cX0_word 23 = .ok (.bipush 8, 2) := dk_16 8 (dk_at dksX0_word_1 0 rfl rfl)
theorem dX0_word_25 : decode cX0_word 25 = .ok (.ishr, 1) := dk_122 (dk_at dksX0_word_1 2 rfl rfl)
theorem dX0_word_26 : decode cX0_word 26 = .ok (.i2b, 1) := dk_145 (dk_at dksX0_word_1 3 rfl rfl)
theorem dX0_word_27 : decode cX0_word 27 = .ok (.bastore, 1) := dk_84 (dk_at dksX0_word_1 4 rfl rfl)
theorem dX0_word_28 : decode cX0_word 28 = .ok (.aload_n 0, 1) := dk_42 (dk_at dksX0_word_1 5 rfl rfl)
theorem dX0_word_29 : decode cX0_word 29 = .ok (.iload_n 1, 1) := dk_27 (dk_at dksX0_word_1 6 rfl rfl)
theorem dX0_word_30 : decode cX0_word 30 = .ok (.iconst 3, 1) := dk_6 (dk_at dksX0_word_1 7 rfl rfl)
theorem dX0_word_31 : decode cX0_word 31 = .ok (.iadd, 1) := dk_96 (dk_at dksX0_word_1 8 rfl rfl)
theorem dX0_word_32 : decode cX0_word 32 = .ok (.iload_n 2, 1) := dk_28 (dk_at dksX0_word_1 9 rfl rfl)
theorem dX0_word_33 : decode cX0_word 33 = .ok (.i2b, 1) := dk_145 (dk_at dksX0_word_1 10 rfl rfl)
theorem dX0_word_34 : decode cX0_word 34 = .ok (.bastore, 1) := dk_84 (dk_at dksX0_word_1 11 rfl rfl)
theorem dX0_word_35 : decode cX0_word 35 = .ok (.return_, 1) := dk_177 (dk_at dksX0_word_1 12 rfl rfl)
abbrev cX0_block : ByteArray := prog_6_method_4_code
def yX0_block : MethodName := ⟨RX0, "block", "(IIII)V"⟩
def dkwX0_block_1 : List UInt8 := [29, 184, 0, 19, 42, 180, 0, 13, 16, 12, 21, 4, 184, 0, 19, 177]
abbrev dktX0_block_1 : List UInt8 := dkwX0_block_1 ++ []
def dkwX0_block_0 : List UInt8 := [42, 180, 0, 13, 3, 27, 184, 0, 19, 42, 180, 0, 13, 7, 28, 184, 0, 19, 42, 180, 0, 13, 16, 8]
abbrev dktX0_block_0 : List UInt8 := dkwX0_block_0 ++ dktX0_block_1
theorem dksX0_block_0 : cX0_block.data.toList.drop 0 = dktX0_block_0 := by decide +kernel
theorem dksX0_block_1 : cX0_block.data.toList.drop 24 = dktX0_block_1 := dk_seg dksX0_block_0 24 rfl rfl
theorem dX0_block_0 : decode cX0_block 0 = .ok (.aload_n 0, 1) := dk_42 (dk_at dksX0_block_0 0 rfl rfl)
theorem dX0_block_1 : decode cX0_block 1 = .ok (.getfield 13, 3) := dk_180 0 13 (dk_at dksX0_block_0 1 rfl rfl)
theorem dX0_block_4 : decode cX0_block 4 = .ok (.iconst 0, 1) := dk_3 (dk_at dksX0_block_0 4 rfl rfl)
theorem dX0_block_5 : decode cX0_block 5 = .ok (.iload_n 1, 1) := dk_27 (dk_at dksX0_block_0 5 rfl rfl)
theorem dX0_block_6 : decode cX0_block 6 = .ok (.invokestatic 19, 3) := dk_184 0 19 (dk_at dksX0_block_0 6 rfl rfl)
theorem dX0_block_9 : decode cX0_block 9 = .ok (.aload_n 0, 1) := dk_42 (dk_at dksX0_block_0 9 rfl rfl)
theorem dX0_block_10 : decode cX0_block 10 = .ok (.getfield 13, 3) := dk_180 0 13 (dk_at dksX0_block_0 10 rfl rfl)
theorem dX0_block_13 : decode cX0_block 13 = .ok (.iconst 4, 1) := dk_7 (dk_at dksX0_block_0 13 rfl rfl)
theorem dX0_block_14 : decode cX0_block 14 = .ok (.iload_n 2, 1) := dk_28 (dk_at dksX0_block_0 14 rfl rfl)
theorem dX0_block_15 : decode cX0_block 15 = .ok (.invokestatic 19, 3) := dk_184 0 19 (dk_at dksX0_block_0 15 rfl rfl)
theorem dX0_block_18 : decode cX0_block 18 = .ok (.aload_n 0, 1) := dk_42 (dk_at dksX0_block_0 18 rfl rfl)
theorem dX0_block_19 : decode cX0_block 19 = .ok (.getfield 13, 3) := dk_180 0 13 (dk_at dksX0_block_0 19 rfl rfl)
theorem dX0_block_22 : decode cX0_block 22 = .ok (.bipush 8, 2) := dk_16 8 (dk_at dksX0_block_0 22 rfl rfl)
theorem dX0_block_24 : decode cX0_block 24 = .ok (.iload_n 3, 1) := dk_29 (dk_at dksX0_block_1 0 rfl rfl)
theorem dX0_block_25 : decode cX0_block 25 = .ok (.invokestatic 19, 3) := dk_184 0 19 (dk_at dksX0_block_1 1 rfl rfl)
theorem dX0_block_28 : decode cX0_block 28 = .ok (.aload_n 0, 1) := dk_42 (dk_at dksX0_block_1 4 rfl rfl)
theorem dX0_block_29 : decode cX0_block 29 = .ok (.getfield 13, 3) := dk_180 0 13 (dk_at dksX0_block_1 5 rfl rfl)
theorem dX0_block_32 : decode cX0_block 32 = .ok (.bipush 12, 2) := dk_16 12 (dk_at dksX0_block_1 8 rfl rfl)
theorem dX0_block_34 : decode cX0_block 34 = .ok (.iload 4, 2) := dk_21 4 (dk_at dksX0_block_1 10 rfl rfl)
theorem dX0_block_36 : decode cX0_block 36 = .ok (.invokestatic 19, 3) := dk_184 0 19 (dk_at dksX0_block_1 12 rfl rfl)
theorem dX0_block_39 : decode cX0_block 39 = .ok (.return_, 1) := dk_177 (dk_at dksX0_block_1 15 rfl rfl)
abbrev cX0_lock : ByteArray := prog_6_method_7_code
def yX0_lock : MethodName := ⟨RX0, "lock", "(I)V"⟩
def dkwX0_lock_0 : List UInt8 := [42, 4, 27, 182, 0, 45, 177]
abbrev dktX0_lock_0 : List UInt8 := dkwX0_lock_0 ++ []
theorem dksX0_lock_0 : cX0_lock.data.toList.drop 0 = dktX0_lock_0 := by decide +kernel
theorem dX0_lock_0 : decode cX0_lock 0 = .ok (.aload_n 0, 1) := dk_42 (dk_at dksX0_lock_0 0 rfl rfl)
theorem dX0_lock_1 : decode cX0_lock 1 = .ok (.iconst 1, 1) := dk_4 (dk_at dksX0_lock_0 1 rfl rfl)
theorem dX0_lock_2 : decode cX0_lock 2 = .ok (.iload_n 1, 1) := dk_27 (dk_at dksX0_lock_0 2 rfl rfl)
theorem dX0_lock_3 : decode cX0_lock 3 = .ok (.invokevirtual 45, 3) := dk_182 0 45 (dk_at dksX0_lock_0 3 rfl rfl)
theorem dX0_lock_6 : decode cX0_lock 6 = .ok (.return_, 1) := dk_177 (dk_at dksX0_lock_0 6 rfl rfl)
abbrev cX0_run : ByteArray := prog_6_method_5_code
def yX0_run : MethodName := ⟨RX0, "run", "(ZI)V"⟩
def dkwX0_run_3 : List UInt8 := [180, 0, 13, 3, 42, 180, 0, 16, 3, 185, 0, 41, 5, 0, 87, 177]
abbrev dktX0_run_3 : List UInt8 := dkwX0_run_3 ++ []
def dkwX0_run_2 : List UInt8 := [58, 5, 25, 5, 27, 187, 0, 30, 89, 25, 4, 16, 12, 183, 0, 32, 185, 0, 35, 3, 0, 25, 5, 42]
abbrev dktX0_run_2 : List UInt8 := dkwX0_run_2 ++ dktX0_run_3
def dkwX0_run_1 : List UInt8 := [21, 5, 42, 180, 0, 7, 21, 5, 51, 84, 132, 5, 1, 167, 255, 235, 187, 0, 27, 89, 183, 0, 29]
abbrev dktX0_run_1 : List UInt8 := dkwX0_run_1 ++ dktX0_run_2
def dkwX0_run_0 : List UInt8 := [28, 6, 126, 184, 0, 23, 62, 29, 188, 8, 58, 4, 3, 54, 5, 21, 5, 29, 162, 0, 21, 25, 4]
abbrev dktX0_run_0 : List UInt8 := dkwX0_run_0 ++ dktX0_run_1
theorem dksX0_run_0 : cX0_run.data.toList.drop 0 = dktX0_run_0 := by decide +kernel
theorem dksX0_run_1 : cX0_run.data.toList.drop 23 = dktX0_run_1 := dk_seg dksX0_run_0 23 rfl rfl
theorem dksX0_run_2 : cX0_run.data.toList.drop 46 = dktX0_run_2 := dk_seg dksX0_run_1 23 rfl rfl
theorem dksX0_run_3 : cX0_run.data.toList.drop 70 = dktX0_run_3 := dk_seg dksX0_run_2 24 rfl rfl
theorem dX0_run_0 : decode cX0_run 0 = .ok (.iload_n 2, 1) := dk_28 (dk_at dksX0_run_0 0 rfl rfl)
theorem dX0_run_1 : decode cX0_run 1 = .ok (.iconst 3, 1) := dk_6 (dk_at dksX0_run_0 1 rfl rfl)
theorem dX0_run_2 : decode cX0_run 2 = .ok (.iand, 1) := dk_126 (dk_at dksX0_run_0 2 rfl rfl)
theorem dX0_run_3 : decode cX0_run 3 = .ok (.invokestatic 23, 3) := dk_184 0 23 (dk_at dksX0_run_0 3 rfl rfl)
theorem dX0_run_6 : decode cX0_run 6 = .ok (.istore_n 3, 1) := dk_62 (dk_at dksX0_run_0 6 rfl rfl)
theorem dX0_run_7 : decode cX0_run 7 = .ok (.iload_n 3, 1) := dk_29 (dk_at dksX0_run_0 7 rfl rfl)
theorem dX0_run_8 : decode cX0_run 8 = .ok (.newarray .byte, 2) := dk_188_8 (dk_at dksX0_run_0 8 rfl rfl)
theorem dX0_run_10 : decode cX0_run 10 = .ok (.astore 4, 2) := dk_58 4 (dk_at dksX0_run_0 10 rfl rfl)
theorem dX0_run_12 : decode cX0_run 12 = .ok (.iconst 0, 1) := dk_3 (dk_at dksX0_run_0 12 rfl rfl)
theorem dX0_run_13 : decode cX0_run 13 = .ok (.istore 5, 2) := dk_54 5 (dk_at dksX0_run_0 13 rfl rfl)
theorem dX0_run_15 : decode cX0_run 15 = .ok (.iload 5, 2) := dk_21 5 (dk_at dksX0_run_0 15 rfl rfl)
theorem dX0_run_17 : decode cX0_run 17 = .ok (.iload_n 3, 1) := dk_29 (dk_at dksX0_run_0 17 rfl rfl)
theorem dX0_run_18 : decode cX0_run 18 = .ok (.if_icmp .ge 21, 3) := dk_162 0 21 (dk_at dksX0_run_0 18 rfl rfl)
theorem dX0_run_21 : decode cX0_run 21 = .ok (.aload 4, 2) := dk_25 4 (dk_at dksX0_run_0 21 rfl rfl)
theorem dX0_run_23 : decode cX0_run 23 = .ok (.iload 5, 2) := dk_21 5 (dk_at dksX0_run_1 0 rfl rfl)
theorem dX0_run_25 : decode cX0_run 25 = .ok (.aload_n 0, 1) := dk_42 (dk_at dksX0_run_1 2 rfl rfl)
theorem dX0_run_26 : decode cX0_run 26 = .ok (.getfield 7, 3) := dk_180 0 7 (dk_at dksX0_run_1 3 rfl rfl)
theorem dX0_run_29 : decode cX0_run 29 = .ok (.iload 5, 2) := dk_21 5 (dk_at dksX0_run_1 6 rfl rfl)
theorem dX0_run_31 : decode cX0_run 31 = .ok (.baload, 1) := dk_51 (dk_at dksX0_run_1 8 rfl rfl)
theorem dX0_run_32 : decode cX0_run 32 = .ok (.bastore, 1) := dk_84 (dk_at dksX0_run_1 9 rfl rfl)
theorem dX0_run_33 : decode cX0_run 33 = .ok (.iinc 5 1, 3) := dk_132 5 1 (dk_at dksX0_run_1 10 rfl rfl)
theorem dX0_run_36 : decode cX0_run 36 = .ok (.goto (-21), 3) := dk_167 255 235 (dk_at dksX0_run_1 13 rfl rfl)
theorem dX0_run_39 : decode cX0_run 39 = .ok (.new 27, 3) := dk_187 0 27 (dk_at dksX0_run_1 16 rfl rfl)
theorem dX0_run_42 : decode cX0_run 42 = .ok (.dup, 1) := dk_89 (dk_at dksX0_run_1 19 rfl rfl)
theorem dX0_run_43 : decode cX0_run 43 = .ok (.invokespecial 29, 3) := dk_183 0 29 (dk_at dksX0_run_1 20 rfl rfl)
theorem dX0_run_46 : decode cX0_run 46 = .ok (.astore 5, 2) := dk_58 5 (dk_at dksX0_run_2 0 rfl rfl)
theorem dX0_run_48 : decode cX0_run 48 = .ok (.aload 5, 2) := dk_25 5 (dk_at dksX0_run_2 2 rfl rfl)
theorem dX0_run_50 : decode cX0_run 50 = .ok (.iload_n 1, 1) := dk_27 (dk_at dksX0_run_2 4 rfl rfl)
theorem dX0_run_51 : decode cX0_run 51 = .ok (.new 30, 3) := dk_187 0 30 (dk_at dksX0_run_2 5 rfl rfl)
theorem dX0_run_54 : decode cX0_run 54 = .ok (.dup, 1) := dk_89 (dk_at dksX0_run_2 8 rfl rfl)
theorem dX0_run_55 : decode cX0_run 55 = .ok (.aload 4, 2) := dk_25 4 (dk_at dksX0_run_2 9 rfl rfl)
theorem dX0_run_57 : decode cX0_run 57 = .ok (.bipush 12, 2) := dk_16 12 (dk_at dksX0_run_2 11 rfl rfl)
theorem dX0_run_59 : decode cX0_run 59 = .ok (.invokespecial 32, 3) := dk_183 0 32 (dk_at dksX0_run_2 13 rfl rfl)
theorem dX0_run_62 : decode cX0_run 62 = .ok (.invokeinterface 35 3, 5) := by decide +kernel
theorem dX0_run_67 : decode cX0_run 67 = .ok (.aload 5, 2) := dk_25 5 (dk_at dksX0_run_2 21 rfl rfl)
theorem dX0_run_69 : decode cX0_run 69 = .ok (.aload_n 0, 1) := dk_42 (dk_at dksX0_run_2 23 rfl rfl)
theorem dX0_run_70 : decode cX0_run 70 = .ok (.getfield 13, 3) := dk_180 0 13 (dk_at dksX0_run_3 0 rfl rfl)
theorem dX0_run_73 : decode cX0_run 73 = .ok (.iconst 0, 1) := dk_3 (dk_at dksX0_run_3 3 rfl rfl)
theorem dX0_run_74 : decode cX0_run 74 = .ok (.aload_n 0, 1) := dk_42 (dk_at dksX0_run_3 4 rfl rfl)
theorem dX0_run_75 : decode cX0_run 75 = .ok (.getfield 16, 3) := dk_180 0 16 (dk_at dksX0_run_3 5 rfl rfl)
theorem dX0_run_78 : decode cX0_run 78 = .ok (.iconst 0, 1) := dk_3 (dk_at dksX0_run_3 8 rfl rfl)
theorem dX0_run_79 : decode cX0_run 79 = .ok (.invokeinterface 41 5, 5) := by decide +kernel
theorem dX0_run_84 : decode cX0_run 84 = .ok (.pop, 1) := dk_87 (dk_at dksX0_run_3 14 rfl rfl)
theorem dX0_run_85 : decode cX0_run 85 = .ok (.return_, 1) := dk_177 (dk_at dksX0_run_3 15 rfl rfl)
abbrev cX0_size : ByteArray := prog_6_method_6_code
def yX0_size : MethodName := ⟨RX0, "size", "(I)I"⟩
theorem dX0_size_0 : decode cX0_size 0 = .ok (.bipush 16, 2) := by decide +kernel
theorem dX0_size_2 : decode cX0_size 2 = .ok (.ireturn, 1) := by decide +kernel
abbrev cX0_open : ByteArray := prog_6_method_8_code
def yX0_open : MethodName := ⟨RX0, "open", "(I)V"⟩
def dkwX0_open_0 : List UInt8 := [42, 3, 27, 182, 0, 45, 177]
abbrev dktX0_open_0 : List UInt8 := dkwX0_open_0 ++ []
theorem dksX0_open_0 : cX0_open.data.toList.drop 0 = dktX0_open_0 := by decide +kernel
theorem dX0_open_0 : decode cX0_open 0 = .ok (.aload_n 0, 1) := dk_42 (dk_at dksX0_open_0 0 rfl rfl)
theorem dX0_open_1 : decode cX0_open 1 = .ok (.iconst 0, 1) := dk_3 (dk_at dksX0_open_0 1 rfl rfl)
theorem dX0_open_2 : decode cX0_open 2 = .ok (.iload_n 1, 1) := dk_27 (dk_at dksX0_open_0 2 rfl rfl)
theorem dX0_open_3 : decode cX0_open 3 = .ok (.invokevirtual 45, 3) := dk_182 0 45 (dk_at dksX0_open_0 3 rfl rfl)
theorem dX0_open_6 : decode cX0_open 6 = .ok (.return_, 1) := dk_177 (dk_at dksX0_open_0 6 rfl rfl)
abbrev cX0_again : ByteArray := prog_6_method_9_code
def yX0_again : MethodName := ⟨RX0, "again", "()V"⟩
def dkwX0_again_1 : List UInt8 := [167, 255, 235, 177]
abbrev dktX0_again_1 : List UInt8 := dkwX0_again_1 ++ []
def dkwX0_again_0 : List UInt8 := [3, 60, 27, 16, 16, 162, 0, 21, 42, 180, 0, 13, 27, 42, 180, 0, 16, 27, 51, 84, 132, 1, 1]
abbrev dktX0_again_0 : List UInt8 := dkwX0_again_0 ++ dktX0_again_1
theorem dksX0_again_0 : cX0_again.data.toList.drop 0 = dktX0_again_0 := by decide +kernel
theorem dksX0_again_1 : cX0_again.data.toList.drop 23 = dktX0_again_1 := dk_seg dksX0_again_0 23 rfl rfl
theorem dX0_again_0 : decode cX0_again 0 = .ok (.iconst 0, 1) := dk_3 (dk_at dksX0_again_0 0 rfl rfl)
theorem dX0_again_1 : decode cX0_again 1 = .ok (.istore_n 1, 1) := dk_60 (dk_at dksX0_again_0 1 rfl rfl)
theorem dX0_again_2 : decode cX0_again 2 = .ok (.iload_n 1, 1) := dk_27 (dk_at dksX0_again_0 2 rfl rfl)
theorem dX0_again_3 : decode cX0_again 3 = .ok (.bipush 16, 2) := dk_16 16 (dk_at dksX0_again_0 3 rfl rfl)
theorem dX0_again_5 : decode cX0_again 5 = .ok (.if_icmp .ge 21, 3) := dk_162 0 21 (dk_at dksX0_again_0 5 rfl rfl)
theorem dX0_again_8 : decode cX0_again 8 = .ok (.aload_n 0, 1) := dk_42 (dk_at dksX0_again_0 8 rfl rfl)
theorem dX0_again_9 : decode cX0_again 9 = .ok (.getfield 13, 3) := dk_180 0 13 (dk_at dksX0_again_0 9 rfl rfl)
theorem dX0_again_12 : decode cX0_again 12 = .ok (.iload_n 1, 1) := dk_27 (dk_at dksX0_again_0 12 rfl rfl)
theorem dX0_again_13 : decode cX0_again 13 = .ok (.aload_n 0, 1) := dk_42 (dk_at dksX0_again_0 13 rfl rfl)
theorem dX0_again_14 : decode cX0_again 14 = .ok (.getfield 16, 3) := dk_180 0 16 (dk_at dksX0_again_0 14 rfl rfl)
theorem dX0_again_17 : decode cX0_again 17 = .ok (.iload_n 1, 1) := dk_27 (dk_at dksX0_again_0 17 rfl rfl)
theorem dX0_again_18 : decode cX0_again 18 = .ok (.baload, 1) := dk_51 (dk_at dksX0_again_0 18 rfl rfl)
theorem dX0_again_19 : decode cX0_again 19 = .ok (.bastore, 1) := dk_84 (dk_at dksX0_again_0 19 rfl rfl)
theorem dX0_again_20 : decode cX0_again 20 = .ok (.iinc 1 1, 3) := dk_132 1 1 (dk_at dksX0_again_0 20 rfl rfl)
theorem dX0_again_23 : decode cX0_again 23 = .ok (.goto (-21), 3) := dk_167 255 235 (dk_at dksX0_again_1 0 rfl rfl)
theorem dX0_again_26 : decode cX0_again 26 = .ok (.return_, 1) := dk_177 (dk_at dksX0_again_1 3 rfl rfl)
abbrev cX0_out : ByteArray := prog_6_method_10_code
def yX0_out : MethodName := ⟨RX0, "out", "(I)I"⟩
def dkwX0_out_0 : List UInt8 := [42, 180, 0, 16, 27, 16, 15, 126, 51, 17, 0, 255, 126, 172]
abbrev dktX0_out_0 : List UInt8 := dkwX0_out_0 ++ []
theorem dksX0_out_0 : cX0_out.data.toList.drop 0 = dktX0_out_0 := by decide +kernel
theorem dX0_out_0 : decode cX0_out 0 = .ok (.aload_n 0, 1) := dk_42 (dk_at dksX0_out_0 0 rfl rfl)
theorem dX0_out_1 : decode cX0_out 1 = .ok (.getfield 16, 3) := dk_180 0 16 (dk_at dksX0_out_0 1 rfl rfl)
theorem dX0_out_4 : decode cX0_out 4 = .ok (.iload_n 1, 1) := dk_27 (dk_at dksX0_out_0 4 rfl rfl)
theorem dX0_out_5 : decode cX0_out 5 = .ok (.bipush 15, 2) := dk_16 15 (dk_at dksX0_out_0 5 rfl rfl)
theorem dX0_out_7 : decode cX0_out 7 = .ok (.iand, 1) := dk_126 (dk_at dksX0_out_0 7 rfl rfl)
theorem dX0_out_8 : decode cX0_out 8 = .ok (.baload, 1) := dk_51 (dk_at dksX0_out_0 8 rfl rfl)
theorem dX0_out_9 : decode cX0_out 9 = .ok (.sipush 255, 3) := dk_17 0 255 (dk_at dksX0_out_0 9 rfl rfl)
theorem dX0_out_12 : decode cX0_out 12 = .ok (.iand, 1) := dk_126 (dk_at dksX0_out_0 12 rfl rfl)
theorem dX0_out_13 : decode cX0_out 13 = .ok (.ireturn, 1) := dk_172 (dk_at dksX0_out_0 13 rfl rfl)
theorem q12 : (Jvm.Cond.initialized "RcWideDesk") ∈ lw_all := lw_g (lw_at lw_m1 1 rfl) rfl
theorem q22 : (Jvm.Cond.instantiable "RcWideDesk" (3 : Nat)) ∈ lw_all := lw_g (lw_at lw_m1 11 rfl) rfl
theorem q24 : (Jvm.Cond.instanceMethod ({ cls := "RcWideDesk", name := "<init>", desc := "()V" } : Jvm.MethodName)) ∈ lw_all := lw_g (lw_at lw_m1 13 rfl) rfl
theorem q25 : (Jvm.Cond.code ({ cls := "RcWideDesk", name := "<init>", desc := "()V" } : Jvm.MethodName) prog_6_method_1_code (1 : Nat) (Option.none : Option Jvm.ClassFile.FieldType)) ∈ lw_all := lw_g (lw_at lw_m1 14 rfl) rfl
theorem q26 : (Jvm.Cond.methodLink "RcWideDesk" (1 : Nat) ({ cls := "java/lang/Object", name := "<init>", desc := "()V" } : Jvm.MethodName)) ∈ lw_all := lw_g (lw_at lw_m1 15 rfl) rfl
theorem q29 : (Jvm.Cond.fieldLink "RcWideDesk" (7 : Nat) "RcWideDesk" "key" "[B") ∈ lw_all := lw_g (lw_at lw_m1 18 rfl) rfl
theorem q30 : (Jvm.Cond.fieldLink "RcWideDesk" (13 : Nat) "RcWideDesk" "block" "[B") ∈ lw_all := lw_g (lw_at lw_m1 19 rfl) rfl
theorem q31 : (Jvm.Cond.fieldLink "RcWideDesk" (16 : Nat) "RcWideDesk" "out" "[B") ∈ lw_all := lw_g (lw_at lw_m1 20 rfl) rfl
theorem q32 : (Jvm.Cond.laysFinal "RcWideDesk" "RcWideDesk" "key" "[B") ∈ lw_all := lw_g (lw_at lw_m1 21 rfl) rfl
theorem q33 : (Jvm.Cond.soleField "RcWideDesk" "key") ∈ lw_all := lw_g (lw_at lw_m1 22 rfl) rfl
theorem q34 : (Jvm.Cond.laysFinal "RcWideDesk" "RcWideDesk" "block" "[B") ∈ lw_all := lw_g (lw_at lw_m1 23 rfl) rfl
theorem q35 : (Jvm.Cond.soleField "RcWideDesk" "block") ∈ lw_all := lw_g (lw_at lw_m1 24 rfl) rfl
theorem q36 : (Jvm.Cond.laysFinal "RcWideDesk" "RcWideDesk" "out" "[B") ∈ lw_all := lw_g (lw_at lw_m1 25 rfl) rfl
theorem q37 : (Jvm.Cond.soleField "RcWideDesk" "out") ∈ lw_all := lw_g (lw_at lw_m1 26 rfl) rfl
theorem q38 : (Jvm.Cond.superclass "RcWideDesk" "java/lang/Object") ∈ lw_all := lw_g (lw_at lw_m1 27 rfl) rfl
theorem q41 : (Jvm.Cond.instanceMethod ({ cls := "RcWideDesk", name := "key", desc := "(IIIII)V" } : Jvm.MethodName)) ∈ lw_all := lw_g (lw_at lw_m1 30 rfl) rfl
theorem q42 : (Jvm.Cond.selects "RcWideDesk" ({ cls := "RcWideDesk", name := "key", desc := "(IIIII)V" } : Jvm.MethodName) ({ cls := "RcWideDesk", name := "key", desc := "(IIIII)V" } : Jvm.MethodName)) ∈ lw_all := lw_g (lw_at lw_m1 31 rfl) rfl
theorem q43 : (Jvm.Cond.code ({ cls := "RcWideDesk", name := "key", desc := "(IIIII)V" } : Jvm.MethodName) prog_6_method_3_code (7 : Nat) (Option.none : Option Jvm.ClassFile.FieldType)) ∈ lw_all := lw_g (lw_at lw_m1 32 rfl) rfl
theorem q44 : (Jvm.Cond.methodLink "RcWideDesk" (19 : Nat) ({ cls := "RcWideDesk", name := "word", desc := "([BII)V" } : Jvm.MethodName)) ∈ lw_all := lw_g (lw_at lw_m1 33 rfl) rfl
theorem q45 : (Jvm.Cond.static ({ cls := "RcWideDesk", name := "word", desc := "([BII)V" } : Jvm.MethodName)) ∈ lw_all := lw_g (lw_at lw_m1 34 rfl) rfl
theorem q46 : (Jvm.Cond.code ({ cls := "RcWideDesk", name := "word", desc := "([BII)V" } : Jvm.MethodName) prog_6_method_2_code (3 : Nat) (Option.none : Option Jvm.ClassFile.FieldType)) ∈ lw_all := lw_g (lw_at lw_m1 35 rfl) rfl
theorem q48 : (Jvm.Cond.instanceMethod ({ cls := "RcWideDesk", name := "block", desc := "(IIII)V" } : Jvm.MethodName)) ∈ lw_all := lw_g (lw_at lw_m1 37 rfl) rfl
theorem q49 : (Jvm.Cond.selects "RcWideDesk" ({ cls := "RcWideDesk", name := "block", desc := "(IIII)V" } : Jvm.MethodName) ({ cls := "RcWideDesk", name := "block", desc := "(IIII)V" } : Jvm.MethodName)) ∈ lw_all := lw_g (lw_at lw_m1 38 rfl) rfl
theorem q50 : (Jvm.Cond.code ({ cls := "RcWideDesk", name := "block", desc := "(IIII)V" } : Jvm.MethodName) prog_6_method_4_code (5 : Nat) (Option.none : Option Jvm.ClassFile.FieldType)) ∈ lw_all := lw_g (lw_at lw_m1 39 rfl) rfl
theorem q52 : (Jvm.Cond.instanceMethod ({ cls := "RcWideDesk", name := "lock", desc := "(I)V" } : Jvm.MethodName)) ∈ lw_all := lw_g (lw_at lw_m1 41 rfl) rfl
theorem q53 : (Jvm.Cond.selects "RcWideDesk" ({ cls := "RcWideDesk", name := "lock", desc := "(I)V" } : Jvm.MethodName) ({ cls := "RcWideDesk", name := "lock", desc := "(I)V" } : Jvm.MethodName)) ∈ lw_all := lw_g (lw_at lw_m1 42 rfl) rfl
theorem q54 : (Jvm.Cond.code ({ cls := "RcWideDesk", name := "lock", desc := "(I)V" } : Jvm.MethodName) prog_6_method_7_code (2 : Nat) (Option.none : Option Jvm.ClassFile.FieldType)) ∈ lw_all := lw_g (lw_at lw_m1 43 rfl) rfl
theorem q55 : (Jvm.Cond.methodLink "RcWideDesk" (45 : Nat) ({ cls := "RcWideDesk", name := "run", desc := "(ZI)V" } : Jvm.MethodName)) ∈ lw_all := lw_g (lw_at lw_m1 44 rfl) rfl
theorem q56 : (Jvm.Cond.privateMethod ({ cls := "RcWideDesk", name := "run", desc := "(ZI)V" } : Jvm.MethodName)) ∈ lw_tbl := lw_at lw_m1 45 rfl
theorem q57 : (Jvm.Cond.instanceMethod ({ cls := "RcWideDesk", name := "run", desc := "(ZI)V" } : Jvm.MethodName)) ∈ lw_all := lw_g (lw_at lw_m1 46 rfl) rfl
theorem q58 : (Jvm.Cond.code ({ cls := "RcWideDesk", name := "run", desc := "(ZI)V" } : Jvm.MethodName) prog_6_method_5_code (6 : Nat) (Option.none : Option Jvm.ClassFile.FieldType)) ∈ lw_all := lw_g (lw_at lw_m1 47 rfl) rfl
theorem q59 : (Jvm.Cond.methodLink "RcWideDesk" (23 : Nat) ({ cls := "RcWideDesk", name := "size", desc := "(I)I" } : Jvm.MethodName)) ∈ lw_all := lw_g (lw_at lw_m1 48 rfl) rfl
theorem q60 : (Jvm.Cond.static ({ cls := "RcWideDesk", name := "size", desc := "(I)I" } : Jvm.MethodName)) ∈ lw_all := lw_g (lw_at lw_m1 49 rfl) rfl
theorem q61 : (Jvm.Cond.code ({ cls := "RcWideDesk", name := "size", desc := "(I)I" } : Jvm.MethodName) prog_6_method_6_code (1 : Nat) (Option.some Jvm.ClassFile.FieldType.int)) ∈ lw_all := lw_g (lw_at lw_m1 50 rfl) rfl
theorem q62 : (Jvm.Cond.classLink "RcWideDesk" (27 : Nat) "RC564Engine") ∈ lw_all := lw_g (lw_at lw_m1 51 rfl) rfl
theorem q64 : (Jvm.Cond.methodLink "RcWideDesk" (29 : Nat) ({ cls := "RC564Engine", name := "<init>", desc := "()V" } : Jvm.MethodName)) ∈ lw_all := lw_g (lw_at lw_m1 53 rfl) rfl
theorem q78 : (Jvm.Cond.classLink "RcWideDesk" (30 : Nat) "RC5Parameters") ∈ lw_all := lw_g (lw_at lw_m1 67 rfl) rfl
theorem q80 : (Jvm.Cond.methodLink "RcWideDesk" (32 : Nat) ({ cls := "RC5Parameters", name := "<init>", desc := "([BI)V" } : Jvm.MethodName)) ∈ lw_all := lw_g (lw_at lw_m1 69 rfl) rfl
theorem q159 : (Jvm.Cond.interfaceEntry "RcWideDesk" (35 : Nat)) ∈ lw_tbl := lw_at lw_m1 148 rfl
theorem q160 : (Jvm.Cond.methodLink "RcWideDesk" (35 : Nat) ({ cls := "BlockCipher", name := "init", desc := "(ZLCipherParameters;)V" } : Jvm.MethodName)) ∈ lw_all := lw_g (lw_at lw_m1 149 rfl) rfl
theorem q194 : (Jvm.Cond.interfaceEntry "RcWideDesk" (41 : Nat)) ∈ lw_tbl := lw_at lw_m1 183 rfl
theorem q195 : (Jvm.Cond.methodLink "RcWideDesk" (41 : Nat) ({ cls := "BlockCipher", name := "processBlock", desc := "([BI[BI)I" } : Jvm.MethodName)) ∈ lw_all := lw_g (lw_at lw_m1 184 rfl) rfl
theorem q225 : (Jvm.Cond.instanceMethod ({ cls := "RcWideDesk", name := "open", desc := "(I)V" } : Jvm.MethodName)) ∈ lw_all := lw_g (lw_at lw_m1 214 rfl) rfl
theorem q226 : (Jvm.Cond.selects "RcWideDesk" ({ cls := "RcWideDesk", name := "open", desc := "(I)V" } : Jvm.MethodName) ({ cls := "RcWideDesk", name := "open", desc := "(I)V" } : Jvm.MethodName)) ∈ lw_all := lw_g (lw_at lw_m1 215 rfl) rfl
theorem q227 : (Jvm.Cond.code ({ cls := "RcWideDesk", name := "open", desc := "(I)V" } : Jvm.MethodName) prog_6_method_8_code (2 : Nat) (Option.none : Option Jvm.ClassFile.FieldType)) ∈ lw_all := lw_g (lw_at lw_m1 216 rfl) rfl
theorem q229 : (Jvm.Cond.instanceMethod ({ cls := "RcWideDesk", name := "again", desc := "()V" } : Jvm.MethodName)) ∈ lw_all := lw_g (lw_at lw_m1 218 rfl) rfl
theorem q230 : (Jvm.Cond.selects "RcWideDesk" ({ cls := "RcWideDesk", name := "again", desc := "()V" } : Jvm.MethodName) ({ cls := "RcWideDesk", name := "again", desc := "()V" } : Jvm.MethodName)) ∈ lw_all := lw_g (lw_at lw_m1 219 rfl) rfl
theorem q231 : (Jvm.Cond.code ({ cls := "RcWideDesk", name := "again", desc := "()V" } : Jvm.MethodName) prog_6_method_9_code (2 : Nat) (Option.none : Option Jvm.ClassFile.FieldType)) ∈ lw_all := lw_g (lw_at lw_m1 220 rfl) rfl
theorem q233 : (Jvm.Cond.instanceMethod ({ cls := "RcWideDesk", name := "out", desc := "(I)I" } : Jvm.MethodName)) ∈ lw_all := lw_g (lw_at lw_m1 222 rfl) rfl
theorem q234 : (Jvm.Cond.selects "RcWideDesk" ({ cls := "RcWideDesk", name := "out", desc := "(I)I" } : Jvm.MethodName) ({ cls := "RcWideDesk", name := "out", desc := "(I)I" } : Jvm.MethodName)) ∈ lw_all := lw_g (lw_at lw_m1 223 rfl) rfl
theorem q235 : (Jvm.Cond.code ({ cls := "RcWideDesk", name := "out", desc := "(I)I" } : Jvm.MethodName) prog_6_method_10_code (2 : Nat) (Option.some Jvm.ClassFile.FieldType.int)) ∈ lw_all := lw_g (lw_at lw_m1 224 rfl) rfl
theorem in_X0 : ∀ w ∈ wsX00, w ∈ lw_all := lw_in wsX00 [32, 34, 36] (by decide +kernel) (by decide +kernel)

/-! RC5Parameters -/
set_option maxRecDepth 100000
def RX3 : String := "RC5Parameters"
def TX3 : u_T := fun k => match k with
  | 0 => ("RC5Parameters", "key", "[B", false)
  | _ => ("RC5Parameters", "rounds", "I", false)
def tyX3 : Nat → FieldType := fun k => match k with
  | 0 => .array .byte
  | _ => .int
abbrev wsX30 : List Cond := u_ws RX3 TX3 2
theorem nmX3 : ∀ a, a < 2 → ∀ b, b < 2 → a ≠ b → (TX3 a).2.1 ≠ (TX3 b).2.1 := by decide +kernel
theorem tyX3_ok : ∀ k, k < 2 → parseFieldDescriptor (TX3 k).2.2.1 = some (tyX3 k) := by decide +kernel
abbrev cX3_init : ByteArray := prog_5_method_1_code
def yX3_init : MethodName := ⟨RX3, "<init>", "([BI)V"⟩
def dkwX3_init_1 : List UInt8 := [190, 188, 8, 181, 0, 14, 42, 28, 181, 0, 20, 43, 3, 42, 180, 0, 14, 3, 43, 190, 184, 0, 24, 177]
abbrev dktX3_init_1 : List UInt8 := dkwX3_init_1 ++ []
def dkwX3_init_0 : List UInt8 := [42, 183, 0, 1, 43, 190, 17, 0, 255, 164, 0, 13, 187, 0, 7, 89, 18, 9, 183, 0, 11, 191, 42, 43]
abbrev dktX3_init_0 : List UInt8 := dkwX3_init_0 ++ dktX3_init_1
theorem dksX3_init_0 : cX3_init.data.toList.drop 0 = dktX3_init_0 := by decide +kernel
theorem dksX3_init_1 : cX3_init.data.toList.drop 24 = dktX3_init_1 := dk_seg dksX3_init_0 24 rfl rfl
theorem dX3_init_0 : decode cX3_init 0 = .ok (.aload_n 0, 1) := dk_42 (dk_at dksX3_init_0 0 rfl rfl)
theorem dX3_init_1 : decode cX3_init 1 = .ok (.invokespecial 1, 3) := dk_183 0 1 (dk_at dksX3_init_0 1 rfl rfl)
theorem dX3_init_4 : decode cX3_init 4 = .ok (.aload_n 1, 1) := dk_43 (dk_at dksX3_init_0 4 rfl rfl)
theorem dX3_init_5 : decode cX3_init 5 = .ok (.arraylength, 1) := dk_190 (dk_at dksX3_init_0 5 rfl rfl)
theorem dX3_init_6 : decode cX3_init 6 = .ok (.sipush 255, 3) := dk_17 0 255 (dk_at dksX3_init_0 6 rfl rfl)
theorem dX3_init_9 : decode cX3_init 9 = .ok (.if_icmp .le 13, 3) := dk_164 0 13 (dk_at dksX3_init_0 9 rfl rfl)
theorem dX3_init_12 : decode cX3_init 12 = .ok (.new 7, 3) := dk_187 0 7 (dk_at dksX3_init_0 12 rfl rfl)
theorem dX3_init_15 : decode cX3_init 15 = .ok (.dup, 1) := dk_89 (dk_at dksX3_init_0 15 rfl rfl)
theorem dX3_init_16 : decode cX3_init 16 = .ok (.ldc 9, 2) := dk_18 9 (dk_at dksX3_init_0 16 rfl rfl)
theorem dX3_init_18 : decode cX3_init 18 = .ok (.invokespecial 11, 3) := dk_183 0 11 (dk_at dksX3_init_0 18 rfl rfl)
theorem dX3_init_21 : decode cX3_init 21 = .ok (.athrow, 1) := dk_191 (dk_at dksX3_init_0 21 rfl rfl)
theorem dX3_init_22 : decode cX3_init 22 = .ok (.aload_n 0, 1) := dk_42 (dk_at dksX3_init_0 22 rfl rfl)
theorem dX3_init_23 : decode cX3_init 23 = .ok (.aload_n 1, 1) := dk_43 (dk_at dksX3_init_0 23 rfl rfl)
theorem dX3_init_24 : decode cX3_init 24 = .ok (.arraylength, 1) := dk_190 (dk_at dksX3_init_1 0 rfl rfl)
theorem dX3_init_25 : decode cX3_init 25 = .ok (.newarray .byte, 2) := dk_188_8 (dk_at dksX3_init_1 1 rfl rfl)
theorem dX3_init_27 : decode cX3_init 27 = .ok (.putfield 14, 3) := dk_181 0 14 (dk_at dksX3_init_1 3 rfl rfl)
theorem dX3_init_30 : decode cX3_init 30 = .ok (.aload_n 0, 1) := dk_42 (dk_at dksX3_init_1 6 rfl rfl)
theorem dX3_init_31 : decode cX3_init 31 = .ok (.iload_n 2, 1) := dk_28 (dk_at dksX3_init_1 7 rfl rfl)
theorem dX3_init_32 : decode cX3_init 32 = .ok (.putfield 20, 3) := dk_181 0 20 (dk_at dksX3_init_1 8 rfl rfl)
theorem dX3_init_35 : decode cX3_init 35 = .ok (.aload_n 1, 1) := dk_43 (dk_at dksX3_init_1 11 rfl rfl)
theorem dX3_init_36 : decode cX3_init 36 = .ok (.iconst 0, 1) := dk_3 (dk_at dksX3_init_1 12 rfl rfl)
theorem dX3_init_37 : decode cX3_init 37 = .ok (.aload_n 0, 1) := dk_42 (dk_at dksX3_init_1 13 rfl rfl)
theorem dX3_init_38 : decode cX3_init 38 = .ok (.getfield 14, 3) := dk_180 0 14 (dk_at dksX3_init_1 14 rfl rfl)
theorem dX3_init_41 : decode cX3_init 41 = .ok (.iconst 0, 1) := dk_3 (dk_at dksX3_init_1 17 rfl rfl)
theorem dX3_init_42 : decode cX3_init 42 = .ok (.aload_n 1, 1) := dk_43 (dk_at dksX3_init_1 18 rfl rfl)
theorem dX3_init_43 : decode cX3_init 43 = .ok (.arraylength, 1) := dk_190 (dk_at dksX3_init_1 19 rfl rfl)
theorem dX3_init_44 : decode cX3_init 44 = .ok (.invokestatic 24, 3) := dk_184 0 24 (dk_at dksX3_init_1 20 rfl rfl)
theorem dX3_init_47 : decode cX3_init 47 = .ok (.return_, 1) := dk_177 (dk_at dksX3_init_1 23 rfl rfl)
abbrev cX3_getRounds : ByteArray := prog_5_method_3_code
def yX3_getRounds : MethodName := ⟨RX3, "getRounds", "()I"⟩
theorem dX3_getRounds_0 : decode cX3_getRounds 0 = .ok (.aload_n 0, 1) := by decide +kernel
theorem dX3_getRounds_1 : decode cX3_getRounds 1 = .ok (.getfield 20, 3) := by decide +kernel
theorem dX3_getRounds_4 : decode cX3_getRounds 4 = .ok (.ireturn, 1) := by decide +kernel
abbrev cX3_getKey : ByteArray := prog_5_method_2_code
def yX3_getKey : MethodName := ⟨RX3, "getKey", "()[B"⟩
theorem dX3_getKey_0 : decode cX3_getKey 0 = .ok (.aload_n 0, 1) := by decide +kernel
theorem dX3_getKey_1 : decode cX3_getKey 1 = .ok (.getfield 14, 3) := by decide +kernel
theorem dX3_getKey_4 : decode cX3_getKey 4 = .ok (.areturn, 1) := by decide +kernel
theorem q15 : (Jvm.Cond.initialized "RC5Parameters") ∈ lw_all := lw_g (lw_at lw_m1 4 rfl) rfl
theorem q79 : (Jvm.Cond.instantiable "RC5Parameters" (2 : Nat)) ∈ lw_all := lw_g (lw_at lw_m1 68 rfl) rfl
theorem q81 : (Jvm.Cond.instanceMethod ({ cls := "RC5Parameters", name := "<init>", desc := "([BI)V" } : Jvm.MethodName)) ∈ lw_all := lw_g (lw_at lw_m1 70 rfl) rfl
theorem q82 : (Jvm.Cond.code ({ cls := "RC5Parameters", name := "<init>", desc := "([BI)V" } : Jvm.MethodName) prog_5_method_1_code (3 : Nat) (Option.none : Option Jvm.ClassFile.FieldType)) ∈ lw_all := lw_g (lw_at lw_m1 71 rfl) rfl
theorem q83 : (Jvm.Cond.methodLink "RC5Parameters" (1 : Nat) ({ cls := "java/lang/Object", name := "<init>", desc := "()V" } : Jvm.MethodName)) ∈ lw_all := lw_g (lw_at lw_m1 72 rfl) rfl
theorem q84 : (Jvm.Cond.classLink "RC5Parameters" (7 : Nat) "java/lang/IllegalArgumentException") ∈ lw_all := lw_g (lw_at lw_m1 73 rfl) rfl
theorem q123 : (Jvm.Cond.stringRef "RC5Parameters" (9 : Nat) "RC5 key length can be no greater than 255") ∈ lw_tbl := lw_at lw_m1 112 rfl
theorem q124 : (Jvm.Cond.methodLink "RC5Parameters" (11 : Nat) ({ cls := "java/lang/IllegalArgumentException", name := "<init>", desc := "(Ljava/lang/String;)V" } : Jvm.MethodName)) ∈ lw_all := lw_g (lw_at lw_m1 113 rfl) rfl
theorem q149 : (Jvm.Cond.methodLink "RC5Parameters" (24 : Nat) ({ cls := "java/lang/System", name := "arraycopy", desc := "(Ljava/lang/Object;ILjava/lang/Object;II)V" } : Jvm.MethodName)) ∈ lw_all := lw_g (lw_at lw_m1 138 rfl) rfl
theorem q152 : (Jvm.Cond.fieldLink "RC5Parameters" (14 : Nat) "RC5Parameters" "key" "[B") ∈ lw_all := lw_g (lw_at lw_m1 141 rfl) rfl
theorem q153 : (Jvm.Cond.fieldLink "RC5Parameters" (20 : Nat) "RC5Parameters" "rounds" "I") ∈ lw_all := lw_g (lw_at lw_m1 142 rfl) rfl
theorem q154 : (Jvm.Cond.lays "RC5Parameters" "RC5Parameters" "key" "[B") ∈ lw_all := lw_g (lw_at lw_m1 143 rfl) rfl
theorem q155 : (Jvm.Cond.soleField "RC5Parameters" "key") ∈ lw_all := lw_g (lw_at lw_m1 144 rfl) rfl
theorem q156 : (Jvm.Cond.lays "RC5Parameters" "RC5Parameters" "rounds" "I") ∈ lw_all := lw_g (lw_at lw_m1 145 rfl) rfl
theorem q157 : (Jvm.Cond.soleField "RC5Parameters" "rounds") ∈ lw_all := lw_g (lw_at lw_m1 146 rfl) rfl
theorem q158 : (Jvm.Cond.superclass "RC5Parameters" "java/lang/Object") ∈ lw_all := lw_g (lw_at lw_m1 147 rfl) rfl
theorem q174 : (Jvm.Cond.instanceMethod ({ cls := "RC5Parameters", name := "getRounds", desc := "()I" } : Jvm.MethodName)) ∈ lw_all := lw_g (lw_at lw_m1 163 rfl) rfl
theorem q175 : (Jvm.Cond.selects "RC5Parameters" ({ cls := "RC5Parameters", name := "getRounds", desc := "()I" } : Jvm.MethodName) ({ cls := "RC5Parameters", name := "getRounds", desc := "()I" } : Jvm.MethodName)) ∈ lw_all := lw_g (lw_at lw_m1 164 rfl) rfl
theorem q176 : (Jvm.Cond.code ({ cls := "RC5Parameters", name := "getRounds", desc := "()I" } : Jvm.MethodName) prog_5_method_3_code (1 : Nat) (Option.some Jvm.ClassFile.FieldType.int)) ∈ lw_all := lw_g (lw_at lw_m1 165 rfl) rfl
theorem q178 : (Jvm.Cond.instanceMethod ({ cls := "RC5Parameters", name := "getKey", desc := "()[B" } : Jvm.MethodName)) ∈ lw_all := lw_g (lw_at lw_m1 167 rfl) rfl
theorem q179 : (Jvm.Cond.selects "RC5Parameters" ({ cls := "RC5Parameters", name := "getKey", desc := "()[B" } : Jvm.MethodName) ({ cls := "RC5Parameters", name := "getKey", desc := "()[B" } : Jvm.MethodName)) ∈ lw_all := lw_g (lw_at lw_m1 168 rfl) rfl
theorem q180 : (Jvm.Cond.code ({ cls := "RC5Parameters", name := "getKey", desc := "()[B" } : Jvm.MethodName) prog_5_method_2_code (1 : Nat) (Option.some (Jvm.ClassFile.FieldType.array Jvm.ClassFile.FieldType.byte))) ∈ lw_all := lw_g (lw_at lw_m1 169 rfl) rfl
theorem in_X3 : ∀ w ∈ wsX30, w ∈ lw_all := lw_in wsX30 [154, 156] (by decide +kernel) (by decide +kernel)
end
section
/-! RcWideDeskModel -/
set_option maxRecDepth 100000
def RX1 : String := "RcWideDeskModel"
def TX1 : u_T := fun k => match k with
  | 0 => ("RcWideDeskModel", "key", "[I", true)
  | 1 => ("RcWideDeskModel", "block", "[I", true)
  | _ => ("RcWideDeskModel", "out", "[I", true)
def tyX1 : Nat → FieldType := fun k => match k with
  | 0 => .array .int
  | 1 => .array .int
  | _ => .array .int
abbrev wsX10 : List Cond := u_ws RX1 TX1 3
theorem nmX1 : ∀ a, a < 3 → ∀ b, b < 3 → a ≠ b → (TX1 a).2.1 ≠ (TX1 b).2.1 := by decide +kernel
theorem tyX1_ok : ∀ k, k < 3 → parseFieldDescriptor (TX1 k).2.2.1 = some (tyX1 k) := by decide +kernel
abbrev cX1_init : ByteArray := prog_8_method_1_code
def yX1_init : MethodName := ⟨RX1, "<init>", "()V"⟩
def dkwX1_init_1 : List UInt8 := [188, 10, 181, 0, 16, 177]
abbrev dktX1_init_1 : List UInt8 := dkwX1_init_1 ++ []
def dkwX1_init_0 : List UInt8 := [42, 183, 0, 1, 42, 16, 32, 188, 10, 181, 0, 7, 42, 16, 16, 188, 10, 181, 0, 13, 42, 16, 16]
abbrev dktX1_init_0 : List UInt8 := dkwX1_init_0 ++ dktX1_init_1
theorem dksX1_init_0 : cX1_init.data.toList.drop 0 = dktX1_init_0 := by decide +kernel
theorem dksX1_init_1 : cX1_init.data.toList.drop 23 = dktX1_init_1 := dk_seg dksX1_init_0 23 rfl rfl
theorem dX1_init_0 : decode cX1_init 0 = .ok (.aload_n 0, 1) := dk_42 (dk_at dksX1_init_0 0 rfl rfl)
theorem dX1_init_1 : decode cX1_init 1 = .ok (.invokespecial 1, 3) := dk_183 0 1 (dk_at dksX1_init_0 1 rfl rfl)
theorem dX1_init_4 : decode cX1_init 4 = .ok (.aload_n 0, 1) := dk_42 (dk_at dksX1_init_0 4 rfl rfl)
theorem dX1_init_5 : decode cX1_init 5 = .ok (.bipush 32, 2) := dk_16 32 (dk_at dksX1_init_0 5 rfl rfl)
theorem dX1_init_7 : decode cX1_init 7 = .ok (.newarray .int, 2) := dk_188_10 (dk_at dksX1_init_0 7 rfl rfl)
theorem dX1_init_9 : decode cX1_init 9 = .ok (.putfield 7, 3) := dk_181 0 7 (dk_at dksX1_init_0 9 rfl rfl)
theorem dX1_init_12 : decode cX1_init 12 = .ok (.aload_n 0, 1) := dk_42 (dk_at dksX1_init_0 12 rfl rfl)
theorem dX1_init_13 : decode cX1_init 13 = .ok (.bipush 16, 2) := dk_16 16 (dk_at dksX1_init_0 13 rfl rfl)
theorem dX1_init_15 : decode cX1_init 15 = .ok (.newarray .int, 2) := dk_188_10 (dk_at dksX1_init_0 15 rfl rfl)
theorem dX1_init_17 : decode cX1_init 17 = .ok (.putfield 13, 3) := dk_181 0 13 (dk_at dksX1_init_0 17 rfl rfl)
theorem dX1_init_20 : decode cX1_init 20 = .ok (.aload_n 0, 1) := dk_42 (dk_at dksX1_init_0 20 rfl rfl)
theorem dX1_init_21 : decode cX1_init 21 = .ok (.bipush 16, 2) := dk_16 16 (dk_at dksX1_init_0 21 rfl rfl)
theorem dX1_init_23 : decode cX1_init 23 = .ok (.newarray .int, 2) := dk_188_10 (dk_at dksX1_init_1 0 rfl rfl)
theorem dX1_init_25 : decode cX1_init 25 = .ok (.putfield 16, 3) := dk_181 0 16 (dk_at dksX1_init_1 2 rfl rfl)
theorem dX1_init_28 : decode cX1_init 28 = .ok (.return_, 1) := dk_177 (dk_at dksX1_init_1 5 rfl rfl)
abbrev cX1_key : ByteArray := prog_8_method_4_code
def yX1_key : MethodName := ⟨RX1, "key", "(IIIII)V"⟩
def dkwX1_key_0 : List UInt8 := [42, 180, 0, 7, 16, 16, 27, 4, 126, 104, 28, 29, 21, 4, 21, 5, 184, 0, 23, 177]
abbrev dktX1_key_0 : List UInt8 := dkwX1_key_0 ++ []
theorem dksX1_key_0 : cX1_key.data.toList.drop 0 = dktX1_key_0 := by decide +kernel
theorem dX1_key_0 : decode cX1_key 0 = .ok (.aload_n 0, 1) := dk_42 (dk_at dksX1_key_0 0 rfl rfl)
theorem dX1_key_1 : decode cX1_key 1 = .ok (.getfield 7, 3) := dk_180 0 7 (dk_at dksX1_key_0 1 rfl rfl)
theorem dX1_key_4 : decode cX1_key 4 = .ok (.bipush 16, 2) := dk_16 16 (dk_at dksX1_key_0 4 rfl rfl)
theorem dX1_key_6 : decode cX1_key 6 = .ok (.iload_n 1, 1) := dk_27 (dk_at dksX1_key_0 6 rfl rfl)
theorem dX1_key_7 : decode cX1_key 7 = .ok (.iconst 1, 1) := dk_4 (dk_at dksX1_key_0 7 rfl rfl)
theorem dX1_key_8 : decode cX1_key 8 = .ok (.iand, 1) := dk_126 (dk_at dksX1_key_0 8 rfl rfl)
theorem dX1_key_9 : decode cX1_key 9 = .ok (.imul, 1) := dk_104 (dk_at dksX1_key_0 9 rfl rfl)
theorem dX1_key_10 : decode cX1_key 10 = .ok (.iload_n 2, 1) := dk_28 (dk_at dksX1_key_0 10 rfl rfl)
theorem dX1_key_11 : decode cX1_key 11 = .ok (.iload_n 3, 1) := dk_29 (dk_at dksX1_key_0 11 rfl rfl)
theorem dX1_key_12 : decode cX1_key 12 = .ok (.iload 4, 2) := dk_21 4 (dk_at dksX1_key_0 12 rfl rfl)
theorem dX1_key_14 : decode cX1_key 14 = .ok (.iload 5, 2) := dk_21 5 (dk_at dksX1_key_0 14 rfl rfl)
theorem dX1_key_16 : decode cX1_key 16 = .ok (.invokestatic 23, 3) := dk_184 0 23 (dk_at dksX1_key_0 16 rfl rfl)
theorem dX1_key_19 : decode cX1_key 19 = .ok (.return_, 1) := dk_177 (dk_at dksX1_key_0 19 rfl rfl)
abbrev cX1_words : ByteArray := prog_8_method_3_code
def yX1_words : MethodName := ⟨RX1, "words", "([IIIIII)V"⟩
def dkwX1_words_1 : List UInt8 := [42, 27, 16, 12, 96, 21, 5, 184, 0, 19, 177]
abbrev dktX1_words_1 : List UInt8 := dkwX1_words_1 ++ []
def dkwX1_words_0 : List UInt8 := [42, 27, 28, 184, 0, 19, 42, 27, 7, 96, 29, 184, 0, 19, 42, 27, 16, 8, 96, 21, 4, 184, 0, 19]
abbrev dktX1_words_0 : List UInt8 := dkwX1_words_0 ++ dktX1_words_1
theorem dksX1_words_0 : cX1_words.data.toList.drop 0 = dktX1_words_0 := by decide +kernel
theorem dksX1_words_1 : cX1_words.data.toList.drop 24 = dktX1_words_1 := dk_seg dksX1_words_0 24 rfl rfl
theorem dX1_words_0 : decode cX1_words 0 = .ok (.aload_n 0, 1) := dk_42 (dk_at dksX1_words_0 0 rfl rfl)
theorem dX1_words_1 : decode cX1_words 1 = .ok (.iload_n 1, 1) := dk_27 (dk_at dksX1_words_0 1 rfl rfl)
theorem dX1_words_2 : decode cX1_words 2 = .ok (.iload_n 2, 1) := dk_28 (dk_at dksX1_words_0 2 rfl rfl)
theorem dX1_words_3 : decode cX1_words 3 = .ok (.invokestatic 19, 3) := dk_184 0 19 (dk_at dksX1_words_0 3 rfl rfl)
theorem dX1_words_6 : decode cX1_words 6 = .ok (.aload_n 0, 1) := dk_42 (dk_at dksX1_words_0 6 rfl rfl)
theorem dX1_words_7 : decode cX1_words 7 = .ok (.iload_n 1, 1) := dk_27 (dk_at dksX1_words_0 7 rfl rfl)
theorem dX1_words_8 : decode cX1_words 8 = .ok (.iconst 4, 1) := dk_7 (dk_at dksX1_words_0 8 rfl rfl)
theorem dX1_words_9 : decode cX1_words 9 = .ok (.iadd, 1) := dk_96 (dk_at dksX1_words_0 9 rfl rfl)
theorem dX1_words_10 : decode cX1_words 10 = .ok (.iload_n 3, 1) := dk_29 (dk_at dksX1_words_0 10 rfl rfl)
theorem dX1_words_11 : decode cX1_words 11 = .ok (.invokestatic 19, 3) := dk_184 0 19 (dk_at dksX1_words_0 11 rfl rfl)
theorem dX1_words_14 : decode cX1_words 14 = .ok (.aload_n 0, 1) := dk_42 (dk_at dksX1_words_0 14 rfl rfl)
theorem dX1_words_15 : decode cX1_words 15 = .ok (.iload_n 1, 1) := dk_27 (dk_at dksX1_words_0 15 rfl rfl)
theorem dX1_words_16 : decode cX1_words 16 = .ok (.bipush 8, 2) := dk_16 8 (dk_at dksX1_words_0 16 rfl rfl)
theorem dX1_words_18 : decode cX1_words 18 = .ok (.iadd, 1) := dk_96 (dk_at dksX1_words_0 18 rfl rfl)
theorem dX1_words_19 : decode cX1_words 19 = .ok (.iload 4, 2) := dk_21 4 (dk_at dksX1_words_0 19 rfl rfl)
theorem dX1_words_21 : decode cX1_words 21 = .ok (.invokestatic 19, 3) := dk_184 0 19 (dk_at dksX1_words_0 21 rfl rfl)
theorem dX1_words_24 : decode cX1_words 24 = .ok (.aload_n 0, 1) := dk_42 (dk_at dksX1_words_1 0 rfl rfl)
theorem dX1_words_25 : decode cX1_words 25 = .ok (.iload_n 1, 1) := dk_27 (dk_at dksX1_words_1 1 rfl rfl)
theorem dX1_words_26 : decode cX1_words 26 = .ok (.bipush 12, 2) := dk_16 12 (dk_at dksX1_words_1 2 rfl rfl)
theorem dX1_words_28 : decode cX1_words 28 = .ok (.iadd, 1) := dk_96 (dk_at dksX1_words_1 4 rfl rfl)
theorem dX1_words_29 : decode cX1_words 29 = .ok (.iload 5, 2) := dk_21 5 (dk_at dksX1_words_1 5 rfl rfl)
theorem dX1_words_31 : decode cX1_words 31 = .ok (.invokestatic 19, 3) := dk_184 0 19 (dk_at dksX1_words_1 7 rfl rfl)
theorem dX1_words_34 : decode cX1_words 34 = .ok (.return_, 1) := dk_177 (dk_at dksX1_words_1 10 rfl rfl)
abbrev cX1_word : ByteArray := prog_8_method_2_code
def yX1_word : MethodName := ⟨RX1, "word", "([III)V"⟩
def dkwX1_word_1 : List UInt8 := [79, 132, 3, 1, 167, 255, 230, 177]
abbrev dktX1_word_1 : List UInt8 := dkwX1_word_1 ++ []
def dkwX1_word_0 : List UInt8 := [3, 62, 29, 7, 162, 0, 27, 42, 27, 29, 96, 28, 16, 24, 16, 8, 29, 104, 100, 122, 17, 0, 255, 126]
abbrev dktX1_word_0 : List UInt8 := dkwX1_word_0 ++ dktX1_word_1
theorem dksX1_word_0 : cX1_word.data.toList.drop 0 = dktX1_word_0 := by decide +kernel
theorem dksX1_word_1 : cX1_word.data.toList.drop 24 = dktX1_word_1 := dk_seg dksX1_word_0 24 rfl rfl
theorem dX1_word_0 : decode cX1_word 0 = .ok (.iconst 0, 1) := dk_3 (dk_at dksX1_word_0 0 rfl rfl)
theorem dX1_word_1 : decode cX1_word 1 = .ok (.istore_n 3, 1) := dk_62 (dk_at dksX1_word_0 1 rfl rfl)
theorem dX1_word_2 : decode cX1_word 2 = .ok (.iload_n 3, 1) := dk_29 (dk_at dksX1_word_0 2 rfl rfl)
theorem dX1_word_3 : decode cX1_word 3 = .ok (.iconst 4, 1) := dk_7 (dk_at dksX1_word_0 3 rfl rfl)
theorem dX1_word_4 : decode cX1_word 4 = .ok (.if_icmp .ge 27, 3) := dk_162 0 27 (dk_at dksX1_word_0 4 rfl rfl)
theorem dX1_word_7 : decode cX1_word 7 = .ok (.aload_n 0, 1) := dk_42 (dk_at dksX1_word_0 7 rfl rfl)
theorem dX1_word_8 : decode cX1_word 8 = .ok (.iload_n 1, 1) := dk_27 (dk_at dksX1_word_0 8 rfl rfl)
theorem dX1_word_9 : decode cX1_word 9 = .ok (.iload_n 3, 1) := dk_29 (dk_at dksX1_word_0 9 rfl rfl)
theorem dX1_word_10 : decode cX1_word 10 = .ok (.iadd, 1) := dk_96 (dk_at dksX1_word_0 10 rfl rfl)
theorem dX1_word_11 : decode cX1_word 11 = .ok (.iload_n 2, 1) := dk_28 (dk_at dksX1_word_0 11 rfl rfl)
theorem dX1_word_12 : decode cX1_word 12 = .ok (.bipush 24, 2) := dk_16 24 (dk_at dksX1_word_0 12 rfl rfl)
theorem dX1_word_14 : decode cX1_word 14 = .ok (.bipush 8, 2) := dk_16 8 (dk_at dksX1_word_0 14 rfl rfl)
theorem dX1_word_16 : decode cX1_word 16 = .ok (.iload_n 3, 1) := dk_29 (dk_at dksX1_word_0 16 rfl rfl)
theorem dX1_word_17 : decode cX1_word 17 = .ok (.imul, 1) := dk_104 (dk_at dksX1_word_0 17 rfl rfl)
theorem dX1_word_18 : decode cX1_word 18 = .ok (.isub, 1) := dk_100 (dk_at dksX1_word_0 18 rfl rfl)
theorem dX1_word_19 : decode cX1_word 19 = .ok (.ishr, 1) := dk_122 (dk_at dksX1_word_0 19 rfl rfl)
theorem dX1_word_20 : decode cX1_word 20 = .ok (.sipush 255, 3) := dk_17 0 255 (dk_at dksX1_word_0 20 rfl rfl)
theorem dX1_word_23 : decode cX1_word 23 = .ok (.iand, 1) := dk_126 (dk_at dksX1_word_0 23 rfl rfl)
theorem dX1_word_24 : decode cX1_word 24 = .ok (.iastore, 1) := dk_79 (dk_at dksX1_word_1 0 rfl rfl)
theorem dX1_word_25 : decode cX1_word 25 = .ok (.iinc 3 1, 3) := dk_132 3 1 (dk_at dksX1_word_1 1 rfl rfl)
theorem dX1_word_28 : decode cX1_word 28 = .ok (.goto (-26), 3) := dk_167 255 230 (dk_at dksX1_word_1 4 rfl rfl)
theorem dX1_word_31 : decode cX1_word 31 = .ok (.return_, 1) := dk_177 (dk_at dksX1_word_1 7 rfl rfl)
abbrev cX1_block : ByteArray := prog_8_method_5_code
def yX1_block : MethodName := ⟨RX1, "block", "(IIII)V"⟩
def dkwX1_block_0 : List UInt8 := [42, 180, 0, 13, 3, 27, 28, 29, 21, 4, 184, 0, 23, 177]
abbrev dktX1_block_0 : List UInt8 := dkwX1_block_0 ++ []
theorem dksX1_block_0 : cX1_block.data.toList.drop 0 = dktX1_block_0 := by decide +kernel
theorem dX1_block_0 : decode cX1_block 0 = .ok (.aload_n 0, 1) := dk_42 (dk_at dksX1_block_0 0 rfl rfl)
theorem dX1_block_1 : decode cX1_block 1 = .ok (.getfield 13, 3) := dk_180 0 13 (dk_at dksX1_block_0 1 rfl rfl)
theorem dX1_block_4 : decode cX1_block 4 = .ok (.iconst 0, 1) := dk_3 (dk_at dksX1_block_0 4 rfl rfl)
theorem dX1_block_5 : decode cX1_block 5 = .ok (.iload_n 1, 1) := dk_27 (dk_at dksX1_block_0 5 rfl rfl)
theorem dX1_block_6 : decode cX1_block 6 = .ok (.iload_n 2, 1) := dk_28 (dk_at dksX1_block_0 6 rfl rfl)
theorem dX1_block_7 : decode cX1_block 7 = .ok (.iload_n 3, 1) := dk_29 (dk_at dksX1_block_0 7 rfl rfl)
theorem dX1_block_8 : decode cX1_block 8 = .ok (.iload 4, 2) := dk_21 4 (dk_at dksX1_block_0 8 rfl rfl)
theorem dX1_block_10 : decode cX1_block 10 = .ok (.invokestatic 23, 3) := dk_184 0 23 (dk_at dksX1_block_0 10 rfl rfl)
theorem dX1_block_13 : decode cX1_block 13 = .ok (.return_, 1) := dk_177 (dk_at dksX1_block_0 13 rfl rfl)
abbrev cX1_again : ByteArray := prog_8_method_6_code
def yX1_again : MethodName := ⟨RX1, "again", "()V"⟩
def dkwX1_again_1 : List UInt8 := [167, 255, 235, 177]
abbrev dktX1_again_1 : List UInt8 := dkwX1_again_1 ++ []
def dkwX1_again_0 : List UInt8 := [3, 60, 27, 16, 16, 162, 0, 21, 42, 180, 0, 13, 27, 42, 180, 0, 16, 27, 46, 79, 132, 1, 1]
abbrev dktX1_again_0 : List UInt8 := dkwX1_again_0 ++ dktX1_again_1
theorem dksX1_again_0 : cX1_again.data.toList.drop 0 = dktX1_again_0 := by decide +kernel
theorem dksX1_again_1 : cX1_again.data.toList.drop 23 = dktX1_again_1 := dk_seg dksX1_again_0 23 rfl rfl
theorem dX1_again_0 : decode cX1_again 0 = .ok (.iconst 0, 1) := dk_3 (dk_at dksX1_again_0 0 rfl rfl)
theorem dX1_again_1 : decode cX1_again 1 = .ok (.istore_n 1, 1) := dk_60 (dk_at dksX1_again_0 1 rfl rfl)
theorem dX1_again_2 : decode cX1_again 2 = .ok (.iload_n 1, 1) := dk_27 (dk_at dksX1_again_0 2 rfl rfl)
theorem dX1_again_3 : decode cX1_again 3 = .ok (.bipush 16, 2) := dk_16 16 (dk_at dksX1_again_0 3 rfl rfl)
theorem dX1_again_5 : decode cX1_again 5 = .ok (.if_icmp .ge 21, 3) := dk_162 0 21 (dk_at dksX1_again_0 5 rfl rfl)
theorem dX1_again_8 : decode cX1_again 8 = .ok (.aload_n 0, 1) := dk_42 (dk_at dksX1_again_0 8 rfl rfl)
theorem dX1_again_9 : decode cX1_again 9 = .ok (.getfield 13, 3) := dk_180 0 13 (dk_at dksX1_again_0 9 rfl rfl)
theorem dX1_again_12 : decode cX1_again 12 = .ok (.iload_n 1, 1) := dk_27 (dk_at dksX1_again_0 12 rfl rfl)
theorem dX1_again_13 : decode cX1_again 13 = .ok (.aload_n 0, 1) := dk_42 (dk_at dksX1_again_0 13 rfl rfl)
theorem dX1_again_14 : decode cX1_again 14 = .ok (.getfield 16, 3) := dk_180 0 16 (dk_at dksX1_again_0 14 rfl rfl)
theorem dX1_again_17 : decode cX1_again 17 = .ok (.iload_n 1, 1) := dk_27 (dk_at dksX1_again_0 17 rfl rfl)
theorem dX1_again_18 : decode cX1_again 18 = .ok (.iaload, 1) := dk_46 (dk_at dksX1_again_0 18 rfl rfl)
theorem dX1_again_19 : decode cX1_again 19 = .ok (.iastore, 1) := dk_79 (dk_at dksX1_again_0 19 rfl rfl)
theorem dX1_again_20 : decode cX1_again 20 = .ok (.iinc 1 1, 3) := dk_132 1 1 (dk_at dksX1_again_0 20 rfl rfl)
theorem dX1_again_23 : decode cX1_again 23 = .ok (.goto (-21), 3) := dk_167 255 235 (dk_at dksX1_again_1 0 rfl rfl)
theorem dX1_again_26 : decode cX1_again 26 = .ok (.return_, 1) := dk_177 (dk_at dksX1_again_1 3 rfl rfl)
abbrev cX1_out : ByteArray := prog_8_method_7_code
def yX1_out : MethodName := ⟨RX1, "out", "(I)I"⟩
def dkwX1_out_0 : List UInt8 := [42, 180, 0, 16, 27, 16, 15, 126, 46, 172]
abbrev dktX1_out_0 : List UInt8 := dkwX1_out_0 ++ []
theorem dksX1_out_0 : cX1_out.data.toList.drop 0 = dktX1_out_0 := by decide +kernel
theorem dX1_out_0 : decode cX1_out 0 = .ok (.aload_n 0, 1) := dk_42 (dk_at dksX1_out_0 0 rfl rfl)
theorem dX1_out_1 : decode cX1_out 1 = .ok (.getfield 16, 3) := dk_180 0 16 (dk_at dksX1_out_0 1 rfl rfl)
theorem dX1_out_4 : decode cX1_out 4 = .ok (.iload_n 1, 1) := dk_27 (dk_at dksX1_out_0 4 rfl rfl)
theorem dX1_out_5 : decode cX1_out 5 = .ok (.bipush 15, 2) := dk_16 15 (dk_at dksX1_out_0 5 rfl rfl)
theorem dX1_out_7 : decode cX1_out 7 = .ok (.iand, 1) := dk_126 (dk_at dksX1_out_0 7 rfl rfl)
theorem dX1_out_8 : decode cX1_out 8 = .ok (.iaload, 1) := dk_46 (dk_at dksX1_out_0 8 rfl rfl)
theorem dX1_out_9 : decode cX1_out 9 = .ok (.ireturn, 1) := dk_172 (dk_at dksX1_out_0 9 rfl rfl)
abbrev cX1_lock : ByteArray := prog_8_method_13_code
def yX1_lock : MethodName := ⟨RX1, "lock", "(I)V"⟩
def dkwX1_lock_4 : List UInt8 := [16, 8, 182, 0, 49, 177]
abbrev dktX1_lock_4 : List UInt8 := dkwX1_lock_4 ++ []
def dkwX1_lock_3 : List UInt8 := [21, 7, 104, 4, 96, 47, 97, 55, 5, 132, 7, 1, 167, 255, 210, 42, 33, 3, 182, 0, 49, 42, 22, 5]
abbrev dktX1_lock_3 : List UInt8 := dkwX1_lock_3 ++ dktX1_lock_4
def dkwX1_lock_2 : List UInt8 := [22, 5, 184, 0, 41, 44, 5, 21, 7, 104, 47, 97, 66, 22, 5, 33, 131, 33, 184, 0, 41, 44, 5]
abbrev dktX1_lock_2 : List UInt8 := dkwX1_lock_2 ++ dktX1_lock_3
def dkwX1_lock_1 : List UInt8 := [184, 0, 35, 44, 4, 47, 97, 55, 5, 4, 54, 7, 21, 7, 16, 12, 163, 0, 45, 33, 22, 5, 131]
abbrev dktX1_lock_1 : List UInt8 := dkwX1_lock_1 ++ dktX1_lock_2
def dkwX1_lock_0 : List UInt8 := [42, 182, 0, 45, 77, 42, 180, 0, 13, 3, 184, 0, 35, 44, 3, 47, 97, 66, 42, 180, 0, 13, 16, 8]
abbrev dktX1_lock_0 : List UInt8 := dkwX1_lock_0 ++ dktX1_lock_1
theorem dksX1_lock_0 : cX1_lock.data.toList.drop 0 = dktX1_lock_0 := by decide +kernel
theorem dksX1_lock_1 : cX1_lock.data.toList.drop 24 = dktX1_lock_1 := dk_seg dksX1_lock_0 24 rfl rfl
theorem dksX1_lock_2 : cX1_lock.data.toList.drop 47 = dktX1_lock_2 := dk_seg dksX1_lock_1 23 rfl rfl
theorem dksX1_lock_3 : cX1_lock.data.toList.drop 70 = dktX1_lock_3 := dk_seg dksX1_lock_2 23 rfl rfl
theorem dksX1_lock_4 : cX1_lock.data.toList.drop 94 = dktX1_lock_4 := dk_seg dksX1_lock_3 24 rfl rfl
theorem dX1_lock_0 : decode cX1_lock 0 = .ok (.aload_n 0, 1) := dk_42 (dk_at dksX1_lock_0 0 rfl rfl)
theorem dX1_lock_1 : decode cX1_lock 1 = .ok (.invokevirtual 45, 3) := dk_182 0 45 (dk_at dksX1_lock_0 1 rfl rfl)
theorem dX1_lock_4 : decode cX1_lock 4 = .ok (.astore_n 2, 1) := dk_77 (dk_at dksX1_lock_0 4 rfl rfl)
theorem dX1_lock_5 : decode cX1_lock 5 = .ok (.aload_n 0, 1) := dk_42 (dk_at dksX1_lock_0 5 rfl rfl)
theorem dX1_lock_6 : decode cX1_lock 6 = .ok (.getfield 13, 3) := dk_180 0 13 (dk_at dksX1_lock_0 6 rfl rfl)
theorem dX1_lock_9 : decode cX1_lock 9 = .ok (.iconst 0, 1) := dk_3 (dk_at dksX1_lock_0 9 rfl rfl)
theorem dX1_lock_10 : decode cX1_lock 10 = .ok (.invokestatic 35, 3) := dk_184 0 35 (dk_at dksX1_lock_0 10 rfl rfl)
theorem dX1_lock_13 : decode cX1_lock 13 = .ok (.aload_n 2, 1) := dk_44 (dk_at dksX1_lock_0 13 rfl rfl)
theorem dX1_lock_14 : decode cX1_lock 14 = .ok (.iconst 0, 1) := dk_3 (dk_at dksX1_lock_0 14 rfl rfl)
theorem dX1_lock_15 : decode cX1_lock 15 = .ok (.laload, 1) := dk_47 (dk_at dksX1_lock_0 15 rfl rfl)
theorem dX1_lock_16 : decode cX1_lock 16 = .ok (.ladd, 1) := dk_97 (dk_at dksX1_lock_0 16 rfl rfl)
theorem dX1_lock_17 : decode cX1_lock 17 = .ok (.lstore_n 3, 1) := dk_66 (dk_at dksX1_lock_0 17 rfl rfl)
theorem dX1_lock_18 : decode cX1_lock 18 = .ok (.aload_n 0, 1) := dk_42 (dk_at dksX1_lock_0 18 rfl rfl)
theorem dX1_lock_19 : decode cX1_lock 19 = .ok (.getfield 13, 3) := dk_180 0 13 (dk_at dksX1_lock_0 19 rfl rfl)
theorem dX1_lock_22 : decode cX1_lock 22 = .ok (.bipush 8, 2) := dk_16 8 (dk_at dksX1_lock_0 22 rfl rfl)
theorem dX1_lock_24 : decode cX1_lock 24 = .ok (.invokestatic 35, 3) := dk_184 0 35 (dk_at dksX1_lock_1 0 rfl rfl)
theorem dX1_lock_27 : decode cX1_lock 27 = .ok (.aload_n 2, 1) := dk_44 (dk_at dksX1_lock_1 3 rfl rfl)
theorem dX1_lock_28 : decode cX1_lock 28 = .ok (.iconst 1, 1) := dk_4 (dk_at dksX1_lock_1 4 rfl rfl)
theorem dX1_lock_29 : decode cX1_lock 29 = .ok (.laload, 1) := dk_47 (dk_at dksX1_lock_1 5 rfl rfl)
theorem dX1_lock_30 : decode cX1_lock 30 = .ok (.ladd, 1) := dk_97 (dk_at dksX1_lock_1 6 rfl rfl)
theorem dX1_lock_31 : decode cX1_lock 31 = .ok (.lstore 5, 2) := dk_55 5 (dk_at dksX1_lock_1 7 rfl rfl)
theorem dX1_lock_33 : decode cX1_lock 33 = .ok (.iconst 1, 1) := dk_4 (dk_at dksX1_lock_1 9 rfl rfl)
theorem dX1_lock_34 : decode cX1_lock 34 = .ok (.istore 7, 2) := dk_54 7 (dk_at dksX1_lock_1 10 rfl rfl)
theorem dX1_lock_36 : decode cX1_lock 36 = .ok (.iload 7, 2) := dk_21 7 (dk_at dksX1_lock_1 12 rfl rfl)
theorem dX1_lock_38 : decode cX1_lock 38 = .ok (.bipush 12, 2) := dk_16 12 (dk_at dksX1_lock_1 14 rfl rfl)
theorem dX1_lock_40 : decode cX1_lock 40 = .ok (.if_icmp .gt 45, 3) := dk_163 0 45 (dk_at dksX1_lock_1 16 rfl rfl)
theorem dX1_lock_43 : decode cX1_lock 43 = .ok (.lload_n 3, 1) := dk_33 (dk_at dksX1_lock_1 19 rfl rfl)
theorem dX1_lock_44 : decode cX1_lock 44 = .ok (.lload 5, 2) := dk_22 5 (dk_at dksX1_lock_1 20 rfl rfl)
theorem dX1_lock_46 : decode cX1_lock 46 = .ok (.lxor, 1) := dk_131 (dk_at dksX1_lock_1 22 rfl rfl)
theorem dX1_lock_47 : decode cX1_lock 47 = .ok (.lload 5, 2) := dk_22 5 (dk_at dksX1_lock_2 0 rfl rfl)
theorem dX1_lock_49 : decode cX1_lock 49 = .ok (.invokestatic 41, 3) := dk_184 0 41 (dk_at dksX1_lock_2 2 rfl rfl)
theorem dX1_lock_52 : decode cX1_lock 52 = .ok (.aload_n 2, 1) := dk_44 (dk_at dksX1_lock_2 5 rfl rfl)
theorem dX1_lock_53 : decode cX1_lock 53 = .ok (.iconst 2, 1) := dk_5 (dk_at dksX1_lock_2 6 rfl rfl)
theorem dX1_lock_54 : decode cX1_lock 54 = .ok (.iload 7, 2) := dk_21 7 (dk_at dksX1_lock_2 7 rfl rfl)
theorem dX1_lock_56 : decode cX1_lock 56 = .ok (.imul, 1) := dk_104 (dk_at dksX1_lock_2 9 rfl rfl)
theorem dX1_lock_57 : decode cX1_lock 57 = .ok (.laload, 1) := dk_47 (dk_at dksX1_lock_2 10 rfl rfl)
theorem dX1_lock_58 : decode cX1_lock 58 = .ok (.ladd, 1) := dk_97 (dk_at dksX1_lock_2 11 rfl rfl)
theorem dX1_lock_59 : decode cX1_lock 59 = .ok (.lstore_n 3, 1) := dk_66 (dk_at dksX1_lock_2 12 rfl rfl)
theorem dX1_lock_60 : decode cX1_lock 60 = .ok (.lload 5, 2) := dk_22 5 (dk_at dksX1_lock_2 13 rfl rfl)
theorem dX1_lock_62 : decode cX1_lock 62 = .ok (.lload_n 3, 1) := dk_33 (dk_at dksX1_lock_2 15 rfl rfl)
theorem dX1_lock_63 : decode cX1_lock 63 = .ok (.lxor, 1) := dk_131 (dk_at dksX1_lock_2 16 rfl rfl)
theorem dX1_lock_64 : decode cX1_lock 64 = .ok (.lload_n 3, 1) := dk_33 (dk_at dksX1_lock_2 17 rfl rfl)
theorem dX1_lock_65 : decode cX1_lock 65 = .ok (.invokestatic 41, 3) := dk_184 0 41 (dk_at dksX1_lock_2 18 rfl rfl)
theorem dX1_lock_68 : decode cX1_lock 68 = .ok (.aload_n 2, 1) := dk_44 (dk_at dksX1_lock_2 21 rfl rfl)
theorem dX1_lock_69 : decode cX1_lock 69 = .ok (.iconst 2, 1) := dk_5 (dk_at dksX1_lock_2 22 rfl rfl)
theorem dX1_lock_70 : decode cX1_lock 70 = .ok (.iload 7, 2) := dk_21 7 (dk_at dksX1_lock_3 0 rfl rfl)
theorem dX1_lock_72 : decode cX1_lock 72 = .ok (.imul, 1) := dk_104 (dk_at dksX1_lock_3 2 rfl rfl)
theorem dX1_lock_73 : decode cX1_lock 73 = .ok (.iconst 1, 1) := dk_4 (dk_at dksX1_lock_3 3 rfl rfl)
theorem dX1_lock_74 : decode cX1_lock 74 = .ok (.iadd, 1) := dk_96 (dk_at dksX1_lock_3 4 rfl rfl)
theorem dX1_lock_75 : decode cX1_lock 75 = .ok (.laload, 1) := dk_47 (dk_at dksX1_lock_3 5 rfl rfl)
theorem dX1_lock_76 : decode cX1_lock 76 = .ok (.ladd, 1) := dk_97 (dk_at dksX1_lock_3 6 rfl rfl)
theorem dX1_lock_77 : decode cX1_lock 77 = .ok (.lstore 5, 2) := dk_55 5 (dk_at dksX1_lock_3 7 rfl rfl)
theorem dX1_lock_79 : decode cX1_lock 79 = .ok (.iinc 7 1, 3) := dk_132 7 1 (dk_at dksX1_lock_3 9 rfl rfl)
theorem dX1_lock_82 : decode cX1_lock 82 = .ok (.goto (-46), 3) := dk_167 255 210 (dk_at dksX1_lock_3 12 rfl rfl)
theorem dX1_lock_85 : decode cX1_lock 85 = .ok (.aload_n 0, 1) := dk_42 (dk_at dksX1_lock_3 15 rfl rfl)
theorem dX1_lock_86 : decode cX1_lock 86 = .ok (.lload_n 3, 1) := dk_33 (dk_at dksX1_lock_3 16 rfl rfl)
theorem dX1_lock_87 : decode cX1_lock 87 = .ok (.iconst 0, 1) := dk_3 (dk_at dksX1_lock_3 17 rfl rfl)
theorem dX1_lock_88 : decode cX1_lock 88 = .ok (.invokevirtual 49, 3) := dk_182 0 49 (dk_at dksX1_lock_3 18 rfl rfl)
theorem dX1_lock_91 : decode cX1_lock 91 = .ok (.aload_n 0, 1) := dk_42 (dk_at dksX1_lock_3 21 rfl rfl)
theorem dX1_lock_92 : decode cX1_lock 92 = .ok (.lload 5, 2) := dk_22 5 (dk_at dksX1_lock_3 22 rfl rfl)
theorem dX1_lock_94 : decode cX1_lock 94 = .ok (.bipush 8, 2) := dk_16 8 (dk_at dksX1_lock_4 0 rfl rfl)
theorem dX1_lock_96 : decode cX1_lock 96 = .ok (.invokevirtual 49, 3) := dk_182 0 49 (dk_at dksX1_lock_4 2 rfl rfl)
theorem dX1_lock_99 : decode cX1_lock 99 = .ok (.return_, 1) := dk_177 (dk_at dksX1_lock_4 5 rfl rfl)
abbrev cX1_expanded : ByteArray := prog_8_method_12_code
def yX1_expanded : MethodName := ⟨RX1, "expanded", "()[J"⟩
def dkwX1_expanded_6 : List UInt8 := [55, 5, 132, 7, 1, 167, 255, 181, 43, 176]
abbrev dktX1_expanded_6 : List UInt8 := dkwX1_expanded_6 ++ []
def dkwX1_expanded_5 : List UInt8 := [21, 7, 5, 112, 47, 33, 97, 22, 5, 97, 33, 22, 5, 97, 184, 0, 41, 80, 44, 21, 7, 5, 112, 47]
abbrev dktX1_expanded_5 : List UInt8 := dkwX1_expanded_5 ++ dktX1_expanded_6
def dkwX1_expanded_4 : List UInt8 := [47, 33, 97, 22, 5, 97, 20, 0, 39, 184, 0, 41, 80, 43, 21, 8, 47, 66, 44, 21, 7, 5, 112, 44]
abbrev dktX1_expanded_4 : List UInt8 := dkwX1_expanded_4 ++ dktX1_expanded_5
def dkwX1_expanded_3 : List UInt8 := [54, 7, 21, 7, 6, 43, 190, 104, 162, 0, 72, 21, 7, 43, 190, 112, 54, 8, 43, 21, 8, 43, 21, 8]
abbrev dktX1_expanded_3 : List UInt8 := dkwX1_expanded_3 ++ dktX1_expanded_4
def dkwX1_expanded_2 : List UInt8 := [184, 0, 35, 80, 89, 4, 42, 180, 0, 7, 16, 8, 184, 0, 35, 80, 77, 9, 66, 9, 55, 5, 3]
abbrev dktX1_expanded_2 : List UInt8 := dkwX1_expanded_2 ++ dktX1_expanded_3
def dkwX1_expanded_1 : List UInt8 := [100, 47, 20, 0, 33, 97, 80, 132, 2, 1, 167, 255, 235, 5, 188, 11, 89, 3, 42, 180, 0, 7, 3]
abbrev dktX1_expanded_1 : List UInt8 := dkwX1_expanded_1 ++ dktX1_expanded_2
def dkwX1_expanded_0 : List UInt8 := [16, 26, 188, 11, 76, 43, 3, 20, 0, 31, 80, 4, 61, 28, 43, 190, 162, 0, 21, 43, 28, 43, 28, 4]
abbrev dktX1_expanded_0 : List UInt8 := dkwX1_expanded_0 ++ dktX1_expanded_1
theorem dksX1_expanded_0 : cX1_expanded.data.toList.drop 0 = dktX1_expanded_0 := by decide +kernel
theorem dksX1_expanded_1 : cX1_expanded.data.toList.drop 24 = dktX1_expanded_1 := dk_seg dksX1_expanded_0 24 rfl rfl
theorem dksX1_expanded_2 : cX1_expanded.data.toList.drop 47 = dktX1_expanded_2 := dk_seg dksX1_expanded_1 23 rfl rfl
theorem dksX1_expanded_3 : cX1_expanded.data.toList.drop 70 = dktX1_expanded_3 := dk_seg dksX1_expanded_2 23 rfl rfl
theorem dksX1_expanded_4 : cX1_expanded.data.toList.drop 94 = dktX1_expanded_4 := dk_seg dksX1_expanded_3 24 rfl rfl
theorem dksX1_expanded_5 : cX1_expanded.data.toList.drop 118 = dktX1_expanded_5 := dk_seg dksX1_expanded_4 24 rfl rfl
theorem dksX1_expanded_6 : cX1_expanded.data.toList.drop 142 = dktX1_expanded_6 := dk_seg dksX1_expanded_5 24 rfl rfl
theorem dX1_expanded_0 : decode cX1_expanded 0 = .ok (.bipush 26, 2) := dk_16 26 (dk_at dksX1_expanded_0 0 rfl rfl)
theorem dX1_expanded_2 : decode cX1_expanded 2 = .ok (.newarray .long, 2) := dk_188_11 (dk_at dksX1_expanded_0 2 rfl rfl)
theorem dX1_expanded_4 : decode cX1_expanded 4 = .ok (.astore_n 1, 1) := dk_76 (dk_at dksX1_expanded_0 4 rfl rfl)
theorem dX1_expanded_5 : decode cX1_expanded 5 = .ok (.aload_n 1, 1) := dk_43 (dk_at dksX1_expanded_0 5 rfl rfl)
theorem dX1_expanded_6 : decode cX1_expanded 6 = .ok (.iconst 0, 1) := dk_3 (dk_at dksX1_expanded_0 6 rfl rfl)
theorem dX1_expanded_7 : decode cX1_expanded 7 = .ok (.ldc2_w 31, 3) := dk_20 0 31 (dk_at dksX1_expanded_0 7 rfl rfl)
theorem dX1_expanded_10 : decode cX1_expanded 10 = .ok (.lastore, 1) := dk_80 (dk_at dksX1_expanded_0 10 rfl rfl)
theorem dX1_expanded_11 : decode cX1_expanded 11 = .ok (.iconst 1, 1) := dk_4 (dk_at dksX1_expanded_0 11 rfl rfl)
theorem dX1_expanded_12 : decode cX1_expanded 12 = .ok (.istore_n 2, 1) := dk_61 (dk_at dksX1_expanded_0 12 rfl rfl)
theorem dX1_expanded_13 : decode cX1_expanded 13 = .ok (.iload_n 2, 1) := dk_28 (dk_at dksX1_expanded_0 13 rfl rfl)
theorem dX1_expanded_14 : decode cX1_expanded 14 = .ok (.aload_n 1, 1) := dk_43 (dk_at dksX1_expanded_0 14 rfl rfl)
theorem dX1_expanded_15 : decode cX1_expanded 15 = .ok (.arraylength, 1) := dk_190 (dk_at dksX1_expanded_0 15 rfl rfl)
theorem dX1_expanded_16 : decode cX1_expanded 16 = .ok (.if_icmp .ge 21, 3) := dk_162 0 21 (dk_at dksX1_expanded_0 16 rfl rfl)
theorem dX1_expanded_19 : decode cX1_expanded 19 = .ok (.aload_n 1, 1) := dk_43 (dk_at dksX1_expanded_0 19 rfl rfl)
theorem dX1_expanded_20 : decode cX1_expanded 20 = .ok (.iload_n 2, 1) := dk_28 (dk_at dksX1_expanded_0 20 rfl rfl)
theorem dX1_expanded_21 : decode cX1_expanded 21 = .ok (.aload_n 1, 1) := dk_43 (dk_at dksX1_expanded_0 21 rfl rfl)
theorem dX1_expanded_22 : decode cX1_expanded 22 = .ok (.iload_n 2, 1) := dk_28 (dk_at dksX1_expanded_0 22 rfl rfl)
theorem dX1_expanded_23 : decode cX1_expanded 23 = .ok (.iconst 1, 1) := dk_4 (dk_at dksX1_expanded_0 23 rfl rfl)
theorem dX1_expanded_24 : decode cX1_expanded 24 = .ok (.isub, 1) := dk_100 (dk_at dksX1_expanded_1 0 rfl rfl)
theorem dX1_expanded_25 : decode cX1_expanded 25 = .ok (.laload, 1) := dk_47 (dk_at dksX1_expanded_1 1 rfl rfl)
theorem dX1_expanded_26 : decode cX1_expanded 26 = .ok (.ldc2_w 33, 3) := dk_20 0 33 (dk_at dksX1_expanded_1 2 rfl rfl)
theorem dX1_expanded_29 : decode cX1_expanded 29 = .ok (.ladd, 1) := dk_97 (dk_at dksX1_expanded_1 5 rfl rfl)
theorem dX1_expanded_30 : decode cX1_expanded 30 = .ok (.lastore, 1) := dk_80 (dk_at dksX1_expanded_1 6 rfl rfl)
theorem dX1_expanded_31 : decode cX1_expanded 31 = .ok (.iinc 2 1, 3) := dk_132 2 1 (dk_at dksX1_expanded_1 7 rfl rfl)
theorem dX1_expanded_34 : decode cX1_expanded 34 = .ok (.goto (-21), 3) := dk_167 255 235 (dk_at dksX1_expanded_1 10 rfl rfl)
theorem dX1_expanded_37 : decode cX1_expanded 37 = .ok (.iconst 2, 1) := dk_5 (dk_at dksX1_expanded_1 13 rfl rfl)
theorem dX1_expanded_38 : decode cX1_expanded 38 = .ok (.newarray .long, 2) := dk_188_11 (dk_at dksX1_expanded_1 14 rfl rfl)
theorem dX1_expanded_40 : decode cX1_expanded 40 = .ok (.dup, 1) := dk_89 (dk_at dksX1_expanded_1 16 rfl rfl)
theorem dX1_expanded_41 : decode cX1_expanded 41 = .ok (.iconst 0, 1) := dk_3 (dk_at dksX1_expanded_1 17 rfl rfl)
theorem dX1_expanded_42 : decode cX1_expanded 42 = .ok (.aload_n 0, 1) := dk_42 (dk_at dksX1_expanded_1 18 rfl rfl)
theorem dX1_expanded_43 : decode cX1_expanded 43 = .ok (.getfield 7, 3) := dk_180 0 7 (dk_at dksX1_expanded_1 19 rfl rfl)
theorem dX1_expanded_46 : decode cX1_expanded 46 = .ok (.iconst 0, 1) := dk_3 (dk_at dksX1_expanded_1 22 rfl rfl)
theorem dX1_expanded_47 : decode cX1_expanded 47 = .ok (.invokestatic 35, 3) := dk_184 0 35 (dk_at dksX1_expanded_2 0 rfl rfl)
theorem dX1_expanded_50 : decode cX1_expanded 50 = .ok (.lastore, 1) := dk_80 (dk_at dksX1_expanded_2 3 rfl rfl)
theorem dX1_expanded_51 : decode cX1_expanded 51 = .ok (.dup, 1) := dk_89 (dk_at dksX1_expanded_2 4 rfl rfl)
theorem dX1_expanded_52 : decode cX1_expanded 52 = .ok (.iconst 1, 1) := dk_4 (dk_at dksX1_expanded_2 5 rfl rfl)
theorem dX1_expanded_53 : decode cX1_expanded 53 = .ok (.aload_n 0, 1) := dk_42 (dk_at dksX1_expanded_2 6 rfl rfl)
theorem dX1_expanded_54 : decode cX1_expanded 54 = .ok (.getfield 7, 3) := dk_180 0 7 (dk_at dksX1_expanded_2 7 rfl rfl)
theorem dX1_expanded_57 : decode cX1_expanded 57 = .ok (.bipush 8, 2) := dk_16 8 (dk_at dksX1_expanded_2 10 rfl rfl)
theorem dX1_expanded_59 : decode cX1_expanded 59 = .ok (.invokestatic 35, 3) := dk_184 0 35 (dk_at dksX1_expanded_2 12 rfl rfl)
theorem dX1_expanded_62 : decode cX1_expanded 62 = .ok (.lastore, 1) := dk_80 (dk_at dksX1_expanded_2 15 rfl rfl)
theorem dX1_expanded_63 : decode cX1_expanded 63 = .ok (.astore_n 2, 1) := dk_77 (dk_at dksX1_expanded_2 16 rfl rfl)
theorem dX1_expanded_64 : decode cX1_expanded 64 = .ok (.lconst 0, 1) := dk_9 (dk_at dksX1_expanded_2 17 rfl rfl)
theorem dX1_expanded_65 : decode cX1_expanded 65 = .ok (.lstore_n 3, 1) := dk_66 (dk_at dksX1_expanded_2 18 rfl rfl)
theorem dX1_expanded_66 : decode cX1_expanded 66 = .ok (.lconst 0, 1) := dk_9 (dk_at dksX1_expanded_2 19 rfl rfl)
theorem dX1_expanded_67 : decode cX1_expanded 67 = .ok (.lstore 5, 2) := dk_55 5 (dk_at dksX1_expanded_2 20 rfl rfl)
theorem dX1_expanded_69 : decode cX1_expanded 69 = .ok (.iconst 0, 1) := dk_3 (dk_at dksX1_expanded_2 22 rfl rfl)
theorem dX1_expanded_70 : decode cX1_expanded 70 = .ok (.istore 7, 2) := dk_54 7 (dk_at dksX1_expanded_3 0 rfl rfl)
theorem dX1_expanded_72 : decode cX1_expanded 72 = .ok (.iload 7, 2) := dk_21 7 (dk_at dksX1_expanded_3 2 rfl rfl)
theorem dX1_expanded_74 : decode cX1_expanded 74 = .ok (.iconst 3, 1) := dk_6 (dk_at dksX1_expanded_3 4 rfl rfl)
theorem dX1_expanded_75 : decode cX1_expanded 75 = .ok (.aload_n 1, 1) := dk_43 (dk_at dksX1_expanded_3 5 rfl rfl)
theorem dX1_expanded_76 : decode cX1_expanded 76 = .ok (.arraylength, 1) := dk_190 (dk_at dksX1_expanded_3 6 rfl rfl)
theorem dX1_expanded_77 : decode cX1_expanded 77 = .ok (.imul, 1) := dk_104 (dk_at dksX1_expanded_3 7 rfl rfl)
theorem dX1_expanded_78 : decode cX1_expanded 78 = .ok (.if_icmp .ge 72, 3) := dk_162 0 72 (dk_at dksX1_expanded_3 8 rfl rfl)
theorem dX1_expanded_81 : decode cX1_expanded 81 = .ok (.iload 7, 2) := dk_21 7 (dk_at dksX1_expanded_3 11 rfl rfl)
theorem dX1_expanded_83 : decode cX1_expanded 83 = .ok (.aload_n 1, 1) := dk_43 (dk_at dksX1_expanded_3 13 rfl rfl)
theorem dX1_expanded_84 : decode cX1_expanded 84 = .ok (.arraylength, 1) := dk_190 (dk_at dksX1_expanded_3 14 rfl rfl)
theorem dX1_expanded_85 : decode cX1_expanded 85 = .ok (.irem, 1) := dk_112 (dk_at dksX1_expanded_3 15 rfl rfl)
theorem dX1_expanded_86 : decode cX1_expanded 86 = .ok (.istore 8, 2) := dk_54 8 (dk_at dksX1_expanded_3 16 rfl rfl)
theorem dX1_expanded_88 : decode cX1_expanded 88 = .ok (.aload_n 1, 1) := dk_43 (dk_at dksX1_expanded_3 18 rfl rfl)
theorem dX1_expanded_89 : decode cX1_expanded 89 = .ok (.iload 8, 2) := dk_21 8 (dk_at dksX1_expanded_3 19 rfl rfl)
theorem dX1_expanded_91 : decode cX1_expanded 91 = .ok (.aload_n 1, 1) := dk_43 (dk_at dksX1_expanded_3 21 rfl rfl)
theorem dX1_expanded_92 : decode cX1_expanded 92 = .ok (.iload 8, 2) := dk_21 8 (dk_at dksX1_expanded_3 22 rfl rfl)
theorem dX1_expanded_94 : decode cX1_expanded 94 = .ok (.laload, 1) := dk_47 (dk_at dksX1_expanded_4 0 rfl rfl)
theorem dX1_expanded_95 : decode cX1_expanded 95 = .ok (.lload_n 3, 1) := dk_33 (dk_at dksX1_expanded_4 1 rfl rfl)
theorem dX1_expanded_96 : decode cX1_expanded 96 = .ok (.ladd, 1) := dk_97 (dk_at dksX1_expanded_4 2 rfl rfl)
theorem dX1_expanded_97 : decode cX1_expanded 97 = .ok (.lload 5, 2) := dk_22 5 (dk_at dksX1_expanded_4 3 rfl rfl)
theorem dX1_expanded_99 : decode cX1_expanded 99 = .ok (.ladd, 1) := dk_97 (dk_at dksX1_expanded_4 5 rfl rfl)
theorem dX1_expanded_100 : decode cX1_expanded 100 = .ok (.ldc2_w 39, 3) := dk_20 0 39 (dk_at dksX1_expanded_4 6 rfl rfl)
theorem dX1_expanded_103 : decode cX1_expanded 103 = .ok (.invokestatic 41, 3) := dk_184 0 41 (dk_at dksX1_expanded_4 9 rfl rfl)
theorem dX1_expanded_106 : decode cX1_expanded 106 = .ok (.lastore, 1) := dk_80 (dk_at dksX1_expanded_4 12 rfl rfl)
theorem dX1_expanded_107 : decode cX1_expanded 107 = .ok (.aload_n 1, 1) := dk_43 (dk_at dksX1_expanded_4 13 rfl rfl)
theorem dX1_expanded_108 : decode cX1_expanded 108 = .ok (.iload 8, 2) := dk_21 8 (dk_at dksX1_expanded_4 14 rfl rfl)
theorem dX1_expanded_110 : decode cX1_expanded 110 = .ok (.laload, 1) := dk_47 (dk_at dksX1_expanded_4 16 rfl rfl)
theorem dX1_expanded_111 : decode cX1_expanded 111 = .ok (.lstore_n 3, 1) := dk_66 (dk_at dksX1_expanded_4 17 rfl rfl)
theorem dX1_expanded_112 : decode cX1_expanded 112 = .ok (.aload_n 2, 1) := dk_44 (dk_at dksX1_expanded_4 18 rfl rfl)
theorem dX1_expanded_113 : decode cX1_expanded 113 = .ok (.iload 7, 2) := dk_21 7 (dk_at dksX1_expanded_4 19 rfl rfl)
theorem dX1_expanded_115 : decode cX1_expanded 115 = .ok (.iconst 2, 1) := dk_5 (dk_at dksX1_expanded_4 21 rfl rfl)
theorem dX1_expanded_116 : decode cX1_expanded 116 = .ok (.irem, 1) := dk_112 (dk_at dksX1_expanded_4 22 rfl rfl)
theorem dX1_expanded_117 : decode cX1_expanded 117 = .ok (.aload_n 2, 1) := dk_44 (dk_at dksX1_expanded_4 23 rfl rfl)
theorem dX1_expanded_118 : decode cX1_expanded 118 = .ok (.iload 7, 2) := dk_21 7 (dk_at dksX1_expanded_5 0 rfl rfl)
theorem dX1_expanded_120 : decode cX1_expanded 120 = .ok (.iconst 2, 1) := dk_5 (dk_at dksX1_expanded_5 2 rfl rfl)
theorem dX1_expanded_121 : decode cX1_expanded 121 = .ok (.irem, 1) := dk_112 (dk_at dksX1_expanded_5 3 rfl rfl)
theorem dX1_expanded_122 : decode cX1_expanded 122 = .ok (.laload, 1) := dk_47 (dk_at dksX1_expanded_5 4 rfl rfl)
theorem dX1_expanded_123 : decode cX1_expanded 123 = .ok (.lload_n 3, 1) := dk_33 (dk_at dksX1_expanded_5 5 rfl rfl)
theorem dX1_expanded_124 : decode cX1_expanded 124 = .ok (.ladd, 1) := dk_97 (dk_at dksX1_expanded_5 6 rfl rfl)
theorem dX1_expanded_125 : decode cX1_expanded 125 = .ok (.lload 5, 2) := dk_22 5 (dk_at dksX1_expanded_5 7 rfl rfl)
theorem dX1_expanded_127 : decode cX1_expanded 127 = .ok (.ladd, 1) := dk_97 (dk_at dksX1_expanded_5 9 rfl rfl)
theorem dX1_expanded_128 : decode cX1_expanded 128 = .ok (.lload_n 3, 1) := dk_33 (dk_at dksX1_expanded_5 10 rfl rfl)
theorem dX1_expanded_129 : decode cX1_expanded 129 = .ok (.lload 5, 2) := dk_22 5 (dk_at dksX1_expanded_5 11 rfl rfl)
theorem dX1_expanded_131 : decode cX1_expanded 131 = .ok (.ladd, 1) := dk_97 (dk_at dksX1_expanded_5 13 rfl rfl)
theorem dX1_expanded_132 : decode cX1_expanded 132 = .ok (.invokestatic 41, 3) := dk_184 0 41 (dk_at dksX1_expanded_5 14 rfl rfl)
theorem dX1_expanded_135 : decode cX1_expanded 135 = .ok (.lastore, 1) := dk_80 (dk_at dksX1_expanded_5 17 rfl rfl)
theorem dX1_expanded_136 : decode cX1_expanded 136 = .ok (.aload_n 2, 1) := dk_44 (dk_at dksX1_expanded_5 18 rfl rfl)
theorem dX1_expanded_137 : decode cX1_expanded 137 = .ok (.iload 7, 2) := dk_21 7 (dk_at dksX1_expanded_5 19 rfl rfl)
theorem dX1_expanded_139 : decode cX1_expanded 139 = .ok (.iconst 2, 1) := dk_5 (dk_at dksX1_expanded_5 21 rfl rfl)
theorem dX1_expanded_140 : decode cX1_expanded 140 = .ok (.irem, 1) := dk_112 (dk_at dksX1_expanded_5 22 rfl rfl)
theorem dX1_expanded_141 : decode cX1_expanded 141 = .ok (.laload, 1) := dk_47 (dk_at dksX1_expanded_5 23 rfl rfl)
theorem dX1_expanded_142 : decode cX1_expanded 142 = .ok (.lstore 5, 2) := dk_55 5 (dk_at dksX1_expanded_6 0 rfl rfl)
theorem dX1_expanded_144 : decode cX1_expanded 144 = .ok (.iinc 7 1, 3) := dk_132 7 1 (dk_at dksX1_expanded_6 2 rfl rfl)
theorem dX1_expanded_147 : decode cX1_expanded 147 = .ok (.goto (-75), 3) := dk_167 255 181 (dk_at dksX1_expanded_6 5 rfl rfl)
theorem dX1_expanded_150 : decode cX1_expanded 150 = .ok (.aload_n 1, 1) := dk_43 (dk_at dksX1_expanded_6 8 rfl rfl)
theorem dX1_expanded_151 : decode cX1_expanded 151 = .ok (.areturn, 1) := dk_176 (dk_at dksX1_expanded_6 9 rfl rfl)
abbrev cX1_told : ByteArray := prog_8_method_8_code
def yX1_told : MethodName := ⟨RX1, "told", "([II)J"⟩
def dkwX1_told_1 : List UInt8 := [132, 4, 255, 167, 255, 235, 32, 173]
abbrev dktX1_told_1 : List UInt8 := dkwX1_told_1 ++ []
def dkwX1_told_0 : List UInt8 := [9, 65, 16, 7, 54, 4, 21, 4, 155, 0, 22, 32, 16, 8, 121, 42, 27, 21, 4, 96, 46, 133, 129, 65]
abbrev dktX1_told_0 : List UInt8 := dkwX1_told_0 ++ dktX1_told_1
theorem dksX1_told_0 : cX1_told.data.toList.drop 0 = dktX1_told_0 := by decide +kernel
theorem dksX1_told_1 : cX1_told.data.toList.drop 24 = dktX1_told_1 := dk_seg dksX1_told_0 24 rfl rfl
theorem dX1_told_0 : decode cX1_told 0 = .ok (.lconst 0, 1) := dk_9 (dk_at dksX1_told_0 0 rfl rfl)
theorem dX1_told_1 : decode cX1_told 1 = .ok (.lstore_n 2, 1) := dk_65 (dk_at dksX1_told_0 1 rfl rfl)
theorem dX1_told_2 : decode cX1_told 2 = .ok (.bipush 7, 2) := dk_16 7 (dk_at dksX1_told_0 2 rfl rfl)
theorem dX1_told_4 : decode cX1_told 4 = .ok (.istore 4, 2) := dk_54 4 (dk_at dksX1_told_0 4 rfl rfl)
theorem dX1_told_6 : decode cX1_told 6 = .ok (.iload 4, 2) := dk_21 4 (dk_at dksX1_told_0 6 rfl rfl)
theorem dX1_told_8 : decode cX1_told 8 = .ok (.ifCond .lt 22, 3) := dk_155 0 22 (dk_at dksX1_told_0 8 rfl rfl)
theorem dX1_told_11 : decode cX1_told 11 = .ok (.lload_n 2, 1) := dk_32 (dk_at dksX1_told_0 11 rfl rfl)
theorem dX1_told_12 : decode cX1_told 12 = .ok (.bipush 8, 2) := dk_16 8 (dk_at dksX1_told_0 12 rfl rfl)
theorem dX1_told_14 : decode cX1_told 14 = .ok (.lshl, 1) := dk_121 (dk_at dksX1_told_0 14 rfl rfl)
theorem dX1_told_15 : decode cX1_told 15 = .ok (.aload_n 0, 1) := dk_42 (dk_at dksX1_told_0 15 rfl rfl)
theorem dX1_told_16 : decode cX1_told 16 = .ok (.iload_n 1, 1) := dk_27 (dk_at dksX1_told_0 16 rfl rfl)
theorem dX1_told_17 : decode cX1_told 17 = .ok (.iload 4, 2) := dk_21 4 (dk_at dksX1_told_0 17 rfl rfl)
theorem dX1_told_19 : decode cX1_told 19 = .ok (.iadd, 1) := dk_96 (dk_at dksX1_told_0 19 rfl rfl)
theorem dX1_told_20 : decode cX1_told 20 = .ok (.iaload, 1) := dk_46 (dk_at dksX1_told_0 20 rfl rfl)
theorem dX1_told_21 : decode cX1_told 21 = .ok (.i2l, 1) := dk_133 (dk_at dksX1_told_0 21 rfl rfl)
theorem dX1_told_22 : decode cX1_told 22 = .ok (.lor, 1) := dk_129 (dk_at dksX1_told_0 22 rfl rfl)
theorem dX1_told_23 : decode cX1_told 23 = .ok (.lstore_n 2, 1) := dk_65 (dk_at dksX1_told_0 23 rfl rfl)
theorem dX1_told_24 : decode cX1_told 24 = .ok (.iinc 4 (-1), 3) := dk_132 4 255 (dk_at dksX1_told_1 0 rfl rfl)
theorem dX1_told_27 : decode cX1_told 27 = .ok (.goto (-21), 3) := dk_167 255 235 (dk_at dksX1_told_1 3 rfl rfl)
theorem dX1_told_30 : decode cX1_told 30 = .ok (.lload_n 2, 1) := dk_32 (dk_at dksX1_told_1 6 rfl rfl)
theorem dX1_told_31 : decode cX1_told 31 = .ok (.lreturn, 1) := dk_173 (dk_at dksX1_told_1 7 rfl rfl)
abbrev cX1_turned : ByteArray := prog_8_method_10_code
def yX1_turned : MethodName := ⟨RX1, "turned", "(JJ)J"⟩
def dkwX1_turned_0 : List UInt8 := [32, 20, 0, 29, 127, 136, 54, 4, 30, 21, 4, 121, 30, 16, 64, 21, 4, 100, 125, 129, 173]
abbrev dktX1_turned_0 : List UInt8 := dkwX1_turned_0 ++ []
theorem dksX1_turned_0 : cX1_turned.data.toList.drop 0 = dktX1_turned_0 := by decide +kernel
theorem dX1_turned_0 : decode cX1_turned 0 = .ok (.lload_n 2, 1) := dk_32 (dk_at dksX1_turned_0 0 rfl rfl)
theorem dX1_turned_1 : decode cX1_turned 1 = .ok (.ldc2_w 29, 3) := dk_20 0 29 (dk_at dksX1_turned_0 1 rfl rfl)
theorem dX1_turned_4 : decode cX1_turned 4 = .ok (.land, 1) := dk_127 (dk_at dksX1_turned_0 4 rfl rfl)
theorem dX1_turned_5 : decode cX1_turned 5 = .ok (.l2i, 1) := dk_136 (dk_at dksX1_turned_0 5 rfl rfl)
theorem dX1_turned_6 : decode cX1_turned 6 = .ok (.istore 4, 2) := dk_54 4 (dk_at dksX1_turned_0 6 rfl rfl)
theorem dX1_turned_8 : decode cX1_turned 8 = .ok (.lload_n 0, 1) := dk_30 (dk_at dksX1_turned_0 8 rfl rfl)
theorem dX1_turned_9 : decode cX1_turned 9 = .ok (.iload 4, 2) := dk_21 4 (dk_at dksX1_turned_0 9 rfl rfl)
theorem dX1_turned_11 : decode cX1_turned 11 = .ok (.lshl, 1) := dk_121 (dk_at dksX1_turned_0 11 rfl rfl)
theorem dX1_turned_12 : decode cX1_turned 12 = .ok (.lload_n 0, 1) := dk_30 (dk_at dksX1_turned_0 12 rfl rfl)
theorem dX1_turned_13 : decode cX1_turned 13 = .ok (.bipush 64, 2) := dk_16 64 (dk_at dksX1_turned_0 13 rfl rfl)
theorem dX1_turned_15 : decode cX1_turned 15 = .ok (.iload 4, 2) := dk_21 4 (dk_at dksX1_turned_0 15 rfl rfl)
theorem dX1_turned_17 : decode cX1_turned 17 = .ok (.isub, 1) := dk_100 (dk_at dksX1_turned_0 17 rfl rfl)
theorem dX1_turned_18 : decode cX1_turned 18 = .ok (.lushr, 1) := dk_125 (dk_at dksX1_turned_0 18 rfl rfl)
theorem dX1_turned_19 : decode cX1_turned 19 = .ok (.lor, 1) := dk_129 (dk_at dksX1_turned_0 19 rfl rfl)
theorem dX1_turned_20 : decode cX1_turned 20 = .ok (.lreturn, 1) := dk_173 (dk_at dksX1_turned_0 20 rfl rfl)
abbrev cX1_tells : ByteArray := prog_8_method_9_code
def yX1_tells : MethodName := ⟨RX1, "tells", "(JI)V"⟩
def dkwX1_tells_1 : List UInt8 := [123, 20, 0, 27, 127, 136, 79, 132, 4, 1, 167, 255, 225, 177]
abbrev dktX1_tells_1 : List UInt8 := dkwX1_tells_1 ++ []
def dkwX1_tells_0 : List UInt8 := [3, 54, 4, 21, 4, 16, 8, 162, 0, 30, 42, 180, 0, 16, 29, 21, 4, 96, 31, 16, 8, 21, 4, 104]
abbrev dktX1_tells_0 : List UInt8 := dkwX1_tells_0 ++ dktX1_tells_1
theorem dksX1_tells_0 : cX1_tells.data.toList.drop 0 = dktX1_tells_0 := by decide +kernel
theorem dksX1_tells_1 : cX1_tells.data.toList.drop 24 = dktX1_tells_1 := dk_seg dksX1_tells_0 24 rfl rfl
theorem dX1_tells_0 : decode cX1_tells 0 = .ok (.iconst 0, 1) := dk_3 (dk_at dksX1_tells_0 0 rfl rfl)
theorem dX1_tells_1 : decode cX1_tells 1 = .ok (.istore 4, 2) := dk_54 4 (dk_at dksX1_tells_0 1 rfl rfl)
theorem dX1_tells_3 : decode cX1_tells 3 = .ok (.iload 4, 2) := dk_21 4 (dk_at dksX1_tells_0 3 rfl rfl)
theorem dX1_tells_5 : decode cX1_tells 5 = .ok (.bipush 8, 2) := dk_16 8 (dk_at dksX1_tells_0 5 rfl rfl)
theorem dX1_tells_7 : decode cX1_tells 7 = .ok (.if_icmp .ge 30, 3) := dk_162 0 30 (dk_at dksX1_tells_0 7 rfl rfl)
theorem dX1_tells_10 : decode cX1_tells 10 = .ok (.aload_n 0, 1) := dk_42 (dk_at dksX1_tells_0 10 rfl rfl)
theorem dX1_tells_11 : decode cX1_tells 11 = .ok (.getfield 16, 3) := dk_180 0 16 (dk_at dksX1_tells_0 11 rfl rfl)
theorem dX1_tells_14 : decode cX1_tells 14 = .ok (.iload_n 3, 1) := dk_29 (dk_at dksX1_tells_0 14 rfl rfl)
theorem dX1_tells_15 : decode cX1_tells 15 = .ok (.iload 4, 2) := dk_21 4 (dk_at dksX1_tells_0 15 rfl rfl)
theorem dX1_tells_17 : decode cX1_tells 17 = .ok (.iadd, 1) := dk_96 (dk_at dksX1_tells_0 17 rfl rfl)
theorem dX1_tells_18 : decode cX1_tells 18 = .ok (.lload_n 1, 1) := dk_31 (dk_at dksX1_tells_0 18 rfl rfl)
theorem dX1_tells_19 : decode cX1_tells 19 = .ok (.bipush 8, 2) := dk_16 8 (dk_at dksX1_tells_0 19 rfl rfl)
theorem dX1_tells_21 : decode cX1_tells 21 = .ok (.iload 4, 2) := dk_21 4 (dk_at dksX1_tells_0 21 rfl rfl)
theorem dX1_tells_23 : decode cX1_tells 23 = .ok (.imul, 1) := dk_104 (dk_at dksX1_tells_0 23 rfl rfl)
theorem dX1_tells_24 : decode cX1_tells 24 = .ok (.lshr, 1) := dk_123 (dk_at dksX1_tells_1 0 rfl rfl)
theorem dX1_tells_25 : decode cX1_tells 25 = .ok (.ldc2_w 27, 3) := dk_20 0 27 (dk_at dksX1_tells_1 1 rfl rfl)
theorem dX1_tells_28 : decode cX1_tells 28 = .ok (.land, 1) := dk_127 (dk_at dksX1_tells_1 4 rfl rfl)
theorem dX1_tells_29 : decode cX1_tells 29 = .ok (.l2i, 1) := dk_136 (dk_at dksX1_tells_1 5 rfl rfl)
theorem dX1_tells_30 : decode cX1_tells 30 = .ok (.iastore, 1) := dk_79 (dk_at dksX1_tells_1 6 rfl rfl)
theorem dX1_tells_31 : decode cX1_tells 31 = .ok (.iinc 4 1, 3) := dk_132 4 1 (dk_at dksX1_tells_1 7 rfl rfl)
theorem dX1_tells_34 : decode cX1_tells 34 = .ok (.goto (-31), 3) := dk_167 255 225 (dk_at dksX1_tells_1 10 rfl rfl)
theorem dX1_tells_37 : decode cX1_tells 37 = .ok (.return_, 1) := dk_177 (dk_at dksX1_tells_1 13 rfl rfl)
abbrev cX1_open : ByteArray := prog_8_method_14_code
def yX1_open : MethodName := ⟨RX1, "open", "(I)V"⟩
def dkwX1_open_4 : List UInt8 := [16, 8, 182, 0, 49, 177]
abbrev dktX1_open_4 : List UInt8 := dkwX1_open_4 ++ []
def dkwX1_open_3 : List UInt8 := [132, 7, 255, 167, 255, 211, 42, 33, 44, 3, 47, 101, 3, 182, 0, 49, 42, 22, 5, 44, 4, 47, 101]
abbrev dktX1_open_3 : List UInt8 := dkwX1_open_3 ++ dktX1_open_4
def dkwX1_open_2 : List UInt8 := [184, 0, 53, 33, 131, 55, 5, 33, 44, 5, 21, 7, 104, 47, 101, 22, 5, 184, 0, 53, 22, 5, 131, 66]
abbrev dktX1_open_2 : List UInt8 := dkwX1_open_2 ++ dktX1_open_3
def dkwX1_open_1 : List UInt8 := [55, 5, 16, 12, 54, 7, 21, 7, 4, 161, 0, 45, 22, 5, 44, 5, 21, 7, 104, 4, 96, 47, 101, 33]
abbrev dktX1_open_1 : List UInt8 := dkwX1_open_1 ++ dktX1_open_2
def dkwX1_open_0 : List UInt8 := [42, 182, 0, 45, 77, 42, 180, 0, 13, 3, 184, 0, 35, 66, 42, 180, 0, 13, 16, 8, 184, 0, 35]
abbrev dktX1_open_0 : List UInt8 := dkwX1_open_0 ++ dktX1_open_1
theorem dksX1_open_0 : cX1_open.data.toList.drop 0 = dktX1_open_0 := by decide +kernel
theorem dksX1_open_1 : cX1_open.data.toList.drop 23 = dktX1_open_1 := dk_seg dksX1_open_0 23 rfl rfl
theorem dksX1_open_2 : cX1_open.data.toList.drop 47 = dktX1_open_2 := dk_seg dksX1_open_1 24 rfl rfl
theorem dksX1_open_3 : cX1_open.data.toList.drop 71 = dktX1_open_3 := dk_seg dksX1_open_2 24 rfl rfl
theorem dksX1_open_4 : cX1_open.data.toList.drop 94 = dktX1_open_4 := dk_seg dksX1_open_3 23 rfl rfl
theorem dX1_open_0 : decode cX1_open 0 = .ok (.aload_n 0, 1) := dk_42 (dk_at dksX1_open_0 0 rfl rfl)
theorem dX1_open_1 : decode cX1_open 1 = .ok (.invokevirtual 45, 3) := dk_182 0 45 (dk_at dksX1_open_0 1 rfl rfl)
theorem dX1_open_4 : decode cX1_open 4 = .ok (.astore_n 2, 1) := dk_77 (dk_at dksX1_open_0 4 rfl rfl)
theorem dX1_open_5 : decode cX1_open 5 = .ok (.aload_n 0, 1) := dk_42 (dk_at dksX1_open_0 5 rfl rfl)
theorem dX1_open_6 : decode cX1_open 6 = .ok (.getfield 13, 3) := dk_180 0 13 (dk_at dksX1_open_0 6 rfl rfl)
theorem dX1_open_9 : decode cX1_open 9 = .ok (.iconst 0, 1) := dk_3 (dk_at dksX1_open_0 9 rfl rfl)
theorem dX1_open_10 : decode cX1_open 10 = .ok (.invokestatic 35, 3) := dk_184 0 35 (dk_at dksX1_open_0 10 rfl rfl)
theorem dX1_open_13 : decode cX1_open 13 = .ok (.lstore_n 3, 1) := dk_66 (dk_at dksX1_open_0 13 rfl rfl)
theorem dX1_open_14 : decode cX1_open 14 = .ok (.aload_n 0, 1) := dk_42 (dk_at dksX1_open_0 14 rfl rfl)
theorem dX1_open_15 : decode cX1_open 15 = .ok (.getfield 13, 3) := dk_180 0 13 (dk_at dksX1_open_0 15 rfl rfl)
theorem dX1_open_18 : decode cX1_open 18 = .ok (.bipush 8, 2) := dk_16 8 (dk_at dksX1_open_0 18 rfl rfl)
theorem dX1_open_20 : decode cX1_open 20 = .ok (.invokestatic 35, 3) := dk_184 0 35 (dk_at dksX1_open_0 20 rfl rfl)
theorem dX1_open_23 : decode cX1_open 23 = .ok (.lstore 5, 2) := dk_55 5 (dk_at dksX1_open_1 0 rfl rfl)
theorem dX1_open_25 : decode cX1_open 25 = .ok (.bipush 12, 2) := dk_16 12 (dk_at dksX1_open_1 2 rfl rfl)
theorem dX1_open_27 : decode cX1_open 27 = .ok (.istore 7, 2) := dk_54 7 (dk_at dksX1_open_1 4 rfl rfl)
theorem dX1_open_29 : decode cX1_open 29 = .ok (.iload 7, 2) := dk_21 7 (dk_at dksX1_open_1 6 rfl rfl)
theorem dX1_open_31 : decode cX1_open 31 = .ok (.iconst 1, 1) := dk_4 (dk_at dksX1_open_1 8 rfl rfl)
theorem dX1_open_32 : decode cX1_open 32 = .ok (.if_icmp .lt 45, 3) := dk_161 0 45 (dk_at dksX1_open_1 9 rfl rfl)
theorem dX1_open_35 : decode cX1_open 35 = .ok (.lload 5, 2) := dk_22 5 (dk_at dksX1_open_1 12 rfl rfl)
theorem dX1_open_37 : decode cX1_open 37 = .ok (.aload_n 2, 1) := dk_44 (dk_at dksX1_open_1 14 rfl rfl)
theorem dX1_open_38 : decode cX1_open 38 = .ok (.iconst 2, 1) := dk_5 (dk_at dksX1_open_1 15 rfl rfl)
theorem dX1_open_39 : decode cX1_open 39 = .ok (.iload 7, 2) := dk_21 7 (dk_at dksX1_open_1 16 rfl rfl)
theorem dX1_open_41 : decode cX1_open 41 = .ok (.imul, 1) := dk_104 (dk_at dksX1_open_1 18 rfl rfl)
theorem dX1_open_42 : decode cX1_open 42 = .ok (.iconst 1, 1) := dk_4 (dk_at dksX1_open_1 19 rfl rfl)
theorem dX1_open_43 : decode cX1_open 43 = .ok (.iadd, 1) := dk_96 (dk_at dksX1_open_1 20 rfl rfl)
theorem dX1_open_44 : decode cX1_open 44 = .ok (.laload, 1) := dk_47 (dk_at dksX1_open_1 21 rfl rfl)
theorem dX1_open_45 : decode cX1_open 45 = .ok (.lsub, 1) := dk_101 (dk_at dksX1_open_1 22 rfl rfl)
theorem dX1_open_46 : decode cX1_open 46 = .ok (.lload_n 3, 1) := dk_33 (dk_at dksX1_open_1 23 rfl rfl)
theorem dX1_open_47 : decode cX1_open 47 = .ok (.invokestatic 53, 3) := dk_184 0 53 (dk_at dksX1_open_2 0 rfl rfl)
theorem dX1_open_50 : decode cX1_open 50 = .ok (.lload_n 3, 1) := dk_33 (dk_at dksX1_open_2 3 rfl rfl)
theorem dX1_open_51 : decode cX1_open 51 = .ok (.lxor, 1) := dk_131 (dk_at dksX1_open_2 4 rfl rfl)
theorem dX1_open_52 : decode cX1_open 52 = .ok (.lstore 5, 2) := dk_55 5 (dk_at dksX1_open_2 5 rfl rfl)
theorem dX1_open_54 : decode cX1_open 54 = .ok (.lload_n 3, 1) := dk_33 (dk_at dksX1_open_2 7 rfl rfl)
theorem dX1_open_55 : decode cX1_open 55 = .ok (.aload_n 2, 1) := dk_44 (dk_at dksX1_open_2 8 rfl rfl)
theorem dX1_open_56 : decode cX1_open 56 = .ok (.iconst 2, 1) := dk_5 (dk_at dksX1_open_2 9 rfl rfl)
theorem dX1_open_57 : decode cX1_open 57 = .ok (.iload 7, 2) := dk_21 7 (dk_at dksX1_open_2 10 rfl rfl)
theorem dX1_open_59 : decode cX1_open 59 = .ok (.imul, 1) := dk_104 (dk_at dksX1_open_2 12 rfl rfl)
theorem dX1_open_60 : decode cX1_open 60 = .ok (.laload, 1) := dk_47 (dk_at dksX1_open_2 13 rfl rfl)
theorem dX1_open_61 : decode cX1_open 61 = .ok (.lsub, 1) := dk_101 (dk_at dksX1_open_2 14 rfl rfl)
theorem dX1_open_62 : decode cX1_open 62 = .ok (.lload 5, 2) := dk_22 5 (dk_at dksX1_open_2 15 rfl rfl)
theorem dX1_open_64 : decode cX1_open 64 = .ok (.invokestatic 53, 3) := dk_184 0 53 (dk_at dksX1_open_2 17 rfl rfl)
theorem dX1_open_67 : decode cX1_open 67 = .ok (.lload 5, 2) := dk_22 5 (dk_at dksX1_open_2 20 rfl rfl)
theorem dX1_open_69 : decode cX1_open 69 = .ok (.lxor, 1) := dk_131 (dk_at dksX1_open_2 22 rfl rfl)
theorem dX1_open_70 : decode cX1_open 70 = .ok (.lstore_n 3, 1) := dk_66 (dk_at dksX1_open_2 23 rfl rfl)
theorem dX1_open_71 : decode cX1_open 71 = .ok (.iinc 7 (-1), 3) := dk_132 7 255 (dk_at dksX1_open_3 0 rfl rfl)
theorem dX1_open_74 : decode cX1_open 74 = .ok (.goto (-45), 3) := dk_167 255 211 (dk_at dksX1_open_3 3 rfl rfl)
theorem dX1_open_77 : decode cX1_open 77 = .ok (.aload_n 0, 1) := dk_42 (dk_at dksX1_open_3 6 rfl rfl)
theorem dX1_open_78 : decode cX1_open 78 = .ok (.lload_n 3, 1) := dk_33 (dk_at dksX1_open_3 7 rfl rfl)
theorem dX1_open_79 : decode cX1_open 79 = .ok (.aload_n 2, 1) := dk_44 (dk_at dksX1_open_3 8 rfl rfl)
theorem dX1_open_80 : decode cX1_open 80 = .ok (.iconst 0, 1) := dk_3 (dk_at dksX1_open_3 9 rfl rfl)
theorem dX1_open_81 : decode cX1_open 81 = .ok (.laload, 1) := dk_47 (dk_at dksX1_open_3 10 rfl rfl)
theorem dX1_open_82 : decode cX1_open 82 = .ok (.lsub, 1) := dk_101 (dk_at dksX1_open_3 11 rfl rfl)
theorem dX1_open_83 : decode cX1_open 83 = .ok (.iconst 0, 1) := dk_3 (dk_at dksX1_open_3 12 rfl rfl)
theorem dX1_open_84 : decode cX1_open 84 = .ok (.invokevirtual 49, 3) := dk_182 0 49 (dk_at dksX1_open_3 13 rfl rfl)
theorem dX1_open_87 : decode cX1_open 87 = .ok (.aload_n 0, 1) := dk_42 (dk_at dksX1_open_3 16 rfl rfl)
theorem dX1_open_88 : decode cX1_open 88 = .ok (.lload 5, 2) := dk_22 5 (dk_at dksX1_open_3 17 rfl rfl)
theorem dX1_open_90 : decode cX1_open 90 = .ok (.aload_n 2, 1) := dk_44 (dk_at dksX1_open_3 19 rfl rfl)
theorem dX1_open_91 : decode cX1_open 91 = .ok (.iconst 1, 1) := dk_4 (dk_at dksX1_open_3 20 rfl rfl)
theorem dX1_open_92 : decode cX1_open 92 = .ok (.laload, 1) := dk_47 (dk_at dksX1_open_3 21 rfl rfl)
theorem dX1_open_93 : decode cX1_open 93 = .ok (.lsub, 1) := dk_101 (dk_at dksX1_open_3 22 rfl rfl)
theorem dX1_open_94 : decode cX1_open 94 = .ok (.bipush 8, 2) := dk_16 8 (dk_at dksX1_open_4 0 rfl rfl)
theorem dX1_open_96 : decode cX1_open 96 = .ok (.invokevirtual 49, 3) := dk_182 0 49 (dk_at dksX1_open_4 2 rfl rfl)
theorem dX1_open_99 : decode cX1_open 99 = .ok (.return_, 1) := dk_177 (dk_at dksX1_open_4 5 rfl rfl)
abbrev cX1_back : ByteArray := prog_8_method_11_code
def yX1_back : MethodName := ⟨RX1, "back", "(JJ)J"⟩
def dkwX1_back_0 : List UInt8 := [32, 20, 0, 29, 127, 136, 54, 4, 30, 21, 4, 125, 30, 16, 64, 21, 4, 100, 121, 129, 173]
abbrev dktX1_back_0 : List UInt8 := dkwX1_back_0 ++ []
theorem dksX1_back_0 : cX1_back.data.toList.drop 0 = dktX1_back_0 := by decide +kernel
theorem dX1_back_0 : decode cX1_back 0 = .ok (.lload_n 2, 1) := dk_32 (dk_at dksX1_back_0 0 rfl rfl)
theorem dX1_back_1 : decode cX1_back 1 = .ok (.ldc2_w 29, 3) := dk_20 0 29 (dk_at dksX1_back_0 1 rfl rfl)
theorem dX1_back_4 : decode cX1_back 4 = .ok (.land, 1) := dk_127 (dk_at dksX1_back_0 4 rfl rfl)
theorem dX1_back_5 : decode cX1_back 5 = .ok (.l2i, 1) := dk_136 (dk_at dksX1_back_0 5 rfl rfl)
theorem dX1_back_6 : decode cX1_back 6 = .ok (.istore 4, 2) := dk_54 4 (dk_at dksX1_back_0 6 rfl rfl)
theorem dX1_back_8 : decode cX1_back 8 = .ok (.lload_n 0, 1) := dk_30 (dk_at dksX1_back_0 8 rfl rfl)
theorem dX1_back_9 : decode cX1_back 9 = .ok (.iload 4, 2) := dk_21 4 (dk_at dksX1_back_0 9 rfl rfl)
theorem dX1_back_11 : decode cX1_back 11 = .ok (.lushr, 1) := dk_125 (dk_at dksX1_back_0 11 rfl rfl)
theorem dX1_back_12 : decode cX1_back 12 = .ok (.lload_n 0, 1) := dk_30 (dk_at dksX1_back_0 12 rfl rfl)
theorem dX1_back_13 : decode cX1_back 13 = .ok (.bipush 64, 2) := dk_16 64 (dk_at dksX1_back_0 13 rfl rfl)
theorem dX1_back_15 : decode cX1_back 15 = .ok (.iload 4, 2) := dk_21 4 (dk_at dksX1_back_0 15 rfl rfl)
theorem dX1_back_17 : decode cX1_back 17 = .ok (.isub, 1) := dk_100 (dk_at dksX1_back_0 17 rfl rfl)
theorem dX1_back_18 : decode cX1_back 18 = .ok (.lshl, 1) := dk_121 (dk_at dksX1_back_0 18 rfl rfl)
theorem dX1_back_19 : decode cX1_back 19 = .ok (.lor, 1) := dk_129 (dk_at dksX1_back_0 19 rfl rfl)
theorem dX1_back_20 : decode cX1_back 20 = .ok (.lreturn, 1) := dk_173 (dk_at dksX1_back_0 20 rfl rfl)
theorem q13 : (Jvm.Cond.initialized "RcWideDeskModel") ∈ lw_all := lw_g (lw_at lw_m1 2 rfl) rfl
theorem q237 : (Jvm.Cond.instantiable "RcWideDeskModel" (3 : Nat)) ∈ lw_all := lw_g (lw_at lw_m1 226 rfl) rfl
theorem q239 : (Jvm.Cond.instanceMethod ({ cls := "RcWideDeskModel", name := "<init>", desc := "()V" } : Jvm.MethodName)) ∈ lw_all := lw_g (lw_at lw_m1 228 rfl) rfl
theorem q240 : (Jvm.Cond.code ({ cls := "RcWideDeskModel", name := "<init>", desc := "()V" } : Jvm.MethodName) prog_8_method_1_code (1 : Nat) (Option.none : Option Jvm.ClassFile.FieldType)) ∈ lw_all := lw_g (lw_at lw_m1 229 rfl) rfl
theorem q241 : (Jvm.Cond.methodLink "RcWideDeskModel" (1 : Nat) ({ cls := "java/lang/Object", name := "<init>", desc := "()V" } : Jvm.MethodName)) ∈ lw_all := lw_g (lw_at lw_m1 230 rfl) rfl
theorem q242 : (Jvm.Cond.fieldLink "RcWideDeskModel" (7 : Nat) "RcWideDeskModel" "key" "[I") ∈ lw_all := lw_g (lw_at lw_m1 231 rfl) rfl
theorem q243 : (Jvm.Cond.fieldLink "RcWideDeskModel" (13 : Nat) "RcWideDeskModel" "block" "[I") ∈ lw_all := lw_g (lw_at lw_m1 232 rfl) rfl
theorem q244 : (Jvm.Cond.fieldLink "RcWideDeskModel" (16 : Nat) "RcWideDeskModel" "out" "[I") ∈ lw_all := lw_g (lw_at lw_m1 233 rfl) rfl
theorem q245 : (Jvm.Cond.laysFinal "RcWideDeskModel" "RcWideDeskModel" "key" "[I") ∈ lw_all := lw_g (lw_at lw_m1 234 rfl) rfl
theorem q246 : (Jvm.Cond.soleField "RcWideDeskModel" "key") ∈ lw_all := lw_g (lw_at lw_m1 235 rfl) rfl
theorem q247 : (Jvm.Cond.laysFinal "RcWideDeskModel" "RcWideDeskModel" "block" "[I") ∈ lw_all := lw_g (lw_at lw_m1 236 rfl) rfl
theorem q248 : (Jvm.Cond.soleField "RcWideDeskModel" "block") ∈ lw_all := lw_g (lw_at lw_m1 237 rfl) rfl
theorem q249 : (Jvm.Cond.laysFinal "RcWideDeskModel" "RcWideDeskModel" "out" "[I") ∈ lw_all := lw_g (lw_at lw_m1 238 rfl) rfl
theorem q250 : (Jvm.Cond.soleField "RcWideDeskModel" "out") ∈ lw_all := lw_g (lw_at lw_m1 239 rfl) rfl
theorem q251 : (Jvm.Cond.superclass "RcWideDeskModel" "java/lang/Object") ∈ lw_all := lw_g (lw_at lw_m2 0 rfl) rfl
theorem q254 : (Jvm.Cond.instanceMethod ({ cls := "RcWideDeskModel", name := "key", desc := "(IIIII)V" } : Jvm.MethodName)) ∈ lw_all := lw_g (lw_at lw_m2 3 rfl) rfl
theorem q255 : (Jvm.Cond.selects "RcWideDeskModel" ({ cls := "RcWideDeskModel", name := "key", desc := "(IIIII)V" } : Jvm.MethodName) ({ cls := "RcWideDeskModel", name := "key", desc := "(IIIII)V" } : Jvm.MethodName)) ∈ lw_all := lw_g (lw_at lw_m2 4 rfl) rfl
theorem q256 : (Jvm.Cond.code ({ cls := "RcWideDeskModel", name := "key", desc := "(IIIII)V" } : Jvm.MethodName) prog_8_method_4_code (6 : Nat) (Option.none : Option Jvm.ClassFile.FieldType)) ∈ lw_all := lw_g (lw_at lw_m2 5 rfl) rfl
theorem q257 : (Jvm.Cond.methodLink "RcWideDeskModel" (23 : Nat) ({ cls := "RcWideDeskModel", name := "words", desc := "([IIIIII)V" } : Jvm.MethodName)) ∈ lw_all := lw_g (lw_at lw_m2 6 rfl) rfl
theorem q258 : (Jvm.Cond.static ({ cls := "RcWideDeskModel", name := "words", desc := "([IIIIII)V" } : Jvm.MethodName)) ∈ lw_all := lw_g (lw_at lw_m2 7 rfl) rfl
theorem q259 : (Jvm.Cond.code ({ cls := "RcWideDeskModel", name := "words", desc := "([IIIIII)V" } : Jvm.MethodName) prog_8_method_3_code (6 : Nat) (Option.none : Option Jvm.ClassFile.FieldType)) ∈ lw_all := lw_g (lw_at lw_m2 8 rfl) rfl
theorem q260 : (Jvm.Cond.methodLink "RcWideDeskModel" (19 : Nat) ({ cls := "RcWideDeskModel", name := "word", desc := "([III)V" } : Jvm.MethodName)) ∈ lw_all := lw_g (lw_at lw_m2 9 rfl) rfl
theorem q261 : (Jvm.Cond.static ({ cls := "RcWideDeskModel", name := "word", desc := "([III)V" } : Jvm.MethodName)) ∈ lw_all := lw_g (lw_at lw_m2 10 rfl) rfl
theorem q262 : (Jvm.Cond.code ({ cls := "RcWideDeskModel", name := "word", desc := "([III)V" } : Jvm.MethodName) prog_8_method_2_code (4 : Nat) (Option.none : Option Jvm.ClassFile.FieldType)) ∈ lw_all := lw_g (lw_at lw_m2 11 rfl) rfl
theorem q264 : (Jvm.Cond.instanceMethod ({ cls := "RcWideDeskModel", name := "block", desc := "(IIII)V" } : Jvm.MethodName)) ∈ lw_all := lw_g (lw_at lw_m2 13 rfl) rfl
theorem q265 : (Jvm.Cond.selects "RcWideDeskModel" ({ cls := "RcWideDeskModel", name := "block", desc := "(IIII)V" } : Jvm.MethodName) ({ cls := "RcWideDeskModel", name := "block", desc := "(IIII)V" } : Jvm.MethodName)) ∈ lw_all := lw_g (lw_at lw_m2 14 rfl) rfl
theorem q266 : (Jvm.Cond.code ({ cls := "RcWideDeskModel", name := "block", desc := "(IIII)V" } : Jvm.MethodName) prog_8_method_5_code (5 : Nat) (Option.none : Option Jvm.ClassFile.FieldType)) ∈ lw_all := lw_g (lw_at lw_m2 15 rfl) rfl
theorem q268 : (Jvm.Cond.instanceMethod ({ cls := "RcWideDeskModel", name := "again", desc := "()V" } : Jvm.MethodName)) ∈ lw_all := lw_g (lw_at lw_m2 17 rfl) rfl
theorem q269 : (Jvm.Cond.selects "RcWideDeskModel" ({ cls := "RcWideDeskModel", name := "again", desc := "()V" } : Jvm.MethodName) ({ cls := "RcWideDeskModel", name := "again", desc := "()V" } : Jvm.MethodName)) ∈ lw_all := lw_g (lw_at lw_m2 18 rfl) rfl
theorem q270 : (Jvm.Cond.code ({ cls := "RcWideDeskModel", name := "again", desc := "()V" } : Jvm.MethodName) prog_8_method_6_code (2 : Nat) (Option.none : Option Jvm.ClassFile.FieldType)) ∈ lw_all := lw_g (lw_at lw_m2 19 rfl) rfl
theorem q272 : (Jvm.Cond.instanceMethod ({ cls := "RcWideDeskModel", name := "out", desc := "(I)I" } : Jvm.MethodName)) ∈ lw_all := lw_g (lw_at lw_m2 21 rfl) rfl
theorem q273 : (Jvm.Cond.selects "RcWideDeskModel" ({ cls := "RcWideDeskModel", name := "out", desc := "(I)I" } : Jvm.MethodName) ({ cls := "RcWideDeskModel", name := "out", desc := "(I)I" } : Jvm.MethodName)) ∈ lw_all := lw_g (lw_at lw_m2 22 rfl) rfl
theorem q274 : (Jvm.Cond.code ({ cls := "RcWideDeskModel", name := "out", desc := "(I)I" } : Jvm.MethodName) prog_8_method_7_code (2 : Nat) (Option.some Jvm.ClassFile.FieldType.int)) ∈ lw_all := lw_g (lw_at lw_m2 23 rfl) rfl
theorem q276 : (Jvm.Cond.instanceMethod ({ cls := "RcWideDeskModel", name := "lock", desc := "(I)V" } : Jvm.MethodName)) ∈ lw_all := lw_g (lw_at lw_m2 25 rfl) rfl
theorem q277 : (Jvm.Cond.selects "RcWideDeskModel" ({ cls := "RcWideDeskModel", name := "lock", desc := "(I)V" } : Jvm.MethodName) ({ cls := "RcWideDeskModel", name := "lock", desc := "(I)V" } : Jvm.MethodName)) ∈ lw_all := lw_g (lw_at lw_m2 26 rfl) rfl
theorem q278 : (Jvm.Cond.code ({ cls := "RcWideDeskModel", name := "lock", desc := "(I)V" } : Jvm.MethodName) prog_8_method_13_code (8 : Nat) (Option.none : Option Jvm.ClassFile.FieldType)) ∈ lw_all := lw_g (lw_at lw_m2 27 rfl) rfl
theorem q279 : (Jvm.Cond.methodLink "RcWideDeskModel" (45 : Nat) ({ cls := "RcWideDeskModel", name := "expanded", desc := "()[J" } : Jvm.MethodName)) ∈ lw_all := lw_g (lw_at lw_m2 28 rfl) rfl
theorem q280 : (Jvm.Cond.privateMethod ({ cls := "RcWideDeskModel", name := "expanded", desc := "()[J" } : Jvm.MethodName)) ∈ lw_tbl := lw_at lw_m2 29 rfl
theorem q281 : (Jvm.Cond.instanceMethod ({ cls := "RcWideDeskModel", name := "expanded", desc := "()[J" } : Jvm.MethodName)) ∈ lw_all := lw_g (lw_at lw_m2 30 rfl) rfl
theorem q282 : (Jvm.Cond.code ({ cls := "RcWideDeskModel", name := "expanded", desc := "()[J" } : Jvm.MethodName) prog_8_method_12_code (9 : Nat) (Option.some (Jvm.ClassFile.FieldType.array Jvm.ClassFile.FieldType.long))) ∈ lw_all := lw_g (lw_at lw_m2 31 rfl) rfl
theorem q283 : (Jvm.Cond.constantLong "RcWideDeskModel" (31 : Nat) (-5196783011329398165 : Int64)) ∈ lw_all := lw_g (lw_at lw_m2 32 rfl) rfl
theorem q284 : (Jvm.Cond.constantLong "RcWideDeskModel" (33 : Nat) (-7046029254386353131 : Int64)) ∈ lw_all := lw_g (lw_at lw_m2 33 rfl) rfl
theorem q285 : (Jvm.Cond.methodLink "RcWideDeskModel" (35 : Nat) ({ cls := "RcWideDeskModel", name := "told", desc := "([II)J" } : Jvm.MethodName)) ∈ lw_all := lw_g (lw_at lw_m2 34 rfl) rfl
theorem q286 : (Jvm.Cond.static ({ cls := "RcWideDeskModel", name := "told", desc := "([II)J" } : Jvm.MethodName)) ∈ lw_all := lw_g (lw_at lw_m2 35 rfl) rfl
theorem q287 : (Jvm.Cond.code ({ cls := "RcWideDeskModel", name := "told", desc := "([II)J" } : Jvm.MethodName) prog_8_method_8_code (5 : Nat) (Option.some Jvm.ClassFile.FieldType.long)) ∈ lw_all := lw_g (lw_at lw_m2 36 rfl) rfl
theorem q288 : (Jvm.Cond.constantLong "RcWideDeskModel" (39 : Nat) (3 : Int64)) ∈ lw_all := lw_g (lw_at lw_m2 37 rfl) rfl
theorem q289 : (Jvm.Cond.methodLink "RcWideDeskModel" (41 : Nat) ({ cls := "RcWideDeskModel", name := "turned", desc := "(JJ)J" } : Jvm.MethodName)) ∈ lw_all := lw_g (lw_at lw_m2 38 rfl) rfl
theorem q290 : (Jvm.Cond.static ({ cls := "RcWideDeskModel", name := "turned", desc := "(JJ)J" } : Jvm.MethodName)) ∈ lw_all := lw_g (lw_at lw_m2 39 rfl) rfl
theorem q291 : (Jvm.Cond.code ({ cls := "RcWideDeskModel", name := "turned", desc := "(JJ)J" } : Jvm.MethodName) prog_8_method_10_code (5 : Nat) (Option.some Jvm.ClassFile.FieldType.long)) ∈ lw_all := lw_g (lw_at lw_m2 40 rfl) rfl
theorem q292 : (Jvm.Cond.constantLong "RcWideDeskModel" (29 : Nat) (63 : Int64)) ∈ lw_all := lw_g (lw_at lw_m2 41 rfl) rfl
theorem q293 : (Jvm.Cond.methodLink "RcWideDeskModel" (49 : Nat) ({ cls := "RcWideDeskModel", name := "tells", desc := "(JI)V" } : Jvm.MethodName)) ∈ lw_all := lw_g (lw_at lw_m2 42 rfl) rfl
theorem q294 : (Jvm.Cond.privateMethod ({ cls := "RcWideDeskModel", name := "tells", desc := "(JI)V" } : Jvm.MethodName)) ∈ lw_tbl := lw_at lw_m2 43 rfl
theorem q295 : (Jvm.Cond.instanceMethod ({ cls := "RcWideDeskModel", name := "tells", desc := "(JI)V" } : Jvm.MethodName)) ∈ lw_all := lw_g (lw_at lw_m2 44 rfl) rfl
theorem q296 : (Jvm.Cond.code ({ cls := "RcWideDeskModel", name := "tells", desc := "(JI)V" } : Jvm.MethodName) prog_8_method_9_code (5 : Nat) (Option.none : Option Jvm.ClassFile.FieldType)) ∈ lw_all := lw_g (lw_at lw_m2 45 rfl) rfl
theorem q297 : (Jvm.Cond.constantLong "RcWideDeskModel" (27 : Nat) (255 : Int64)) ∈ lw_all := lw_g (lw_at lw_m2 46 rfl) rfl
theorem q299 : (Jvm.Cond.instanceMethod ({ cls := "RcWideDeskModel", name := "open", desc := "(I)V" } : Jvm.MethodName)) ∈ lw_all := lw_g (lw_at lw_m2 48 rfl) rfl
theorem q300 : (Jvm.Cond.selects "RcWideDeskModel" ({ cls := "RcWideDeskModel", name := "open", desc := "(I)V" } : Jvm.MethodName) ({ cls := "RcWideDeskModel", name := "open", desc := "(I)V" } : Jvm.MethodName)) ∈ lw_all := lw_g (lw_at lw_m2 49 rfl) rfl
theorem q301 : (Jvm.Cond.code ({ cls := "RcWideDeskModel", name := "open", desc := "(I)V" } : Jvm.MethodName) prog_8_method_14_code (8 : Nat) (Option.none : Option Jvm.ClassFile.FieldType)) ∈ lw_all := lw_g (lw_at lw_m2 50 rfl) rfl
theorem q302 : (Jvm.Cond.methodLink "RcWideDeskModel" (53 : Nat) ({ cls := "RcWideDeskModel", name := "back", desc := "(JJ)J" } : Jvm.MethodName)) ∈ lw_all := lw_g (lw_at lw_m2 51 rfl) rfl
theorem q303 : (Jvm.Cond.static ({ cls := "RcWideDeskModel", name := "back", desc := "(JJ)J" } : Jvm.MethodName)) ∈ lw_all := lw_g (lw_at lw_m2 52 rfl) rfl
theorem q304 : (Jvm.Cond.code ({ cls := "RcWideDeskModel", name := "back", desc := "(JJ)J" } : Jvm.MethodName) prog_8_method_11_code (5 : Nat) (Option.some Jvm.ClassFile.FieldType.long)) ∈ lw_all := lw_g (lw_at lw_m2 53 rfl) rfl
theorem in_X1 : ∀ w ∈ wsX10, w ∈ lw_all := lw_in wsX10 [245, 247, 249] (by decide +kernel) (by decide +kernel)

/-! RC564Engine -/
set_option maxRecDepth 100000
def RX2 : String := "RC564Engine"
def TX2 : u_T := fun k => match k with
  | 0 => ("RC564Engine", "_noRounds", "I", false)
  | 1 => ("RC564Engine", "_S", "[J", false)
  | _ => ("RC564Engine", "forEncryption", "Z", false)
def tyX2 : Nat → FieldType := fun k => match k with
  | 0 => .int
  | 1 => .array .long
  | _ => .boolean
abbrev wsX20 : List Cond := u_ws RX2 TX2 3
theorem nmX2 : ∀ a, a < 3 → ∀ b, b < 3 → a ≠ b → (TX2 a).2.1 ≠ (TX2 b).2.1 := by decide +kernel
theorem tyX2_ok : ∀ k, k < 3 → parseFieldDescriptor (TX2 k).2.2.1 = some (tyX2 k) := by decide +kernel
abbrev cX2_init : ByteArray := prog_4_method_1_code
def yX2_init : MethodName := ⟨RX2, "<init>", "()V"⟩
def dkwX2_init_0 : List UInt8 := [42, 183, 0, 3, 42, 16, 12, 181, 0, 9, 42, 1, 181, 0, 13, 177]
abbrev dktX2_init_0 : List UInt8 := dkwX2_init_0 ++ []
theorem dksX2_init_0 : cX2_init.data.toList.drop 0 = dktX2_init_0 := by decide +kernel
theorem dX2_init_0 : decode cX2_init 0 = .ok (.aload_n 0, 1) := dk_42 (dk_at dksX2_init_0 0 rfl rfl)
theorem dX2_init_1 : decode cX2_init 1 = .ok (.invokespecial 3, 3) := dk_183 0 3 (dk_at dksX2_init_0 1 rfl rfl)
theorem dX2_init_4 : decode cX2_init 4 = .ok (.aload_n 0, 1) := dk_42 (dk_at dksX2_init_0 4 rfl rfl)
theorem dX2_init_5 : decode cX2_init 5 = .ok (.bipush 12, 2) := dk_16 12 (dk_at dksX2_init_0 5 rfl rfl)
theorem dX2_init_7 : decode cX2_init 7 = .ok (.putfield 9, 3) := dk_181 0 9 (dk_at dksX2_init_0 7 rfl rfl)
theorem dX2_init_10 : decode cX2_init 10 = .ok (.aload_n 0, 1) := dk_42 (dk_at dksX2_init_0 10 rfl rfl)
theorem dX2_init_11 : decode cX2_init 11 = .ok (.aconst_null, 1) := dk_1 (dk_at dksX2_init_0 11 rfl rfl)
theorem dX2_init_12 : decode cX2_init 12 = .ok (.putfield 13, 3) := dk_181 0 13 (dk_at dksX2_init_0 12 rfl rfl)
theorem dX2_init_15 : decode cX2_init 15 = .ok (.return_, 1) := dk_177 (dk_at dksX2_init_0 15 rfl rfl)
abbrev cX2_init_2 : ByteArray := prog_4_method_2_code
def yX2_init_2 : MethodName := ⟨RX2, "init", "(ZLCipherParameters;)V"⟩
def dkwX2_init_2_1 : List UInt8 := [181, 0, 26, 42, 45, 182, 0, 30, 181, 0, 9, 45, 182, 0, 34, 58, 4, 42, 25, 4, 182, 0, 38, 177]
abbrev dktX2_init_2_1 : List UInt8 := dkwX2_init_2_1 ++ []
def dkwX2_init_2_0 : List UInt8 := [44, 193, 0, 17, 154, 0, 13, 187, 0, 19, 89, 18, 21, 183, 0, 23, 191, 44, 192, 0, 17, 78, 42, 27]
abbrev dktX2_init_2_0 : List UInt8 := dkwX2_init_2_0 ++ dktX2_init_2_1
theorem dksX2_init_2_0 : cX2_init_2.data.toList.drop 0 = dktX2_init_2_0 := by decide +kernel
theorem dksX2_init_2_1 : cX2_init_2.data.toList.drop 24 = dktX2_init_2_1 := dk_seg dksX2_init_2_0 24 rfl rfl
theorem dX2_init_2_0 : decode cX2_init_2 0 = .ok (.aload_n 2, 1) := dk_44 (dk_at dksX2_init_2_0 0 rfl rfl)
theorem dX2_init_2_1 : decode cX2_init_2 1 = .ok (.instanceof 17, 3) := dk_193 0 17 (dk_at dksX2_init_2_0 1 rfl rfl)
theorem dX2_init_2_4 : decode cX2_init_2 4 = .ok (.ifCond .ne 13, 3) := dk_154 0 13 (dk_at dksX2_init_2_0 4 rfl rfl)
theorem dX2_init_2_7 : decode cX2_init_2 7 = .ok (.new 19, 3) := dk_187 0 19 (dk_at dksX2_init_2_0 7 rfl rfl)
theorem dX2_init_2_10 : decode cX2_init_2 10 = .ok (.dup, 1) := dk_89 (dk_at dksX2_init_2_0 10 rfl rfl)
theorem dX2_init_2_11 : decode cX2_init_2 11 = .ok (.ldc 21, 2) := dk_18 21 (dk_at dksX2_init_2_0 11 rfl rfl)
theorem dX2_init_2_13 : decode cX2_init_2 13 = .ok (.invokespecial 23, 3) := dk_183 0 23 (dk_at dksX2_init_2_0 13 rfl rfl)
theorem dX2_init_2_16 : decode cX2_init_2 16 = .ok (.athrow, 1) := dk_191 (dk_at dksX2_init_2_0 16 rfl rfl)
theorem dX2_init_2_17 : decode cX2_init_2 17 = .ok (.aload_n 2, 1) := dk_44 (dk_at dksX2_init_2_0 17 rfl rfl)
theorem dX2_init_2_18 : decode cX2_init_2 18 = .ok (.checkcast 17, 3) := dk_192 0 17 (dk_at dksX2_init_2_0 18 rfl rfl)
theorem dX2_init_2_21 : decode cX2_init_2 21 = .ok (.astore_n 3, 1) := dk_78 (dk_at dksX2_init_2_0 21 rfl rfl)
theorem dX2_init_2_22 : decode cX2_init_2 22 = .ok (.aload_n 0, 1) := dk_42 (dk_at dksX2_init_2_0 22 rfl rfl)
theorem dX2_init_2_23 : decode cX2_init_2 23 = .ok (.iload_n 1, 1) := dk_27 (dk_at dksX2_init_2_0 23 rfl rfl)
theorem dX2_init_2_24 : decode cX2_init_2 24 = .ok (.putfield 26, 3) := dk_181 0 26 (dk_at dksX2_init_2_1 0 rfl rfl)
theorem dX2_init_2_27 : decode cX2_init_2 27 = .ok (.aload_n 0, 1) := dk_42 (dk_at dksX2_init_2_1 3 rfl rfl)
theorem dX2_init_2_28 : decode cX2_init_2 28 = .ok (.aload_n 3, 1) := dk_45 (dk_at dksX2_init_2_1 4 rfl rfl)
theorem dX2_init_2_29 : decode cX2_init_2 29 = .ok (.invokevirtual 30, 3) := dk_182 0 30 (dk_at dksX2_init_2_1 5 rfl rfl)
theorem dX2_init_2_32 : decode cX2_init_2 32 = .ok (.putfield 9, 3) := dk_181 0 9 (dk_at dksX2_init_2_1 8 rfl rfl)
theorem dX2_init_2_35 : decode cX2_init_2 35 = .ok (.aload_n 3, 1) := dk_45 (dk_at dksX2_init_2_1 11 rfl rfl)
theorem dX2_init_2_36 : decode cX2_init_2 36 = .ok (.invokevirtual 34, 3) := dk_182 0 34 (dk_at dksX2_init_2_1 12 rfl rfl)
theorem dX2_init_2_39 : decode cX2_init_2 39 = .ok (.astore 4, 2) := dk_58 4 (dk_at dksX2_init_2_1 15 rfl rfl)
theorem dX2_init_2_41 : decode cX2_init_2 41 = .ok (.aload_n 0, 1) := dk_42 (dk_at dksX2_init_2_1 17 rfl rfl)
theorem dX2_init_2_42 : decode cX2_init_2 42 = .ok (.aload 4, 2) := dk_25 4 (dk_at dksX2_init_2_1 18 rfl rfl)
theorem dX2_init_2_44 : decode cX2_init_2 44 = .ok (.invokevirtual 38, 3) := dk_182 0 38 (dk_at dksX2_init_2_1 20 rfl rfl)
theorem dX2_init_2_47 : decode cX2_init_2 47 = .ok (.return_, 1) := dk_177 (dk_at dksX2_init_2_1 23 rfl rfl)
abbrev cX2_setKey : ByteArray := prog_4_method_4_code
def yX2_setKey : MethodName := ⟨RX2, "setKey", "([B)V"⟩
def dkwX2_setKey_10 : List UInt8 := [132, 10, 1, 167, 255, 170, 177]
abbrev dktX2_setKey_10 : List UInt8 := dkwX2_setKey_10 ++ []
def dkwX2_setKey_9 : List UInt8 := [55, 6, 21, 8, 4, 96, 42, 180, 0, 13, 190, 112, 54, 8, 21, 9, 4, 96, 44, 190, 112, 54, 9]
abbrev dktX2_setKey_9 : List UInt8 := dkwX2_setKey_9 ++ dktX2_setKey_10
def dkwX2_setKey_8 : List UInt8 := [21, 9, 42, 44, 21, 9, 47, 22, 4, 97, 22, 6, 97, 22, 4, 22, 6, 97, 182, 0, 55, 94, 80]
abbrev dktX2_setKey_8 : List UInt8 := dkwX2_setKey_8 ++ dktX2_setKey_9
def dkwX2_setKey_7 : List UInt8 := [42, 180, 0, 13, 21, 8, 47, 22, 4, 97, 22, 6, 97, 20, 0, 53, 182, 0, 55, 94, 80, 55, 4, 44]
abbrev dktX2_setKey_7 : List UInt8 := dkwX2_setKey_7 ++ dktX2_setKey_8
def dkwX2_setKey_6 : List UInt8 := [55, 6, 3, 54, 8, 3, 54, 9, 3, 54, 10, 21, 10, 29, 162, 0, 86, 42, 180, 0, 13, 21, 8, 42]
abbrev dktX2_setKey_6 : List UInt8 := dkwX2_setKey_6 ++ dktX2_setKey_7
def dkwX2_setKey_5 : List UInt8 := [164, 0, 11, 6, 44, 190, 104, 62, 167, 0, 11, 6, 42, 180, 0, 13, 190, 104, 62, 9, 55, 4, 9]
abbrev dktX2_setKey_5 : List UInt8 := dkwX2_setKey_5 ++ dktX2_setKey_6
def dkwX2_setKey_4 : List UInt8 := [29, 4, 100, 47, 20, 0, 51, 97, 80, 132, 3, 1, 167, 255, 226, 44, 190, 42, 180, 0, 13, 190]
abbrev dktX2_setKey_4 : List UInt8 := dkwX2_setKey_4 ++ dktX2_setKey_5
def dkwX2_setKey_3 : List UInt8 := [20, 0, 49, 80, 4, 62, 29, 42, 180, 0, 13, 190, 162, 0, 27, 42, 180, 0, 13, 29, 42, 180, 0, 13]
abbrev dktX2_setKey_3 : List UInt8 := dkwX2_setKey_3 ++ dktX2_setKey_4
def dkwX2_setKey_2 : List UInt8 := [167, 255, 222, 42, 5, 42, 180, 0, 9, 4, 96, 104, 188, 11, 181, 0, 13, 42, 180, 0, 13, 3]
abbrev dktX2_setKey_2 : List UInt8 := dkwX2_setKey_2 ++ dktX2_setKey_3
def dkwX2_setKey_1 : List UInt8 := [92, 47, 43, 29, 51, 17, 0, 255, 126, 133, 16, 8, 29, 16, 8, 112, 104, 121, 97, 80, 132, 3, 1]
abbrev dktX2_setKey_1 : List UInt8 := dkwX2_setKey_1 ++ dktX2_setKey_2
def dkwX2_setKey_0 : List UInt8 := [43, 190, 16, 7, 96, 16, 8, 108, 188, 11, 77, 3, 62, 29, 43, 190, 159, 0, 34, 44, 29, 16, 8, 108]
abbrev dktX2_setKey_0 : List UInt8 := dkwX2_setKey_0 ++ dktX2_setKey_1
theorem dksX2_setKey_0 : cX2_setKey.data.toList.drop 0 = dktX2_setKey_0 := by decide +kernel
theorem dksX2_setKey_1 : cX2_setKey.data.toList.drop 24 = dktX2_setKey_1 := dk_seg dksX2_setKey_0 24 rfl rfl
theorem dksX2_setKey_2 : cX2_setKey.data.toList.drop 47 = dktX2_setKey_2 := dk_seg dksX2_setKey_1 23 rfl rfl
theorem dksX2_setKey_3 : cX2_setKey.data.toList.drop 69 = dktX2_setKey_3 := dk_seg dksX2_setKey_2 22 rfl rfl
theorem dksX2_setKey_4 : cX2_setKey.data.toList.drop 93 = dktX2_setKey_4 := dk_seg dksX2_setKey_3 24 rfl rfl
theorem dksX2_setKey_5 : cX2_setKey.data.toList.drop 115 = dktX2_setKey_5 := dk_seg dksX2_setKey_4 22 rfl rfl
theorem dksX2_setKey_6 : cX2_setKey.data.toList.drop 138 = dktX2_setKey_6 := dk_seg dksX2_setKey_5 23 rfl rfl
theorem dksX2_setKey_7 : cX2_setKey.data.toList.drop 162 = dktX2_setKey_7 := dk_seg dksX2_setKey_6 24 rfl rfl
theorem dksX2_setKey_8 : cX2_setKey.data.toList.drop 186 = dktX2_setKey_8 := dk_seg dksX2_setKey_7 24 rfl rfl
theorem dksX2_setKey_9 : cX2_setKey.data.toList.drop 209 = dktX2_setKey_9 := dk_seg dksX2_setKey_8 23 rfl rfl
theorem dksX2_setKey_10 : cX2_setKey.data.toList.drop 232 = dktX2_setKey_10 := dk_seg dksX2_setKey_9 23 rfl rfl
theorem dX2_setKey_0 : decode cX2_setKey 0 = .ok (.aload_n 1, 1) := dk_43 (dk_at dksX2_setKey_0 0 rfl rfl)
theorem dX2_setKey_1 : decode cX2_setKey 1 = .ok (.arraylength, 1) := dk_190 (dk_at dksX2_setKey_0 1 rfl rfl)
theorem dX2_setKey_2 : decode cX2_setKey 2 = .ok (.bipush 7, 2) := dk_16 7 (dk_at dksX2_setKey_0 2 rfl rfl)
theorem dX2_setKey_4 : decode cX2_setKey 4 = .ok (.iadd, 1) := dk_96 (dk_at dksX2_setKey_0 4 rfl rfl)
theorem dX2_setKey_5 : decode cX2_setKey 5 = .ok (.bipush 8, 2) := dk_16 8 (dk_at dksX2_setKey_0 5 rfl rfl)
theorem dX2_setKey_7 : decode cX2_setKey 7 = .ok (.idiv, 1) := dk_108 (dk_at dksX2_setKey_0 7 rfl rfl)
theorem dX2_setKey_8 : decode cX2_setKey 8 = .ok (.newarray .long, 2) := dk_188_11 (dk_at dksX2_setKey_0 8 rfl rfl)
theorem dX2_setKey_10 : decode cX2_setKey 10 = .ok (.astore_n 2, 1) := dk_77 (dk_at dksX2_setKey_0 10 rfl rfl)
theorem dX2_setKey_11 : decode cX2_setKey 11 = .ok (.iconst 0, 1) := dk_3 (dk_at dksX2_setKey_0 11 rfl rfl)
theorem dX2_setKey_12 : decode cX2_setKey 12 = .ok (.istore_n 3, 1) := dk_62 (dk_at dksX2_setKey_0 12 rfl rfl)
theorem dX2_setKey_13 : decode cX2_setKey 13 = .ok (.iload_n 3, 1) := dk_29 (dk_at dksX2_setKey_0 13 rfl rfl)
theorem dX2_setKey_14 : decode cX2_setKey 14 = .ok (.aload_n 1, 1) := dk_43 (dk_at dksX2_setKey_0 14 rfl rfl)
theorem dX2_setKey_15 : decode cX2_setKey 15 = .ok (.arraylength, 1) := dk_190 (dk_at dksX2_setKey_0 15 rfl rfl)
theorem dX2_setKey_16 : decode cX2_setKey 16 = .ok (.if_icmp .eq 34, 3) := dk_159 0 34 (dk_at dksX2_setKey_0 16 rfl rfl)
theorem dX2_setKey_19 : decode cX2_setKey 19 = .ok (.aload_n 2, 1) := dk_44 (dk_at dksX2_setKey_0 19 rfl rfl)
theorem dX2_setKey_20 : decode cX2_setKey 20 = .ok (.iload_n 3, 1) := dk_29 (dk_at dksX2_setKey_0 20 rfl rfl)
theorem dX2_setKey_21 : decode cX2_setKey 21 = .ok (.bipush 8, 2) := dk_16 8 (dk_at dksX2_setKey_0 21 rfl rfl)
theorem dX2_setKey_23 : decode cX2_setKey 23 = .ok (.idiv, 1) := dk_108 (dk_at dksX2_setKey_0 23 rfl rfl)
theorem dX2_setKey_24 : decode cX2_setKey 24 = .ok (.dup2, 1) := dk_92 (dk_at dksX2_setKey_1 0 rfl rfl)
theorem dX2_setKey_25 : decode cX2_setKey 25 = .ok (.laload, 1) := dk_47 (dk_at dksX2_setKey_1 1 rfl rfl)
theorem dX2_setKey_26 : decode cX2_setKey 26 = .ok (.aload_n 1, 1) := dk_43 (dk_at dksX2_setKey_1 2 rfl rfl)
theorem dX2_setKey_27 : decode cX2_setKey 27 = .ok (.iload_n 3, 1) := dk_29 (dk_at dksX2_setKey_1 3 rfl rfl)
theorem dX2_setKey_28 : decode cX2_setKey 28 = .ok (.baload, 1) := dk_51 (dk_at dksX2_setKey_1 4 rfl rfl)
theorem dX2_setKey_29 : decode cX2_setKey 29 = .ok (.sipush 255, 3) := dk_17 0 255 (dk_at dksX2_setKey_1 5 rfl rfl)
theorem dX2_setKey_32 : decode cX2_setKey 32 = .ok (.iand, 1) := dk_126 (dk_at dksX2_setKey_1 8 rfl rfl)
theorem dX2_setKey_33 : decode cX2_setKey 33 = .ok (.i2l, 1) := dk_133 (dk_at dksX2_setKey_1 9 rfl rfl)
theorem dX2_setKey_34 : decode cX2_setKey 34 = .ok (.bipush 8, 2) := dk_16 8 (dk_at dksX2_setKey_1 10 rfl rfl)
theorem dX2_setKey_36 : decode cX2_setKey 36 = .ok (.iload_n 3, 1) := dk_29 (dk_at dksX2_setKey_1 12 rfl rfl)
theorem dX2_setKey_37 : decode cX2_setKey 37 = .ok (.bipush 8, 2) := dk_16 8 (dk_at dksX2_setKey_1 13 rfl rfl)
theorem dX2_setKey_39 : decode cX2_setKey 39 = .ok (.irem, 1) := dk_112 (dk_at dksX2_setKey_1 15 rfl rfl)
theorem dX2_setKey_40 : decode cX2_setKey 40 = .ok (.imul, 1) := dk_104 (dk_at dksX2_setKey_1 16 rfl rfl)
theorem dX2_setKey_41 : decode cX2_setKey 41 = .ok (.lshl, 1) := dk_121 (dk_at dksX2_setKey_1 17 rfl rfl)
theorem dX2_setKey_42 : decode cX2_setKey 42 = .ok (.ladd, 1) := dk_97 (dk_at dksX2_setKey_1 18 rfl rfl)
theorem dX2_setKey_43 : decode cX2_setKey 43 = .ok (.lastore, 1) := dk_80 (dk_at dksX2_setKey_1 19 rfl rfl)
theorem dX2_setKey_44 : decode cX2_setKey 44 = .ok (.iinc 3 1, 3) := dk_132 3 1 (dk_at dksX2_setKey_1 20 rfl rfl)
theorem dX2_setKey_47 : decode cX2_setKey 47 = .ok (.goto (-34), 3) := dk_167 255 222 (dk_at dksX2_setKey_2 0 rfl rfl)
theorem dX2_setKey_50 : decode cX2_setKey 50 = .ok (.aload_n 0, 1) := dk_42 (dk_at dksX2_setKey_2 3 rfl rfl)
theorem dX2_setKey_51 : decode cX2_setKey 51 = .ok (.iconst 2, 1) := dk_5 (dk_at dksX2_setKey_2 4 rfl rfl)
theorem dX2_setKey_52 : decode cX2_setKey 52 = .ok (.aload_n 0, 1) := dk_42 (dk_at dksX2_setKey_2 5 rfl rfl)
theorem dX2_setKey_53 : decode cX2_setKey 53 = .ok (.getfield 9, 3) := dk_180 0 9 (dk_at dksX2_setKey_2 6 rfl rfl)
theorem dX2_setKey_56 : decode cX2_setKey 56 = .ok (.iconst 1, 1) := dk_4 (dk_at dksX2_setKey_2 9 rfl rfl)
theorem dX2_setKey_57 : decode cX2_setKey 57 = .ok (.iadd, 1) := dk_96 (dk_at dksX2_setKey_2 10 rfl rfl)
theorem dX2_setKey_58 : decode cX2_setKey 58 = .ok (.imul, 1) := dk_104 (dk_at dksX2_setKey_2 11 rfl rfl)
theorem dX2_setKey_59 : decode cX2_setKey 59 = .ok (.newarray .long, 2) := dk_188_11 (dk_at dksX2_setKey_2 12 rfl rfl)
theorem dX2_setKey_61 : decode cX2_setKey 61 = .ok (.putfield 13, 3) := dk_181 0 13 (dk_at dksX2_setKey_2 14 rfl rfl)
theorem dX2_setKey_64 : decode cX2_setKey 64 = .ok (.aload_n 0, 1) := dk_42 (dk_at dksX2_setKey_2 17 rfl rfl)
theorem dX2_setKey_65 : decode cX2_setKey 65 = .ok (.getfield 13, 3) := dk_180 0 13 (dk_at dksX2_setKey_2 18 rfl rfl)
theorem dX2_setKey_68 : decode cX2_setKey 68 = .ok (.iconst 0, 1) := dk_3 (dk_at dksX2_setKey_2 21 rfl rfl)
theorem dX2_setKey_69 : decode cX2_setKey 69 = .ok (.ldc2_w 49, 3) := dk_20 0 49 (dk_at dksX2_setKey_3 0 rfl rfl)
theorem dX2_setKey_72 : decode cX2_setKey 72 = .ok (.lastore, 1) := dk_80 (dk_at dksX2_setKey_3 3 rfl rfl)
theorem dX2_setKey_73 : decode cX2_setKey 73 = .ok (.iconst 1, 1) := dk_4 (dk_at dksX2_setKey_3 4 rfl rfl)
theorem dX2_setKey_74 : decode cX2_setKey 74 = .ok (.istore_n 3, 1) := dk_62 (dk_at dksX2_setKey_3 5 rfl rfl)
theorem dX2_setKey_75 : decode cX2_setKey 75 = .ok (.iload_n 3, 1) := dk_29 (dk_at dksX2_setKey_3 6 rfl rfl)
theorem dX2_setKey_76 : decode cX2_setKey 76 = .ok (.aload_n 0, 1) := dk_42 (dk_at dksX2_setKey_3 7 rfl rfl)
theorem dX2_setKey_77 : decode cX2_setKey 77 = .ok (.getfield 13, 3) := dk_180 0 13 (dk_at dksX2_setKey_3 8 rfl rfl)
theorem dX2_setKey_80 : decode cX2_setKey 80 = .ok (.arraylength, 1) := dk_190 (dk_at dksX2_setKey_3 11 rfl rfl)
theorem dX2_setKey_81 : decode cX2_setKey 81 = .ok (.if_icmp .ge 27, 3) := dk_162 0 27 (dk_at dksX2_setKey_3 12 rfl rfl)
theorem dX2_setKey_84 : decode cX2_setKey 84 = .ok (.aload_n 0, 1) := dk_42 (dk_at dksX2_setKey_3 15 rfl rfl)
theorem dX2_setKey_85 : decode cX2_setKey 85 = .ok (.getfield 13, 3) := dk_180 0 13 (dk_at dksX2_setKey_3 16 rfl rfl)
theorem dX2_setKey_88 : decode cX2_setKey 88 = .ok (.iload_n 3, 1) := dk_29 (dk_at dksX2_setKey_3 19 rfl rfl)
theorem dX2_setKey_89 : decode cX2_setKey 89 = .ok (.aload_n 0, 1) := dk_42 (dk_at dksX2_setKey_3 20 rfl rfl)
theorem dX2_setKey_90 : decode cX2_setKey 90 = .ok (.getfield 13, 3) := dk_180 0 13 (dk_at dksX2_setKey_3 21 rfl rfl)
theorem dX2_setKey_93 : decode cX2_setKey 93 = .ok (.iload_n 3, 1) := dk_29 (dk_at dksX2_setKey_4 0 rfl rfl)
theorem dX2_setKey_94 : decode cX2_setKey 94 = .ok (.iconst 1, 1) := dk_4 (dk_at dksX2_setKey_4 1 rfl rfl)
theorem dX2_setKey_95 : decode cX2_setKey 95 = .ok (.isub, 1) := dk_100 (dk_at dksX2_setKey_4 2 rfl rfl)
theorem dX2_setKey_96 : decode cX2_setKey 96 = .ok (.laload, 1) := dk_47 (dk_at dksX2_setKey_4 3 rfl rfl)
theorem dX2_setKey_97 : decode cX2_setKey 97 = .ok (.ldc2_w 51, 3) := dk_20 0 51 (dk_at dksX2_setKey_4 4 rfl rfl)
theorem dX2_setKey_100 : decode cX2_setKey 100 = .ok (.ladd, 1) := dk_97 (dk_at dksX2_setKey_4 7 rfl rfl)
theorem dX2_setKey_101 : decode cX2_setKey 101 = .ok (.lastore, 1) := dk_80 (dk_at dksX2_setKey_4 8 rfl rfl)
theorem dX2_setKey_102 : decode cX2_setKey 102 = .ok (.iinc 3 1, 3) := dk_132 3 1 (dk_at dksX2_setKey_4 9 rfl rfl)
theorem dX2_setKey_105 : decode cX2_setKey 105 = .ok (.goto (-30), 3) := dk_167 255 226 (dk_at dksX2_setKey_4 12 rfl rfl)
theorem dX2_setKey_108 : decode cX2_setKey 108 = .ok (.aload_n 2, 1) := dk_44 (dk_at dksX2_setKey_4 15 rfl rfl)
theorem dX2_setKey_109 : decode cX2_setKey 109 = .ok (.arraylength, 1) := dk_190 (dk_at dksX2_setKey_4 16 rfl rfl)
theorem dX2_setKey_110 : decode cX2_setKey 110 = .ok (.aload_n 0, 1) := dk_42 (dk_at dksX2_setKey_4 17 rfl rfl)
theorem dX2_setKey_111 : decode cX2_setKey 111 = .ok (.getfield 13, 3) := dk_180 0 13 (dk_at dksX2_setKey_4 18 rfl rfl)
theorem dX2_setKey_114 : decode cX2_setKey 114 = .ok (.arraylength, 1) := dk_190 (dk_at dksX2_setKey_4 21 rfl rfl)
theorem dX2_setKey_115 : decode cX2_setKey 115 = .ok (.if_icmp .le 11, 3) := dk_164 0 11 (dk_at dksX2_setKey_5 0 rfl rfl)
theorem dX2_setKey_118 : decode cX2_setKey 118 = .ok (.iconst 3, 1) := dk_6 (dk_at dksX2_setKey_5 3 rfl rfl)
theorem dX2_setKey_119 : decode cX2_setKey 119 = .ok (.aload_n 2, 1) := dk_44 (dk_at dksX2_setKey_5 4 rfl rfl)
theorem dX2_setKey_120 : decode cX2_setKey 120 = .ok (.arraylength, 1) := dk_190 (dk_at dksX2_setKey_5 5 rfl rfl)
theorem dX2_setKey_121 : decode cX2_setKey 121 = .ok (.imul, 1) := dk_104 (dk_at dksX2_setKey_5 6 rfl rfl)
theorem dX2_setKey_122 : decode cX2_setKey 122 = .ok (.istore_n 3, 1) := dk_62 (dk_at dksX2_setKey_5 7 rfl rfl)
theorem dX2_setKey_123 : decode cX2_setKey 123 = .ok (.goto 11, 3) := dk_167 0 11 (dk_at dksX2_setKey_5 8 rfl rfl)
theorem dX2_setKey_126 : decode cX2_setKey 126 = .ok (.iconst 3, 1) := dk_6 (dk_at dksX2_setKey_5 11 rfl rfl)
theorem dX2_setKey_127 : decode cX2_setKey 127 = .ok (.aload_n 0, 1) := dk_42 (dk_at dksX2_setKey_5 12 rfl rfl)
theorem dX2_setKey_128 : decode cX2_setKey 128 = .ok (.getfield 13, 3) := dk_180 0 13 (dk_at dksX2_setKey_5 13 rfl rfl)
theorem dX2_setKey_131 : decode cX2_setKey 131 = .ok (.arraylength, 1) := dk_190 (dk_at dksX2_setKey_5 16 rfl rfl)
theorem dX2_setKey_132 : decode cX2_setKey 132 = .ok (.imul, 1) := dk_104 (dk_at dksX2_setKey_5 17 rfl rfl)
theorem dX2_setKey_133 : decode cX2_setKey 133 = .ok (.istore_n 3, 1) := dk_62 (dk_at dksX2_setKey_5 18 rfl rfl)
theorem dX2_setKey_134 : decode cX2_setKey 134 = .ok (.lconst 0, 1) := dk_9 (dk_at dksX2_setKey_5 19 rfl rfl)
theorem dX2_setKey_135 : decode cX2_setKey 135 = .ok (.lstore 4, 2) := dk_55 4 (dk_at dksX2_setKey_5 20 rfl rfl)
theorem dX2_setKey_137 : decode cX2_setKey 137 = .ok (.lconst 0, 1) := dk_9 (dk_at dksX2_setKey_5 22 rfl rfl)
theorem dX2_setKey_138 : decode cX2_setKey 138 = .ok (.lstore 6, 2) := dk_55 6 (dk_at dksX2_setKey_6 0 rfl rfl)
theorem dX2_setKey_140 : decode cX2_setKey 140 = .ok (.iconst 0, 1) := dk_3 (dk_at dksX2_setKey_6 2 rfl rfl)
theorem dX2_setKey_141 : decode cX2_setKey 141 = .ok (.istore 8, 2) := dk_54 8 (dk_at dksX2_setKey_6 3 rfl rfl)
theorem dX2_setKey_143 : decode cX2_setKey 143 = .ok (.iconst 0, 1) := dk_3 (dk_at dksX2_setKey_6 5 rfl rfl)
theorem dX2_setKey_144 : decode cX2_setKey 144 = .ok (.istore 9, 2) := dk_54 9 (dk_at dksX2_setKey_6 6 rfl rfl)
theorem dX2_setKey_146 : decode cX2_setKey 146 = .ok (.iconst 0, 1) := dk_3 (dk_at dksX2_setKey_6 8 rfl rfl)
theorem dX2_setKey_147 : decode cX2_setKey 147 = .ok (.istore 10, 2) := dk_54 10 (dk_at dksX2_setKey_6 9 rfl rfl)
theorem dX2_setKey_149 : decode cX2_setKey 149 = .ok (.iload 10, 2) := dk_21 10 (dk_at dksX2_setKey_6 11 rfl rfl)
theorem dX2_setKey_151 : decode cX2_setKey 151 = .ok (.iload_n 3, 1) := dk_29 (dk_at dksX2_setKey_6 13 rfl rfl)
theorem dX2_setKey_152 : decode cX2_setKey 152 = .ok (.if_icmp .ge 86, 3) := dk_162 0 86 (dk_at dksX2_setKey_6 14 rfl rfl)
theorem dX2_setKey_155 : decode cX2_setKey 155 = .ok (.aload_n 0, 1) := dk_42 (dk_at dksX2_setKey_6 17 rfl rfl)
theorem dX2_setKey_156 : decode cX2_setKey 156 = .ok (.getfield 13, 3) := dk_180 0 13 (dk_at dksX2_setKey_6 18 rfl rfl)
theorem dX2_setKey_159 : decode cX2_setKey 159 = .ok (.iload 8, 2) := dk_21 8 (dk_at dksX2_setKey_6 21 rfl rfl)
theorem dX2_setKey_161 : decode cX2_setKey 161 = .ok (.aload_n 0, 1) := dk_42 (dk_at dksX2_setKey_6 23 rfl rfl)
theorem dX2_setKey_162 : decode cX2_setKey 162 = .ok (.aload_n 0, 1) := dk_42 (dk_at dksX2_setKey_7 0 rfl rfl)
theorem dX2_setKey_163 : decode cX2_setKey 163 = .ok (.getfield 13, 3) := dk_180 0 13 (dk_at dksX2_setKey_7 1 rfl rfl)
theorem dX2_setKey_166 : decode cX2_setKey 166 = .ok (.iload 8, 2) := dk_21 8 (dk_at dksX2_setKey_7 4 rfl rfl)
theorem dX2_setKey_168 : decode cX2_setKey 168 = .ok (.laload, 1) := dk_47 (dk_at dksX2_setKey_7 6 rfl rfl)
theorem dX2_setKey_169 : decode cX2_setKey 169 = .ok (.lload 4, 2) := dk_22 4 (dk_at dksX2_setKey_7 7 rfl rfl)
theorem dX2_setKey_171 : decode cX2_setKey 171 = .ok (.ladd, 1) := dk_97 (dk_at dksX2_setKey_7 9 rfl rfl)
theorem dX2_setKey_172 : decode cX2_setKey 172 = .ok (.lload 6, 2) := dk_22 6 (dk_at dksX2_setKey_7 10 rfl rfl)
theorem dX2_setKey_174 : decode cX2_setKey 174 = .ok (.ladd, 1) := dk_97 (dk_at dksX2_setKey_7 12 rfl rfl)
theorem dX2_setKey_175 : decode cX2_setKey 175 = .ok (.ldc2_w 53, 3) := dk_20 0 53 (dk_at dksX2_setKey_7 13 rfl rfl)
theorem dX2_setKey_178 : decode cX2_setKey 178 = .ok (.invokevirtual 55, 3) := dk_182 0 55 (dk_at dksX2_setKey_7 16 rfl rfl)
theorem dX2_setKey_181 : decode cX2_setKey 181 = .ok (.dup2_x2, 1) := dk_94 (dk_at dksX2_setKey_7 19 rfl rfl)
theorem dX2_setKey_182 : decode cX2_setKey 182 = .ok (.lastore, 1) := dk_80 (dk_at dksX2_setKey_7 20 rfl rfl)
theorem dX2_setKey_183 : decode cX2_setKey 183 = .ok (.lstore 4, 2) := dk_55 4 (dk_at dksX2_setKey_7 21 rfl rfl)
theorem dX2_setKey_185 : decode cX2_setKey 185 = .ok (.aload_n 2, 1) := dk_44 (dk_at dksX2_setKey_7 23 rfl rfl)
theorem dX2_setKey_186 : decode cX2_setKey 186 = .ok (.iload 9, 2) := dk_21 9 (dk_at dksX2_setKey_8 0 rfl rfl)
theorem dX2_setKey_188 : decode cX2_setKey 188 = .ok (.aload_n 0, 1) := dk_42 (dk_at dksX2_setKey_8 2 rfl rfl)
theorem dX2_setKey_189 : decode cX2_setKey 189 = .ok (.aload_n 2, 1) := dk_44 (dk_at dksX2_setKey_8 3 rfl rfl)
theorem dX2_setKey_190 : decode cX2_setKey 190 = .ok (.iload 9, 2) := dk_21 9 (dk_at dksX2_setKey_8 4 rfl rfl)
theorem dX2_setKey_192 : decode cX2_setKey 192 = .ok (.laload, 1) := dk_47 (dk_at dksX2_setKey_8 6 rfl rfl)
theorem dX2_setKey_193 : decode cX2_setKey 193 = .ok (.lload 4, 2) := dk_22 4 (dk_at dksX2_setKey_8 7 rfl rfl)
theorem dX2_setKey_195 : decode cX2_setKey 195 = .ok (.ladd, 1) := dk_97 (dk_at dksX2_setKey_8 9 rfl rfl)
theorem dX2_setKey_196 : decode cX2_setKey 196 = .ok (.lload 6, 2) := dk_22 6 (dk_at dksX2_setKey_8 10 rfl rfl)
theorem dX2_setKey_198 : decode cX2_setKey 198 = .ok (.ladd, 1) := dk_97 (dk_at dksX2_setKey_8 12 rfl rfl)
theorem dX2_setKey_199 : decode cX2_setKey 199 = .ok (.lload 4, 2) := dk_22 4 (dk_at dksX2_setKey_8 13 rfl rfl)
theorem dX2_setKey_201 : decode cX2_setKey 201 = .ok (.lload 6, 2) := dk_22 6 (dk_at dksX2_setKey_8 15 rfl rfl)
theorem dX2_setKey_203 : decode cX2_setKey 203 = .ok (.ladd, 1) := dk_97 (dk_at dksX2_setKey_8 17 rfl rfl)
theorem dX2_setKey_204 : decode cX2_setKey 204 = .ok (.invokevirtual 55, 3) := dk_182 0 55 (dk_at dksX2_setKey_8 18 rfl rfl)
theorem dX2_setKey_207 : decode cX2_setKey 207 = .ok (.dup2_x2, 1) := dk_94 (dk_at dksX2_setKey_8 21 rfl rfl)
theorem dX2_setKey_208 : decode cX2_setKey 208 = .ok (.lastore, 1) := dk_80 (dk_at dksX2_setKey_8 22 rfl rfl)
theorem dX2_setKey_209 : decode cX2_setKey 209 = .ok (.lstore 6, 2) := dk_55 6 (dk_at dksX2_setKey_9 0 rfl rfl)
theorem dX2_setKey_211 : decode cX2_setKey 211 = .ok (.iload 8, 2) := dk_21 8 (dk_at dksX2_setKey_9 2 rfl rfl)
theorem dX2_setKey_213 : decode cX2_setKey 213 = .ok (.iconst 1, 1) := dk_4 (dk_at dksX2_setKey_9 4 rfl rfl)
theorem dX2_setKey_214 : decode cX2_setKey 214 = .ok (.iadd, 1) := dk_96 (dk_at dksX2_setKey_9 5 rfl rfl)
theorem dX2_setKey_215 : decode cX2_setKey 215 = .ok (.aload_n 0, 1) := dk_42 (dk_at dksX2_setKey_9 6 rfl rfl)
theorem dX2_setKey_216 : decode cX2_setKey 216 = .ok (.getfield 13, 3) := dk_180 0 13 (dk_at dksX2_setKey_9 7 rfl rfl)
theorem dX2_setKey_219 : decode cX2_setKey 219 = .ok (.arraylength, 1) := dk_190 (dk_at dksX2_setKey_9 10 rfl rfl)
theorem dX2_setKey_220 : decode cX2_setKey 220 = .ok (.irem, 1) := dk_112 (dk_at dksX2_setKey_9 11 rfl rfl)
theorem dX2_setKey_221 : decode cX2_setKey 221 = .ok (.istore 8, 2) := dk_54 8 (dk_at dksX2_setKey_9 12 rfl rfl)
theorem dX2_setKey_223 : decode cX2_setKey 223 = .ok (.iload 9, 2) := dk_21 9 (dk_at dksX2_setKey_9 14 rfl rfl)
theorem dX2_setKey_225 : decode cX2_setKey 225 = .ok (.iconst 1, 1) := dk_4 (dk_at dksX2_setKey_9 16 rfl rfl)
theorem dX2_setKey_226 : decode cX2_setKey 226 = .ok (.iadd, 1) := dk_96 (dk_at dksX2_setKey_9 17 rfl rfl)
theorem dX2_setKey_227 : decode cX2_setKey 227 = .ok (.aload_n 2, 1) := dk_44 (dk_at dksX2_setKey_9 18 rfl rfl)
theorem dX2_setKey_228 : decode cX2_setKey 228 = .ok (.arraylength, 1) := dk_190 (dk_at dksX2_setKey_9 19 rfl rfl)
theorem dX2_setKey_229 : decode cX2_setKey 229 = .ok (.irem, 1) := dk_112 (dk_at dksX2_setKey_9 20 rfl rfl)
theorem dX2_setKey_230 : decode cX2_setKey 230 = .ok (.istore 9, 2) := dk_54 9 (dk_at dksX2_setKey_9 21 rfl rfl)
theorem dX2_setKey_232 : decode cX2_setKey 232 = .ok (.iinc 10 1, 3) := dk_132 10 1 (dk_at dksX2_setKey_10 0 rfl rfl)
theorem dX2_setKey_235 : decode cX2_setKey 235 = .ok (.goto (-86), 3) := dk_167 255 170 (dk_at dksX2_setKey_10 3 rfl rfl)
theorem dX2_setKey_238 : decode cX2_setKey 238 = .ok (.return_, 1) := dk_177 (dk_at dksX2_setKey_10 6 rfl rfl)
abbrev cX2_rotateLeft : ByteArray := prog_4_method_7_code
def yX2_rotateLeft : MethodName := ⟨RX2, "rotateLeft", "(JJ)J"⟩
def dkwX2_rotateLeft_0 : List UInt8 := [31, 33, 20, 0, 70, 127, 136, 121, 31, 20, 0, 72, 33, 20, 0, 70, 127, 101, 136, 125, 129, 173]
abbrev dktX2_rotateLeft_0 : List UInt8 := dkwX2_rotateLeft_0 ++ []
theorem dksX2_rotateLeft_0 : cX2_rotateLeft.data.toList.drop 0 = dktX2_rotateLeft_0 := by decide +kernel
theorem dX2_rotateLeft_0 : decode cX2_rotateLeft 0 = .ok (.lload_n 1, 1) := dk_31 (dk_at dksX2_rotateLeft_0 0 rfl rfl)
theorem dX2_rotateLeft_1 : decode cX2_rotateLeft 1 = .ok (.lload_n 3, 1) := dk_33 (dk_at dksX2_rotateLeft_0 1 rfl rfl)
theorem dX2_rotateLeft_2 : decode cX2_rotateLeft 2 = .ok (.ldc2_w 70, 3) := dk_20 0 70 (dk_at dksX2_rotateLeft_0 2 rfl rfl)
theorem dX2_rotateLeft_5 : decode cX2_rotateLeft 5 = .ok (.land, 1) := dk_127 (dk_at dksX2_rotateLeft_0 5 rfl rfl)
theorem dX2_rotateLeft_6 : decode cX2_rotateLeft 6 = .ok (.l2i, 1) := dk_136 (dk_at dksX2_rotateLeft_0 6 rfl rfl)
theorem dX2_rotateLeft_7 : decode cX2_rotateLeft 7 = .ok (.lshl, 1) := dk_121 (dk_at dksX2_rotateLeft_0 7 rfl rfl)
theorem dX2_rotateLeft_8 : decode cX2_rotateLeft 8 = .ok (.lload_n 1, 1) := dk_31 (dk_at dksX2_rotateLeft_0 8 rfl rfl)
theorem dX2_rotateLeft_9 : decode cX2_rotateLeft 9 = .ok (.ldc2_w 72, 3) := dk_20 0 72 (dk_at dksX2_rotateLeft_0 9 rfl rfl)
theorem dX2_rotateLeft_12 : decode cX2_rotateLeft 12 = .ok (.lload_n 3, 1) := dk_33 (dk_at dksX2_rotateLeft_0 12 rfl rfl)
theorem dX2_rotateLeft_13 : decode cX2_rotateLeft 13 = .ok (.ldc2_w 70, 3) := dk_20 0 70 (dk_at dksX2_rotateLeft_0 13 rfl rfl)
theorem dX2_rotateLeft_16 : decode cX2_rotateLeft 16 = .ok (.land, 1) := dk_127 (dk_at dksX2_rotateLeft_0 16 rfl rfl)
theorem dX2_rotateLeft_17 : decode cX2_rotateLeft 17 = .ok (.lsub, 1) := dk_101 (dk_at dksX2_rotateLeft_0 17 rfl rfl)
theorem dX2_rotateLeft_18 : decode cX2_rotateLeft 18 = .ok (.l2i, 1) := dk_136 (dk_at dksX2_rotateLeft_0 18 rfl rfl)
theorem dX2_rotateLeft_19 : decode cX2_rotateLeft 19 = .ok (.lushr, 1) := dk_125 (dk_at dksX2_rotateLeft_0 19 rfl rfl)
theorem dX2_rotateLeft_20 : decode cX2_rotateLeft 20 = .ok (.lor, 1) := dk_129 (dk_at dksX2_rotateLeft_0 20 rfl rfl)
theorem dX2_rotateLeft_21 : decode cX2_rotateLeft 21 = .ok (.lreturn, 1) := dk_173 (dk_at dksX2_rotateLeft_0 21 rfl rfl)
abbrev cX2_processBlock : ByteArray := prog_4_method_3_code
def yX2_processBlock : MethodName := ⟨RX2, "processBlock", "([BI[BI)I"⟩
def dkwX2_processBlock_1 : List UInt8 := [21, 4, 182, 0, 46, 172]
abbrev dktX2_processBlock_1 : List UInt8 := dkwX2_processBlock_1 ++ []
def dkwX2_processBlock_0 : List UInt8 := [42, 180, 0, 26, 153, 0, 15, 42, 43, 28, 45, 21, 4, 182, 0, 42, 167, 0, 12, 42, 43, 28, 45]
abbrev dktX2_processBlock_0 : List UInt8 := dkwX2_processBlock_0 ++ dktX2_processBlock_1
theorem dksX2_processBlock_0 : cX2_processBlock.data.toList.drop 0 = dktX2_processBlock_0 := by decide +kernel
theorem dksX2_processBlock_1 : cX2_processBlock.data.toList.drop 23 = dktX2_processBlock_1 := dk_seg dksX2_processBlock_0 23 rfl rfl
theorem dX2_processBlock_0 : decode cX2_processBlock 0 = .ok (.aload_n 0, 1) := dk_42 (dk_at dksX2_processBlock_0 0 rfl rfl)
theorem dX2_processBlock_1 : decode cX2_processBlock 1 = .ok (.getfield 26, 3) := dk_180 0 26 (dk_at dksX2_processBlock_0 1 rfl rfl)
theorem dX2_processBlock_4 : decode cX2_processBlock 4 = .ok (.ifCond .eq 15, 3) := dk_153 0 15 (dk_at dksX2_processBlock_0 4 rfl rfl)
theorem dX2_processBlock_7 : decode cX2_processBlock 7 = .ok (.aload_n 0, 1) := dk_42 (dk_at dksX2_processBlock_0 7 rfl rfl)
theorem dX2_processBlock_8 : decode cX2_processBlock 8 = .ok (.aload_n 1, 1) := dk_43 (dk_at dksX2_processBlock_0 8 rfl rfl)
theorem dX2_processBlock_9 : decode cX2_processBlock 9 = .ok (.iload_n 2, 1) := dk_28 (dk_at dksX2_processBlock_0 9 rfl rfl)
theorem dX2_processBlock_10 : decode cX2_processBlock 10 = .ok (.aload_n 3, 1) := dk_45 (dk_at dksX2_processBlock_0 10 rfl rfl)
theorem dX2_processBlock_11 : decode cX2_processBlock 11 = .ok (.iload 4, 2) := dk_21 4 (dk_at dksX2_processBlock_0 11 rfl rfl)
theorem dX2_processBlock_13 : decode cX2_processBlock 13 = .ok (.invokevirtual 42, 3) := dk_182 0 42 (dk_at dksX2_processBlock_0 13 rfl rfl)
theorem dX2_processBlock_16 : decode cX2_processBlock 16 = .ok (.goto 12, 3) := dk_167 0 12 (dk_at dksX2_processBlock_0 16 rfl rfl)
theorem dX2_processBlock_19 : decode cX2_processBlock 19 = .ok (.aload_n 0, 1) := dk_42 (dk_at dksX2_processBlock_0 19 rfl rfl)
theorem dX2_processBlock_20 : decode cX2_processBlock 20 = .ok (.aload_n 1, 1) := dk_43 (dk_at dksX2_processBlock_0 20 rfl rfl)
theorem dX2_processBlock_21 : decode cX2_processBlock 21 = .ok (.iload_n 2, 1) := dk_28 (dk_at dksX2_processBlock_0 21 rfl rfl)
theorem dX2_processBlock_22 : decode cX2_processBlock 22 = .ok (.aload_n 3, 1) := dk_45 (dk_at dksX2_processBlock_0 22 rfl rfl)
theorem dX2_processBlock_23 : decode cX2_processBlock 23 = .ok (.iload 4, 2) := dk_21 4 (dk_at dksX2_processBlock_1 0 rfl rfl)
theorem dX2_processBlock_25 : decode cX2_processBlock 25 = .ok (.invokevirtual 46, 3) := dk_182 0 46 (dk_at dksX2_processBlock_1 2 rfl rfl)
theorem dX2_processBlock_28 : decode cX2_processBlock 28 = .ok (.ireturn, 1) := dk_172 (dk_at dksX2_processBlock_1 5 rfl rfl)
abbrev cX2_encryptBlock : ByteArray := prog_4_method_5_code
def yX2_encryptBlock : MethodName := ⟨RX2, "encryptBlock", "([BI[BI)I"⟩
def dkwX2_encryptBlock_5 : List UInt8 := [182, 0, 63, 16, 16, 172]
abbrev dktX2_encryptBlock_5 : List UInt8 := dkwX2_encryptBlock_5 ++ []
def dkwX2_encryptBlock_4 : List UInt8 := [132, 9, 1, 167, 255, 196, 42, 22, 5, 45, 21, 4, 182, 0, 63, 42, 22, 7, 45, 21, 4, 16, 8, 96]
abbrev dktX2_encryptBlock_4 : List UInt8 := dkwX2_encryptBlock_4 ++ dktX2_encryptBlock_5
def dkwX2_encryptBlock_3 : List UInt8 := [22, 5, 131, 22, 5, 182, 0, 55, 42, 180, 0, 13, 5, 21, 9, 104, 4, 96, 47, 97, 55, 7]
abbrev dktX2_encryptBlock_3 : List UInt8 := dkwX2_encryptBlock_3 ++ dktX2_encryptBlock_4
def dkwX2_encryptBlock_2 : List UInt8 := [22, 7, 131, 22, 7, 182, 0, 55, 42, 180, 0, 13, 5, 21, 9, 104, 47, 97, 55, 5, 42, 22, 7]
abbrev dktX2_encryptBlock_2 : List UInt8 := dkwX2_encryptBlock_2 ++ dktX2_encryptBlock_3
def dkwX2_encryptBlock_1 : List UInt8 := [42, 180, 0, 13, 4, 47, 97, 55, 7, 4, 54, 9, 21, 9, 42, 180, 0, 9, 163, 0, 57, 42, 22, 5]
abbrev dktX2_encryptBlock_1 : List UInt8 := dkwX2_encryptBlock_1 ++ dktX2_encryptBlock_2
def dkwX2_encryptBlock_0 : List UInt8 := [42, 43, 28, 182, 0, 59, 42, 180, 0, 13, 3, 47, 97, 55, 5, 42, 43, 28, 16, 8, 96, 182, 0, 59]
abbrev dktX2_encryptBlock_0 : List UInt8 := dkwX2_encryptBlock_0 ++ dktX2_encryptBlock_1
theorem dksX2_encryptBlock_0 : cX2_encryptBlock.data.toList.drop 0 = dktX2_encryptBlock_0 := by decide +kernel
theorem dksX2_encryptBlock_1 : cX2_encryptBlock.data.toList.drop 24 = dktX2_encryptBlock_1 := dk_seg dksX2_encryptBlock_0 24 rfl rfl
theorem dksX2_encryptBlock_2 : cX2_encryptBlock.data.toList.drop 48 = dktX2_encryptBlock_2 := dk_seg dksX2_encryptBlock_1 24 rfl rfl
theorem dksX2_encryptBlock_3 : cX2_encryptBlock.data.toList.drop 71 = dktX2_encryptBlock_3 := dk_seg dksX2_encryptBlock_2 23 rfl rfl
theorem dksX2_encryptBlock_4 : cX2_encryptBlock.data.toList.drop 93 = dktX2_encryptBlock_4 := dk_seg dksX2_encryptBlock_3 22 rfl rfl
theorem dksX2_encryptBlock_5 : cX2_encryptBlock.data.toList.drop 117 = dktX2_encryptBlock_5 := dk_seg dksX2_encryptBlock_4 24 rfl rfl
theorem dX2_encryptBlock_0 : decode cX2_encryptBlock 0 = .ok (.aload_n 0, 1) := dk_42 (dk_at dksX2_encryptBlock_0 0 rfl rfl)
theorem dX2_encryptBlock_1 : decode cX2_encryptBlock 1 = .ok (.aload_n 1, 1) := dk_43 (dk_at dksX2_encryptBlock_0 1 rfl rfl)
theorem dX2_encryptBlock_2 : decode cX2_encryptBlock 2 = .ok (.iload_n 2, 1) := dk_28 (dk_at dksX2_encryptBlock_0 2 rfl rfl)
theorem dX2_encryptBlock_3 : decode cX2_encryptBlock 3 = .ok (.invokevirtual 59, 3) := dk_182 0 59 (dk_at dksX2_encryptBlock_0 3 rfl rfl)
theorem dX2_encryptBlock_6 : decode cX2_encryptBlock 6 = .ok (.aload_n 0, 1) := dk_42 (dk_at dksX2_encryptBlock_0 6 rfl rfl)
theorem dX2_encryptBlock_7 : decode cX2_encryptBlock 7 = .ok (.getfield 13, 3) := dk_180 0 13 (dk_at dksX2_encryptBlock_0 7 rfl rfl)
theorem dX2_encryptBlock_10 : decode cX2_encryptBlock 10 = .ok (.iconst 0, 1) := dk_3 (dk_at dksX2_encryptBlock_0 10 rfl rfl)
theorem dX2_encryptBlock_11 : decode cX2_encryptBlock 11 = .ok (.laload, 1) := dk_47 (dk_at dksX2_encryptBlock_0 11 rfl rfl)
theorem dX2_encryptBlock_12 : decode cX2_encryptBlock 12 = .ok (.ladd, 1) := dk_97 (dk_at dksX2_encryptBlock_0 12 rfl rfl)
theorem dX2_encryptBlock_13 : decode cX2_encryptBlock 13 = .ok (.lstore 5, 2) := dk_55 5 (dk_at dksX2_encryptBlock_0 13 rfl rfl)
theorem dX2_encryptBlock_15 : decode cX2_encryptBlock 15 = .ok (.aload_n 0, 1) := dk_42 (dk_at dksX2_encryptBlock_0 15 rfl rfl)
theorem dX2_encryptBlock_16 : decode cX2_encryptBlock 16 = .ok (.aload_n 1, 1) := dk_43 (dk_at dksX2_encryptBlock_0 16 rfl rfl)
theorem dX2_encryptBlock_17 : decode cX2_encryptBlock 17 = .ok (.iload_n 2, 1) := dk_28 (dk_at dksX2_encryptBlock_0 17 rfl rfl)
theorem dX2_encryptBlock_18 : decode cX2_encryptBlock 18 = .ok (.bipush 8, 2) := dk_16 8 (dk_at dksX2_encryptBlock_0 18 rfl rfl)
theorem dX2_encryptBlock_20 : decode cX2_encryptBlock 20 = .ok (.iadd, 1) := dk_96 (dk_at dksX2_encryptBlock_0 20 rfl rfl)
theorem dX2_encryptBlock_21 : decode cX2_encryptBlock 21 = .ok (.invokevirtual 59, 3) := dk_182 0 59 (dk_at dksX2_encryptBlock_0 21 rfl rfl)
theorem dX2_encryptBlock_24 : decode cX2_encryptBlock 24 = .ok (.aload_n 0, 1) := dk_42 (dk_at dksX2_encryptBlock_1 0 rfl rfl)
theorem dX2_encryptBlock_25 : decode cX2_encryptBlock 25 = .ok (.getfield 13, 3) := dk_180 0 13 (dk_at dksX2_encryptBlock_1 1 rfl rfl)
theorem dX2_encryptBlock_28 : decode cX2_encryptBlock 28 = .ok (.iconst 1, 1) := dk_4 (dk_at dksX2_encryptBlock_1 4 rfl rfl)
theorem dX2_encryptBlock_29 : decode cX2_encryptBlock 29 = .ok (.laload, 1) := dk_47 (dk_at dksX2_encryptBlock_1 5 rfl rfl)
theorem dX2_encryptBlock_30 : decode cX2_encryptBlock 30 = .ok (.ladd, 1) := dk_97 (dk_at dksX2_encryptBlock_1 6 rfl rfl)
theorem dX2_encryptBlock_31 : decode cX2_encryptBlock 31 = .ok (.lstore 7, 2) := dk_55 7 (dk_at dksX2_encryptBlock_1 7 rfl rfl)
theorem dX2_encryptBlock_33 : decode cX2_encryptBlock 33 = .ok (.iconst 1, 1) := dk_4 (dk_at dksX2_encryptBlock_1 9 rfl rfl)
theorem dX2_encryptBlock_34 : decode cX2_encryptBlock 34 = .ok (.istore 9, 2) := dk_54 9 (dk_at dksX2_encryptBlock_1 10 rfl rfl)
theorem dX2_encryptBlock_36 : decode cX2_encryptBlock 36 = .ok (.iload 9, 2) := dk_21 9 (dk_at dksX2_encryptBlock_1 12 rfl rfl)
theorem dX2_encryptBlock_38 : decode cX2_encryptBlock 38 = .ok (.aload_n 0, 1) := dk_42 (dk_at dksX2_encryptBlock_1 14 rfl rfl)
theorem dX2_encryptBlock_39 : decode cX2_encryptBlock 39 = .ok (.getfield 9, 3) := dk_180 0 9 (dk_at dksX2_encryptBlock_1 15 rfl rfl)
theorem dX2_encryptBlock_42 : decode cX2_encryptBlock 42 = .ok (.if_icmp .gt 57, 3) := dk_163 0 57 (dk_at dksX2_encryptBlock_1 18 rfl rfl)
theorem dX2_encryptBlock_45 : decode cX2_encryptBlock 45 = .ok (.aload_n 0, 1) := dk_42 (dk_at dksX2_encryptBlock_1 21 rfl rfl)
theorem dX2_encryptBlock_46 : decode cX2_encryptBlock 46 = .ok (.lload 5, 2) := dk_22 5 (dk_at dksX2_encryptBlock_1 22 rfl rfl)
theorem dX2_encryptBlock_48 : decode cX2_encryptBlock 48 = .ok (.lload 7, 2) := dk_22 7 (dk_at dksX2_encryptBlock_2 0 rfl rfl)
theorem dX2_encryptBlock_50 : decode cX2_encryptBlock 50 = .ok (.lxor, 1) := dk_131 (dk_at dksX2_encryptBlock_2 2 rfl rfl)
theorem dX2_encryptBlock_51 : decode cX2_encryptBlock 51 = .ok (.lload 7, 2) := dk_22 7 (dk_at dksX2_encryptBlock_2 3 rfl rfl)
theorem dX2_encryptBlock_53 : decode cX2_encryptBlock 53 = .ok (.invokevirtual 55, 3) := dk_182 0 55 (dk_at dksX2_encryptBlock_2 5 rfl rfl)
theorem dX2_encryptBlock_56 : decode cX2_encryptBlock 56 = .ok (.aload_n 0, 1) := dk_42 (dk_at dksX2_encryptBlock_2 8 rfl rfl)
theorem dX2_encryptBlock_57 : decode cX2_encryptBlock 57 = .ok (.getfield 13, 3) := dk_180 0 13 (dk_at dksX2_encryptBlock_2 9 rfl rfl)
theorem dX2_encryptBlock_60 : decode cX2_encryptBlock 60 = .ok (.iconst 2, 1) := dk_5 (dk_at dksX2_encryptBlock_2 12 rfl rfl)
theorem dX2_encryptBlock_61 : decode cX2_encryptBlock 61 = .ok (.iload 9, 2) := dk_21 9 (dk_at dksX2_encryptBlock_2 13 rfl rfl)
theorem dX2_encryptBlock_63 : decode cX2_encryptBlock 63 = .ok (.imul, 1) := dk_104 (dk_at dksX2_encryptBlock_2 15 rfl rfl)
theorem dX2_encryptBlock_64 : decode cX2_encryptBlock 64 = .ok (.laload, 1) := dk_47 (dk_at dksX2_encryptBlock_2 16 rfl rfl)
theorem dX2_encryptBlock_65 : decode cX2_encryptBlock 65 = .ok (.ladd, 1) := dk_97 (dk_at dksX2_encryptBlock_2 17 rfl rfl)
theorem dX2_encryptBlock_66 : decode cX2_encryptBlock 66 = .ok (.lstore 5, 2) := dk_55 5 (dk_at dksX2_encryptBlock_2 18 rfl rfl)
theorem dX2_encryptBlock_68 : decode cX2_encryptBlock 68 = .ok (.aload_n 0, 1) := dk_42 (dk_at dksX2_encryptBlock_2 20 rfl rfl)
theorem dX2_encryptBlock_69 : decode cX2_encryptBlock 69 = .ok (.lload 7, 2) := dk_22 7 (dk_at dksX2_encryptBlock_2 21 rfl rfl)
theorem dX2_encryptBlock_71 : decode cX2_encryptBlock 71 = .ok (.lload 5, 2) := dk_22 5 (dk_at dksX2_encryptBlock_3 0 rfl rfl)
theorem dX2_encryptBlock_73 : decode cX2_encryptBlock 73 = .ok (.lxor, 1) := dk_131 (dk_at dksX2_encryptBlock_3 2 rfl rfl)
theorem dX2_encryptBlock_74 : decode cX2_encryptBlock 74 = .ok (.lload 5, 2) := dk_22 5 (dk_at dksX2_encryptBlock_3 3 rfl rfl)
theorem dX2_encryptBlock_76 : decode cX2_encryptBlock 76 = .ok (.invokevirtual 55, 3) := dk_182 0 55 (dk_at dksX2_encryptBlock_3 5 rfl rfl)
theorem dX2_encryptBlock_79 : decode cX2_encryptBlock 79 = .ok (.aload_n 0, 1) := dk_42 (dk_at dksX2_encryptBlock_3 8 rfl rfl)
theorem dX2_encryptBlock_80 : decode cX2_encryptBlock 80 = .ok (.getfield 13, 3) := dk_180 0 13 (dk_at dksX2_encryptBlock_3 9 rfl rfl)
theorem dX2_encryptBlock_83 : decode cX2_encryptBlock 83 = .ok (.iconst 2, 1) := dk_5 (dk_at dksX2_encryptBlock_3 12 rfl rfl)
theorem dX2_encryptBlock_84 : decode cX2_encryptBlock 84 = .ok (.iload 9, 2) := dk_21 9 (dk_at dksX2_encryptBlock_3 13 rfl rfl)
theorem dX2_encryptBlock_86 : decode cX2_encryptBlock 86 = .ok (.imul, 1) := dk_104 (dk_at dksX2_encryptBlock_3 15 rfl rfl)
theorem dX2_encryptBlock_87 : decode cX2_encryptBlock 87 = .ok (.iconst 1, 1) := dk_4 (dk_at dksX2_encryptBlock_3 16 rfl rfl)
theorem dX2_encryptBlock_88 : decode cX2_encryptBlock 88 = .ok (.iadd, 1) := dk_96 (dk_at dksX2_encryptBlock_3 17 rfl rfl)
theorem dX2_encryptBlock_89 : decode cX2_encryptBlock 89 = .ok (.laload, 1) := dk_47 (dk_at dksX2_encryptBlock_3 18 rfl rfl)
theorem dX2_encryptBlock_90 : decode cX2_encryptBlock 90 = .ok (.ladd, 1) := dk_97 (dk_at dksX2_encryptBlock_3 19 rfl rfl)
theorem dX2_encryptBlock_91 : decode cX2_encryptBlock 91 = .ok (.lstore 7, 2) := dk_55 7 (dk_at dksX2_encryptBlock_3 20 rfl rfl)
theorem dX2_encryptBlock_93 : decode cX2_encryptBlock 93 = .ok (.iinc 9 1, 3) := dk_132 9 1 (dk_at dksX2_encryptBlock_4 0 rfl rfl)
theorem dX2_encryptBlock_96 : decode cX2_encryptBlock 96 = .ok (.goto (-60), 3) := dk_167 255 196 (dk_at dksX2_encryptBlock_4 3 rfl rfl)
theorem dX2_encryptBlock_99 : decode cX2_encryptBlock 99 = .ok (.aload_n 0, 1) := dk_42 (dk_at dksX2_encryptBlock_4 6 rfl rfl)
theorem dX2_encryptBlock_100 : decode cX2_encryptBlock 100 = .ok (.lload 5, 2) := dk_22 5 (dk_at dksX2_encryptBlock_4 7 rfl rfl)
theorem dX2_encryptBlock_102 : decode cX2_encryptBlock 102 = .ok (.aload_n 3, 1) := dk_45 (dk_at dksX2_encryptBlock_4 9 rfl rfl)
theorem dX2_encryptBlock_103 : decode cX2_encryptBlock 103 = .ok (.iload 4, 2) := dk_21 4 (dk_at dksX2_encryptBlock_4 10 rfl rfl)
theorem dX2_encryptBlock_105 : decode cX2_encryptBlock 105 = .ok (.invokevirtual 63, 3) := dk_182 0 63 (dk_at dksX2_encryptBlock_4 12 rfl rfl)
theorem dX2_encryptBlock_108 : decode cX2_encryptBlock 108 = .ok (.aload_n 0, 1) := dk_42 (dk_at dksX2_encryptBlock_4 15 rfl rfl)
theorem dX2_encryptBlock_109 : decode cX2_encryptBlock 109 = .ok (.lload 7, 2) := dk_22 7 (dk_at dksX2_encryptBlock_4 16 rfl rfl)
theorem dX2_encryptBlock_111 : decode cX2_encryptBlock 111 = .ok (.aload_n 3, 1) := dk_45 (dk_at dksX2_encryptBlock_4 18 rfl rfl)
theorem dX2_encryptBlock_112 : decode cX2_encryptBlock 112 = .ok (.iload 4, 2) := dk_21 4 (dk_at dksX2_encryptBlock_4 19 rfl rfl)
theorem dX2_encryptBlock_114 : decode cX2_encryptBlock 114 = .ok (.bipush 8, 2) := dk_16 8 (dk_at dksX2_encryptBlock_4 21 rfl rfl)
theorem dX2_encryptBlock_116 : decode cX2_encryptBlock 116 = .ok (.iadd, 1) := dk_96 (dk_at dksX2_encryptBlock_4 23 rfl rfl)
theorem dX2_encryptBlock_117 : decode cX2_encryptBlock 117 = .ok (.invokevirtual 63, 3) := dk_182 0 63 (dk_at dksX2_encryptBlock_5 0 rfl rfl)
theorem dX2_encryptBlock_120 : decode cX2_encryptBlock 120 = .ok (.bipush 16, 2) := dk_16 16 (dk_at dksX2_encryptBlock_5 3 rfl rfl)
theorem dX2_encryptBlock_122 : decode cX2_encryptBlock 122 = .ok (.ireturn, 1) := dk_172 (dk_at dksX2_encryptBlock_5 5 rfl rfl)
abbrev cX2_bytesToWord : ByteArray := prog_4_method_9_code
def yX2_bytesToWord : MethodName := ⟨RX2, "bytesToWord", "([BI)J"⟩
def dkwX2_bytesToWord_1 : List UInt8 := [126, 133, 97, 66, 132, 5, 255, 167, 255, 231, 33, 173]
abbrev dktX2_bytesToWord_1 : List UInt8 := dkwX2_bytesToWord_1 ++ []
def dkwX2_bytesToWord_0 : List UInt8 := [9, 66, 16, 7, 54, 5, 21, 5, 155, 0, 26, 33, 16, 8, 121, 43, 21, 5, 28, 96, 51, 17, 0, 255]
abbrev dktX2_bytesToWord_0 : List UInt8 := dkwX2_bytesToWord_0 ++ dktX2_bytesToWord_1
theorem dksX2_bytesToWord_0 : cX2_bytesToWord.data.toList.drop 0 = dktX2_bytesToWord_0 := by decide +kernel
theorem dksX2_bytesToWord_1 : cX2_bytesToWord.data.toList.drop 24 = dktX2_bytesToWord_1 := dk_seg dksX2_bytesToWord_0 24 rfl rfl
theorem dX2_bytesToWord_0 : decode cX2_bytesToWord 0 = .ok (.lconst 0, 1) := dk_9 (dk_at dksX2_bytesToWord_0 0 rfl rfl)
theorem dX2_bytesToWord_1 : decode cX2_bytesToWord 1 = .ok (.lstore_n 3, 1) := dk_66 (dk_at dksX2_bytesToWord_0 1 rfl rfl)
theorem dX2_bytesToWord_2 : decode cX2_bytesToWord 2 = .ok (.bipush 7, 2) := dk_16 7 (dk_at dksX2_bytesToWord_0 2 rfl rfl)
theorem dX2_bytesToWord_4 : decode cX2_bytesToWord 4 = .ok (.istore 5, 2) := dk_54 5 (dk_at dksX2_bytesToWord_0 4 rfl rfl)
theorem dX2_bytesToWord_6 : decode cX2_bytesToWord 6 = .ok (.iload 5, 2) := dk_21 5 (dk_at dksX2_bytesToWord_0 6 rfl rfl)
theorem dX2_bytesToWord_8 : decode cX2_bytesToWord 8 = .ok (.ifCond .lt 26, 3) := dk_155 0 26 (dk_at dksX2_bytesToWord_0 8 rfl rfl)
theorem dX2_bytesToWord_11 : decode cX2_bytesToWord 11 = .ok (.lload_n 3, 1) := dk_33 (dk_at dksX2_bytesToWord_0 11 rfl rfl)
theorem dX2_bytesToWord_12 : decode cX2_bytesToWord 12 = .ok (.bipush 8, 2) := dk_16 8 (dk_at dksX2_bytesToWord_0 12 rfl rfl)
theorem dX2_bytesToWord_14 : decode cX2_bytesToWord 14 = .ok (.lshl, 1) := dk_121 (dk_at dksX2_bytesToWord_0 14 rfl rfl)
theorem dX2_bytesToWord_15 : decode cX2_bytesToWord 15 = .ok (.aload_n 1, 1) := dk_43 (dk_at dksX2_bytesToWord_0 15 rfl rfl)
theorem dX2_bytesToWord_16 : decode cX2_bytesToWord 16 = .ok (.iload 5, 2) := dk_21 5 (dk_at dksX2_bytesToWord_0 16 rfl rfl)
theorem dX2_bytesToWord_18 : decode cX2_bytesToWord 18 = .ok (.iload_n 2, 1) := dk_28 (dk_at dksX2_bytesToWord_0 18 rfl rfl)
theorem dX2_bytesToWord_19 : decode cX2_bytesToWord 19 = .ok (.iadd, 1) := dk_96 (dk_at dksX2_bytesToWord_0 19 rfl rfl)
theorem dX2_bytesToWord_20 : decode cX2_bytesToWord 20 = .ok (.baload, 1) := dk_51 (dk_at dksX2_bytesToWord_0 20 rfl rfl)
theorem dX2_bytesToWord_21 : decode cX2_bytesToWord 21 = .ok (.sipush 255, 3) := dk_17 0 255 (dk_at dksX2_bytesToWord_0 21 rfl rfl)
theorem dX2_bytesToWord_24 : decode cX2_bytesToWord 24 = .ok (.iand, 1) := dk_126 (dk_at dksX2_bytesToWord_1 0 rfl rfl)
theorem dX2_bytesToWord_25 : decode cX2_bytesToWord 25 = .ok (.i2l, 1) := dk_133 (dk_at dksX2_bytesToWord_1 1 rfl rfl)
theorem dX2_bytesToWord_26 : decode cX2_bytesToWord 26 = .ok (.ladd, 1) := dk_97 (dk_at dksX2_bytesToWord_1 2 rfl rfl)
theorem dX2_bytesToWord_27 : decode cX2_bytesToWord 27 = .ok (.lstore_n 3, 1) := dk_66 (dk_at dksX2_bytesToWord_1 3 rfl rfl)
theorem dX2_bytesToWord_28 : decode cX2_bytesToWord 28 = .ok (.iinc 5 (-1), 3) := dk_132 5 255 (dk_at dksX2_bytesToWord_1 4 rfl rfl)
theorem dX2_bytesToWord_31 : decode cX2_bytesToWord 31 = .ok (.goto (-25), 3) := dk_167 255 231 (dk_at dksX2_bytesToWord_1 7 rfl rfl)
theorem dX2_bytesToWord_34 : decode cX2_bytesToWord 34 = .ok (.lload_n 3, 1) := dk_33 (dk_at dksX2_bytesToWord_1 10 rfl rfl)
theorem dX2_bytesToWord_35 : decode cX2_bytesToWord 35 = .ok (.lreturn, 1) := dk_173 (dk_at dksX2_bytesToWord_1 11 rfl rfl)
abbrev cX2_wordToBytes : ByteArray := prog_4_method_10_code
def yX2_wordToBytes : MethodName := ⟨RX2, "wordToBytes", "(J[BI)V"⟩
def dkwX2_wordToBytes_1 : List UInt8 := [64, 132, 5, 1, 167, 255, 231, 177]
abbrev dktX2_wordToBytes_1 : List UInt8 := dkwX2_wordToBytes_1 ++ []
def dkwX2_wordToBytes_0 : List UInt8 := [3, 54, 5, 21, 5, 16, 8, 162, 0, 24, 45, 21, 5, 21, 4, 96, 31, 136, 145, 84, 31, 16, 8, 125]
abbrev dktX2_wordToBytes_0 : List UInt8 := dkwX2_wordToBytes_0 ++ dktX2_wordToBytes_1
theorem dksX2_wordToBytes_0 : cX2_wordToBytes.data.toList.drop 0 = dktX2_wordToBytes_0 := by decide +kernel
theorem dksX2_wordToBytes_1 : cX2_wordToBytes.data.toList.drop 24 = dktX2_wordToBytes_1 := dk_seg dksX2_wordToBytes_0 24 rfl rfl
theorem dX2_wordToBytes_0 : decode cX2_wordToBytes 0 = .ok (.iconst 0, 1) := dk_3 (dk_at dksX2_wordToBytes_0 0 rfl rfl)
theorem dX2_wordToBytes_1 : decode cX2_wordToBytes 1 = .ok (.istore 5, 2) := dk_54 5 (dk_at dksX2_wordToBytes_0 1 rfl rfl)
theorem dX2_wordToBytes_3 : decode cX2_wordToBytes 3 = .ok (.iload 5, 2) := dk_21 5 (dk_at dksX2_wordToBytes_0 3 rfl rfl)
theorem dX2_wordToBytes_5 : decode cX2_wordToBytes 5 = .ok (.bipush 8, 2) := dk_16 8 (dk_at dksX2_wordToBytes_0 5 rfl rfl)
theorem dX2_wordToBytes_7 : decode cX2_wordToBytes 7 = .ok (.if_icmp .ge 24, 3) := dk_162 0 24 (dk_at dksX2_wordToBytes_0 7 rfl rfl)
theorem dX2_wordToBytes_10 : decode cX2_wordToBytes 10 = .ok (.aload_n 3, 1) := dk_45 (dk_at dksX2_wordToBytes_0 10 rfl rfl)
theorem dX2_wordToBytes_11 : decode cX2_wordToBytes 11 = .ok (.iload 5, 2) := dk_21 5 (dk_at dksX2_wordToBytes_0 11 rfl rfl)
theorem dX2_wordToBytes_13 : decode cX2_wordToBytes 13 = .ok (.iload 4, 2) := dk_21 4 (dk_at dksX2_wordToBytes_0 13 rfl rfl)
theorem dX2_wordToBytes_15 : decode cX2_wordToBytes 15 = .ok (.iadd, 1) := dk_96 (dk_at dksX2_wordToBytes_0 15 rfl rfl)
theorem dX2_wordToBytes_16 : decode cX2_wordToBytes 16 = .ok (.lload_n 1, 1) := dk_31 (dk_at dksX2_wordToBytes_0 16 rfl rfl)
theorem dX2_wordToBytes_17 : decode cX2_wordToBytes 17 = .ok (.l2i, 1) := dk_136 (dk_at dksX2_wordToBytes_0 17 rfl rfl)
theorem dX2_wordToBytes_18 : decode cX2_wordToBytes 18 = .ok (.i2b, 1) := dk_145 (dk_at dksX2_wordToBytes_0 18 rfl rfl)
theorem dX2_wordToBytes_19 : decode cX2_wordToBytes 19 = .ok (.bastore, 1) := dk_84 (dk_at dksX2_wordToBytes_0 19 rfl rfl)
theorem dX2_wordToBytes_20 : decode cX2_wordToBytes 20 = .ok (.lload_n 1, 1) := dk_31 (dk_at dksX2_wordToBytes_0 20 rfl rfl)
theorem dX2_wordToBytes_21 : decode cX2_wordToBytes 21 = .ok (.bipush 8, 2) := dk_16 8 (dk_at dksX2_wordToBytes_0 21 rfl rfl)
theorem dX2_wordToBytes_23 : decode cX2_wordToBytes 23 = .ok (.lushr, 1) := dk_125 (dk_at dksX2_wordToBytes_0 23 rfl rfl)
theorem dX2_wordToBytes_24 : decode cX2_wordToBytes 24 = .ok (.lstore_n 1, 1) := dk_64 (dk_at dksX2_wordToBytes_1 0 rfl rfl)
theorem dX2_wordToBytes_25 : decode cX2_wordToBytes 25 = .ok (.iinc 5 1, 3) := dk_132 5 1 (dk_at dksX2_wordToBytes_1 1 rfl rfl)
theorem dX2_wordToBytes_28 : decode cX2_wordToBytes 28 = .ok (.goto (-25), 3) := dk_167 255 231 (dk_at dksX2_wordToBytes_1 4 rfl rfl)
theorem dX2_wordToBytes_31 : decode cX2_wordToBytes 31 = .ok (.return_, 1) := dk_177 (dk_at dksX2_wordToBytes_1 7 rfl rfl)
abbrev cX2_decryptBlock : ByteArray := prog_4_method_6_code
def yX2_decryptBlock : MethodName := ⟨RX2, "decryptBlock", "([BI[BI)I"⟩
def dkwX2_decryptBlock_5 : List UInt8 := [182, 0, 63, 16, 16, 172]
abbrev dktX2_decryptBlock_5 : List UInt8 := dkwX2_decryptBlock_5 ++ []
def dkwX2_decryptBlock_4 : List UInt8 := [47, 101, 45, 21, 4, 182, 0, 63, 42, 22, 7, 42, 180, 0, 13, 4, 47, 101, 45, 21, 4, 16, 8, 96]
abbrev dktX2_decryptBlock_4 : List UInt8 := dkwX2_decryptBlock_4 ++ dktX2_decryptBlock_5
def dkwX2_decryptBlock_3 : List UInt8 := [22, 7, 182, 0, 67, 22, 7, 131, 55, 5, 132, 9, 255, 167, 255, 199, 42, 22, 5, 42, 180, 0, 13, 3]
abbrev dktX2_decryptBlock_3 : List UInt8 := dkwX2_decryptBlock_3 ++ dktX2_decryptBlock_4
def dkwX2_decryptBlock_2 : List UInt8 := [22, 5, 182, 0, 67, 22, 5, 131, 55, 7, 42, 22, 5, 42, 180, 0, 13, 5, 21, 9, 104, 47, 101]
abbrev dktX2_decryptBlock_2 : List UInt8 := dkwX2_decryptBlock_2 ++ dktX2_decryptBlock_3
def dkwX2_decryptBlock_1 : List UInt8 := [54, 9, 21, 9, 4, 161, 0, 57, 42, 22, 7, 42, 180, 0, 13, 5, 21, 9, 104, 4, 96, 47, 101]
abbrev dktX2_decryptBlock_1 : List UInt8 := dkwX2_decryptBlock_1 ++ dktX2_decryptBlock_2
def dkwX2_decryptBlock_0 : List UInt8 := [42, 43, 28, 182, 0, 59, 55, 5, 42, 43, 28, 16, 8, 96, 182, 0, 59, 55, 7, 42, 180, 0, 9]
abbrev dktX2_decryptBlock_0 : List UInt8 := dkwX2_decryptBlock_0 ++ dktX2_decryptBlock_1
theorem dksX2_decryptBlock_0 : cX2_decryptBlock.data.toList.drop 0 = dktX2_decryptBlock_0 := by decide +kernel
theorem dksX2_decryptBlock_1 : cX2_decryptBlock.data.toList.drop 23 = dktX2_decryptBlock_1 := dk_seg dksX2_decryptBlock_0 23 rfl rfl
theorem dksX2_decryptBlock_2 : cX2_decryptBlock.data.toList.drop 46 = dktX2_decryptBlock_2 := dk_seg dksX2_decryptBlock_1 23 rfl rfl
theorem dksX2_decryptBlock_3 : cX2_decryptBlock.data.toList.drop 69 = dktX2_decryptBlock_3 := dk_seg dksX2_decryptBlock_2 23 rfl rfl
theorem dksX2_decryptBlock_4 : cX2_decryptBlock.data.toList.drop 93 = dktX2_decryptBlock_4 := dk_seg dksX2_decryptBlock_3 24 rfl rfl
theorem dksX2_decryptBlock_5 : cX2_decryptBlock.data.toList.drop 117 = dktX2_decryptBlock_5 := dk_seg dksX2_decryptBlock_4 24 rfl rfl
theorem dX2_decryptBlock_0 : decode cX2_decryptBlock 0 = .ok (.aload_n 0, 1) := dk_42 (dk_at dksX2_decryptBlock_0 0 rfl rfl)
theorem dX2_decryptBlock_1 : decode cX2_decryptBlock 1 = .ok (.aload_n 1, 1) := dk_43 (dk_at dksX2_decryptBlock_0 1 rfl rfl)
theorem dX2_decryptBlock_2 : decode cX2_decryptBlock 2 = .ok (.iload_n 2, 1) := dk_28 (dk_at dksX2_decryptBlock_0 2 rfl rfl)
theorem dX2_decryptBlock_3 : decode cX2_decryptBlock 3 = .ok (.invokevirtual 59, 3) := dk_182 0 59 (dk_at dksX2_decryptBlock_0 3 rfl rfl)
theorem dX2_decryptBlock_6 : decode cX2_decryptBlock 6 = .ok (.lstore 5, 2) := dk_55 5 (dk_at dksX2_decryptBlock_0 6 rfl rfl)
theorem dX2_decryptBlock_8 : decode cX2_decryptBlock 8 = .ok (.aload_n 0, 1) := dk_42 (dk_at dksX2_decryptBlock_0 8 rfl rfl)
theorem dX2_decryptBlock_9 : decode cX2_decryptBlock 9 = .ok (.aload_n 1, 1) := dk_43 (dk_at dksX2_decryptBlock_0 9 rfl rfl)
theorem dX2_decryptBlock_10 : decode cX2_decryptBlock 10 = .ok (.iload_n 2, 1) := dk_28 (dk_at dksX2_decryptBlock_0 10 rfl rfl)
theorem dX2_decryptBlock_11 : decode cX2_decryptBlock 11 = .ok (.bipush 8, 2) := dk_16 8 (dk_at dksX2_decryptBlock_0 11 rfl rfl)
theorem dX2_decryptBlock_13 : decode cX2_decryptBlock 13 = .ok (.iadd, 1) := dk_96 (dk_at dksX2_decryptBlock_0 13 rfl rfl)
theorem dX2_decryptBlock_14 : decode cX2_decryptBlock 14 = .ok (.invokevirtual 59, 3) := dk_182 0 59 (dk_at dksX2_decryptBlock_0 14 rfl rfl)
theorem dX2_decryptBlock_17 : decode cX2_decryptBlock 17 = .ok (.lstore 7, 2) := dk_55 7 (dk_at dksX2_decryptBlock_0 17 rfl rfl)
theorem dX2_decryptBlock_19 : decode cX2_decryptBlock 19 = .ok (.aload_n 0, 1) := dk_42 (dk_at dksX2_decryptBlock_0 19 rfl rfl)
theorem dX2_decryptBlock_20 : decode cX2_decryptBlock 20 = .ok (.getfield 9, 3) := dk_180 0 9 (dk_at dksX2_decryptBlock_0 20 rfl rfl)
theorem dX2_decryptBlock_23 : decode cX2_decryptBlock 23 = .ok (.istore 9, 2) := dk_54 9 (dk_at dksX2_decryptBlock_1 0 rfl rfl)
theorem dX2_decryptBlock_25 : decode cX2_decryptBlock 25 = .ok (.iload 9, 2) := dk_21 9 (dk_at dksX2_decryptBlock_1 2 rfl rfl)
theorem dX2_decryptBlock_27 : decode cX2_decryptBlock 27 = .ok (.iconst 1, 1) := dk_4 (dk_at dksX2_decryptBlock_1 4 rfl rfl)
theorem dX2_decryptBlock_28 : decode cX2_decryptBlock 28 = .ok (.if_icmp .lt 57, 3) := dk_161 0 57 (dk_at dksX2_decryptBlock_1 5 rfl rfl)
theorem dX2_decryptBlock_31 : decode cX2_decryptBlock 31 = .ok (.aload_n 0, 1) := dk_42 (dk_at dksX2_decryptBlock_1 8 rfl rfl)
theorem dX2_decryptBlock_32 : decode cX2_decryptBlock 32 = .ok (.lload 7, 2) := dk_22 7 (dk_at dksX2_decryptBlock_1 9 rfl rfl)
theorem dX2_decryptBlock_34 : decode cX2_decryptBlock 34 = .ok (.aload_n 0, 1) := dk_42 (dk_at dksX2_decryptBlock_1 11 rfl rfl)
theorem dX2_decryptBlock_35 : decode cX2_decryptBlock 35 = .ok (.getfield 13, 3) := dk_180 0 13 (dk_at dksX2_decryptBlock_1 12 rfl rfl)
theorem dX2_decryptBlock_38 : decode cX2_decryptBlock 38 = .ok (.iconst 2, 1) := dk_5 (dk_at dksX2_decryptBlock_1 15 rfl rfl)
theorem dX2_decryptBlock_39 : decode cX2_decryptBlock 39 = .ok (.iload 9, 2) := dk_21 9 (dk_at dksX2_decryptBlock_1 16 rfl rfl)
theorem dX2_decryptBlock_41 : decode cX2_decryptBlock 41 = .ok (.imul, 1) := dk_104 (dk_at dksX2_decryptBlock_1 18 rfl rfl)
theorem dX2_decryptBlock_42 : decode cX2_decryptBlock 42 = .ok (.iconst 1, 1) := dk_4 (dk_at dksX2_decryptBlock_1 19 rfl rfl)
theorem dX2_decryptBlock_43 : decode cX2_decryptBlock 43 = .ok (.iadd, 1) := dk_96 (dk_at dksX2_decryptBlock_1 20 rfl rfl)
theorem dX2_decryptBlock_44 : decode cX2_decryptBlock 44 = .ok (.laload, 1) := dk_47 (dk_at dksX2_decryptBlock_1 21 rfl rfl)
theorem dX2_decryptBlock_45 : decode cX2_decryptBlock 45 = .ok (.lsub, 1) := dk_101 (dk_at dksX2_decryptBlock_1 22 rfl rfl)
theorem dX2_decryptBlock_46 : decode cX2_decryptBlock 46 = .ok (.lload 5, 2) := dk_22 5 (dk_at dksX2_decryptBlock_2 0 rfl rfl)
theorem dX2_decryptBlock_48 : decode cX2_decryptBlock 48 = .ok (.invokevirtual 67, 3) := dk_182 0 67 (dk_at dksX2_decryptBlock_2 2 rfl rfl)
theorem dX2_decryptBlock_51 : decode cX2_decryptBlock 51 = .ok (.lload 5, 2) := dk_22 5 (dk_at dksX2_decryptBlock_2 5 rfl rfl)
theorem dX2_decryptBlock_53 : decode cX2_decryptBlock 53 = .ok (.lxor, 1) := dk_131 (dk_at dksX2_decryptBlock_2 7 rfl rfl)
theorem dX2_decryptBlock_54 : decode cX2_decryptBlock 54 = .ok (.lstore 7, 2) := dk_55 7 (dk_at dksX2_decryptBlock_2 8 rfl rfl)
theorem dX2_decryptBlock_56 : decode cX2_decryptBlock 56 = .ok (.aload_n 0, 1) := dk_42 (dk_at dksX2_decryptBlock_2 10 rfl rfl)
theorem dX2_decryptBlock_57 : decode cX2_decryptBlock 57 = .ok (.lload 5, 2) := dk_22 5 (dk_at dksX2_decryptBlock_2 11 rfl rfl)
theorem dX2_decryptBlock_59 : decode cX2_decryptBlock 59 = .ok (.aload_n 0, 1) := dk_42 (dk_at dksX2_decryptBlock_2 13 rfl rfl)
theorem dX2_decryptBlock_60 : decode cX2_decryptBlock 60 = .ok (.getfield 13, 3) := dk_180 0 13 (dk_at dksX2_decryptBlock_2 14 rfl rfl)
theorem dX2_decryptBlock_63 : decode cX2_decryptBlock 63 = .ok (.iconst 2, 1) := dk_5 (dk_at dksX2_decryptBlock_2 17 rfl rfl)
theorem dX2_decryptBlock_64 : decode cX2_decryptBlock 64 = .ok (.iload 9, 2) := dk_21 9 (dk_at dksX2_decryptBlock_2 18 rfl rfl)
theorem dX2_decryptBlock_66 : decode cX2_decryptBlock 66 = .ok (.imul, 1) := dk_104 (dk_at dksX2_decryptBlock_2 20 rfl rfl)
theorem dX2_decryptBlock_67 : decode cX2_decryptBlock 67 = .ok (.laload, 1) := dk_47 (dk_at dksX2_decryptBlock_2 21 rfl rfl)
theorem dX2_decryptBlock_68 : decode cX2_decryptBlock 68 = .ok (.lsub, 1) := dk_101 (dk_at dksX2_decryptBlock_2 22 rfl rfl)
theorem dX2_decryptBlock_69 : decode cX2_decryptBlock 69 = .ok (.lload 7, 2) := dk_22 7 (dk_at dksX2_decryptBlock_3 0 rfl rfl)
theorem dX2_decryptBlock_71 : decode cX2_decryptBlock 71 = .ok (.invokevirtual 67, 3) := dk_182 0 67 (dk_at dksX2_decryptBlock_3 2 rfl rfl)
theorem dX2_decryptBlock_74 : decode cX2_decryptBlock 74 = .ok (.lload 7, 2) := dk_22 7 (dk_at dksX2_decryptBlock_3 5 rfl rfl)
theorem dX2_decryptBlock_76 : decode cX2_decryptBlock 76 = .ok (.lxor, 1) := dk_131 (dk_at dksX2_decryptBlock_3 7 rfl rfl)
theorem dX2_decryptBlock_77 : decode cX2_decryptBlock 77 = .ok (.lstore 5, 2) := dk_55 5 (dk_at dksX2_decryptBlock_3 8 rfl rfl)
theorem dX2_decryptBlock_79 : decode cX2_decryptBlock 79 = .ok (.iinc 9 (-1), 3) := dk_132 9 255 (dk_at dksX2_decryptBlock_3 10 rfl rfl)
theorem dX2_decryptBlock_82 : decode cX2_decryptBlock 82 = .ok (.goto (-57), 3) := dk_167 255 199 (dk_at dksX2_decryptBlock_3 13 rfl rfl)
theorem dX2_decryptBlock_85 : decode cX2_decryptBlock 85 = .ok (.aload_n 0, 1) := dk_42 (dk_at dksX2_decryptBlock_3 16 rfl rfl)
theorem dX2_decryptBlock_86 : decode cX2_decryptBlock 86 = .ok (.lload 5, 2) := dk_22 5 (dk_at dksX2_decryptBlock_3 17 rfl rfl)
theorem dX2_decryptBlock_88 : decode cX2_decryptBlock 88 = .ok (.aload_n 0, 1) := dk_42 (dk_at dksX2_decryptBlock_3 19 rfl rfl)
theorem dX2_decryptBlock_89 : decode cX2_decryptBlock 89 = .ok (.getfield 13, 3) := dk_180 0 13 (dk_at dksX2_decryptBlock_3 20 rfl rfl)
theorem dX2_decryptBlock_92 : decode cX2_decryptBlock 92 = .ok (.iconst 0, 1) := dk_3 (dk_at dksX2_decryptBlock_3 23 rfl rfl)
theorem dX2_decryptBlock_93 : decode cX2_decryptBlock 93 = .ok (.laload, 1) := dk_47 (dk_at dksX2_decryptBlock_4 0 rfl rfl)
theorem dX2_decryptBlock_94 : decode cX2_decryptBlock 94 = .ok (.lsub, 1) := dk_101 (dk_at dksX2_decryptBlock_4 1 rfl rfl)
theorem dX2_decryptBlock_95 : decode cX2_decryptBlock 95 = .ok (.aload_n 3, 1) := dk_45 (dk_at dksX2_decryptBlock_4 2 rfl rfl)
theorem dX2_decryptBlock_96 : decode cX2_decryptBlock 96 = .ok (.iload 4, 2) := dk_21 4 (dk_at dksX2_decryptBlock_4 3 rfl rfl)
theorem dX2_decryptBlock_98 : decode cX2_decryptBlock 98 = .ok (.invokevirtual 63, 3) := dk_182 0 63 (dk_at dksX2_decryptBlock_4 5 rfl rfl)
theorem dX2_decryptBlock_101 : decode cX2_decryptBlock 101 = .ok (.aload_n 0, 1) := dk_42 (dk_at dksX2_decryptBlock_4 8 rfl rfl)
theorem dX2_decryptBlock_102 : decode cX2_decryptBlock 102 = .ok (.lload 7, 2) := dk_22 7 (dk_at dksX2_decryptBlock_4 9 rfl rfl)
theorem dX2_decryptBlock_104 : decode cX2_decryptBlock 104 = .ok (.aload_n 0, 1) := dk_42 (dk_at dksX2_decryptBlock_4 11 rfl rfl)
theorem dX2_decryptBlock_105 : decode cX2_decryptBlock 105 = .ok (.getfield 13, 3) := dk_180 0 13 (dk_at dksX2_decryptBlock_4 12 rfl rfl)
theorem dX2_decryptBlock_108 : decode cX2_decryptBlock 108 = .ok (.iconst 1, 1) := dk_4 (dk_at dksX2_decryptBlock_4 15 rfl rfl)
theorem dX2_decryptBlock_109 : decode cX2_decryptBlock 109 = .ok (.laload, 1) := dk_47 (dk_at dksX2_decryptBlock_4 16 rfl rfl)
theorem dX2_decryptBlock_110 : decode cX2_decryptBlock 110 = .ok (.lsub, 1) := dk_101 (dk_at dksX2_decryptBlock_4 17 rfl rfl)
theorem dX2_decryptBlock_111 : decode cX2_decryptBlock 111 = .ok (.aload_n 3, 1) := dk_45 (dk_at dksX2_decryptBlock_4 18 rfl rfl)
theorem dX2_decryptBlock_112 : decode cX2_decryptBlock 112 = .ok (.iload 4, 2) := dk_21 4 (dk_at dksX2_decryptBlock_4 19 rfl rfl)
theorem dX2_decryptBlock_114 : decode cX2_decryptBlock 114 = .ok (.bipush 8, 2) := dk_16 8 (dk_at dksX2_decryptBlock_4 21 rfl rfl)
theorem dX2_decryptBlock_116 : decode cX2_decryptBlock 116 = .ok (.iadd, 1) := dk_96 (dk_at dksX2_decryptBlock_4 23 rfl rfl)
theorem dX2_decryptBlock_117 : decode cX2_decryptBlock 117 = .ok (.invokevirtual 63, 3) := dk_182 0 63 (dk_at dksX2_decryptBlock_5 0 rfl rfl)
theorem dX2_decryptBlock_120 : decode cX2_decryptBlock 120 = .ok (.bipush 16, 2) := dk_16 16 (dk_at dksX2_decryptBlock_5 3 rfl rfl)
theorem dX2_decryptBlock_122 : decode cX2_decryptBlock 122 = .ok (.ireturn, 1) := dk_172 (dk_at dksX2_decryptBlock_5 5 rfl rfl)
abbrev cX2_rotateRight : ByteArray := prog_4_method_8_code
def yX2_rotateRight : MethodName := ⟨RX2, "rotateRight", "(JJ)J"⟩
def dkwX2_rotateRight_0 : List UInt8 := [31, 33, 20, 0, 70, 127, 136, 125, 31, 20, 0, 72, 33, 20, 0, 70, 127, 101, 136, 121, 129, 173]
abbrev dktX2_rotateRight_0 : List UInt8 := dkwX2_rotateRight_0 ++ []
theorem dksX2_rotateRight_0 : cX2_rotateRight.data.toList.drop 0 = dktX2_rotateRight_0 := by decide +kernel
theorem dX2_rotateRight_0 : decode cX2_rotateRight 0 = .ok (.lload_n 1, 1) := dk_31 (dk_at dksX2_rotateRight_0 0 rfl rfl)
theorem dX2_rotateRight_1 : decode cX2_rotateRight 1 = .ok (.lload_n 3, 1) := dk_33 (dk_at dksX2_rotateRight_0 1 rfl rfl)
theorem dX2_rotateRight_2 : decode cX2_rotateRight 2 = .ok (.ldc2_w 70, 3) := dk_20 0 70 (dk_at dksX2_rotateRight_0 2 rfl rfl)
theorem dX2_rotateRight_5 : decode cX2_rotateRight 5 = .ok (.land, 1) := dk_127 (dk_at dksX2_rotateRight_0 5 rfl rfl)
theorem dX2_rotateRight_6 : decode cX2_rotateRight 6 = .ok (.l2i, 1) := dk_136 (dk_at dksX2_rotateRight_0 6 rfl rfl)
theorem dX2_rotateRight_7 : decode cX2_rotateRight 7 = .ok (.lushr, 1) := dk_125 (dk_at dksX2_rotateRight_0 7 rfl rfl)
theorem dX2_rotateRight_8 : decode cX2_rotateRight 8 = .ok (.lload_n 1, 1) := dk_31 (dk_at dksX2_rotateRight_0 8 rfl rfl)
theorem dX2_rotateRight_9 : decode cX2_rotateRight 9 = .ok (.ldc2_w 72, 3) := dk_20 0 72 (dk_at dksX2_rotateRight_0 9 rfl rfl)
theorem dX2_rotateRight_12 : decode cX2_rotateRight 12 = .ok (.lload_n 3, 1) := dk_33 (dk_at dksX2_rotateRight_0 12 rfl rfl)
theorem dX2_rotateRight_13 : decode cX2_rotateRight 13 = .ok (.ldc2_w 70, 3) := dk_20 0 70 (dk_at dksX2_rotateRight_0 13 rfl rfl)
theorem dX2_rotateRight_16 : decode cX2_rotateRight 16 = .ok (.land, 1) := dk_127 (dk_at dksX2_rotateRight_0 16 rfl rfl)
theorem dX2_rotateRight_17 : decode cX2_rotateRight 17 = .ok (.lsub, 1) := dk_101 (dk_at dksX2_rotateRight_0 17 rfl rfl)
theorem dX2_rotateRight_18 : decode cX2_rotateRight 18 = .ok (.l2i, 1) := dk_136 (dk_at dksX2_rotateRight_0 18 rfl rfl)
theorem dX2_rotateRight_19 : decode cX2_rotateRight 19 = .ok (.lshl, 1) := dk_121 (dk_at dksX2_rotateRight_0 19 rfl rfl)
theorem dX2_rotateRight_20 : decode cX2_rotateRight 20 = .ok (.lor, 1) := dk_129 (dk_at dksX2_rotateRight_0 20 rfl rfl)
theorem dX2_rotateRight_21 : decode cX2_rotateRight 21 = .ok (.lreturn, 1) := dk_173 (dk_at dksX2_rotateRight_0 21 rfl rfl)
theorem q14 : (Jvm.Cond.initialized "RC564Engine") ∈ lw_all := lw_g (lw_at lw_m1 3 rfl) rfl
theorem q63 : (Jvm.Cond.instantiable "RC564Engine" (3 : Nat)) ∈ lw_all := lw_g (lw_at lw_m1 52 rfl) rfl
theorem q65 : (Jvm.Cond.instanceMethod ({ cls := "RC564Engine", name := "<init>", desc := "()V" } : Jvm.MethodName)) ∈ lw_all := lw_g (lw_at lw_m1 54 rfl) rfl
theorem q66 : (Jvm.Cond.code ({ cls := "RC564Engine", name := "<init>", desc := "()V" } : Jvm.MethodName) prog_4_method_1_code (1 : Nat) (Option.none : Option Jvm.ClassFile.FieldType)) ∈ lw_all := lw_g (lw_at lw_m1 55 rfl) rfl
theorem q67 : (Jvm.Cond.methodLink "RC564Engine" (3 : Nat) ({ cls := "java/lang/Object", name := "<init>", desc := "()V" } : Jvm.MethodName)) ∈ lw_all := lw_g (lw_at lw_m1 56 rfl) rfl
theorem q68 : (Jvm.Cond.fieldLink "RC564Engine" (9 : Nat) "RC564Engine" "_noRounds" "I") ∈ lw_all := lw_g (lw_at lw_m1 57 rfl) rfl
theorem q69 : (Jvm.Cond.fieldLink "RC564Engine" (13 : Nat) "RC564Engine" "_S" "[J") ∈ lw_all := lw_g (lw_at lw_m1 58 rfl) rfl
theorem q70 : (Jvm.Cond.fieldLink "RC564Engine" (26 : Nat) "RC564Engine" "forEncryption" "Z") ∈ lw_all := lw_g (lw_at lw_m1 59 rfl) rfl
theorem q71 : (Jvm.Cond.lays "RC564Engine" "RC564Engine" "_noRounds" "I") ∈ lw_all := lw_g (lw_at lw_m1 60 rfl) rfl
theorem q72 : (Jvm.Cond.soleField "RC564Engine" "_noRounds") ∈ lw_all := lw_g (lw_at lw_m1 61 rfl) rfl
theorem q73 : (Jvm.Cond.lays "RC564Engine" "RC564Engine" "_S" "[J") ∈ lw_all := lw_g (lw_at lw_m1 62 rfl) rfl
theorem q74 : (Jvm.Cond.soleField "RC564Engine" "_S") ∈ lw_all := lw_g (lw_at lw_m1 63 rfl) rfl
theorem q75 : (Jvm.Cond.lays "RC564Engine" "RC564Engine" "forEncryption" "Z") ∈ lw_all := lw_g (lw_at lw_m1 64 rfl) rfl
theorem q76 : (Jvm.Cond.soleField "RC564Engine" "forEncryption") ∈ lw_all := lw_g (lw_at lw_m1 65 rfl) rfl
theorem q77 : (Jvm.Cond.superclass "RC564Engine" "java/lang/Object") ∈ lw_all := lw_g (lw_at lw_m1 66 rfl) rfl
theorem q163 : (Jvm.Cond.castable "RC564Engine" "BlockCipher") ∈ lw_tbl := lw_at lw_m1 152 rfl
theorem q164 : (Jvm.Cond.selects "RC564Engine" ({ cls := "BlockCipher", name := "init", desc := "(ZLCipherParameters;)V" } : Jvm.MethodName) ({ cls := "RC564Engine", name := "init", desc := "(ZLCipherParameters;)V" } : Jvm.MethodName)) ∈ lw_all := lw_g (lw_at lw_m1 153 rfl) rfl
theorem q165 : (Jvm.Cond.unhidden "RC564Engine" "init" "(ZLCipherParameters;)V") ∈ lw_tbl := lw_at lw_m1 154 rfl
theorem q166 : (Jvm.Cond.instanceMethod ({ cls := "RC564Engine", name := "init", desc := "(ZLCipherParameters;)V" } : Jvm.MethodName)) ∈ lw_all := lw_g (lw_at lw_m1 155 rfl) rfl
theorem q167 : (Jvm.Cond.publicMethod ({ cls := "RC564Engine", name := "init", desc := "(ZLCipherParameters;)V" } : Jvm.MethodName)) ∈ lw_tbl := lw_at lw_m1 156 rfl
theorem q168 : (Jvm.Cond.code ({ cls := "RC564Engine", name := "init", desc := "(ZLCipherParameters;)V" } : Jvm.MethodName) prog_4_method_2_code (5 : Nat) (Option.none : Option Jvm.ClassFile.FieldType)) ∈ lw_all := lw_g (lw_at lw_m1 157 rfl) rfl
theorem q169 : (Jvm.Cond.classLink "RC564Engine" (17 : Nat) "RC5Parameters") ∈ lw_all := lw_g (lw_at lw_m1 158 rfl) rfl
theorem q170 : (Jvm.Cond.classLink "RC564Engine" (19 : Nat) "java/lang/IllegalArgumentException") ∈ lw_all := lw_g (lw_at lw_m1 159 rfl) rfl
theorem q171 : (Jvm.Cond.stringRef "RC564Engine" (21 : Nat) "left out") ∈ lw_tbl := lw_at lw_m1 160 rfl
theorem q172 : (Jvm.Cond.methodLink "RC564Engine" (23 : Nat) ({ cls := "java/lang/IllegalArgumentException", name := "<init>", desc := "(Ljava/lang/String;)V" } : Jvm.MethodName)) ∈ lw_all := lw_g (lw_at lw_m1 161 rfl) rfl
theorem q173 : (Jvm.Cond.methodLink "RC564Engine" (30 : Nat) ({ cls := "RC5Parameters", name := "getRounds", desc := "()I" } : Jvm.MethodName)) ∈ lw_all := lw_g (lw_at lw_m1 162 rfl) rfl
theorem q177 : (Jvm.Cond.methodLink "RC564Engine" (34 : Nat) ({ cls := "RC5Parameters", name := "getKey", desc := "()[B" } : Jvm.MethodName)) ∈ lw_all := lw_g (lw_at lw_m1 166 rfl) rfl
theorem q181 : (Jvm.Cond.methodLink "RC564Engine" (38 : Nat) ({ cls := "RC564Engine", name := "setKey", desc := "([B)V" } : Jvm.MethodName)) ∈ lw_all := lw_g (lw_at lw_m1 170 rfl) rfl
theorem q182 : (Jvm.Cond.privateMethod ({ cls := "RC564Engine", name := "setKey", desc := "([B)V" } : Jvm.MethodName)) ∈ lw_tbl := lw_at lw_m1 171 rfl
theorem q183 : (Jvm.Cond.instanceMethod ({ cls := "RC564Engine", name := "setKey", desc := "([B)V" } : Jvm.MethodName)) ∈ lw_all := lw_g (lw_at lw_m1 172 rfl) rfl
theorem q184 : (Jvm.Cond.code ({ cls := "RC564Engine", name := "setKey", desc := "([B)V" } : Jvm.MethodName) prog_4_method_4_code (11 : Nat) (Option.none : Option Jvm.ClassFile.FieldType)) ∈ lw_all := lw_g (lw_at lw_m1 173 rfl) rfl
theorem q185 : (Jvm.Cond.constantLong "RC564Engine" (49 : Nat) (-5196783011329398165 : Int64)) ∈ lw_all := lw_g (lw_at lw_m1 174 rfl) rfl
theorem q186 : (Jvm.Cond.constantLong "RC564Engine" (51 : Nat) (-7046029254386353131 : Int64)) ∈ lw_all := lw_g (lw_at lw_m1 175 rfl) rfl
theorem q187 : (Jvm.Cond.constantLong "RC564Engine" (53 : Nat) (3 : Int64)) ∈ lw_all := lw_g (lw_at lw_m1 176 rfl) rfl
theorem q188 : (Jvm.Cond.methodLink "RC564Engine" (55 : Nat) ({ cls := "RC564Engine", name := "rotateLeft", desc := "(JJ)J" } : Jvm.MethodName)) ∈ lw_all := lw_g (lw_at lw_m1 177 rfl) rfl
theorem q189 : (Jvm.Cond.privateMethod ({ cls := "RC564Engine", name := "rotateLeft", desc := "(JJ)J" } : Jvm.MethodName)) ∈ lw_tbl := lw_at lw_m1 178 rfl
theorem q190 : (Jvm.Cond.instanceMethod ({ cls := "RC564Engine", name := "rotateLeft", desc := "(JJ)J" } : Jvm.MethodName)) ∈ lw_all := lw_g (lw_at lw_m1 179 rfl) rfl
theorem q191 : (Jvm.Cond.code ({ cls := "RC564Engine", name := "rotateLeft", desc := "(JJ)J" } : Jvm.MethodName) prog_4_method_7_code (5 : Nat) (Option.some Jvm.ClassFile.FieldType.long)) ∈ lw_all := lw_g (lw_at lw_m1 180 rfl) rfl
theorem q192 : (Jvm.Cond.constantLong "RC564Engine" (70 : Nat) (63 : Int64)) ∈ lw_all := lw_g (lw_at lw_m1 181 rfl) rfl
theorem q193 : (Jvm.Cond.constantLong "RC564Engine" (72 : Nat) (64 : Int64)) ∈ lw_all := lw_g (lw_at lw_m1 182 rfl) rfl
theorem q198 : (Jvm.Cond.selects "RC564Engine" ({ cls := "BlockCipher", name := "processBlock", desc := "([BI[BI)I" } : Jvm.MethodName) ({ cls := "RC564Engine", name := "processBlock", desc := "([BI[BI)I" } : Jvm.MethodName)) ∈ lw_all := lw_g (lw_at lw_m1 187 rfl) rfl
theorem q199 : (Jvm.Cond.unhidden "RC564Engine" "processBlock" "([BI[BI)I") ∈ lw_tbl := lw_at lw_m1 188 rfl
theorem q200 : (Jvm.Cond.instanceMethod ({ cls := "RC564Engine", name := "processBlock", desc := "([BI[BI)I" } : Jvm.MethodName)) ∈ lw_all := lw_g (lw_at lw_m1 189 rfl) rfl
theorem q201 : (Jvm.Cond.publicMethod ({ cls := "RC564Engine", name := "processBlock", desc := "([BI[BI)I" } : Jvm.MethodName)) ∈ lw_tbl := lw_at lw_m1 190 rfl
theorem q202 : (Jvm.Cond.code ({ cls := "RC564Engine", name := "processBlock", desc := "([BI[BI)I" } : Jvm.MethodName) prog_4_method_3_code (5 : Nat) (Option.some Jvm.ClassFile.FieldType.int)) ∈ lw_all := lw_g (lw_at lw_m1 191 rfl) rfl
theorem q203 : (Jvm.Cond.methodLink "RC564Engine" (42 : Nat) ({ cls := "RC564Engine", name := "encryptBlock", desc := "([BI[BI)I" } : Jvm.MethodName)) ∈ lw_all := lw_g (lw_at lw_m1 192 rfl) rfl
theorem q204 : (Jvm.Cond.privateMethod ({ cls := "RC564Engine", name := "encryptBlock", desc := "([BI[BI)I" } : Jvm.MethodName)) ∈ lw_tbl := lw_at lw_m1 193 rfl
theorem q205 : (Jvm.Cond.instanceMethod ({ cls := "RC564Engine", name := "encryptBlock", desc := "([BI[BI)I" } : Jvm.MethodName)) ∈ lw_all := lw_g (lw_at lw_m1 194 rfl) rfl
theorem q206 : (Jvm.Cond.code ({ cls := "RC564Engine", name := "encryptBlock", desc := "([BI[BI)I" } : Jvm.MethodName) prog_4_method_5_code (10 : Nat) (Option.some Jvm.ClassFile.FieldType.int)) ∈ lw_all := lw_g (lw_at lw_m1 195 rfl) rfl
theorem q207 : (Jvm.Cond.methodLink "RC564Engine" (59 : Nat) ({ cls := "RC564Engine", name := "bytesToWord", desc := "([BI)J" } : Jvm.MethodName)) ∈ lw_all := lw_g (lw_at lw_m1 196 rfl) rfl
theorem q208 : (Jvm.Cond.privateMethod ({ cls := "RC564Engine", name := "bytesToWord", desc := "([BI)J" } : Jvm.MethodName)) ∈ lw_tbl := lw_at lw_m1 197 rfl
theorem q209 : (Jvm.Cond.instanceMethod ({ cls := "RC564Engine", name := "bytesToWord", desc := "([BI)J" } : Jvm.MethodName)) ∈ lw_all := lw_g (lw_at lw_m1 198 rfl) rfl
theorem q210 : (Jvm.Cond.code ({ cls := "RC564Engine", name := "bytesToWord", desc := "([BI)J" } : Jvm.MethodName) prog_4_method_9_code (6 : Nat) (Option.some Jvm.ClassFile.FieldType.long)) ∈ lw_all := lw_g (lw_at lw_m1 199 rfl) rfl
theorem q211 : (Jvm.Cond.methodLink "RC564Engine" (63 : Nat) ({ cls := "RC564Engine", name := "wordToBytes", desc := "(J[BI)V" } : Jvm.MethodName)) ∈ lw_all := lw_g (lw_at lw_m1 200 rfl) rfl
theorem q212 : (Jvm.Cond.privateMethod ({ cls := "RC564Engine", name := "wordToBytes", desc := "(J[BI)V" } : Jvm.MethodName)) ∈ lw_tbl := lw_at lw_m1 201 rfl
theorem q213 : (Jvm.Cond.instanceMethod ({ cls := "RC564Engine", name := "wordToBytes", desc := "(J[BI)V" } : Jvm.MethodName)) ∈ lw_all := lw_g (lw_at lw_m1 202 rfl) rfl
theorem q214 : (Jvm.Cond.code ({ cls := "RC564Engine", name := "wordToBytes", desc := "(J[BI)V" } : Jvm.MethodName) prog_4_method_10_code (6 : Nat) (Option.none : Option Jvm.ClassFile.FieldType)) ∈ lw_all := lw_g (lw_at lw_m1 203 rfl) rfl
theorem q215 : (Jvm.Cond.methodLink "RC564Engine" (46 : Nat) ({ cls := "RC564Engine", name := "decryptBlock", desc := "([BI[BI)I" } : Jvm.MethodName)) ∈ lw_all := lw_g (lw_at lw_m1 204 rfl) rfl
theorem q216 : (Jvm.Cond.privateMethod ({ cls := "RC564Engine", name := "decryptBlock", desc := "([BI[BI)I" } : Jvm.MethodName)) ∈ lw_tbl := lw_at lw_m1 205 rfl
theorem q217 : (Jvm.Cond.instanceMethod ({ cls := "RC564Engine", name := "decryptBlock", desc := "([BI[BI)I" } : Jvm.MethodName)) ∈ lw_all := lw_g (lw_at lw_m1 206 rfl) rfl
theorem q218 : (Jvm.Cond.code ({ cls := "RC564Engine", name := "decryptBlock", desc := "([BI[BI)I" } : Jvm.MethodName) prog_4_method_6_code (10 : Nat) (Option.some Jvm.ClassFile.FieldType.int)) ∈ lw_all := lw_g (lw_at lw_m1 207 rfl) rfl
theorem q219 : (Jvm.Cond.methodLink "RC564Engine" (67 : Nat) ({ cls := "RC564Engine", name := "rotateRight", desc := "(JJ)J" } : Jvm.MethodName)) ∈ lw_all := lw_g (lw_at lw_m1 208 rfl) rfl
theorem q220 : (Jvm.Cond.privateMethod ({ cls := "RC564Engine", name := "rotateRight", desc := "(JJ)J" } : Jvm.MethodName)) ∈ lw_tbl := lw_at lw_m1 209 rfl
theorem q221 : (Jvm.Cond.instanceMethod ({ cls := "RC564Engine", name := "rotateRight", desc := "(JJ)J" } : Jvm.MethodName)) ∈ lw_all := lw_g (lw_at lw_m1 210 rfl) rfl
theorem q222 : (Jvm.Cond.code ({ cls := "RC564Engine", name := "rotateRight", desc := "(JJ)J" } : Jvm.MethodName) prog_4_method_8_code (5 : Nat) (Option.some Jvm.ClassFile.FieldType.long)) ∈ lw_all := lw_g (lw_at lw_m1 211 rfl) rfl
theorem in_X2 : ∀ w ∈ wsX20, w ∈ lw_all := lw_in wsX20 [71, 73, 75] (by decide +kernel) (by decide +kernel)

/-! the law's own entry -/
set_option maxRecDepth 100000
abbrev cL_law : ByteArray := code
def dkwL_law_11 : List UInt8 := [132, 3, 6, 167, 255, 11, 4, 172]
abbrev dktL_law_11 : List UInt8 := dkwL_law_11 ++ []
def dkwL_law_10 : List UInt8 := [42, 29, 4, 96, 46, 182, 0, 36, 44, 42, 29, 4, 96, 46, 182, 0, 40, 159, 0, 5, 3, 172]
abbrev dktL_law_10 : List UInt8 := dkwL_law_10 ++ dktL_law_11
def dkwL_law_9 : List UInt8 := [44, 42, 29, 4, 96, 46, 182, 0, 31, 167, 0, 37, 43, 182, 0, 32, 44, 182, 0, 35, 167, 0, 26, 43]
abbrev dktL_law_9 : List UInt8 := dkwL_law_9 ++ dktL_law_10
def dkwL_law_8 : List UInt8 := [182, 0, 23, 44, 42, 29, 4, 96, 46, 182, 0, 27, 167, 0, 58, 43, 42, 29, 4, 96, 46, 182, 0, 28]
abbrev dktL_law_8 : List UInt8 := dkwL_law_8 ++ dktL_law_9
def dkwL_law_7 : List UInt8 := [42, 29, 6, 96, 46, 42, 29, 7, 96, 46, 182, 0, 22, 167, 0, 79, 43, 42, 29, 4, 96, 46]
abbrev dktL_law_7 : List UInt8 := dkwL_law_7 ++ dktL_law_8
def dkwL_law_6 : List UInt8 := [42, 29, 6, 96, 46, 42, 29, 7, 96, 46, 182, 0, 18, 44, 42, 29, 4, 96, 46, 42, 29, 5, 96, 46]
abbrev dktL_law_6 : List UInt8 := dkwL_law_6 ++ dktL_law_7
def dkwL_law_5 : List UInt8 := [96, 46, 42, 29, 8, 96, 46, 182, 0, 17, 167, 0, 130, 43, 42, 29, 4, 96, 46, 42, 29, 5, 96, 46]
abbrev dktL_law_5 : List UInt8 := dkwL_law_5 ++ dktL_law_6
def dkwL_law_4 : List UInt8 := [96, 46, 182, 0, 13, 44, 42, 29, 4, 96, 46, 42, 29, 5, 96, 46, 42, 29, 6, 96, 46, 42, 29, 7]
abbrev dktL_law_4 : List UInt8 := dkwL_law_4 ++ dktL_law_5
def dkwL_law_3 : List UInt8 := [43, 42, 29, 4, 96, 46, 42, 29, 5, 96, 46, 42, 29, 6, 96, 46, 42, 29, 7, 96, 46, 42, 29, 8]
abbrev dktL_law_3 : List UInt8 := dkwL_law_3 ++ dktL_law_4
def dkwL_law_2 : List UInt8 := [170, 0, 0, 0, 0, 0, 227, 0, 0, 0, 0, 0, 0, 0, 5, 0, 0, 0, 39, 0, 0, 0, 100, 0, 0, 0, 151, 0, 0, 0, 172, 0, 0, 0, 193, 0, 0, 0, 204]
abbrev dktL_law_2 : List UInt8 := dkwL_law_2 ++ dktL_law_3
def dkwL_law_1 : List UInt8 := [163, 0, 242, 42, 29, 46, 16, 7, 126]
abbrev dktL_law_1 : List UInt8 := dkwL_law_1 ++ dktL_law_2
def dkwL_law_0 : List UInt8 := [187, 0, 7, 89, 183, 0, 9, 76, 187, 0, 10, 89, 183, 0, 12, 77, 3, 62, 29, 42, 190, 16, 6, 100]
abbrev dktL_law_0 : List UInt8 := dkwL_law_0 ++ dktL_law_1
theorem dksL_law_0 : cL_law.data.toList.drop 0 = dktL_law_0 := by decide +kernel
theorem dksL_law_1 : cL_law.data.toList.drop 24 = dktL_law_1 := dk_seg dksL_law_0 24 rfl rfl
theorem dksL_law_2 : cL_law.data.toList.drop 33 = dktL_law_2 := dk_seg dksL_law_1 9 rfl rfl
theorem dksL_law_3 : cL_law.data.toList.drop 72 = dktL_law_3 := dk_seg dksL_law_2 39 rfl rfl
theorem dksL_law_4 : cL_law.data.toList.drop 96 = dktL_law_4 := dk_seg dksL_law_3 24 rfl rfl
theorem dksL_law_5 : cL_law.data.toList.drop 120 = dktL_law_5 := dk_seg dksL_law_4 24 rfl rfl
theorem dksL_law_6 : cL_law.data.toList.drop 144 = dktL_law_6 := dk_seg dksL_law_5 24 rfl rfl
theorem dksL_law_7 : cL_law.data.toList.drop 168 = dktL_law_7 := dk_seg dksL_law_6 24 rfl rfl
theorem dksL_law_8 : cL_law.data.toList.drop 190 = dktL_law_8 := dk_seg dksL_law_7 22 rfl rfl
theorem dksL_law_9 : cL_law.data.toList.drop 214 = dktL_law_9 := dk_seg dksL_law_8 24 rfl rfl
theorem dksL_law_10 : cL_law.data.toList.drop 238 = dktL_law_10 := dk_seg dksL_law_9 24 rfl rfl
theorem dksL_law_11 : cL_law.data.toList.drop 260 = dktL_law_11 := dk_seg dksL_law_10 22 rfl rfl
theorem dL_law_0 : decode cL_law 0 = .ok (.new 7, 3) := dk_187 0 7 (dk_at dksL_law_0 0 rfl rfl)
theorem dL_law_3 : decode cL_law 3 = .ok (.dup, 1) := dk_89 (dk_at dksL_law_0 3 rfl rfl)
theorem dL_law_4 : decode cL_law 4 = .ok (.invokespecial 9, 3) := dk_183 0 9 (dk_at dksL_law_0 4 rfl rfl)
theorem dL_law_7 : decode cL_law 7 = .ok (.astore_n 1, 1) := dk_76 (dk_at dksL_law_0 7 rfl rfl)
theorem dL_law_8 : decode cL_law 8 = .ok (.new 10, 3) := dk_187 0 10 (dk_at dksL_law_0 8 rfl rfl)
theorem dL_law_11 : decode cL_law 11 = .ok (.dup, 1) := dk_89 (dk_at dksL_law_0 11 rfl rfl)
theorem dL_law_12 : decode cL_law 12 = .ok (.invokespecial 12, 3) := dk_183 0 12 (dk_at dksL_law_0 12 rfl rfl)
theorem dL_law_15 : decode cL_law 15 = .ok (.astore_n 2, 1) := dk_77 (dk_at dksL_law_0 15 rfl rfl)
theorem dL_law_16 : decode cL_law 16 = .ok (.iconst 0, 1) := dk_3 (dk_at dksL_law_0 16 rfl rfl)
theorem dL_law_17 : decode cL_law 17 = .ok (.istore_n 3, 1) := dk_62 (dk_at dksL_law_0 17 rfl rfl)
theorem dL_law_18 : decode cL_law 18 = .ok (.iload_n 3, 1) := dk_29 (dk_at dksL_law_0 18 rfl rfl)
theorem dL_law_19 : decode cL_law 19 = .ok (.aload_n 0, 1) := dk_42 (dk_at dksL_law_0 19 rfl rfl)
theorem dL_law_20 : decode cL_law 20 = .ok (.arraylength, 1) := dk_190 (dk_at dksL_law_0 20 rfl rfl)
theorem dL_law_21 : decode cL_law 21 = .ok (.bipush 6, 2) := dk_16 6 (dk_at dksL_law_0 21 rfl rfl)
theorem dL_law_23 : decode cL_law 23 = .ok (.isub, 1) := dk_100 (dk_at dksL_law_0 23 rfl rfl)
theorem dL_law_24 : decode cL_law 24 = .ok (.if_icmp .gt 242, 3) := dk_163 0 242 (dk_at dksL_law_1 0 rfl rfl)
theorem dL_law_27 : decode cL_law 27 = .ok (.aload_n 0, 1) := dk_42 (dk_at dksL_law_1 3 rfl rfl)
theorem dL_law_28 : decode cL_law 28 = .ok (.iload_n 3, 1) := dk_29 (dk_at dksL_law_1 4 rfl rfl)
theorem dL_law_29 : decode cL_law 29 = .ok (.iaload, 1) := dk_46 (dk_at dksL_law_1 5 rfl rfl)
theorem dL_law_30 : decode cL_law 30 = .ok (.bipush 7, 2) := dk_16 7 (dk_at dksL_law_1 6 rfl rfl)
theorem dL_law_32 : decode cL_law 32 = .ok (.iand, 1) := dk_126 (dk_at dksL_law_1 8 rfl rfl)
theorem dL_law_33 : decode cL_law 33 = .ok (.tableswitch 227 0 5 #[39, 100, 151, 172, 193, 204], 39) := by decide +kernel
theorem dL_law_72 : decode cL_law 72 = .ok (.aload_n 1, 1) := dk_43 (dk_at dksL_law_3 0 rfl rfl)
theorem dL_law_73 : decode cL_law 73 = .ok (.aload_n 0, 1) := dk_42 (dk_at dksL_law_3 1 rfl rfl)
theorem dL_law_74 : decode cL_law 74 = .ok (.iload_n 3, 1) := dk_29 (dk_at dksL_law_3 2 rfl rfl)
theorem dL_law_75 : decode cL_law 75 = .ok (.iconst 1, 1) := dk_4 (dk_at dksL_law_3 3 rfl rfl)
theorem dL_law_76 : decode cL_law 76 = .ok (.iadd, 1) := dk_96 (dk_at dksL_law_3 4 rfl rfl)
theorem dL_law_77 : decode cL_law 77 = .ok (.iaload, 1) := dk_46 (dk_at dksL_law_3 5 rfl rfl)
theorem dL_law_78 : decode cL_law 78 = .ok (.aload_n 0, 1) := dk_42 (dk_at dksL_law_3 6 rfl rfl)
theorem dL_law_79 : decode cL_law 79 = .ok (.iload_n 3, 1) := dk_29 (dk_at dksL_law_3 7 rfl rfl)
theorem dL_law_80 : decode cL_law 80 = .ok (.iconst 2, 1) := dk_5 (dk_at dksL_law_3 8 rfl rfl)
theorem dL_law_81 : decode cL_law 81 = .ok (.iadd, 1) := dk_96 (dk_at dksL_law_3 9 rfl rfl)
theorem dL_law_82 : decode cL_law 82 = .ok (.iaload, 1) := dk_46 (dk_at dksL_law_3 10 rfl rfl)
theorem dL_law_83 : decode cL_law 83 = .ok (.aload_n 0, 1) := dk_42 (dk_at dksL_law_3 11 rfl rfl)
theorem dL_law_84 : decode cL_law 84 = .ok (.iload_n 3, 1) := dk_29 (dk_at dksL_law_3 12 rfl rfl)
theorem dL_law_85 : decode cL_law 85 = .ok (.iconst 3, 1) := dk_6 (dk_at dksL_law_3 13 rfl rfl)
theorem dL_law_86 : decode cL_law 86 = .ok (.iadd, 1) := dk_96 (dk_at dksL_law_3 14 rfl rfl)
theorem dL_law_87 : decode cL_law 87 = .ok (.iaload, 1) := dk_46 (dk_at dksL_law_3 15 rfl rfl)
theorem dL_law_88 : decode cL_law 88 = .ok (.aload_n 0, 1) := dk_42 (dk_at dksL_law_3 16 rfl rfl)
theorem dL_law_89 : decode cL_law 89 = .ok (.iload_n 3, 1) := dk_29 (dk_at dksL_law_3 17 rfl rfl)
theorem dL_law_90 : decode cL_law 90 = .ok (.iconst 4, 1) := dk_7 (dk_at dksL_law_3 18 rfl rfl)
theorem dL_law_91 : decode cL_law 91 = .ok (.iadd, 1) := dk_96 (dk_at dksL_law_3 19 rfl rfl)
theorem dL_law_92 : decode cL_law 92 = .ok (.iaload, 1) := dk_46 (dk_at dksL_law_3 20 rfl rfl)
theorem dL_law_93 : decode cL_law 93 = .ok (.aload_n 0, 1) := dk_42 (dk_at dksL_law_3 21 rfl rfl)
theorem dL_law_94 : decode cL_law 94 = .ok (.iload_n 3, 1) := dk_29 (dk_at dksL_law_3 22 rfl rfl)
theorem dL_law_95 : decode cL_law 95 = .ok (.iconst 5, 1) := dk_8 (dk_at dksL_law_3 23 rfl rfl)
theorem dL_law_96 : decode cL_law 96 = .ok (.iadd, 1) := dk_96 (dk_at dksL_law_4 0 rfl rfl)
theorem dL_law_97 : decode cL_law 97 = .ok (.iaload, 1) := dk_46 (dk_at dksL_law_4 1 rfl rfl)
theorem dL_law_98 : decode cL_law 98 = .ok (.invokevirtual 13, 3) := dk_182 0 13 (dk_at dksL_law_4 2 rfl rfl)
theorem dL_law_101 : decode cL_law 101 = .ok (.aload_n 2, 1) := dk_44 (dk_at dksL_law_4 5 rfl rfl)
theorem dL_law_102 : decode cL_law 102 = .ok (.aload_n 0, 1) := dk_42 (dk_at dksL_law_4 6 rfl rfl)
theorem dL_law_103 : decode cL_law 103 = .ok (.iload_n 3, 1) := dk_29 (dk_at dksL_law_4 7 rfl rfl)
theorem dL_law_104 : decode cL_law 104 = .ok (.iconst 1, 1) := dk_4 (dk_at dksL_law_4 8 rfl rfl)
theorem dL_law_105 : decode cL_law 105 = .ok (.iadd, 1) := dk_96 (dk_at dksL_law_4 9 rfl rfl)
theorem dL_law_106 : decode cL_law 106 = .ok (.iaload, 1) := dk_46 (dk_at dksL_law_4 10 rfl rfl)
theorem dL_law_107 : decode cL_law 107 = .ok (.aload_n 0, 1) := dk_42 (dk_at dksL_law_4 11 rfl rfl)
theorem dL_law_108 : decode cL_law 108 = .ok (.iload_n 3, 1) := dk_29 (dk_at dksL_law_4 12 rfl rfl)
theorem dL_law_109 : decode cL_law 109 = .ok (.iconst 2, 1) := dk_5 (dk_at dksL_law_4 13 rfl rfl)
theorem dL_law_110 : decode cL_law 110 = .ok (.iadd, 1) := dk_96 (dk_at dksL_law_4 14 rfl rfl)
theorem dL_law_111 : decode cL_law 111 = .ok (.iaload, 1) := dk_46 (dk_at dksL_law_4 15 rfl rfl)
theorem dL_law_112 : decode cL_law 112 = .ok (.aload_n 0, 1) := dk_42 (dk_at dksL_law_4 16 rfl rfl)
theorem dL_law_113 : decode cL_law 113 = .ok (.iload_n 3, 1) := dk_29 (dk_at dksL_law_4 17 rfl rfl)
theorem dL_law_114 : decode cL_law 114 = .ok (.iconst 3, 1) := dk_6 (dk_at dksL_law_4 18 rfl rfl)
theorem dL_law_115 : decode cL_law 115 = .ok (.iadd, 1) := dk_96 (dk_at dksL_law_4 19 rfl rfl)
theorem dL_law_116 : decode cL_law 116 = .ok (.iaload, 1) := dk_46 (dk_at dksL_law_4 20 rfl rfl)
theorem dL_law_117 : decode cL_law 117 = .ok (.aload_n 0, 1) := dk_42 (dk_at dksL_law_4 21 rfl rfl)
theorem dL_law_118 : decode cL_law 118 = .ok (.iload_n 3, 1) := dk_29 (dk_at dksL_law_4 22 rfl rfl)
theorem dL_law_119 : decode cL_law 119 = .ok (.iconst 4, 1) := dk_7 (dk_at dksL_law_4 23 rfl rfl)
theorem dL_law_120 : decode cL_law 120 = .ok (.iadd, 1) := dk_96 (dk_at dksL_law_5 0 rfl rfl)
theorem dL_law_121 : decode cL_law 121 = .ok (.iaload, 1) := dk_46 (dk_at dksL_law_5 1 rfl rfl)
theorem dL_law_122 : decode cL_law 122 = .ok (.aload_n 0, 1) := dk_42 (dk_at dksL_law_5 2 rfl rfl)
theorem dL_law_123 : decode cL_law 123 = .ok (.iload_n 3, 1) := dk_29 (dk_at dksL_law_5 3 rfl rfl)
theorem dL_law_124 : decode cL_law 124 = .ok (.iconst 5, 1) := dk_8 (dk_at dksL_law_5 4 rfl rfl)
theorem dL_law_125 : decode cL_law 125 = .ok (.iadd, 1) := dk_96 (dk_at dksL_law_5 5 rfl rfl)
theorem dL_law_126 : decode cL_law 126 = .ok (.iaload, 1) := dk_46 (dk_at dksL_law_5 6 rfl rfl)
theorem dL_law_127 : decode cL_law 127 = .ok (.invokevirtual 17, 3) := dk_182 0 17 (dk_at dksL_law_5 7 rfl rfl)
theorem dL_law_130 : decode cL_law 130 = .ok (.goto 130, 3) := dk_167 0 130 (dk_at dksL_law_5 10 rfl rfl)
theorem dL_law_133 : decode cL_law 133 = .ok (.aload_n 1, 1) := dk_43 (dk_at dksL_law_5 13 rfl rfl)
theorem dL_law_134 : decode cL_law 134 = .ok (.aload_n 0, 1) := dk_42 (dk_at dksL_law_5 14 rfl rfl)
theorem dL_law_135 : decode cL_law 135 = .ok (.iload_n 3, 1) := dk_29 (dk_at dksL_law_5 15 rfl rfl)
theorem dL_law_136 : decode cL_law 136 = .ok (.iconst 1, 1) := dk_4 (dk_at dksL_law_5 16 rfl rfl)
theorem dL_law_137 : decode cL_law 137 = .ok (.iadd, 1) := dk_96 (dk_at dksL_law_5 17 rfl rfl)
theorem dL_law_138 : decode cL_law 138 = .ok (.iaload, 1) := dk_46 (dk_at dksL_law_5 18 rfl rfl)
theorem dL_law_139 : decode cL_law 139 = .ok (.aload_n 0, 1) := dk_42 (dk_at dksL_law_5 19 rfl rfl)
theorem dL_law_140 : decode cL_law 140 = .ok (.iload_n 3, 1) := dk_29 (dk_at dksL_law_5 20 rfl rfl)
theorem dL_law_141 : decode cL_law 141 = .ok (.iconst 2, 1) := dk_5 (dk_at dksL_law_5 21 rfl rfl)
theorem dL_law_142 : decode cL_law 142 = .ok (.iadd, 1) := dk_96 (dk_at dksL_law_5 22 rfl rfl)
theorem dL_law_143 : decode cL_law 143 = .ok (.iaload, 1) := dk_46 (dk_at dksL_law_5 23 rfl rfl)
theorem dL_law_144 : decode cL_law 144 = .ok (.aload_n 0, 1) := dk_42 (dk_at dksL_law_6 0 rfl rfl)
theorem dL_law_145 : decode cL_law 145 = .ok (.iload_n 3, 1) := dk_29 (dk_at dksL_law_6 1 rfl rfl)
theorem dL_law_146 : decode cL_law 146 = .ok (.iconst 3, 1) := dk_6 (dk_at dksL_law_6 2 rfl rfl)
theorem dL_law_147 : decode cL_law 147 = .ok (.iadd, 1) := dk_96 (dk_at dksL_law_6 3 rfl rfl)
theorem dL_law_148 : decode cL_law 148 = .ok (.iaload, 1) := dk_46 (dk_at dksL_law_6 4 rfl rfl)
theorem dL_law_149 : decode cL_law 149 = .ok (.aload_n 0, 1) := dk_42 (dk_at dksL_law_6 5 rfl rfl)
theorem dL_law_150 : decode cL_law 150 = .ok (.iload_n 3, 1) := dk_29 (dk_at dksL_law_6 6 rfl rfl)
theorem dL_law_151 : decode cL_law 151 = .ok (.iconst 4, 1) := dk_7 (dk_at dksL_law_6 7 rfl rfl)
theorem dL_law_152 : decode cL_law 152 = .ok (.iadd, 1) := dk_96 (dk_at dksL_law_6 8 rfl rfl)
theorem dL_law_153 : decode cL_law 153 = .ok (.iaload, 1) := dk_46 (dk_at dksL_law_6 9 rfl rfl)
theorem dL_law_154 : decode cL_law 154 = .ok (.invokevirtual 18, 3) := dk_182 0 18 (dk_at dksL_law_6 10 rfl rfl)
theorem dL_law_157 : decode cL_law 157 = .ok (.aload_n 2, 1) := dk_44 (dk_at dksL_law_6 13 rfl rfl)
theorem dL_law_158 : decode cL_law 158 = .ok (.aload_n 0, 1) := dk_42 (dk_at dksL_law_6 14 rfl rfl)
theorem dL_law_159 : decode cL_law 159 = .ok (.iload_n 3, 1) := dk_29 (dk_at dksL_law_6 15 rfl rfl)
theorem dL_law_160 : decode cL_law 160 = .ok (.iconst 1, 1) := dk_4 (dk_at dksL_law_6 16 rfl rfl)
theorem dL_law_161 : decode cL_law 161 = .ok (.iadd, 1) := dk_96 (dk_at dksL_law_6 17 rfl rfl)
theorem dL_law_162 : decode cL_law 162 = .ok (.iaload, 1) := dk_46 (dk_at dksL_law_6 18 rfl rfl)
theorem dL_law_163 : decode cL_law 163 = .ok (.aload_n 0, 1) := dk_42 (dk_at dksL_law_6 19 rfl rfl)
theorem dL_law_164 : decode cL_law 164 = .ok (.iload_n 3, 1) := dk_29 (dk_at dksL_law_6 20 rfl rfl)
theorem dL_law_165 : decode cL_law 165 = .ok (.iconst 2, 1) := dk_5 (dk_at dksL_law_6 21 rfl rfl)
theorem dL_law_166 : decode cL_law 166 = .ok (.iadd, 1) := dk_96 (dk_at dksL_law_6 22 rfl rfl)
theorem dL_law_167 : decode cL_law 167 = .ok (.iaload, 1) := dk_46 (dk_at dksL_law_6 23 rfl rfl)
theorem dL_law_168 : decode cL_law 168 = .ok (.aload_n 0, 1) := dk_42 (dk_at dksL_law_7 0 rfl rfl)
theorem dL_law_169 : decode cL_law 169 = .ok (.iload_n 3, 1) := dk_29 (dk_at dksL_law_7 1 rfl rfl)
theorem dL_law_170 : decode cL_law 170 = .ok (.iconst 3, 1) := dk_6 (dk_at dksL_law_7 2 rfl rfl)
theorem dL_law_171 : decode cL_law 171 = .ok (.iadd, 1) := dk_96 (dk_at dksL_law_7 3 rfl rfl)
theorem dL_law_172 : decode cL_law 172 = .ok (.iaload, 1) := dk_46 (dk_at dksL_law_7 4 rfl rfl)
theorem dL_law_173 : decode cL_law 173 = .ok (.aload_n 0, 1) := dk_42 (dk_at dksL_law_7 5 rfl rfl)
theorem dL_law_174 : decode cL_law 174 = .ok (.iload_n 3, 1) := dk_29 (dk_at dksL_law_7 6 rfl rfl)
theorem dL_law_175 : decode cL_law 175 = .ok (.iconst 4, 1) := dk_7 (dk_at dksL_law_7 7 rfl rfl)
theorem dL_law_176 : decode cL_law 176 = .ok (.iadd, 1) := dk_96 (dk_at dksL_law_7 8 rfl rfl)
theorem dL_law_177 : decode cL_law 177 = .ok (.iaload, 1) := dk_46 (dk_at dksL_law_7 9 rfl rfl)
theorem dL_law_178 : decode cL_law 178 = .ok (.invokevirtual 22, 3) := dk_182 0 22 (dk_at dksL_law_7 10 rfl rfl)
theorem dL_law_181 : decode cL_law 181 = .ok (.goto 79, 3) := dk_167 0 79 (dk_at dksL_law_7 13 rfl rfl)
theorem dL_law_184 : decode cL_law 184 = .ok (.aload_n 1, 1) := dk_43 (dk_at dksL_law_7 16 rfl rfl)
theorem dL_law_185 : decode cL_law 185 = .ok (.aload_n 0, 1) := dk_42 (dk_at dksL_law_7 17 rfl rfl)
theorem dL_law_186 : decode cL_law 186 = .ok (.iload_n 3, 1) := dk_29 (dk_at dksL_law_7 18 rfl rfl)
theorem dL_law_187 : decode cL_law 187 = .ok (.iconst 1, 1) := dk_4 (dk_at dksL_law_7 19 rfl rfl)
theorem dL_law_188 : decode cL_law 188 = .ok (.iadd, 1) := dk_96 (dk_at dksL_law_7 20 rfl rfl)
theorem dL_law_189 : decode cL_law 189 = .ok (.iaload, 1) := dk_46 (dk_at dksL_law_7 21 rfl rfl)
theorem dL_law_190 : decode cL_law 190 = .ok (.invokevirtual 23, 3) := dk_182 0 23 (dk_at dksL_law_8 0 rfl rfl)
theorem dL_law_193 : decode cL_law 193 = .ok (.aload_n 2, 1) := dk_44 (dk_at dksL_law_8 3 rfl rfl)
theorem dL_law_194 : decode cL_law 194 = .ok (.aload_n 0, 1) := dk_42 (dk_at dksL_law_8 4 rfl rfl)
theorem dL_law_195 : decode cL_law 195 = .ok (.iload_n 3, 1) := dk_29 (dk_at dksL_law_8 5 rfl rfl)
theorem dL_law_196 : decode cL_law 196 = .ok (.iconst 1, 1) := dk_4 (dk_at dksL_law_8 6 rfl rfl)
theorem dL_law_197 : decode cL_law 197 = .ok (.iadd, 1) := dk_96 (dk_at dksL_law_8 7 rfl rfl)
theorem dL_law_198 : decode cL_law 198 = .ok (.iaload, 1) := dk_46 (dk_at dksL_law_8 8 rfl rfl)
theorem dL_law_199 : decode cL_law 199 = .ok (.invokevirtual 27, 3) := dk_182 0 27 (dk_at dksL_law_8 9 rfl rfl)
theorem dL_law_202 : decode cL_law 202 = .ok (.goto 58, 3) := dk_167 0 58 (dk_at dksL_law_8 12 rfl rfl)
theorem dL_law_205 : decode cL_law 205 = .ok (.aload_n 1, 1) := dk_43 (dk_at dksL_law_8 15 rfl rfl)
theorem dL_law_206 : decode cL_law 206 = .ok (.aload_n 0, 1) := dk_42 (dk_at dksL_law_8 16 rfl rfl)
theorem dL_law_207 : decode cL_law 207 = .ok (.iload_n 3, 1) := dk_29 (dk_at dksL_law_8 17 rfl rfl)
theorem dL_law_208 : decode cL_law 208 = .ok (.iconst 1, 1) := dk_4 (dk_at dksL_law_8 18 rfl rfl)
theorem dL_law_209 : decode cL_law 209 = .ok (.iadd, 1) := dk_96 (dk_at dksL_law_8 19 rfl rfl)
theorem dL_law_210 : decode cL_law 210 = .ok (.iaload, 1) := dk_46 (dk_at dksL_law_8 20 rfl rfl)
theorem dL_law_211 : decode cL_law 211 = .ok (.invokevirtual 28, 3) := dk_182 0 28 (dk_at dksL_law_8 21 rfl rfl)
theorem dL_law_214 : decode cL_law 214 = .ok (.aload_n 2, 1) := dk_44 (dk_at dksL_law_9 0 rfl rfl)
theorem dL_law_215 : decode cL_law 215 = .ok (.aload_n 0, 1) := dk_42 (dk_at dksL_law_9 1 rfl rfl)
theorem dL_law_216 : decode cL_law 216 = .ok (.iload_n 3, 1) := dk_29 (dk_at dksL_law_9 2 rfl rfl)
theorem dL_law_217 : decode cL_law 217 = .ok (.iconst 1, 1) := dk_4 (dk_at dksL_law_9 3 rfl rfl)
theorem dL_law_218 : decode cL_law 218 = .ok (.iadd, 1) := dk_96 (dk_at dksL_law_9 4 rfl rfl)
theorem dL_law_219 : decode cL_law 219 = .ok (.iaload, 1) := dk_46 (dk_at dksL_law_9 5 rfl rfl)
theorem dL_law_220 : decode cL_law 220 = .ok (.invokevirtual 31, 3) := dk_182 0 31 (dk_at dksL_law_9 6 rfl rfl)
theorem dL_law_223 : decode cL_law 223 = .ok (.goto 37, 3) := dk_167 0 37 (dk_at dksL_law_9 9 rfl rfl)
theorem dL_law_226 : decode cL_law 226 = .ok (.aload_n 1, 1) := dk_43 (dk_at dksL_law_9 12 rfl rfl)
theorem dL_law_227 : decode cL_law 227 = .ok (.invokevirtual 32, 3) := dk_182 0 32 (dk_at dksL_law_9 13 rfl rfl)
theorem dL_law_230 : decode cL_law 230 = .ok (.aload_n 2, 1) := dk_44 (dk_at dksL_law_9 16 rfl rfl)
theorem dL_law_231 : decode cL_law 231 = .ok (.invokevirtual 35, 3) := dk_182 0 35 (dk_at dksL_law_9 17 rfl rfl)
theorem dL_law_234 : decode cL_law 234 = .ok (.goto 26, 3) := dk_167 0 26 (dk_at dksL_law_9 20 rfl rfl)
theorem dL_law_237 : decode cL_law 237 = .ok (.aload_n 1, 1) := dk_43 (dk_at dksL_law_9 23 rfl rfl)
theorem dL_law_238 : decode cL_law 238 = .ok (.aload_n 0, 1) := dk_42 (dk_at dksL_law_10 0 rfl rfl)
theorem dL_law_239 : decode cL_law 239 = .ok (.iload_n 3, 1) := dk_29 (dk_at dksL_law_10 1 rfl rfl)
theorem dL_law_240 : decode cL_law 240 = .ok (.iconst 1, 1) := dk_4 (dk_at dksL_law_10 2 rfl rfl)
theorem dL_law_241 : decode cL_law 241 = .ok (.iadd, 1) := dk_96 (dk_at dksL_law_10 3 rfl rfl)
theorem dL_law_242 : decode cL_law 242 = .ok (.iaload, 1) := dk_46 (dk_at dksL_law_10 4 rfl rfl)
theorem dL_law_243 : decode cL_law 243 = .ok (.invokevirtual 36, 3) := dk_182 0 36 (dk_at dksL_law_10 5 rfl rfl)
theorem dL_law_246 : decode cL_law 246 = .ok (.aload_n 2, 1) := dk_44 (dk_at dksL_law_10 8 rfl rfl)
theorem dL_law_247 : decode cL_law 247 = .ok (.aload_n 0, 1) := dk_42 (dk_at dksL_law_10 9 rfl rfl)
theorem dL_law_248 : decode cL_law 248 = .ok (.iload_n 3, 1) := dk_29 (dk_at dksL_law_10 10 rfl rfl)
theorem dL_law_249 : decode cL_law 249 = .ok (.iconst 1, 1) := dk_4 (dk_at dksL_law_10 11 rfl rfl)
theorem dL_law_250 : decode cL_law 250 = .ok (.iadd, 1) := dk_96 (dk_at dksL_law_10 12 rfl rfl)
theorem dL_law_251 : decode cL_law 251 = .ok (.iaload, 1) := dk_46 (dk_at dksL_law_10 13 rfl rfl)
theorem dL_law_252 : decode cL_law 252 = .ok (.invokevirtual 40, 3) := dk_182 0 40 (dk_at dksL_law_10 14 rfl rfl)
theorem dL_law_255 : decode cL_law 255 = .ok (.if_icmp .eq 5, 3) := dk_159 0 5 (dk_at dksL_law_10 17 rfl rfl)
theorem dL_law_258 : decode cL_law 258 = .ok (.iconst 0, 1) := dk_3 (dk_at dksL_law_10 20 rfl rfl)
theorem dL_law_259 : decode cL_law 259 = .ok (.ireturn, 1) := dk_172 (dk_at dksL_law_10 21 rfl rfl)
theorem dL_law_260 : decode cL_law 260 = .ok (.iinc 3 6, 3) := dk_132 3 6 (dk_at dksL_law_11 0 rfl rfl)
theorem dL_law_263 : decode cL_law 263 = .ok (.goto (-245), 3) := dk_167 255 11 (dk_at dksL_law_11 3 rfl rfl)
theorem dL_law_266 : decode cL_law 266 = .ok (.iconst 1, 1) := dk_4 (dk_at dksL_law_11 6 rfl rfl)
theorem dL_law_267 : decode cL_law 267 = .ok (.ireturn, 1) := dk_172 (dk_at dksL_law_11 7 rfl rfl)
end
section
/-! ===== Int32 by its bits: bt x i ===== -/
def bt (x : Int32) (i : Nat) : Bool := x.toBitVec.getLsbD i
theorem b_ext {x y : Int32} (h : ∀ i, i < 32 → bt x i = bt y i) : x = y := Int32.toBitVec_inj.mp (BitVec.eq_of_getLsbD_eq (fun i hi => h i hi))
theorem b_or (x y : Int32) (i : Nat) : bt (x ||| y) i = (bt x i || bt y i) := by unfold bt; rw [Int32.toBitVec_or, BitVec.getLsbD_or]
theorem b_and (x y : Int32) (i : Nat) : bt (x &&& y) i = (bt x i && bt y i) := by unfold bt; rw [Int32.toBitVec_and, BitVec.getLsbD_and]
theorem b_xor (x y : Int32) (i : Nat) : bt (x ^^^ y) i = (bt x i ^^ bt y i) := by unfold bt; rw [Int32.toBitVec_xor, BitVec.getLsbD_xor]
theorem b_big {x : Int32} {i : Nat} (h : 32 ≤ i) : bt x i = false := BitVec.getLsbD_of_ge _ _ h
theorem b_255 (i : Nat) : bt 255 i = decide (i < 8) := by
  rcases Nat.lt_or_ge i 32 with h | h
  · exact (by decide +kernel : ∀ i, i < 32 → bt 255 i = decide (i < 8)) i h
  · rw [b_big h, decide_eq_false (by omega)]
theorem b_65535 (i : Nat) : bt 65535 i = decide (i < 16) := by
  rcases Nat.lt_or_ge i 32 with h | h
  · exact (by decide +kernel : ∀ i, i < 32 → bt 65535 i = decide (i < 16)) i h
  · rw [b_big h, decide_eq_false (by omega)]
theorem b_m1 : ∀ i, i < 32 → bt (-1) i = true := by decide +kernel
theorem b_0 (i : Nat) : bt 0 i = false := BitVec.getLsbD_zero
theorem s_l : ∀ n, n < 32 → ((nI n &&& 31).toBitVec.smod 32).toNat = n := by decide +kernel
theorem s_u : ∀ n, n < 32 → (((nI n).toUInt32 &&& Int32.toUInt32 31).toBitVec % 32).toNat = n := by decide +kernel
theorem b_shl (n : Nat) (hn : n < 32) (x : Int32) {i : Nat} (hi : i < 32) : bt (x <<< (nI n &&& 31)) i = (decide (n ≤ i) && bt x (i - n)) := by
  unfold bt
  rw [Int32.toBitVec_shiftLeft]
  show (x.toBitVec <<< ((nI n &&& 31).toBitVec.smod 32).toNat).getLsbD i = _
  rw [s_l n hn, BitVec.getLsbD_shiftLeft]
  rcases Nat.lt_or_ge i n with h | h
  · simp [h, Nat.not_le.mpr h]
  · simp [hi, h, Nat.not_lt.mpr h]
theorem b_ushr (n : Nat) (hn : n < 32) (x : Int32) (i : Nat) : bt ((x.toUInt32 >>> ((nI n).toUInt32 &&& Int32.toUInt32 31)).toInt32) i = bt x (n + i) := by
  show (x.toUInt32 >>> ((nI n).toUInt32 &&& Int32.toUInt32 31)).toBitVec.getLsbD i = x.toUInt32.toBitVec.getLsbD (n + i)
  rw [UInt32.toBitVec_shiftRight]
  show (x.toUInt32.toBitVec >>> (((nI n).toUInt32 &&& Int32.toUInt32 31).toBitVec % 32).toNat).getLsbD i = _
  rw [s_u n hn, BitVec.getLsbD_ushiftRight]
theorem b_sshr (n : Nat) (hn : n < 32) (x : Int32) {i : Nat} (hi : i < 32) : bt (x >>> (nI n &&& 31)) i = if n + i < 32 then bt x (n + i) else bt x 31 := by
  unfold bt
  rw [Int32.toBitVec_shiftRight]
  show (x.toBitVec.sshiftRight ((nI n &&& 31).toBitVec.smod 32).toNat).getLsbD i = _
  rw [s_l n hn, BitVec.getLsbD_sshiftRight, BitVec.msb_eq_getLsbD_last]
  simp [hi]
theorem b_shl8 (x : Int32) {i : Nat} (hi : i < 32) : bt (x <<< ((8 : Int32) &&& 31)) i = (decide (8 ≤ i) && bt x (i - 8)) := b_shl 8 (by omega) x hi
theorem b_shl16 (x : Int32) {i : Nat} (hi : i < 32) : bt (x <<< ((16 : Int32) &&& 31)) i = (decide (16 ≤ i) && bt x (i - 16)) := b_shl 16 (by omega) x hi
theorem b_shl24 (x : Int32) {i : Nat} (hi : i < 32) : bt (x <<< ((24 : Int32) &&& 31)) i = (decide (24 ≤ i) && bt x (i - 24)) := b_shl 24 (by omega) x hi
theorem b_sshr8 (x : Int32) {i : Nat} (hi : i < 32) : bt (x >>> ((8 : Int32) &&& 31)) i = if 8 + i < 32 then bt x (8 + i) else bt x 31 := b_sshr 8 (by omega) x hi
/-! ===== a byte read unsigned ===== -/
theorem bp_b (x : Int32) : x.toInt8.toInt32 &&& 255 = x &&& 255 := by
  apply Int32.toBitVec_inj.mp
  rw [Int32.toBitVec_and, Int32.toBitVec_and, Int8.toBitVec_toInt32, Int32.toBitVec_toInt8]
  apply BitVec.eq_of_getLsbD_eq
  intro i hi
  rw [BitVec.getLsbD_and, BitVec.getLsbD_and]
  have hm : ∀ i < 32, 8 ≤ i → (255 : Int32).toBitVec.getLsbD i = false := by decide
  rcases Nat.lt_or_ge i 8 with z | z
  · rw [BitVec.getLsbD_signExtend, BitVec.getLsbD_signExtend, if_pos z, if_pos hi]
    simp only [z, hi, decide_true, Bool.true_and]
  · rw [hm i hi z]; simp
/-! ===== lN n to 2^64: shifts, and, or, masks, one bit ===== -/
theorem wb_tb (n : Nat) : (lN n).toBitVec = BitVec.ofNat 64 n := rfl
theorem wb_inj {a b : Int64} (h : a.toBitVec = b.toBitVec) : a = b := Int64.toBitVec_inj.mp h
theorem wb_tn {n : Nat} (h : n < 2 ^ 64) : (lN n).toBitVec.toNat = n := by rw [wb_tb, BitVec.toNat_ofNat, Nat.mod_eq_of_lt h]
theorem wb_of (x : Int64) : ∃ n, n < 2 ^ 64 ∧ x = lN n := ⟨x.toBitVec.toNat, x.toBitVec.isLt, wb_inj (by rw [wb_tb]; simp)⟩
theorem wb_of32 (x : Int32) : ∃ n, n < 2 ^ 32 ∧ x = nI n := ⟨x.toBitVec.toNat, x.toBitVec.isLt, Int32.toBitVec_inj.mp (by show _ = BitVec.ofNat 32 _; simp)⟩
theorem wb_c : ∀ k, k < 64 → ((nI k).toInt64 &&& 63) = lN k := by decide +kernel
theorem wb_cu : ∀ k, k < 64 → ((nI k).toInt64.toUInt64 &&& Int64.toUInt64 63) = UInt64.ofNat k := by decide +kernel
theorem wb_sm : ∀ k, k < 64 → (BitVec.ofNat 64 k).smod 64 = BitVec.ofNat 64 k := by decide +kernel
theorem wb_pw {a b : Nat} (h : a ≤ b) : 2 ^ b = 2 ^ a * 2 ^ (b - a) := by rw [← Nat.pow_add]; congr 1; omega
theorem wb_lt2 {a b : Nat} (h : a < b) : 2 ^ a < 2 ^ b := Nat.pow_lt_pow_right (by decide) h
theorem wb_mod (n : Nat) : lN n = lN (n % 2 ^ 64) := wb_inj (by rw [wb_tb, wb_tb]; apply BitVec.eq_of_toNat_eq; rw [BitVec.toNat_ofNat, BitVec.toNat_ofNat, Nat.mod_mod])
theorem wb_shr {n k : Nat} (hn : n < 2 ^ 64) (hk : k < 64) : ((lN n).toUInt64 >>> ((nI k).toInt64.toUInt64 &&& Int64.toUInt64 63)).toInt64 = lN (n / 2 ^ k) := by
  rw [wb_cu k hk]
  apply wb_inj
  apply BitVec.eq_of_toNat_eq
  show ((lN n).toUInt64 >>> UInt64.ofNat k).toNat = (BitVec.ofNat 64 _).toNat
  have h1 : (UInt64.ofNat k).toNat = k := by
    show (BitVec.ofNat 64 k).toNat = k
    rw [BitVec.toNat_ofNat, Nat.mod_eq_of_lt (by omega)]
  have h2 : (lN n).toUInt64.toNat = n := wb_tn hn
  rw [UInt64.toNat_shiftRight, h1, h2, Nat.mod_eq_of_lt hk, Nat.shiftRight_eq_div_pow, BitVec.toNat_ofNat, Nat.mod_eq_of_lt (Nat.lt_of_le_of_lt (Nat.div_le_self _ _) hn)]
theorem wb_shl (n : Nat) {k : Nat} (hk : k < 64) : lN n <<< ((nI k).toInt64 &&& 63) = lN (n * 2 ^ k) := by
  rw [wb_c k hk]
  apply wb_inj
  rw [Int64.toBitVec_shiftLeft, wb_tb, wb_tb, wb_tb, wb_sm k hk]
  apply BitVec.eq_of_toNat_eq
  rw [BitVec.shiftLeft_eq', BitVec.toNat_shiftLeft, BitVec.toNat_ofNat, BitVec.toNat_ofNat, BitVec.toNat_ofNat, Nat.mod_eq_of_lt (show k < 2 ^ 64 by omega), Nat.shiftLeft_eq, Nat.mul_mod, Nat.mod_mod, ← Nat.mul_mod]
theorem wb_and {a b : Nat} (ha : a < 2 ^ 64) (hb : b < 2 ^ 64) : lN a &&& lN b = lN (a &&& b) := by
  apply wb_inj
  rw [Int64.toBitVec_and, wb_tb, wb_tb, wb_tb]
  apply BitVec.eq_of_toNat_eq
  rw [BitVec.toNat_and, BitVec.toNat_ofNat, BitVec.toNat_ofNat, BitVec.toNat_ofNat, Nat.mod_eq_of_lt ha, Nat.mod_eq_of_lt hb, Nat.mod_eq_of_lt (Nat.and_lt_two_pow _ hb)]
theorem wb_or {a b : Nat} (ha : a < 2 ^ 64) (hb : b < 2 ^ 64) : lN a ||| lN b = lN (a ||| b) := by
  apply wb_inj
  rw [Int64.toBitVec_or, wb_tb, wb_tb, wb_tb]
  apply BitVec.eq_of_toNat_eq
  rw [BitVec.toNat_or, BitVec.toNat_ofNat, BitVec.toNat_ofNat, BitVec.toNat_ofNat, Nat.mod_eq_of_lt ha, Nat.mod_eq_of_lt hb, Nat.mod_eq_of_lt (Nat.or_lt_two_pow ha hb)]
theorem wb_mask {n k : Nat} (hn : n < 2 ^ 64) (hk : k < 64) : lN n &&& lN (2 ^ k - 1) = lN (n % 2 ^ k) := by
  rw [wb_and hn (by have := wb_lt2 hk; omega), Nat.and_two_pow_sub_one_eq_mod]
theorem wb_a1 {n : Nat} (hn : n < 2 ^ 64) : lN n &&& 1 = lN (n % 2) := wb_mask (k := 1) hn (by decide)
theorem wb_bit {n k : Nat} (hn : n < 2 ^ 64) (hk : k < 64) : ((lN n).toUInt64 >>> ((nI k).toInt64.toUInt64 &&& Int64.toUInt64 63)).toInt64 &&& 1 = lN (n / 2 ^ k % 2) := by
  rw [wb_shr hn hk, wb_a1 (Nat.lt_of_le_of_lt (Nat.div_le_self _ _) hn)]
theorem wb_xor {q k : Nat} (hk : k < 63) (h : 2 ^ k ≤ q) (h2 : q < 2 ^ (k + 1)) : lN q ^^^ lN (2 ^ k) = lN (q - 2 ^ k) := by
  obtain ⟨r, rfl⟩ : ∃ r, q = 2 ^ k + r := ⟨q - 2 ^ k, by omega⟩
  have hr : r < 2 ^ k := by rw [Nat.pow_succ] at h2; omega
  have hx : (2 ^ k + r) ^^^ 2 ^ k = r := by
    apply Nat.eq_of_testBit_eq
    intro i
    rw [Nat.testBit_xor, Nat.testBit_two_pow]
    rcases Nat.lt_trichotomy i k with h | h | h
    · rw [Nat.testBit_two_pow_add_gt h]
      simp [show ¬ k = i by omega]
    · subst h
      rw [Nat.testBit_two_pow_add_eq]
      simp
    · have a1 : 2 ^ (k + 1) ≤ 2 ^ i := Nat.pow_le_pow_right (by decide) h
      rw [Nat.testBit_lt_two_pow (show 2 ^ k + r < 2 ^ i by omega), Nat.testBit_lt_two_pow (show r < 2 ^ i by omega)]
      simp [show ¬ k = i by omega]
  have b1 := wb_lt2 (show k + 1 < 64 by omega)
  have b2 := wb_lt2 (show k < 64 by omega)
  apply wb_inj
  rw [Int64.toBitVec_xor, wb_tb, wb_tb, wb_tb]
  apply BitVec.eq_of_toNat_eq
  rw [BitVec.toNat_xor, BitVec.toNat_ofNat, BitVec.toNat_ofNat, BitVec.toNat_ofNat, Nat.mod_eq_of_lt (by omega : 2 ^ k + r < 2 ^ 64), Nat.mod_eq_of_lt b2, hx, Nat.add_sub_cancel_left, Nat.mod_eq_of_lt (by omega)]
/-! ===== lN: masks, 'or' of parts that don't overlap is a sum ===== -/
theorem u_tn {n : Nat} (h : n < 2 ^ 64) : (UInt64.ofNat n).toNat = n := Nat.mod_eq_of_lt h
theorem g_and {a b c : Nat} (ha : a < 2 ^ 64) (hb : b < 2 ^ 64) (hc : a &&& b = c) : lN a &&& lN b = lN c := by
  subst hc
  have h : UInt64.ofNat a &&& UInt64.ofNat b = UInt64.ofNat (a &&& b) := UInt64.toNat_inj.mp (by rw [UInt64.toNat_and, u_tn ha, u_tn hb, u_tn (Nat.and_lt_two_pow a hb)])
  have h2 := congrArg UInt64.toInt64 h
  exact h2
theorem g_and1 {a : Nat} (ha : a < 2 ^ 64) : lN a &&& 1 = lN (a % 2) := g_and (b := 1) ha (by decide) (Nat.and_two_pow_sub_one_eq_mod a 1)
theorem g_mask {a s p : Nat} (hp : 2 ^ s = p) (hs : s < 64) (ha : a < 2 ^ 64) : lN a &&& lN (p - 1) = lN (a % p) := by
  subst hp
  have := Nat.pow_lt_pow_right (show 1 < 2 by decide) hs
  exact g_and ha (by omega) (Nat.and_two_pow_sub_one_eq_mod a s)
theorem g_or {k p a b : Nat} (hp : 2 ^ k = p) (ha : a < p) (h : b * p + a < 2 ^ 64) : lN (b * p) ||| lN a = lN (b * p + a) := by
  subst hp
  have h1 : b * 2 ^ k ||| a = b * 2 ^ k + a := by rw [← Nat.shiftLeft_eq, Nat.shiftLeft_add_eq_or_of_lt ha]
  have h3 : UInt64.ofNat (b * 2 ^ k) ||| UInt64.ofNat a = UInt64.ofNat (b * 2 ^ k + a) := UInt64.toNat_inj.mp (by rw [UInt64.toNat_or, u_tn (by omega), u_tn (by omega), u_tn h, h1])
  have h2 := congrArg UInt64.toInt64 h3
  exact h2
theorem g_or' {k p a b : Nat} (hp : 2 ^ k = p) (ha : a < p) (h : a + b * p < 2 ^ 64) : lN a ||| lN (b * p) = lN (a + b * p) := by
  rw [Int64.or_comm, g_or hp ha (by omega), Nat.add_comm]
theorem g_ushr {a k p : Nat} {y : UInt64} (hy : y = UInt64.ofNat k) (hk : k < 64) (hp : 2 ^ k = p) (ha : a < 2 ^ 64) : ((lN a).toUInt64 >>> y).toInt64 = lN (a / p) := by
  subst hy hp
  have h : UInt64.ofNat a >>> UInt64.ofNat k = UInt64.ofNat (a / 2 ^ k) := UInt64.toNat_inj.mp (by rw [UInt64.toNat_shiftRight, u_tn ha, u_tn (by omega), u_tn (Nat.lt_of_le_of_lt (Nat.div_le_self _ _) ha), Nat.mod_eq_of_lt hk, Nat.shiftRight_eq_div_pow])
  have h2 := congrArg UInt64.toInt64 h
  exact h2
theorem g_shl {a k p : Nat} {y : Int64} (hy : y.toBitVec.smod 64 = BitVec.ofNat 64 k) (hk : k < 64) (hp : 2 ^ k = p) (ha : a < 2 ^ 64) : lN a <<< y = lN (a * p) := by
  subst hp
  apply Int64.toBitVec_inj.mp
  rw [Int64.toBitVec_shiftLeft, hy]
  apply BitVec.eq_of_toNat_eq
  have hb : (lN a).toBitVec.toNat = a := Nat.mod_eq_of_lt ha
  have hk' : (BitVec.ofNat 64 k).toNat = k := Nat.mod_eq_of_lt (by omega)
  have h : ((lN a).toBitVec <<< BitVec.ofNat 64 k).toNat = (a * 2 ^ k) % 2 ^ 64 := by simp only [BitVec.shiftLeft_eq', BitVec.toNat_shiftLeft, hb, hk', Nat.shiftLeft_eq]
  exact h
end
section
/-! THE PLAIN LAW: RC5 with 64-bit words, as both sides compute it; no program in sight -/
set_option maxRecDepth 100000
/-- a row's bytes, as ints 0..255 -/
def mk8 (f : Nat → Int32) : Nat → Int32 := fun j => f j &&& 255
theorem and255 (x : Int32) : (x &&& 255) &&& 255 = x &&& 255 := by
  rw [Int32.and_assoc]; rfl
theorem mk8_mk8 (f : Nat → Int32) : mk8 (mk8 f) = mk8 f := funext fun j => and255 (f j)
theorem mk8_upd (f : Nat → Int32) (k : Nat) (x : Int32) : mk8 (upd f k x) = upd (mk8 f) k (x &&& 255) := by
  funext j
  unfold mk8 upd
  split <;> rfl
theorem vnb (x : Int32) : vp_nar .byte x &&& 255 = x &&& 255 := by
  rw [vp_nar_byte, bp_b]
theorem vnb8 (x : Int32) : vp_nar .byte x.toInt8.toInt32 &&& 255 = x &&& 255 := by
  rw [vnb, bp_b]
/-- n places from o on are v 0, v 1 .. -/
def stn (f : Nat → Int32) (o : Nat) (v : Nat → Int32) (n : Nat) : Nat → Int32 := fun j => if o ≤ j ∧ j < o + n then v (j - o) else f j
theorem stn_0 (f : Nat → Int32) (o : Nat) (v : Nat → Int32) : stn f o v 0 = f := by
  funext j
  unfold stn
  rw [if_neg (by omega)]
theorem stn_s (f : Nat → Int32) (o : Nat) (v : Nat → Int32) (n : Nat) : upd (stn f o v n) (o + n) (v n) = stn f o v (n + 1) := by
  funext j
  unfold stn upd
  by_cases h : j = o + n
  · rw [if_pos h, if_pos (by omega), h, Nat.add_sub_cancel_left]
  · rw [if_neg h]
    dsimp only
    by_cases h2 : o ≤ j ∧ j < o + n
    · rw [if_pos h2, if_pos (by omega)]
    · rw [if_neg h2, if_neg (by omega)]
theorem stn_z (f : Nat → Int32) (v : Nat → Int32) (n : Nat) : upd (stn f 0 v n) n (v n) = stn f 0 v (n + 1) := by
  have h := stn_s f 0 v n
  rw [Nat.zero_add] at h
  exact h
theorem mk8_stn (f : Nat → Int32) (o : Nat) (v : Nat → Int32) (n : Nat) : mk8 (stn f o v n) = stn (mk8 f) o (mk8 v) n := by
  funext j
  unfold mk8 stn
  split <;> rfl
theorem mk8_vnb (f : Nat → Int32) : mk8 (fun j => vp_nar .byte (f j)) = mk8 f := funext fun j => vnb (f j)
/-- the byte k of an int, the highest first -/
def wb4 (w : Int32) (k : Nat) : Int32 := (w >>> ((nI 24 - nI 8 * nI k) &&& 31)) &&& nI 255
theorem wb4_0 (w : Int32) : (w >>> (nI 24 &&& 31)) &&& 255 = wb4 w 0 := by
  unfold wb4
  rw [show nI 24 - nI 8 * nI 0 = nI 24 by decide]
  rfl
theorem wb4_1 (w : Int32) : (w >>> (nI 16 &&& 31)) &&& 255 = wb4 w 1 := by
  unfold wb4
  rw [show nI 24 - nI 8 * nI 1 = nI 16 by decide]
  rfl
theorem wb4_2 (w : Int32) : (w >>> (nI 8 &&& 31)) &&& 255 = wb4 w 2 := by
  unfold wb4
  rw [show nI 24 - nI 8 * nI 2 = nI 8 by decide]
  rfl
theorem wb4_3 (w : Int32) : w &&& 255 = wb4 w 3 := by
  unfold wb4
  rw [show nI 24 - nI 8 * nI 3 = 0 by decide, show w >>> ((0 : Int32) &&& 31) = w from sb_shr0 w]
  rfl
/-- four bytes as the class lays them are the reference's four -/
theorem word_eq (f : Nat → Int32) (o : Nat) (w : Int32) : mk8 (upd (upd (upd (upd f o (vp_nar .byte (w >>> (nI 24 &&& 31)).toInt8.toInt32)) (o + 1) (vp_nar .byte (w >>> (nI 16 &&& 31)).toInt8.toInt32)) (o + 2) (vp_nar .byte (w >>> (nI 8 &&& 31)).toInt8.toInt32)) (o + 3) (vp_nar .byte w.toInt8.toInt32)) = stn (mk8 f) o (wb4 w) 4 := by
  rw [mk8_upd, mk8_upd, mk8_upd, mk8_upd, vnb8, vnb8, vnb8, vnb8, wb4_0, wb4_1, wb4_2, wb4_3]
  have h0 : upd (mk8 f) o (wb4 w 0) = stn (mk8 f) o (wb4 w) 1 := by
    have h := stn_s (mk8 f) o (wb4 w) 0
    rw [stn_0] at h
    exact h
  rw [h0, stn_s _ _ _ 1, stn_s _ _ _ 2, stn_s _ _ _ 3]
/-- sixteen bytes out of four ints -/
def st16 (f : Nat → Int32) (o : Nat) (a b c d : Int32) : Nat → Int32 := stn (stn (stn (stn f o (wb4 a) 4) (o + 4) (wb4 b) 4) (o + 8) (wb4 c) 4) (o + 12) (wb4 d) 4
def half (h : Int32) : Nat := h.toBitVec.toNat % 2
theorem half_lt (h : Int32) : half h < 2 := Nat.mod_lt _ (by decide)
theorem half_and (h : Int32) : h &&& nI 1 = nI (half h) := pk_and h (m := nI 1) 1 (by decide)
theorem half_shl (h : Int32) : (h &&& nI 1) <<< (nI 4 &&& 31) = nI (16 * half h) := by
  rw [half_and, pk_shlN (nI 4 &&& 31) 4 (by decide) (by have := half_lt h; omega)]
  congr 1
  omega
theorem half_mul (h : Int32) : nI 16 * (h &&& nI 1) = nI (16 * half h) := by
  rw [half_and, pk_mul]
def nib (h : Int32) : Nat := h.toBitVec.toNat % 16
theorem nib_lt (h : Int32) : nib h < 16 := Nat.mod_lt _ (by decide)
theorem nib_and (h : Int32) : h &&& nI 15 = nI (nib h) := pk_and h (m := nI 15) 4 (by decide)
/-- eight bytes from o on as a number, the lowest first: n of them read, from the highest -/
def hw (f : Nat → Int32) (o : Nat) : Nat → Int64
  | 0 => 0
  | n + 1 => hw f o n * 256 + (f (o + (7 - n))).toInt64
theorem shl_8 (x : Int64) : x <<< ((nI 8).toInt64 &&& 63) = x * 256 := by
  obtain ⟨n, hn, rfl⟩ := wb_of x
  rw [wb_shl n (by decide), show (256 : Int64) = lN 256 from rfl, lN_mul]
theorem or_8 (x : Int64) (r : Int32) (h : r &&& 255 = r) : (x * 256) ||| r.toInt64 = x * 256 + r.toInt64 := by
  obtain ⟨n, hn, rfl⟩ := wb_of x
  have h1 : r = nI (r.toBitVec.toNat % 2 ^ 8) := h.symm.trans (pk_and r (m := 255) 8 (by decide))
  generalize hq : r.toBitVec.toNat % 2 ^ 8 = q at h1
  have hq2 : q < 256 := by omega
  subst h1
  rw [nI_l (by omega), show (256 : Int64) = lN 256 from rfl, lN_mul]
  have h2 : lN (n * 256) = lN ((n % 2 ^ 56) * 256) := by
    rw [wb_mod (n * 256)]
    congr 1
    omega
  rw [h2, g_or (k := 8) (p := 256) rfl hq2 (by omega), lN_add]
theorem hw_step (f : Nat → Int32) (o n : Nat) (h : f (o + (7 - n)) &&& 255 = f (o + (7 - n))) : (hw f o n <<< ((nI 8).toInt64 &&& 63)) ||| (f (o + (7 - n))).toInt64 = hw f o (n + 1) := by
  rw [shl_8, or_8 _ _ h]
  rfl
theorem hw_step8 (f : Nat → Int32) (o n : Nat) : (hw (mk8 f) o n <<< ((nI 8).toInt64 &&& 63)) + (f (7 - n + o) &&& nI 255).toInt64 = hw (mk8 f) o (n + 1) := by
  rw [shl_8, Nat.add_comm (7 - n) o]
  rfl
/-- the byte k of a word, the lowest first -/
def qb (w : Int64) (k : Nat) : Int32 := ((w >>> ((nI 8 * nI k).toInt64 &&& 63)) &&& 255).toInt32
/-- a word with its k lowest bytes taken off -/
def lw (w : Int64) : Nat → Int64
  | 0 => w
  | k + 1 => ((lw w k).toUInt64 >>> ((nI 8).toInt64.toUInt64 &&& Int64.toUInt64 63)).toInt64
theorem lw_lN {n : Nat} (hn : n < 2 ^ 64) : ∀ k, lw (lN n) k = lN (n / 2 ^ (8 * k)) := by
  intro k
  induction k with
  | zero => simp [lw]
  | succ k ih =>
    show ((lw (lN n) k).toUInt64 >>> ((nI 8).toInt64.toUInt64 &&& Int64.toUInt64 63)).toInt64 = _
    rw [ih, wb_shr (Nat.lt_of_le_of_lt (Nat.div_le_self _ _) hn) (by decide), Nat.div_div_eq_div_mul, ← Nat.pow_add]
    rfl
theorem bits_255 (i : Nat) (h : 8 ≤ i) : (255#64).getLsbD i = false := by
  have h1 : Nat.testBit 255 i = decide (i < 8) := Nat.testBit_two_pow_sub_one 8 i
  rw [BitVec.getLsbD_ofNat, h1]
  simp
  omega
theorem sar_bits (x : BitVec 64) (s : Nat) (h : s ≤ 56) : x.sshiftRight s &&& 255#64 = (x >>> s) &&& 255#64 := by
  apply BitVec.eq_of_getLsbD_eq
  intro i hi
  rw [BitVec.getLsbD_and, BitVec.getLsbD_and]
  by_cases h8 : i < 8
  · rw [BitVec.getLsbD_sshiftRight, BitVec.getLsbD_ushiftRight, if_pos (by omega)]
    have h64 : decide (64 ≤ i) = false := decide_eq_false (by omega)
    rw [h64]
    rfl
  · rw [bits_255 i (by omega), Bool.and_false, Bool.and_false]
theorem qb_lN {n : Nat} (hn : n < 2 ^ 64) (k : Nat) (hk : k < 8) : qb (lN n) k = nI (n / 2 ^ (8 * k) % 256) := by
  have h1 : (lN n >>> ((nI 8 * nI k).toInt64 &&& 63)) &&& 255 = lN (n / 2 ^ (8 * k)) &&& 255 := by
    rw [pk_mul, wb_c (8 * k) (by omega)]
    apply wb_inj
    rw [Int64.toBitVec_and, Int64.toBitVec_shiftRight, Int64.toBitVec_and]
    have h2 : (lN (8 * k)).toBitVec.smod 64 = BitVec.ofNat 64 (8 * k) := wb_sm (8 * k) (by omega)
    have h3 : (BitVec.ofNat 64 (8 * k)).toNat = 8 * k := by rw [BitVec.toNat_ofNat, Nat.mod_eq_of_lt (by omega)]
    rw [BitVec.sshiftRight_eq', h2, h3, show (255 : Int64).toBitVec = 255#64 from rfl, sar_bits _ _ (by omega)]
    congr 1
    apply BitVec.eq_of_toNat_eq
    rw [BitVec.toNat_ushiftRight, wb_tn hn, wb_tn (Nat.lt_of_le_of_lt (Nat.div_le_self _ _) hn), Nat.shiftRight_eq_div_pow]
  unfold qb
  rw [h1, show (255 : Int64) = lN (2 ^ 8 - 1) from rfl, wb_mask (Nat.lt_of_le_of_lt (Nat.div_le_self _ _) hn) (by decide), lN_i]
theorem nI_255 (m : Nat) : nI m &&& 255 = nI (m % 256) := by
  rw [pk_and (nI m) (m := 255) 8 (by decide)]
  congr 1
  show (BitVec.ofNat 32 m).toNat % 2 ^ 8 = m % 256
  rw [BitVec.toNat_ofNat]
  omega
theorem lw_qb (w : Int64) (k : Nat) (hk : k < 8) : (lw w k).toInt32 &&& 255 = qb w k := by
  obtain ⟨n, hn, rfl⟩ := wb_of w
  rw [lw_lN hn, lN_i, nI_255, qb_lN hn k hk]
/-- turned to the left, to the right -/
def rl (x y : Int64) : Int64 := (x <<< (((y &&& 63).toInt32).toInt64 &&& 63)) ||| (x.toUInt64 >>> (((64 - (y &&& 63)).toInt32).toInt64.toUInt64 &&& Int64.toUInt64 63)).toInt64
def rr (x y : Int64) : Int64 := (x.toUInt64 >>> (((y &&& 63).toInt32).toInt64.toUInt64 &&& Int64.toUInt64 63)).toInt64 ||| (x <<< (((64 - (y &&& 63)).toInt32).toInt64 &&& 63))
theorem rl_m (x y : Int64) : (x <<< (((y &&& 63).toInt32).toInt64 &&& 63)) ||| (x.toUInt64 >>> ((nI 64 - (y &&& 63).toInt32).toInt64.toUInt64 &&& Int64.toUInt64 63)).toInt64 = rl x y := by
  unfold rl
  rw [Int64.toInt32_sub]
  rfl
theorem rr_m (x y : Int64) : (x.toUInt64 >>> (((y &&& 63).toInt32).toInt64.toUInt64 &&& Int64.toUInt64 63)).toInt64 ||| (x <<< ((nI 64 - (y &&& 63).toInt32).toInt64 &&& 63)) = rr x y := by
  unfold rr
  rw [Int64.toInt32_sub]
  rfl
/-- the first table -/
def s0 : Nat → Int64
  | 0 => -5196783011329398165
  | n + 1 => s0 n + -7046029254386353131
def sf (n : Nat) : Nat → Int64 := fun j => if j < n then s0 j else 0
theorem sf_1 : vp_updL (fun _ => 0) 0 (-5196783011329398165) = sf 1 := by
  funext j
  unfold vp_updL sf
  match j with
  | 0 => rfl
  | j + 1 => rw [if_neg (by omega), if_neg (by omega)]
theorem sf_s (n : Nat) : vp_updL (sf (n + 1)) (n + 1) (sf (n + 1) n + -7046029254386353131) = sf (n + 2) := by
  funext j
  unfold vp_updL sf
  by_cases h : j = n + 1
  · rw [if_pos h, if_pos (by omega), if_pos (by omega), h]
    rfl
  · rw [if_neg h]
    by_cases h2 : j < n + 1
    · rw [if_pos h2, if_pos (by omega)]
    · rw [if_neg h2, if_neg (by omega)]
/-- the key's two words -/
def L0 (K : Nat → Int32) : Nat → Int64 := vp_updL (vp_updL (fun _ => 0) 0 (hw K 0 8)) 1 (hw K 8 8)
def lq (K : Nat → Int32) : Nat → (Nat → Int64)
  | 0 => fun _ => 0
  | n + 1 => vp_updL (lq K n) (n / 8) (lq K n (n / 8) + (K n).toInt64 <<< ((nI 8 * nI (n % 8)).toInt64 &&& 63))
def acc (K : Nat → Int32) (o : Nat) : Nat → Int64
  | 0 => 0
  | n + 1 => acc K o n + (K (o + n)).toInt64 * lN (2 ^ (8 * n))
theorem shl_m (x : Int64) (m : Nat) (hm : m < 8) : x <<< ((nI 8 * nI m).toInt64 &&& 63) = x * lN (2 ^ (8 * m)) := by
  obtain ⟨n, hn, rfl⟩ := wb_of x
  rw [pk_mul, wb_shl n (by omega), lN_mul]
theorem acc_hw (K : Nat → Int32) (o : Nat) : acc K o 8 = hw K o 8 := by
  simp only [acc, hw]
  rw [show lN (2 ^ (8 * 0)) = 1 from rfl, show lN (2 ^ (8 * 1)) = 256 from rfl, show lN (2 ^ (8 * 2)) = 65536 from rfl, show lN (2 ^ (8 * 3)) = 16777216 from rfl, show lN (2 ^ (8 * 4)) = 4294967296 from rfl, show lN (2 ^ (8 * 5)) = 1099511627776 from rfl, show lN (2 ^ (8 * 6)) = 281474976710656 from rfl, show lN (2 ^ (8 * 7)) = 72057594037927936 from rfl]
  simp only [Nat.sub_zero, Nat.reduceSub, Nat.add_zero]
  grind
theorem lq_lo (K : Nat → Int32) : ∀ n, n ≤ 8 → lq K n = vp_updL (fun _ => 0) 0 (acc K 0 n) := by
  intro n
  induction n with
  | zero =>
    intro _
    funext j
    show (0 : Int64) = vp_updL (fun _ => 0) 0 0 j
    unfold vp_updL
    split <;> rfl
  | succ n ih =>
    intro hn
    show vp_updL (lq K n) (n / 8) (lq K n (n / 8) + (K n).toInt64 <<< ((nI 8 * nI (n % 8)).toInt64 &&& 63)) = _
    rw [ih (by omega), shl_m _ _ (Nat.mod_lt _ (by decide)), Nat.mod_eq_of_lt (by omega : n < 8), Nat.div_eq_of_lt (by omega : n < 8)]
    funext j
    unfold vp_updL
    by_cases h : j = 0
    · rw [if_pos h, if_pos rfl, if_pos h]
      show acc K 0 n + (K n).toInt64 * lN (2 ^ (8 * n)) = acc K 0 n + (K (0 + n)).toInt64 * lN (2 ^ (8 * n))
      rw [Nat.zero_add]
    · rw [if_neg h, if_neg h, if_neg h]
theorem lq_hi (K : Nat → Int32) : ∀ n, n ≤ 8 → lq K (8 + n) = vp_updL (vp_updL (fun _ => 0) 0 (acc K 0 8)) 1 (acc K 8 n) := by
  intro n
  induction n with
  | zero =>
    intro _
    rw [Nat.add_zero, lq_lo K 8 (Nat.le_refl 8)]
    funext j
    show _ = vp_updL (vp_updL (fun _ => 0) 0 (acc K 0 8)) 1 0 j
    unfold vp_updL
    by_cases h : j = 1
    · rw [if_pos h, if_neg (by omega)]
    · rw [if_neg h]
  | succ n ih =>
    intro hn
    show vp_updL (lq K (8 + n)) ((8 + n) / 8) (lq K (8 + n) ((8 + n) / 8) + (K (8 + n)).toInt64 <<< ((nI 8 * nI ((8 + n) % 8)).toInt64 &&& 63)) = _
    rw [ih (by omega), shl_m _ _ (Nat.mod_lt _ (by decide)), show (8 + n) % 8 = n by omega, show (8 + n) / 8 = 1 by omega]
    funext j
    unfold vp_updL
    by_cases h : j = 1
    · rw [if_pos h, if_pos rfl, if_pos h]
      rfl
    · rw [if_neg h, if_neg h, if_neg h]
theorem lq_16 (K : Nat → Int32) : lq K 16 = L0 K := by
  rw [lq_hi K 8 (Nat.le_refl 8), acc_hw, acc_hw]
  rfl
/-- the mixing: n steps -/
def mx (S L : Nat → Int64) : Nat → (Nat → Int64) × (Nat → Int64) × Int64 × Int64
  | 0 => (S, L, 0, 0)
  | n + 1 => (vp_updL (mx S L n).1 (n % 26) (rl ((mx S L n).1 (n % 26) + (mx S L n).2.2.1 + (mx S L n).2.2.2) 3),
      vp_updL (mx S L n).2.1 (n % 2) (rl ((mx S L n).2.1 (n % 2) + rl ((mx S L n).1 (n % 26) + (mx S L n).2.2.1 + (mx S L n).2.2.2) 3 + (mx S L n).2.2.2) (rl ((mx S L n).1 (n % 26) + (mx S L n).2.2.1 + (mx S L n).2.2.2) 3 + (mx S L n).2.2.2)),
      rl ((mx S L n).1 (n % 26) + (mx S L n).2.2.1 + (mx S L n).2.2.2) 3,
      rl ((mx S L n).2.1 (n % 2) + rl ((mx S L n).1 (n % 26) + (mx S L n).2.2.1 + (mx S L n).2.2.2) 3 + (mx S L n).2.2.2) (rl ((mx S L n).1 (n % 26) + (mx S L n).2.2.1 + (mx S L n).2.2.2) 3 + (mx S L n).2.2.2))
/-- the table that the key's bytes give -/
def sch (K : Nat → Int32) : Nat → Int64 := (mx (sf 26) (L0 K) 78).1
/-- what the class hands on as its key: sixteen bytes -/
def t16 (K : Nat → Int32) : Nat → Int32 := stn (fun _ => 0) 0 K 16
theorem t16_at (K : Nat → Int32) (j : Nat) (h : j < 16) : t16 K j = K j := by
  unfold t16 stn
  rw [if_pos (by omega), Nat.sub_zero]
theorem hw_t16 (K : Nat → Int32) (o : Nat) (ho : o ≤ 8) : ∀ n, hw (t16 K) o n = hw K o n := by
  intro n
  induction n with
  | zero => rfl
  | succ n ih =>
    show hw (t16 K) o n * 256 + (t16 K (o + (7 - n))).toInt64 = hw K o n * 256 + (K (o + (7 - n))).toInt64
    rw [ih, t16_at K _ (by omega)]
theorem sch_t16 (K : Nat → Int32) : sch (t16 K) = sch K := by
  unfold sch L0
  rw [hw_t16 K 0 (by omega), hw_t16 K 8 (by omega)]
theorem t16_t16 (K : Nat → Int32) : t16 (t16 K) = t16 K := by
  funext j
  by_cases h : j < 16
  · rw [t16_at _ _ h]
  · unfold t16 stn
    rw [if_neg (by omega), if_neg (by omega)]
/-- n rounds there, n rounds back -/
def en (S : Nat → Int64) (a b : Int64) : Nat → Int64 × Int64
  | 0 => (a, b)
  | n + 1 => (rl ((en S a b n).1 ^^^ (en S a b n).2) (en S a b n).2 + S (2 * (n + 1)),
      rl ((en S a b n).2 ^^^ (rl ((en S a b n).1 ^^^ (en S a b n).2) (en S a b n).2 + S (2 * (n + 1)))) (rl ((en S a b n).1 ^^^ (en S a b n).2) (en S a b n).2 + S (2 * (n + 1))) + S (2 * (n + 1) + 1))
def de (S : Nat → Int64) (a b : Int64) : Nat → Int64 × Int64
  | 0 => (a, b)
  | n + 1 => (rr ((de S a b n).1 - S (2 * (12 - n))) (rr ((de S a b n).2 - S (2 * (12 - n) + 1)) (de S a b n).1 ^^^ (de S a b n).1) ^^^ (rr ((de S a b n).2 - S (2 * (12 - n) + 1)) (de S a b n).1 ^^^ (de S a b n).1),
      rr ((de S a b n).2 - S (2 * (12 - n) + 1)) (de S a b n).1 ^^^ (de S a b n).1)
/-- two words laid into a row of bytes -/
def lay (O : Nat → Int32) (a b : Int64) : Nat → Int32 := stn (stn O 0 (qb a) 8) 8 (qb b) 8
def encO (S : Nat → Int64) (B O : Nat → Int32) : Nat → Int32 := lay O (en S (hw B 0 8 + S 0) (hw B 8 8 + S 1) 12).1 (en S (hw B 0 8 + S 0) (hw B 8 8 + S 1) 12).2
def decO (S : Nat → Int64) (B O : Nat → Int32) : Nat → Int32 := lay O ((de S (hw B 0 8) (hw B 8 8) 12).1 - S 0) ((de S (hw B 0 8) (hw B 8 8) 12).2 - S 1)
end
section
/-! the classes whose objects the worlds hold -/
abbrev vwCl : List vw_C := [(RX0, TX0, 3), (RX1, TX1, 3), (RX2, TX2, 3), (RX3, TX3, 2)]
theorem fitb (x : Int32) : fits .byte (.int (vp_nar .byte x)) = true := by
  rw [vp_nar_byte]
  exact pk_fb x

theorem mk8_cpy (f : Nat → Int32) : mk8 (va_cpy f (fun _ => 0) 0 0 16) = t16 (mk8 f) := by
  funext j
  unfold t16 stn mk8
  by_cases h : 0 ≤ j ∧ j < 0 + 16
  · rw [if_pos h, pk_cpy_in h.1 h.2, Nat.zero_add, Nat.sub_zero]
  · rw [if_neg h, pk_cpy_out (by omega)]
    rfl

abbrev wsX3_init : List Cond := ws_ yX3_init cX3_init 3 none
abbrev BX3_init (dC : Nat → ClassId) (dI : Nat → Nat → Nat) (A : Nat → Prop) (h0 : Nat) (aa : Nat) (da : ClassId) (f : Nat → Int32) (x : Int32) (u : Nat → Int32) (t : State) : Prop := ∃ (ak : Nat), ∃ (dk : ClassId), va_P (dC, dI) vwCl [(h0, .inr (3, [.ref ak, .int x])), (aa, .inl (da, 16, .inl f)), (ak, .inl (dk, 16, .inl u))] t.heap ∧ va_K (dC, dI) vwCl [(da, .byte), (dk, .byte)] t ∧ va_D A [(h0, .inr (3, [.ref ak, .int x])), (aa, .inl (da, 16, .inl f)), (ak, .inl (dk, 16, .inl u))]
set_option maxHeartbeats 4000000 in
set_option maxRecDepth 100000 in
/-- RC5Parameters(key, rounds): a copy of the key -/
theorem metX3_init (l : Launch) (dC : Nat → ClassId) (dI : Nat → Nat → Nat) (h0 : Nat) (aa : Nat) (da : ClassId) (f : Nat → Int32) (x : Int32) (sz : Nat) (hfit : ∀ i, i < 16 → fits .byte (.int (f i)) = true) : Met l yX3_init wsX3_init ({ frames := 1, cells := 1, slots := 16, locals := 18 }) (va_Pc [.ref h0, .ref aa, .int x] (fun U => U.heap.size = sz ∧ va_P (dC, dI) vwCl [(h0, .inr (3, [.null, .int (nI 0)])), (aa, .inl (da, 16, .inl f))] U.heap ∧ va_K (dC, dI) vwCl [(da, .byte)] U ∧ va_D (fun _ => True) [(h0, .inr (3, [.null, .int (nI 0)])), (aa, .inl (da, 16, .inl f))])) (va_Qv (fun (u : Nat → Int32) => mk8 u = t16 (mk8 f)) (BX3_init dC dI (va_A [(h0, .inr (3, [.null, .int (nI 0)])), (aa, .inl (da, 16, .inl f))] sz) h0 aa da f x) (va_A [(h0, .inr (3, [.null, .int (nI 0)])), (aa, .inl (da, 16, .inl f))] sz)) 1 16 (va_A [(h0, .inr (3, [.null, .int (nI 0)])), (aa, .inl (da, 16, .inl f))] sz) := by
  refine Met.ofW (cc := cX3_init) (maxL := 3) (ret := none) (by decide) rfl ?_
  intro p e s m args below meth c s₁ B hml hv
  obtain ⟨rfl, hsz, hP, hK, hD0⟩ := hv
  have hx := B.exec
  have hb := B.bytes
  have hr := B.returns
  have hts := atoms_spec (ws := wsX3_init) B.pre
  have hts : ∀ w ∈ lw_all, w.before _ s = true := fun w h => hts w (List.mem_cons_of_mem _ h)
  have hown : s.vm.findClass RX3 = some m.cls := findClass_of_methodNamed B.named
  have hlocks := B.notSynchronized
  have hin : meth.name = "<init>" := (name_of_methodNamed B.named B.method).1
  subst hsz
  have hD := hD0.self (sz := s.heap.size)
  generalize hAe : va_A [(h0, .inr (3, [.null, .int (nI 0)])), (aa, .inl (da, 16, .inl f))] s.heap.size = A at hD ⊢
  have hA : ∀ q : Nat, s.heap.size ≤ q → A q := fun q h => by rw [← hAe]; exact Or.inr h
  have hS : va_S A s.heap s.heap [] := va_S.rf
  have hP : va_P (dC, dI) vwCl [(h0, .inr (3, [.null, .int (nI 0)])), (aa, .inl (da, 16, .inl f))] s.heap := hP
  have hl := lv_entry ([.ref h0, .ref aa, .int x]) (n := 3) (Nat.le_of_ble_eq_true rfl)
  rw [lg_entry_eq]
  generalize (lg_sl ([.ref h0, .ref aa, .int x]) ++ List.replicate (3 - (lg_sl ([.ref h0, .ref aa, .int x])).length) Slot.unset).toArray = ls at hl ⊢
  have hl : lv_has ls 3 [(0, .ref h0), (1, .ref aa), (2, .int x)] := hl
  refine lv_aload_n hx hb dX3_init_0 rfl (lv_at hl 0 rfl) ?_
  refine W.objInit hx hb hown (hts _ q83) (hts _ q27) (hts _ q28) rfl (by rw [hml]; exact hl.1) rfl dX3_init_1 (Nat.le_of_ble_eq_true rfl) (Nat.le_of_ble_eq_true rfl) ?_
  refine W.eq (g2 := F0 m 4 ls []) rfl ?_
  refine lv_aload_n hx hb dX3_init_4 rfl (lv_at hl 1 rfl) ?_
  refine va_alen (v := nI 16) hx hb hK hP 1 0 rfl rfl rfl dX3_init_5 ?_
  refine lv_sipush (v := nI 255) hx hb dX3_init_6 (by decide) ?_
  refine lv_icmp_le (tgt := 22) hx hb dX3_init_9 (by decide) (fun c_9 => ?_) (fun c_9 => ?_)
  · refine lv_aload_n hx hb dX3_init_22 rfl (lv_at hl 0 rfl) ?_
    refine lv_aload_n hx hb dX3_init_23 rfl (lv_at hl 1 rfl) ?_
    refine va_alen (v := nI 16) hx hb hK hP 1 0 rfl rfl rfl dX3_init_24 ?_
    refine va_newa (atype := .byte) (ty := .byte) (N' := 16) (a0 := (16, .inl (fun _ => 0))) hx hb (hts _ q39) rfl hK hP hD hS hA (fun _ => rfl) (nI_pos (n := 16) (by omega)) (nI_clamp (n := 16) (by omega)) (Nat.le_of_ble_eq_true rfl) (Nat.le_of_ble_eq_true rfl) (Nat.le_of_ble_eq_true rfl) dX3_init_25 (fun q_25 d_25 H hK hP hD hS => ?_)
    have hP : va_P (dC, dI) vwCl [(h0, .inr (3, [.null, .int (nI 0)])), (aa, .inl (da, 16, .inl f)), (q_25, .inl (d_25, 16, .inl (fun _ => 0)))] H := hP
    have hD : va_D A [(h0, .inr (3, [.null, .int (nI 0)])), (aa, .inl (da, 16, .inl f)), (q_25, .inl (d_25, 16, .inl (fun _ => 0)))] := hD
    have hK : va_K (dC, dI) vwCl [(da, .byte), (d_25, .byte)] s := hK
    refine va_put (D := (dC, dI)) (ci := 3) (v := .ref q_25) (ty := .array .byte) (C := RX3) (T := TX3) (N := 2) hx hb hts in_X3 tyX3 tyX3_ok nmX3 hown hK hP hD hS 0 rfl rfl 0 (by decide) (hts _ q152) (fun _ h9 => h9) rfl (by decide +kernel) rfl rfl (Nat.le_of_ble_eq_true rfl) dX3_init_27 (fun H locs hP hD hS => ?_)
    have hP : va_P (dC, dI) vwCl [(h0, .inr (3, [.ref q_25, .int (nI 0)])), (aa, .inl (da, 16, .inl f)), (q_25, .inl (d_25, 16, .inl (fun _ => 0)))] H := hP
    have hD : va_D A [(h0, .inr (3, [.ref q_25, .int (nI 0)])), (aa, .inl (da, 16, .inl f)), (q_25, .inl (d_25, 16, .inl (fun _ => 0)))] := hD
    refine lv_aload_n hx hb dX3_init_30 rfl (lv_at hl 0 rfl) ?_
    refine lv_iload_n hx hb dX3_init_31 rfl (lv_at hl 2 rfl) ?_
    refine va_put (D := (dC, dI)) (ci := 3) (v := .int x) (ty := .int) (C := RX3) (T := TX3) (N := 2) hx hb hts in_X3 tyX3 tyX3_ok nmX3 hown hK hP hD hS 0 rfl rfl 1 (by decide) (hts _ q153) (fun _ h9 => h9) rfl (by decide +kernel) rfl rfl (Nat.le_of_ble_eq_true rfl) dX3_init_32 (fun H locs hP hD hS => ?_)
    have hP : va_P (dC, dI) vwCl [(h0, .inr (3, [.ref q_25, .int x])), (aa, .inl (da, 16, .inl f)), (q_25, .inl (d_25, 16, .inl (fun _ => 0)))] H := hP
    have hD : va_D A [(h0, .inr (3, [.ref q_25, .int x])), (aa, .inl (da, 16, .inl f)), (q_25, .inl (d_25, 16, .inl (fun _ => 0)))] := hD
    refine lv_aload_n hx hb dX3_init_35 rfl (lv_at hl 1 rfl) ?_
    refine lv_iconst (v := nI 0) hx hb dX3_init_36 (by decide) ?_
    refine lv_aload_n hx hb dX3_init_37 rfl (lv_at hl 0 rfl) ?_
    refine va_get (D := (dC, dI)) (ci := 3) (v := .ref q_25) (C := RX3) (T := TX3) (N := 2) hx hb hts in_X3 hown hK hP 0 rfl rfl 0 (by decide) (hts _ q152) (fun _ h9 => h9) rfl dX3_init_38 ?_
    refine lv_iconst (v := nI 0) hx hb dX3_init_41 (by decide) ?_
    refine lv_aload_n hx hb dX3_init_42 rfl (lv_at hl 1 rfl) ?_
    refine va_alen (v := nI 16) hx hb hK hP 1 0 rfl rfl rfl dX3_init_43 ?_
    refine va_copyi hx hb (hml.trans hl.1.symm) hown (hts _ q149) (hts _ q151) (hts _ q150) (hts _ q20) hK hP hD hS 1 2 0 1 rfl rfl rfl rfl rfl (nI_pos (n := 0) (by omega)) (nI_pos (n := 0) (by omega)) (nI_pos (n := 16) (by omega)) (by decide) (by decide) (by rw [nI_clamp (n := 16) (by omega), nI_clamp (n := 0) (by omega)]; intro i hi; rw [Nat.zero_add]; exact hfit i hi) (Nat.le_of_ble_eq_true rfl) (Nat.le_of_ble_eq_true rfl) dX3_init_44 (fun H locs hP hD hS => ?_)
    rw [nI_clamp (n := 0) (by omega), nI_clamp (n := 16) (by omega)] at hP hD
    obtain ⟨g_44, eg_44⟩ : ∃ z9 : Nat → Int32, z9 = va_cpy f (fun _ => 0) 0 0 16 := ⟨_, rfl⟩
    rw [← eg_44] at hP hD
    have hP : va_P (dC, dI) vwCl [(h0, .inr (3, [.ref q_25, .int x])), (aa, .inl (da, 16, .inl f)), (q_25, .inl (d_25, 16, .inl g_44))] H := hP
    have hD : va_D A [(h0, .inr (3, [.ref q_25, .int x])), (aa, .inl (da, 16, .inl f)), (q_25, .inl (d_25, 16, .inl g_44))] := hD
    refine W.widen (k := 1) (n := 16) (Nat.le_of_ble_eq_true rfl) (Nat.le_of_ble_eq_true rfl) ?_
    have hP9 := hP.sub (ws' := [(h0, .inr (3, [.ref q_25, .int x])), (aa, .inl (da, 16, .inl f)), (q_25, .inl (d_25, 16, .inl g_44))]) [0, 1, 2] rfl
    have hD9 := hD.sub (ws' := [(h0, .inr (3, [.ref q_25, .int x])), (aa, .inl (da, 16, .inl f)), (q_25, .inl (d_25, 16, .inl g_44))]) [0, 1, 2] (by decide) rfl
    have hK9 := hK.sub (tys' := [(da, .byte), (d_25, .byte)]) [0, 1] rfl
    have hpost : mk8 g_44 = t16 (mk8 f) := by rw [eg_44]; exact mk8_cpy f
    exact W.vret hx hb hr (fun t ht hW => ⟨⟨g_44, rfl, hpost, q_25, d_25, by rw [ht]; exact hP9, va_K.moved hW.alike hK9, hD9⟩, hS.F ht⟩) hS.2.2 dX3_init_47
  · exact absurd (show nI 16 ≤ nI 255 by decide) c_9

abbrev wsX3_getKey : List Cond := ws_ yX3_getKey cX3_getKey 1 (some (.array .byte))
abbrev BX3_getKey (dC : Nat → ClassId) (dI : Nat → Nat → Nat) (A : Nat → Prop) (h0 : Nat) (ak : Nat) (x : Int32) (u : Unit) (ra : Nat) (t : State) : Prop := ra = ak ∧ va_P (dC, dI) vwCl [(h0, .inr (3, [.ref ak, .int x]))] t.heap ∧ va_K (dC, dI) vwCl [] t ∧ va_D A [(h0, .inr (3, [.ref ak, .int x]))]
set_option maxHeartbeats 4000000 in
set_option maxRecDepth 100000 in
/-- getKey() -/
theorem metX3_getKey (l : Launch) (dC : Nat → ClassId) (dI : Nat → Nat → Nat) (h0 : Nat) (ak : Nat) (x : Int32) (sz : Nat) : Met l yX3_getKey wsX3_getKey ({ frames := 0, cells := 0, slots := 0, locals := 0 }) (va_Pc [.ref h0] (fun U => U.heap.size = sz ∧ va_P (dC, dI) vwCl [(h0, .inr (3, [.ref ak, .int x]))] U.heap ∧ va_K (dC, dI) vwCl [] U ∧ va_D (fun _ => True) [(h0, .inr (3, [.ref ak, .int x]))])) (va_Qr (fun (u : Unit) => True) (BX3_getKey dC dI (va_A [(h0, .inr (3, [.ref ak, .int x]))] sz) h0 ak x) (va_A [(h0, .inr (3, [.ref ak, .int x]))] sz)) 0 0 (va_A [(h0, .inr (3, [.ref ak, .int x]))] sz) := by
  refine Met.ofW (cc := cX3_getKey) (maxL := 1) (ret := (some (.array .byte))) (by decide) rfl ?_
  intro p e s m args below meth c s₁ B hml hv
  obtain ⟨rfl, hsz, hP, hK, hD0⟩ := hv
  have hx := B.exec
  have hb := B.bytes
  have hr := B.returns
  have hts := atoms_spec (ws := wsX3_getKey) B.pre
  have hts : ∀ w ∈ lw_all, w.before _ s = true := fun w h => hts w (List.mem_cons_of_mem _ h)
  have hown : s.vm.findClass RX3 = some m.cls := findClass_of_methodNamed B.named
  have hlocks := B.notSynchronized
  subst hsz
  have hD := hD0.self (sz := s.heap.size)
  generalize hAe : va_A [(h0, .inr (3, [.ref ak, .int x]))] s.heap.size = A at hD ⊢
  have hA : ∀ q : Nat, s.heap.size ≤ q → A q := fun q h => by rw [← hAe]; exact Or.inr h
  have hS : va_S A s.heap s.heap [] := va_S.rf
  have hP : va_P (dC, dI) vwCl [(h0, .inr (3, [.ref ak, .int x]))] s.heap := hP
  have hl := lv_entry ([.ref h0]) (n := 1) (Nat.le_of_ble_eq_true rfl)
  rw [lg_entry_eq]
  generalize (lg_sl ([.ref h0]) ++ List.replicate (1 - (lg_sl ([.ref h0])).length) Slot.unset).toArray = ls at hl ⊢
  have hl : lv_has ls 1 [(0, .ref h0)] := hl
  refine lv_aload_n hx hb dX3_getKey_0 rfl (lv_at hl 0 rfl) ?_
  refine va_get (D := (dC, dI)) (ci := 3) (v := .ref ak) (C := RX3) (T := TX3) (N := 2) hx hb hts in_X3 hown hK hP 0 rfl rfl 0 (by decide) (hts _ q152) (fun _ h9 => h9) rfl dX3_getKey_1 ?_
  have hP9 := hP.sub (ws' := [(h0, .inr (3, [.ref ak, .int x]))]) [0] rfl
  have hD9 := hD.sub (ws' := [(h0, .inr (3, [.ref ak, .int x]))]) [0] (by decide) rfl
  have hK9 := hK.sub (tys' := []) [] rfl
  exact W.aret (v := .ref ak) hx hb hr (Or.inr ⟨_, rfl⟩) (Or.inr ⟨_, rfl⟩) (fun t ht hW => ⟨⟨(), ak, rfl, trivial, rfl, by rw [ht]; exact hP9, va_K.moved hW.alike hK9, hD9⟩, hS.F ht⟩) hS.2.2 dX3_getKey_4

abbrev wsX3_getRounds : List Cond := ws_ yX3_getRounds cX3_getRounds 1 (some .int)
abbrev BX3_getRounds (dC : Nat → ClassId) (dI : Nat → Nat → Nat) (A : Nat → Prop) (h0 : Nat) (ak : Nat) (x : Int32) (u : Unit) (t : State) : Prop := va_P (dC, dI) vwCl [(h0, .inr (3, [.ref ak, .int x]))] t.heap ∧ va_K (dC, dI) vwCl [] t ∧ va_D A [(h0, .inr (3, [.ref ak, .int x]))]
set_option maxHeartbeats 4000000 in
set_option maxRecDepth 100000 in
/-- getRounds() -/
theorem metX3_getRounds (l : Launch) (dC : Nat → ClassId) (dI : Nat → Nat → Nat) (h0 : Nat) (ak : Nat) (x : Int32) (sz : Nat) : Met l yX3_getRounds wsX3_getRounds ({ frames := 0, cells := 0, slots := 0, locals := 0 }) (va_Pc [.ref h0] (fun U => U.heap.size = sz ∧ va_P (dC, dI) vwCl [(h0, .inr (3, [.ref ak, .int x]))] U.heap ∧ va_K (dC, dI) vwCl [] U ∧ va_D (fun _ => True) [(h0, .inr (3, [.ref ak, .int x]))])) (va_Qi (fun (r : Int32) (u : Unit) => r = x) (BX3_getRounds dC dI (va_A [(h0, .inr (3, [.ref ak, .int x]))] sz) h0 ak x) (va_A [(h0, .inr (3, [.ref ak, .int x]))] sz)) 0 0 (va_A [(h0, .inr (3, [.ref ak, .int x]))] sz) := by
  refine Met.ofW (cc := cX3_getRounds) (maxL := 1) (ret := (some .int)) (by decide) rfl ?_
  intro p e s m args below meth c s₁ B hml hv
  obtain ⟨rfl, hsz, hP, hK, hD0⟩ := hv
  have hx := B.exec
  have hb := B.bytes
  have hr := B.returns
  have hts := atoms_spec (ws := wsX3_getRounds) B.pre
  have hts : ∀ w ∈ lw_all, w.before _ s = true := fun w h => hts w (List.mem_cons_of_mem _ h)
  have hown : s.vm.findClass RX3 = some m.cls := findClass_of_methodNamed B.named
  have hlocks := B.notSynchronized
  subst hsz
  have hD := hD0.self (sz := s.heap.size)
  generalize hAe : va_A [(h0, .inr (3, [.ref ak, .int x]))] s.heap.size = A at hD ⊢
  have hA : ∀ q : Nat, s.heap.size ≤ q → A q := fun q h => by rw [← hAe]; exact Or.inr h
  have hS : va_S A s.heap s.heap [] := va_S.rf
  have hP : va_P (dC, dI) vwCl [(h0, .inr (3, [.ref ak, .int x]))] s.heap := hP
  have hl := lv_entry ([.ref h0]) (n := 1) (Nat.le_of_ble_eq_true rfl)
  rw [lg_entry_eq]
  generalize (lg_sl ([.ref h0]) ++ List.replicate (1 - (lg_sl ([.ref h0])).length) Slot.unset).toArray = ls at hl ⊢
  have hl : lv_has ls 1 [(0, .ref h0)] := hl
  refine lv_aload_n hx hb dX3_getRounds_0 rfl (lv_at hl 0 rfl) ?_
  refine va_get (D := (dC, dI)) (ci := 3) (v := .int x) (C := RX3) (T := TX3) (N := 2) hx hb hts in_X3 hown hK hP 0 rfl rfl 1 (by decide) (hts _ q153) (fun _ h9 => h9) rfl dX3_getRounds_1 ?_
  have hP9 := hP.sub (ws' := [(h0, .inr (3, [.ref ak, .int x]))]) [0] rfl
  have hD9 := hD.sub (ws' := [(h0, .inr (3, [.ref ak, .int x]))]) [0] (by decide) rfl
  have hK9 := hK.sub (tys' := []) [] rfl
  exact W.iret hx hb hr (fun t ht hW => ⟨⟨_, (), rfl, rfl, by rw [ht]; exact hP9, va_K.moved hW.alike hK9, hD9⟩, hS.F ht⟩) hS.2.2 dX3_getRounds_4
end
section
abbrev wsX0_init : List Cond := ws_ yX0_init cX0_init 1 none
abbrev BX0_init (dC : Nat → ClassId) (dI : Nat → Nat → Nat) (A : Nat → Prop) (h0 : Nat) (u : Unit) (t : State) : Prop := ∃ (ak : Nat), ∃ (ab : Nat), ∃ (ao : Nat), ∃ (dk : ClassId), ∃ (db : ClassId), ∃ (dd : ClassId), va_P (dC, dI) vwCl [(h0, .inr (0, [.ref ak, .ref ab, .ref ao])), (ak, .inl (dk, 32, .inl (fun _ => 0))), (ab, .inl (db, 16, .inl (fun _ => 0))), (ao, .inl (dd, 16, .inl (fun _ => 0)))] t.heap ∧ va_K (dC, dI) vwCl [(dk, .byte), (db, .byte), (dd, .byte)] t ∧ va_D A [(h0, .inr (0, [.ref ak, .ref ab, .ref ao])), (ak, .inl (dk, 32, .inl (fun _ => 0))), (ab, .inl (db, 16, .inl (fun _ => 0))), (ao, .inl (dd, 16, .inl (fun _ => 0)))]
set_option maxHeartbeats 4000000 in
set_option maxRecDepth 100000 in
/-- RcWideDesk() -/
theorem metX0_init (l : Launch) (dC : Nat → ClassId) (dI : Nat → Nat → Nat) (h0 : Nat) (sz : Nat) : Met l yX0_init wsX0_init ({ frames := 1, cells := 3, slots := 64, locals := 12 }) (va_Pc [.ref h0] (fun U => U.heap.size = sz ∧ va_P (dC, dI) vwCl [(h0, .inr (0, [.null, .null, .null]))] U.heap ∧ va_K (dC, dI) vwCl [] U ∧ va_D (fun _ => True) [(h0, .inr (0, [.null, .null, .null]))])) (va_Qv (fun (u : Unit) => True) (BX0_init dC dI (va_A [(h0, .inr (0, [.null, .null, .null]))] sz) h0) (va_A [(h0, .inr (0, [.null, .null, .null]))] sz)) 3 64 (va_A [(h0, .inr (0, [.null, .null, .null]))] sz) := by
  refine Met.ofW (cc := cX0_init) (maxL := 1) (ret := none) (by decide) rfl ?_
  intro p e s m args below meth c s₁ B hml hv
  obtain ⟨rfl, hsz, hP, hK, hD0⟩ := hv
  have hx := B.exec
  have hb := B.bytes
  have hr := B.returns
  have hts := atoms_spec (ws := wsX0_init) B.pre
  have hts : ∀ w ∈ lw_all, w.before _ s = true := fun w h => hts w (List.mem_cons_of_mem _ h)
  have hown : s.vm.findClass RX0 = some m.cls := findClass_of_methodNamed B.named
  have hlocks := B.notSynchronized
  have hin : meth.name = "<init>" := (name_of_methodNamed B.named B.method).1
  subst hsz
  have hD := hD0.self (sz := s.heap.size)
  generalize hAe : va_A [(h0, .inr (0, [.null, .null, .null]))] s.heap.size = A at hD ⊢
  have hA : ∀ q : Nat, s.heap.size ≤ q → A q := fun q h => by rw [← hAe]; exact Or.inr h
  have hS : va_S A s.heap s.heap [] := va_S.rf
  have hP : va_P (dC, dI) vwCl [(h0, .inr (0, [.null, .null, .null]))] s.heap := hP
  have hl := lv_entry ([.ref h0]) (n := 1) (Nat.le_of_ble_eq_true rfl)
  rw [lg_entry_eq]
  generalize (lg_sl ([.ref h0]) ++ List.replicate (1 - (lg_sl ([.ref h0])).length) Slot.unset).toArray = ls at hl ⊢
  have hl : lv_has ls 1 [(0, .ref h0)] := hl
  refine lv_aload_n hx hb dX0_init_0 rfl (lv_at hl 0 rfl) ?_
  refine W.objInit hx hb hown (hts _ q26) (hts _ q27) (hts _ q28) rfl (by rw [hml]; exact hl.1) rfl dX0_init_1 (Nat.le_of_ble_eq_true rfl) (Nat.le_of_ble_eq_true rfl) ?_
  refine W.eq (g2 := F0 m 4 ls []) rfl ?_
  refine lv_aload_n hx hb dX0_init_4 rfl (lv_at hl 0 rfl) ?_
  refine lv_bipush (v := nI 32) hx hb dX0_init_5 (by decide) ?_
  refine va_newa (atype := .byte) (ty := .byte) (N' := 32) (a0 := (32, .inl (fun _ => 0))) hx hb (hts _ q39) rfl hK hP hD hS hA (fun _ => rfl) (nI_pos (n := 32) (by omega)) (nI_clamp (n := 32) (by omega)) (Nat.le_of_ble_eq_true rfl) (Nat.le_of_ble_eq_true rfl) (Nat.le_of_ble_eq_true rfl) dX0_init_7 (fun q_7 d_7 H hK hP hD hS => ?_)
  have hP : va_P (dC, dI) vwCl [(h0, .inr (0, [.null, .null, .null])), (q_7, .inl (d_7, 32, .inl (fun _ => 0)))] H := hP
  have hD : va_D A [(h0, .inr (0, [.null, .null, .null])), (q_7, .inl (d_7, 32, .inl (fun _ => 0)))] := hD
  have hK : va_K (dC, dI) vwCl [(d_7, .byte)] s := hK
  refine va_putF (D := (dC, dI)) (ci := 0) (v := .ref q_7) (ty := .array .byte) (C := RX0) (T := TX0) (N := 3) hx hb hts in_X0 tyX0 tyX0_ok nmX0 hown hK hP hD hS 0 rfl rfl 0 (by decide) (hts _ q29) (fun _ h9 => h9) rfl hin rfl (by decide +kernel) rfl rfl (Nat.le_of_ble_eq_true rfl) dX0_init_9 (fun H locs hP hD hS => ?_)
  have hP : va_P (dC, dI) vwCl [(h0, .inr (0, [.ref q_7, .null, .null])), (q_7, .inl (d_7, 32, .inl (fun _ => 0)))] H := hP
  have hD : va_D A [(h0, .inr (0, [.ref q_7, .null, .null])), (q_7, .inl (d_7, 32, .inl (fun _ => 0)))] := hD
  refine lv_aload_n hx hb dX0_init_12 rfl (lv_at hl 0 rfl) ?_
  refine lv_bipush (v := nI 16) hx hb dX0_init_13 (by decide) ?_
  refine va_newa (atype := .byte) (ty := .byte) (N' := 16) (a0 := (16, .inl (fun _ => 0))) hx hb (hts _ q39) rfl hK hP hD hS hA (fun _ => rfl) (nI_pos (n := 16) (by omega)) (nI_clamp (n := 16) (by omega)) (Nat.le_of_ble_eq_true rfl) (Nat.le_of_ble_eq_true rfl) (Nat.le_of_ble_eq_true rfl) dX0_init_15 (fun q_15 d_15 H hK hP hD hS => ?_)
  have hP : va_P (dC, dI) vwCl [(h0, .inr (0, [.ref q_7, .null, .null])), (q_7, .inl (d_7, 32, .inl (fun _ => 0))), (q_15, .inl (d_15, 16, .inl (fun _ => 0)))] H := hP
  have hD : va_D A [(h0, .inr (0, [.ref q_7, .null, .null])), (q_7, .inl (d_7, 32, .inl (fun _ => 0))), (q_15, .inl (d_15, 16, .inl (fun _ => 0)))] := hD
  have hK : va_K (dC, dI) vwCl [(d_7, .byte), (d_15, .byte)] s := hK
  refine va_putF (D := (dC, dI)) (ci := 0) (v := .ref q_15) (ty := .array .byte) (C := RX0) (T := TX0) (N := 3) hx hb hts in_X0 tyX0 tyX0_ok nmX0 hown hK hP hD hS 0 rfl rfl 1 (by decide) (hts _ q30) (fun _ h9 => h9) rfl hin rfl (by decide +kernel) rfl rfl (Nat.le_of_ble_eq_true rfl) dX0_init_17 (fun H locs hP hD hS => ?_)
  have hP : va_P (dC, dI) vwCl [(h0, .inr (0, [.ref q_7, .ref q_15, .null])), (q_7, .inl (d_7, 32, .inl (fun _ => 0))), (q_15, .inl (d_15, 16, .inl (fun _ => 0)))] H := hP
  have hD : va_D A [(h0, .inr (0, [.ref q_7, .ref q_15, .null])), (q_7, .inl (d_7, 32, .inl (fun _ => 0))), (q_15, .inl (d_15, 16, .inl (fun _ => 0)))] := hD
  refine lv_aload_n hx hb dX0_init_20 rfl (lv_at hl 0 rfl) ?_
  refine lv_bipush (v := nI 16) hx hb dX0_init_21 (by decide) ?_
  refine va_newa (atype := .byte) (ty := .byte) (N' := 16) (a0 := (16, .inl (fun _ => 0))) hx hb (hts _ q39) rfl hK hP hD hS hA (fun _ => rfl) (nI_pos (n := 16) (by omega)) (nI_clamp (n := 16) (by omega)) (Nat.le_of_ble_eq_true rfl) (Nat.le_of_ble_eq_true rfl) (Nat.le_of_ble_eq_true rfl) dX0_init_23 (fun q_23 d_23 H hK hP hD hS => ?_)
  have hP : va_P (dC, dI) vwCl [(h0, .inr (0, [.ref q_7, .ref q_15, .null])), (q_7, .inl (d_7, 32, .inl (fun _ => 0))), (q_15, .inl (d_15, 16, .inl (fun _ => 0))), (q_23, .inl (d_23, 16, .inl (fun _ => 0)))] H := hP
  have hD : va_D A [(h0, .inr (0, [.ref q_7, .ref q_15, .null])), (q_7, .inl (d_7, 32, .inl (fun _ => 0))), (q_15, .inl (d_15, 16, .inl (fun _ => 0))), (q_23, .inl (d_23, 16, .inl (fun _ => 0)))] := hD
  have hK : va_K (dC, dI) vwCl [(d_7, .byte), (d_15, .byte), (d_23, .byte)] s := hK
  refine va_putF (D := (dC, dI)) (ci := 0) (v := .ref q_23) (ty := .array .byte) (C := RX0) (T := TX0) (N := 3) hx hb hts in_X0 tyX0 tyX0_ok nmX0 hown hK hP hD hS 0 rfl rfl 2 (by decide) (hts _ q31) (fun _ h9 => h9) rfl hin rfl (by decide +kernel) rfl rfl (Nat.le_of_ble_eq_true rfl) dX0_init_25 (fun H locs hP hD hS => ?_)
  have hP : va_P (dC, dI) vwCl [(h0, .inr (0, [.ref q_7, .ref q_15, .ref q_23])), (q_7, .inl (d_7, 32, .inl (fun _ => 0))), (q_15, .inl (d_15, 16, .inl (fun _ => 0))), (q_23, .inl (d_23, 16, .inl (fun _ => 0)))] H := hP
  have hD : va_D A [(h0, .inr (0, [.ref q_7, .ref q_15, .ref q_23])), (q_7, .inl (d_7, 32, .inl (fun _ => 0))), (q_15, .inl (d_15, 16, .inl (fun _ => 0))), (q_23, .inl (d_23, 16, .inl (fun _ => 0)))] := hD
  refine W.widen (k := 3) (n := 64) (Nat.le_of_ble_eq_true rfl) (Nat.le_of_ble_eq_true rfl) ?_
  have hP9 := hP.sub (ws' := [(h0, .inr (0, [.ref q_7, .ref q_15, .ref q_23])), (q_7, .inl (d_7, 32, .inl (fun _ => 0))), (q_15, .inl (d_15, 16, .inl (fun _ => 0))), (q_23, .inl (d_23, 16, .inl (fun _ => 0)))]) [0, 1, 2, 3] rfl
  have hD9 := hD.sub (ws' := [(h0, .inr (0, [.ref q_7, .ref q_15, .ref q_23])), (q_7, .inl (d_7, 32, .inl (fun _ => 0))), (q_15, .inl (d_15, 16, .inl (fun _ => 0))), (q_23, .inl (d_23, 16, .inl (fun _ => 0)))]) [0, 1, 2, 3] (by decide) rfl
  have hK9 := hK.sub (tys' := [(d_7, .byte), (d_15, .byte), (d_23, .byte)]) [0, 1, 2] rfl
  exact W.vret hx hb hr (fun t ht hW => ⟨⟨(), rfl, trivial, q_7, q_15, q_23, d_7, d_15, d_23, by rw [ht]; exact hP9, va_K.moved hW.alike hK9, hD9⟩, hS.F ht⟩) hS.2.2 dX0_init_28

abbrev wsX0_word : List Cond := ws_ yX0_word cX0_word 3 none
abbrev BX0_word (dC : Nat → ClassId) (dI : Nat → Nat → Nat) (A : Nat → Prop) (aa : Nat) (da : ClassId) (n : Nat) (o : Nat) (f : Nat → Int32) (w : Int32) (u : Nat → Int32) (t : State) : Prop := va_P (dC, dI) vwCl [(aa, .inl (da, n, .inl u))] t.heap ∧ va_K (dC, dI) vwCl [(da, .byte)] t ∧ va_D A [(aa, .inl (da, n, .inl u))]
set_option maxHeartbeats 4000000 in
set_option maxRecDepth 100000 in
/-- word(to, at, w): four bytes -/
theorem metX0_word (l : Launch) (dC : Nat → ClassId) (dI : Nat → Nat → Nat) (aa : Nat) (da : ClassId) (n : Nat) (o : Nat) (f : Nat → Int32) (w : Int32) (sz : Nat) (hon : o + 4 ≤ n) (hn : n ≤ 32) : Met l yX0_word wsX0_word ({ frames := 0, cells := 0, slots := 0, locals := 0 }) (va_Pc [.ref aa, .int (nI o), .int w] (fun U => U.heap.size = sz ∧ va_P (dC, dI) vwCl [(aa, .inl (da, n, .inl f))] U.heap ∧ va_K (dC, dI) vwCl [(da, .byte)] U ∧ va_D (fun _ => True) [(aa, .inl (da, n, .inl f))])) (va_Qv (fun (u : Nat → Int32) => mk8 u = stn (mk8 f) o (wb4 w) 4) (BX0_word dC dI (va_A [(aa, .inl (da, n, .inl f))] sz) aa da n o f w) (va_A [(aa, .inl (da, n, .inl f))] sz)) 0 0 (va_A [(aa, .inl (da, n, .inl f))] sz) := by
  refine Met.ofW (cc := cX0_word) (maxL := 3) (ret := none) (by decide) rfl ?_
  intro p e s m args below meth c s₁ B hml hv
  obtain ⟨rfl, hsz, hP, hK, hD0⟩ := hv
  have hx := B.exec
  have hb := B.bytes
  have hr := B.returns
  have hts := atoms_spec (ws := wsX0_word) B.pre
  have hts : ∀ w ∈ lw_all, w.before _ s = true := fun w h => hts w (List.mem_cons_of_mem _ h)
  have hown : s.vm.findClass RX0 = some m.cls := findClass_of_methodNamed B.named
  have hlocks := B.notSynchronized
  subst hsz
  have hD := hD0.self (sz := s.heap.size)
  generalize hAe : va_A [(aa, .inl (da, n, .inl f))] s.heap.size = A at hD ⊢
  have hA : ∀ q : Nat, s.heap.size ≤ q → A q := fun q h => by rw [← hAe]; exact Or.inr h
  have hS : va_S A s.heap s.heap [] := va_S.rf
  have hP : va_P (dC, dI) vwCl [(aa, .inl (da, n, .inl f))] s.heap := hP
  have hl := lv_entry ([.ref aa, .int (nI o), .int w]) (n := 3) (Nat.le_of_ble_eq_true rfl)
  rw [lg_entry_eq]
  generalize (lg_sl ([.ref aa, .int (nI o), .int w]) ++ List.replicate (3 - (lg_sl ([.ref aa, .int (nI o), .int w])).length) Slot.unset).toArray = ls at hl ⊢
  have hl : lv_has ls 3 [(0, .ref aa), (1, .int (nI o)), (2, .int w)] := hl
  refine lv_aload_n hx hb dX0_word_0 rfl (lv_at hl 0 rfl) ?_
  refine lv_iload_n hx hb dX0_word_1 rfl (lv_at hl 1 rfl) ?_
  refine lv_iload_n hx hb dX0_word_2 rfl (lv_at hl 2 rfl) ?_
  refine lv_bipush (v := nI 24) hx hb dX0_word_3 (by decide) ?_
  refine lv_ishr hx hb dX0_word_5 ?_
  refine lv_i2b (v := (w >>> ((nI 24) &&& 31)).toInt8.toInt32) hx hb dX0_word_6 rfl ?_
  refine va_bast hx hb hK hP hD hS 0 0 rfl rfl (vp_in_nI (n := o) (N := n) (by omega) (by omega)) dX0_word_7 (fun H locs hP hD hS => ?_)
  rw [nI_clamp (n := o) (by omega)] at hP hD
  obtain ⟨g_7, eg_7⟩ : ∃ z9 : Nat → Int32, z9 = upd f o (vp_nar .byte ((w >>> ((nI 24) &&& 31)).toInt8.toInt32)) := ⟨_, rfl⟩
  rw [← eg_7] at hP hD
  have hP : va_P (dC, dI) vwCl [(aa, .inl (da, n, .inl g_7))] H := hP
  have hD : va_D A [(aa, .inl (da, n, .inl g_7))] := hD
  refine lv_aload_n hx hb dX0_word_8 rfl (lv_at hl 0 rfl) ?_
  refine lv_iload_n hx hb dX0_word_9 rfl (lv_at hl 1 rfl) ?_
  refine lv_iconst (v := nI 1) hx hb dX0_word_10 (by decide) ?_
  refine lv_iadd hx hb dX0_word_11 ?_
  refine lv_topi (fun t_11 et_11 => ?_)
  have et_11 : t_11 = nI (o + 1) := et_11.trans (nI_add o 1)
  subst et_11
  refine lv_iload_n hx hb dX0_word_12 rfl (lv_at hl 2 rfl) ?_
  refine lv_bipush (v := nI 16) hx hb dX0_word_13 (by decide) ?_
  refine lv_ishr hx hb dX0_word_15 ?_
  refine lv_i2b (v := (w >>> ((nI 16) &&& 31)).toInt8.toInt32) hx hb dX0_word_16 rfl ?_
  refine va_bast hx hb hK hP hD hS 0 0 rfl rfl (vp_in_nI (n := (o + 1)) (N := n) (by omega) (by omega)) dX0_word_17 (fun H locs hP hD hS => ?_)
  rw [nI_clamp (n := (o + 1)) (by omega)] at hP hD
  obtain ⟨g_17, eg_17⟩ : ∃ z9 : Nat → Int32, z9 = upd g_7 (o + 1) (vp_nar .byte ((w >>> ((nI 16) &&& 31)).toInt8.toInt32)) := ⟨_, rfl⟩
  rw [← eg_17] at hP hD
  have hP : va_P (dC, dI) vwCl [(aa, .inl (da, n, .inl g_17))] H := hP
  have hD : va_D A [(aa, .inl (da, n, .inl g_17))] := hD
  refine lv_aload_n hx hb dX0_word_18 rfl (lv_at hl 0 rfl) ?_
  refine lv_iload_n hx hb dX0_word_19 rfl (lv_at hl 1 rfl) ?_
  refine lv_iconst (v := nI 2) hx hb dX0_word_20 (by decide) ?_
  refine lv_iadd hx hb dX0_word_21 ?_
  refine lv_topi (fun t_21 et_21 => ?_)
  have et_21 : t_21 = nI (o + 2) := et_21.trans (nI_add o 2)
  subst et_21
  refine lv_iload_n hx hb dX0_word_22 rfl (lv_at hl 2 rfl) ?_
  refine lv_bipush (v := nI 8) hx hb dX0_word_23 (by decide) ?_
  refine lv_ishr hx hb dX0_word_25 ?_
  refine lv_i2b (v := (w >>> ((nI 8) &&& 31)).toInt8.toInt32) hx hb dX0_word_26 rfl ?_
  refine va_bast hx hb hK hP hD hS 0 0 rfl rfl (vp_in_nI (n := (o + 2)) (N := n) (by omega) (by omega)) dX0_word_27 (fun H locs hP hD hS => ?_)
  rw [nI_clamp (n := (o + 2)) (by omega)] at hP hD
  obtain ⟨g_27, eg_27⟩ : ∃ z9 : Nat → Int32, z9 = upd g_17 (o + 2) (vp_nar .byte ((w >>> ((nI 8) &&& 31)).toInt8.toInt32)) := ⟨_, rfl⟩
  rw [← eg_27] at hP hD
  have hP : va_P (dC, dI) vwCl [(aa, .inl (da, n, .inl g_27))] H := hP
  have hD : va_D A [(aa, .inl (da, n, .inl g_27))] := hD
  refine lv_aload_n hx hb dX0_word_28 rfl (lv_at hl 0 rfl) ?_
  refine lv_iload_n hx hb dX0_word_29 rfl (lv_at hl 1 rfl) ?_
  refine lv_iconst (v := nI 3) hx hb dX0_word_30 (by decide) ?_
  refine lv_iadd hx hb dX0_word_31 ?_
  refine lv_topi (fun t_31 et_31 => ?_)
  have et_31 : t_31 = nI (o + 3) := et_31.trans (nI_add o 3)
  subst et_31
  refine lv_iload_n hx hb dX0_word_32 rfl (lv_at hl 2 rfl) ?_
  refine lv_i2b (v := w.toInt8.toInt32) hx hb dX0_word_33 rfl ?_
  refine va_bast hx hb hK hP hD hS 0 0 rfl rfl (vp_in_nI (n := (o + 3)) (N := n) (by omega) (by omega)) dX0_word_34 (fun H locs hP hD hS => ?_)
  rw [nI_clamp (n := (o + 3)) (by omega)] at hP hD
  obtain ⟨g_34, eg_34⟩ : ∃ z9 : Nat → Int32, z9 = upd g_27 (o + 3) (vp_nar .byte (w.toInt8.toInt32)) := ⟨_, rfl⟩
  rw [← eg_34] at hP hD
  have hP : va_P (dC, dI) vwCl [(aa, .inl (da, n, .inl g_34))] H := hP
  have hD : va_D A [(aa, .inl (da, n, .inl g_34))] := hD
  have hP9 := hP.sub (ws' := [(aa, .inl (da, n, .inl g_34))]) [0] rfl
  have hD9 := hD.sub (ws' := [(aa, .inl (da, n, .inl g_34))]) [0] (by decide) rfl
  have hK9 := hK.sub (tys' := [(da, .byte)]) [0] rfl
  have hpost : mk8 g_34 = stn (mk8 f) o (wb4 w) 4 := by rw [eg_34, eg_27, eg_17, eg_7]; exact word_eq f o w
  exact W.vret hx hb hr (fun t ht hW => ⟨⟨g_34, rfl, hpost, by rw [ht]; exact hP9, va_K.moved hW.alike hK9, hD9⟩, hS.F ht⟩) hS.2.2 dX0_word_35

abbrev wsX0_key : List Cond := ws_ yX0_key cX0_key 7 none
abbrev BX0_key (dC : Nat → ClassId) (dI : Nat → Nat → Nat) (A : Nat → Prop) (h0 : Nat) (ak : Nat) (ab : Nat) (ao : Nat) (dk : ClassId) (fk : Nat → Int32) (h : Int32) (a : Int32) (b : Int32) (c4 : Int32) (d4 : Int32) (u : Nat → Int32) (t : State) : Prop := va_P (dC, dI) vwCl [(h0, .inr (0, [.ref ak, .ref ab, .ref ao])), (ak, .inl (dk, 32, .inl u))] t.heap ∧ va_K (dC, dI) vwCl [(dk, .byte)] t ∧ va_D A [(h0, .inr (0, [.ref ak, .ref ab, .ref ao])), (ak, .inl (dk, 32, .inl u))]
set_option maxHeartbeats 4000000 in
set_option maxRecDepth 100000 in
/-- key(half, a, b, c, d) -/
theorem metX0_key (l : Launch) (dC : Nat → ClassId) (dI : Nat → Nat → Nat) (h0 : Nat) (ak : Nat) (ab : Nat) (ao : Nat) (dk : ClassId) (fk : Nat → Int32) (h : Int32) (a : Int32) (b : Int32) (c4 : Int32) (d4 : Int32) (sz : Nat) : Met l yX0_key wsX0_key ({ frames := 1, cells := 0, slots := 0, locals := 22 }) (va_Pc [.ref h0, .int h, .int a, .int b, .int c4, .int d4] (fun U => U.heap.size = sz ∧ va_P (dC, dI) vwCl [(h0, .inr (0, [.ref ak, .ref ab, .ref ao])), (ak, .inl (dk, 32, .inl fk))] U.heap ∧ va_K (dC, dI) vwCl [(dk, .byte)] U ∧ va_D (fun _ => True) [(h0, .inr (0, [.ref ak, .ref ab, .ref ao])), (ak, .inl (dk, 32, .inl fk))])) (va_Qv (fun (u : Nat → Int32) => mk8 u = st16 (mk8 fk) (16 * half h) a b c4 d4) (BX0_key dC dI (va_A [(h0, .inr (0, [.ref ak, .ref ab, .ref ao])), (ak, .inl (dk, 32, .inl fk))] sz) h0 ak ab ao dk fk h a b c4 d4) (va_A [(h0, .inr (0, [.ref ak, .ref ab, .ref ao])), (ak, .inl (dk, 32, .inl fk))] sz)) 0 0 (va_A [(h0, .inr (0, [.ref ak, .ref ab, .ref ao])), (ak, .inl (dk, 32, .inl fk))] sz) := by
  refine Met.ofW (cc := cX0_key) (maxL := 7) (ret := none) (by decide) rfl ?_
  intro p e s m args below meth c s₁ B hml hv
  obtain ⟨rfl, hsz, hP, hK, hD0⟩ := hv
  have hx := B.exec
  have hb := B.bytes
  have hr := B.returns
  have hts := atoms_spec (ws := wsX0_key) B.pre
  have hts : ∀ w ∈ lw_all, w.before _ s = true := fun w h => hts w (List.mem_cons_of_mem _ h)
  have hown : s.vm.findClass RX0 = some m.cls := findClass_of_methodNamed B.named
  have hlocks := B.notSynchronized
  subst hsz
  have hD := hD0.self (sz := s.heap.size)
  generalize hAe : va_A [(h0, .inr (0, [.ref ak, .ref ab, .ref ao])), (ak, .inl (dk, 32, .inl fk))] s.heap.size = A at hD ⊢
  have hA : ∀ q : Nat, s.heap.size ≤ q → A q := fun q h => by rw [← hAe]; exact Or.inr h
  have hS : va_S A s.heap s.heap [] := va_S.rf
  have hP : va_P (dC, dI) vwCl [(h0, .inr (0, [.ref ak, .ref ab, .ref ao])), (ak, .inl (dk, 32, .inl fk))] s.heap := hP
  have hl := lv_entry ([.ref h0, .int h, .int a, .int b, .int c4, .int d4]) (n := 7) (Nat.le_of_ble_eq_true rfl)
  rw [lg_entry_eq]
  generalize (lg_sl ([.ref h0, .int h, .int a, .int b, .int c4, .int d4]) ++ List.replicate (7 - (lg_sl ([.ref h0, .int h, .int a, .int b, .int c4, .int d4])).length) Slot.unset).toArray = ls at hl ⊢
  have hl : lv_has ls 7 [(0, .ref h0), (1, .int h), (2, .int a), (3, .int b), (4, .int c4), (5, .int d4)] := hl
  refine lv_iload_n hx hb dX0_key_0 rfl (lv_at hl 1 rfl) ?_
  refine lv_iconst (v := nI 1) hx hb dX0_key_1 (by decide) ?_
  refine lv_iand hx hb dX0_key_2 ?_
  refine lv_iconst (v := nI 4) hx hb dX0_key_3 (by decide) ?_
  refine lv_ishl hx hb dX0_key_4 ?_
  refine lv_topi (fun t_4 et_4 => ?_)
  have et_4 : t_4 = nI (16 * half h) := et_4.trans (half_shl h)
  subst et_4
  refine lv_istore (lv' := [(6, .int (nI (16 * half h))), (0, .ref h0), (1, .int h), (2, .int a), (3, .int b), (4, .int c4), (5, .int d4)]) hx hb dX0_key_5 hl (by decide) rfl (fun ls hl => ?_)
  refine lv_aload_n hx hb dX0_key_7 rfl (lv_at hl 1 rfl) ?_
  refine va_get (D := (dC, dI)) (ci := 0) (v := .ref ak) (C := RX0) (T := TX0) (N := 3) hx hb hts in_X0 hown hK hP 0 rfl rfl 0 (by decide) (hts _ q29) (fun _ h9 => h9) rfl dX0_key_8 ?_
  refine lv_iload hx hb dX0_key_11 (lv_at hl 0 rfl) ?_
  refine lv_iload_n hx hb dX0_key_13 rfl (lv_at hl 3 rfl) ?_
  have hPc := hP.sub (ws' := [(ak, .inl (dk, 32, .inl fk))]) [1] rfl
  have hDc := hD.sub (ws' := [(ak, .inl (dk, 32, .inl fk))]) [1] (by decide) rfl
  have hKc := hK.sub (tys' := [(dk, .byte)]) [0] rfl
  have hFc := va_free (wc := [(ak, .inl (dk, 32, .inl fk))]) hD hS hA [1] rfl
  refine va_callv (va_runS (As := [.ref ak, .int (nI (16 * half h)), .int a]) (rest := []) ⟨hx, hb, hml, hown, hts⟩ (metX0_word l dC dI ak dk 32 (16 * half h) fk a s.heap.size (by have := half_lt h; omega) (by omega)) (va_cwS 3 hts (lw_S q44 q45 q12 q46) rfl rfl rfl (by decide +kernel) ⟨Nat.le_of_ble_eq_true rfl, Nat.le_of_ble_eq_true rfl⟩) ⟨fun a U g mk q => by obtain ⟨q0, q1, qP, qK, qD⟩ := q; exact ⟨q0, q1, qP, va_K.moved (u := U) (U := U.calling g mk a) (Vm.Alike.refl U.vm) qK, qD⟩, fun U hU hW => ⟨rfl, by rw [hU], by rw [hU]; exact hPc, va_K.moved hW.alike hKc, hDc.weaken (fun _ _ _ _ => trivial)⟩⟩ rfl rfl hl.1 rfl (lv_room (Nat.le_of_ble_eq_true rfl)) dX0_key_14 ⟨Nat.le_of_ble_eq_true rfl, Nat.le_of_ble_eq_true rfl⟩) hS (fun q _ h => hFc q h) hFc (fun u t H1 locs ht hvm hw_14 hB hz1 hk1 hS => ?_)
  obtain ⟨u_14, rfl⟩ : ∃ z, z = u := ⟨_, rfl⟩
  have hw_14 : mk8 u_14 = stn (mk8 fk) (16 * half h) (wb4 a) 4 := hw_14
  obtain ⟨hP1, hK1, hD1⟩ := hB
  rw [ht] at hP1
  have hK1 := va_K.moved hvm.symm hK1
  obtain ⟨hP, hD⟩ := va_join (wr := [(h0, .inr (0, [.ref ak, .ref ab, .ref ao]))]) (w1 := [(ak, .inl (dk, 32, .inl u_14))]) hP hD [1] [0] rfl rfl (by decide) (by decide) hk1 hFc hP1 hD1
  have hK := (hK.sub (tys' := []) [] rfl).app hK1
  generalize H1 = H at hP hS ⊢
  have hP : va_P (dC, dI) vwCl [(h0, .inr (0, [.ref ak, .ref ab, .ref ao])), (ak, .inl (dk, 32, .inl u_14))] H := hP
  have hD : va_D A [(h0, .inr (0, [.ref ak, .ref ab, .ref ao])), (ak, .inl (dk, 32, .inl u_14))] := hD
  have hK : va_K (dC, dI) vwCl [(dk, .byte)] s := hK
  refine lv_aload_n hx hb dX0_key_17 rfl (lv_at hl 1 rfl) ?_
  refine va_get (D := (dC, dI)) (ci := 0) (v := .ref ak) (C := RX0) (T := TX0) (N := 3) hx hb hts in_X0 hown hK hP 0 rfl rfl 0 (by decide) (hts _ q29) (fun _ h9 => h9) rfl dX0_key_18 ?_
  refine lv_iload hx hb dX0_key_21 (lv_at hl 0 rfl) ?_
  refine lv_iconst (v := nI 4) hx hb dX0_key_23 (by decide) ?_
  refine lv_iadd hx hb dX0_key_24 ?_
  refine lv_topi (fun t_24 et_24 => ?_)
  have et_24 : t_24 = nI (16 * half h + 4) := et_24.trans (nI_add (16 * half h) 4)
  subst et_24
  refine lv_iload_n hx hb dX0_key_25 rfl (lv_at hl 4 rfl) ?_
  have hPc := hP.sub (ws' := [(ak, .inl (dk, 32, .inl u_14))]) [1] rfl
  have hDc := hD.sub (ws' := [(ak, .inl (dk, 32, .inl u_14))]) [1] (by decide) rfl
  have hKc := hK.sub (tys' := [(dk, .byte)]) [0] rfl
  have hFc := va_free (wc := [(ak, .inl (dk, 32, .inl u_14))]) hD hS hA [1] rfl
  refine va_callv (va_runS (As := [.ref ak, .int (nI (16 * half h + 4)), .int b]) (rest := []) ⟨hx, hb, hml, hown, hts⟩ (metX0_word l dC dI ak dk 32 (16 * half h + 4) u_14 b H.size (by have := half_lt h; omega) (by omega)) (va_cwS 3 hts (lw_S q44 q45 q12 q46) rfl rfl rfl (by decide +kernel) ⟨Nat.le_of_ble_eq_true rfl, Nat.le_of_ble_eq_true rfl⟩) ⟨fun a U g mk q => by obtain ⟨q0, q1, qP, qK, qD⟩ := q; exact ⟨q0, q1, qP, va_K.moved (u := U) (U := U.calling g mk a) (Vm.Alike.refl U.vm) qK, qD⟩, fun U hU hW => ⟨rfl, by rw [hU], by rw [hU]; exact hPc, va_K.moved hW.alike hKc, hDc.weaken (fun _ _ _ _ => trivial)⟩⟩ rfl rfl hl.1 rfl (lv_room (Nat.le_of_ble_eq_true rfl)) dX0_key_26 ⟨Nat.le_of_ble_eq_true rfl, Nat.le_of_ble_eq_true rfl⟩) hS (fun q _ h => hFc q h) hFc (fun u t H1 locs ht hvm hw_26 hB hz1 hk1 hS => ?_)
  obtain ⟨u_26, rfl⟩ : ∃ z, z = u := ⟨_, rfl⟩
  have hw_26 : mk8 u_26 = stn (mk8 u_14) (16 * half h + 4) (wb4 b) 4 := hw_26
  obtain ⟨hP1, hK1, hD1⟩ := hB
  rw [ht] at hP1
  have hK1 := va_K.moved hvm.symm hK1
  obtain ⟨hP, hD⟩ := va_join (wr := [(h0, .inr (0, [.ref ak, .ref ab, .ref ao]))]) (w1 := [(ak, .inl (dk, 32, .inl u_26))]) hP hD [1] [0] rfl rfl (by decide) (by decide) hk1 hFc hP1 hD1
  have hK := (hK.sub (tys' := []) [] rfl).app hK1
  generalize H1 = H at hP hS ⊢
  have hP : va_P (dC, dI) vwCl [(h0, .inr (0, [.ref ak, .ref ab, .ref ao])), (ak, .inl (dk, 32, .inl u_26))] H := hP
  have hD : va_D A [(h0, .inr (0, [.ref ak, .ref ab, .ref ao])), (ak, .inl (dk, 32, .inl u_26))] := hD
  have hK : va_K (dC, dI) vwCl [(dk, .byte)] s := hK
  refine lv_aload_n hx hb dX0_key_29 rfl (lv_at hl 1 rfl) ?_
  refine va_get (D := (dC, dI)) (ci := 0) (v := .ref ak) (C := RX0) (T := TX0) (N := 3) hx hb hts in_X0 hown hK hP 0 rfl rfl 0 (by decide) (hts _ q29) (fun _ h9 => h9) rfl dX0_key_30 ?_
  refine lv_iload hx hb dX0_key_33 (lv_at hl 0 rfl) ?_
  refine lv_bipush (v := nI 8) hx hb dX0_key_35 (by decide) ?_
  refine lv_iadd hx hb dX0_key_37 ?_
  refine lv_topi (fun t_37 et_37 => ?_)
  have et_37 : t_37 = nI (16 * half h + 8) := et_37.trans (nI_add (16 * half h) 8)
  subst et_37
  refine lv_iload hx hb dX0_key_38 (lv_at hl 5 rfl) ?_
  have hPc := hP.sub (ws' := [(ak, .inl (dk, 32, .inl u_26))]) [1] rfl
  have hDc := hD.sub (ws' := [(ak, .inl (dk, 32, .inl u_26))]) [1] (by decide) rfl
  have hKc := hK.sub (tys' := [(dk, .byte)]) [0] rfl
  have hFc := va_free (wc := [(ak, .inl (dk, 32, .inl u_26))]) hD hS hA [1] rfl
  refine va_callv (va_runS (As := [.ref ak, .int (nI (16 * half h + 8)), .int c4]) (rest := []) ⟨hx, hb, hml, hown, hts⟩ (metX0_word l dC dI ak dk 32 (16 * half h + 8) u_26 c4 H.size (by have := half_lt h; omega) (by omega)) (va_cwS 3 hts (lw_S q44 q45 q12 q46) rfl rfl rfl (by decide +kernel) ⟨Nat.le_of_ble_eq_true rfl, Nat.le_of_ble_eq_true rfl⟩) ⟨fun a U g mk q => by obtain ⟨q0, q1, qP, qK, qD⟩ := q; exact ⟨q0, q1, qP, va_K.moved (u := U) (U := U.calling g mk a) (Vm.Alike.refl U.vm) qK, qD⟩, fun U hU hW => ⟨rfl, by rw [hU], by rw [hU]; exact hPc, va_K.moved hW.alike hKc, hDc.weaken (fun _ _ _ _ => trivial)⟩⟩ rfl rfl hl.1 rfl (lv_room (Nat.le_of_ble_eq_true rfl)) dX0_key_40 ⟨Nat.le_of_ble_eq_true rfl, Nat.le_of_ble_eq_true rfl⟩) hS (fun q _ h => hFc q h) hFc (fun u t H1 locs ht hvm hw_40 hB hz1 hk1 hS => ?_)
  obtain ⟨u_40, rfl⟩ : ∃ z, z = u := ⟨_, rfl⟩
  have hw_40 : mk8 u_40 = stn (mk8 u_26) (16 * half h + 8) (wb4 c4) 4 := hw_40
  obtain ⟨hP1, hK1, hD1⟩ := hB
  rw [ht] at hP1
  have hK1 := va_K.moved hvm.symm hK1
  obtain ⟨hP, hD⟩ := va_join (wr := [(h0, .inr (0, [.ref ak, .ref ab, .ref ao]))]) (w1 := [(ak, .inl (dk, 32, .inl u_40))]) hP hD [1] [0] rfl rfl (by decide) (by decide) hk1 hFc hP1 hD1
  have hK := (hK.sub (tys' := []) [] rfl).app hK1
  generalize H1 = H at hP hS ⊢
  have hP : va_P (dC, dI) vwCl [(h0, .inr (0, [.ref ak, .ref ab, .ref ao])), (ak, .inl (dk, 32, .inl u_40))] H := hP
  have hD : va_D A [(h0, .inr (0, [.ref ak, .ref ab, .ref ao])), (ak, .inl (dk, 32, .inl u_40))] := hD
  have hK : va_K (dC, dI) vwCl [(dk, .byte)] s := hK
  refine lv_aload_n hx hb dX0_key_43 rfl (lv_at hl 1 rfl) ?_
  refine va_get (D := (dC, dI)) (ci := 0) (v := .ref ak) (C := RX0) (T := TX0) (N := 3) hx hb hts in_X0 hown hK hP 0 rfl rfl 0 (by decide) (hts _ q29) (fun _ h9 => h9) rfl dX0_key_44 ?_
  refine lv_iload hx hb dX0_key_47 (lv_at hl 0 rfl) ?_
  refine lv_bipush (v := nI 12) hx hb dX0_key_49 (by decide) ?_
  refine lv_iadd hx hb dX0_key_51 ?_
  refine lv_topi (fun t_51 et_51 => ?_)
  have et_51 : t_51 = nI (16 * half h + 12) := et_51.trans (nI_add (16 * half h) 12)
  subst et_51
  refine lv_iload hx hb dX0_key_52 (lv_at hl 6 rfl) ?_
  have hPc := hP.sub (ws' := [(ak, .inl (dk, 32, .inl u_40))]) [1] rfl
  have hDc := hD.sub (ws' := [(ak, .inl (dk, 32, .inl u_40))]) [1] (by decide) rfl
  have hKc := hK.sub (tys' := [(dk, .byte)]) [0] rfl
  have hFc := va_free (wc := [(ak, .inl (dk, 32, .inl u_40))]) hD hS hA [1] rfl
  refine va_callv (va_runS (As := [.ref ak, .int (nI (16 * half h + 12)), .int d4]) (rest := []) ⟨hx, hb, hml, hown, hts⟩ (metX0_word l dC dI ak dk 32 (16 * half h + 12) u_40 d4 H.size (by have := half_lt h; omega) (by omega)) (va_cwS 3 hts (lw_S q44 q45 q12 q46) rfl rfl rfl (by decide +kernel) ⟨Nat.le_of_ble_eq_true rfl, Nat.le_of_ble_eq_true rfl⟩) ⟨fun a U g mk q => by obtain ⟨q0, q1, qP, qK, qD⟩ := q; exact ⟨q0, q1, qP, va_K.moved (u := U) (U := U.calling g mk a) (Vm.Alike.refl U.vm) qK, qD⟩, fun U hU hW => ⟨rfl, by rw [hU], by rw [hU]; exact hPc, va_K.moved hW.alike hKc, hDc.weaken (fun _ _ _ _ => trivial)⟩⟩ rfl rfl hl.1 rfl (lv_room (Nat.le_of_ble_eq_true rfl)) dX0_key_54 ⟨Nat.le_of_ble_eq_true rfl, Nat.le_of_ble_eq_true rfl⟩) hS (fun q _ h => hFc q h) hFc (fun u t H1 locs ht hvm hw_54 hB hz1 hk1 hS => ?_)
  obtain ⟨u_54, rfl⟩ : ∃ z, z = u := ⟨_, rfl⟩
  have hw_54 : mk8 u_54 = stn (mk8 u_40) (16 * half h + 12) (wb4 d4) 4 := hw_54
  obtain ⟨hP1, hK1, hD1⟩ := hB
  rw [ht] at hP1
  have hK1 := va_K.moved hvm.symm hK1
  obtain ⟨hP, hD⟩ := va_join (wr := [(h0, .inr (0, [.ref ak, .ref ab, .ref ao]))]) (w1 := [(ak, .inl (dk, 32, .inl u_54))]) hP hD [1] [0] rfl rfl (by decide) (by decide) hk1 hFc hP1 hD1
  have hK := (hK.sub (tys' := []) [] rfl).app hK1
  generalize H1 = H at hP hS ⊢
  have hP : va_P (dC, dI) vwCl [(h0, .inr (0, [.ref ak, .ref ab, .ref ao])), (ak, .inl (dk, 32, .inl u_54))] H := hP
  have hD : va_D A [(h0, .inr (0, [.ref ak, .ref ab, .ref ao])), (ak, .inl (dk, 32, .inl u_54))] := hD
  have hK : va_K (dC, dI) vwCl [(dk, .byte)] s := hK
  refine W.widen (k := 0) (n := 0) (Nat.le_of_ble_eq_true rfl) (Nat.le_of_ble_eq_true rfl) ?_
  have hP9 := hP.sub (ws' := [(h0, .inr (0, [.ref ak, .ref ab, .ref ao])), (ak, .inl (dk, 32, .inl u_54))]) [0, 1] rfl
  have hD9 := hD.sub (ws' := [(h0, .inr (0, [.ref ak, .ref ab, .ref ao])), (ak, .inl (dk, 32, .inl u_54))]) [0, 1] (by decide) rfl
  have hK9 := hK.sub (tys' := [(dk, .byte)]) [0] rfl
  have hpost : mk8 u_54 = st16 (mk8 fk) (16 * half h) a b c4 d4 := by rw [hw_54, hw_40, hw_26, hw_14]; rfl
  exact W.vret hx hb hr (fun t ht hW => ⟨⟨u_54, rfl, hpost, by rw [ht]; exact hP9, va_K.moved hW.alike hK9, hD9⟩, hS.F ht⟩) hS.2.2 dX0_key_57

abbrev wsX0_block : List Cond := ws_ yX0_block cX0_block 5 none
abbrev BX0_block (dC : Nat → ClassId) (dI : Nat → Nat → Nat) (A : Nat → Prop) (h0 : Nat) (ak : Nat) (ab : Nat) (ao : Nat) (db : ClassId) (fb : Nat → Int32) (a : Int32) (b : Int32) (c4 : Int32) (d4 : Int32) (u : Nat → Int32) (t : State) : Prop := va_P (dC, dI) vwCl [(h0, .inr (0, [.ref ak, .ref ab, .ref ao])), (ab, .inl (db, 16, .inl u))] t.heap ∧ va_K (dC, dI) vwCl [(db, .byte)] t ∧ va_D A [(h0, .inr (0, [.ref ak, .ref ab, .ref ao])), (ab, .inl (db, 16, .inl u))]
set_option maxHeartbeats 4000000 in
set_option maxRecDepth 100000 in
/-- block(a, b, c, d) -/
theorem metX0_block (l : Launch) (dC : Nat → ClassId) (dI : Nat → Nat → Nat) (h0 : Nat) (ak : Nat) (ab : Nat) (ao : Nat) (db : ClassId) (fb : Nat → Int32) (a : Int32) (b : Int32) (c4 : Int32) (d4 : Int32) (sz : Nat) : Met l yX0_block wsX0_block ({ frames := 1, cells := 0, slots := 0, locals := 22 }) (va_Pc [.ref h0, .int a, .int b, .int c4, .int d4] (fun U => U.heap.size = sz ∧ va_P (dC, dI) vwCl [(h0, .inr (0, [.ref ak, .ref ab, .ref ao])), (ab, .inl (db, 16, .inl fb))] U.heap ∧ va_K (dC, dI) vwCl [(db, .byte)] U ∧ va_D (fun _ => True) [(h0, .inr (0, [.ref ak, .ref ab, .ref ao])), (ab, .inl (db, 16, .inl fb))])) (va_Qv (fun (u : Nat → Int32) => mk8 u = st16 (mk8 fb) 0 a b c4 d4) (BX0_block dC dI (va_A [(h0, .inr (0, [.ref ak, .ref ab, .ref ao])), (ab, .inl (db, 16, .inl fb))] sz) h0 ak ab ao db fb a b c4 d4) (va_A [(h0, .inr (0, [.ref ak, .ref ab, .ref ao])), (ab, .inl (db, 16, .inl fb))] sz)) 0 0 (va_A [(h0, .inr (0, [.ref ak, .ref ab, .ref ao])), (ab, .inl (db, 16, .inl fb))] sz) := by
  refine Met.ofW (cc := cX0_block) (maxL := 5) (ret := none) (by decide) rfl ?_
  intro p e s m args below meth c s₁ B hml hv
  obtain ⟨rfl, hsz, hP, hK, hD0⟩ := hv
  have hx := B.exec
  have hb := B.bytes
  have hr := B.returns
  have hts := atoms_spec (ws := wsX0_block) B.pre
  have hts : ∀ w ∈ lw_all, w.before _ s = true := fun w h => hts w (List.mem_cons_of_mem _ h)
  have hown : s.vm.findClass RX0 = some m.cls := findClass_of_methodNamed B.named
  have hlocks := B.notSynchronized
  subst hsz
  have hD := hD0.self (sz := s.heap.size)
  generalize hAe : va_A [(h0, .inr (0, [.ref ak, .ref ab, .ref ao])), (ab, .inl (db, 16, .inl fb))] s.heap.size = A at hD ⊢
  have hA : ∀ q : Nat, s.heap.size ≤ q → A q := fun q h => by rw [← hAe]; exact Or.inr h
  have hS : va_S A s.heap s.heap [] := va_S.rf
  have hP : va_P (dC, dI) vwCl [(h0, .inr (0, [.ref ak, .ref ab, .ref ao])), (ab, .inl (db, 16, .inl fb))] s.heap := hP
  have hl := lv_entry ([.ref h0, .int a, .int b, .int c4, .int d4]) (n := 5) (Nat.le_of_ble_eq_true rfl)
  rw [lg_entry_eq]
  generalize (lg_sl ([.ref h0, .int a, .int b, .int c4, .int d4]) ++ List.replicate (5 - (lg_sl ([.ref h0, .int a, .int b, .int c4, .int d4])).length) Slot.unset).toArray = ls at hl ⊢
  have hl : lv_has ls 5 [(0, .ref h0), (1, .int a), (2, .int b), (3, .int c4), (4, .int d4)] := hl
  refine lv_aload_n hx hb dX0_block_0 rfl (lv_at hl 0 rfl) ?_
  refine va_get (D := (dC, dI)) (ci := 0) (v := .ref ab) (C := RX0) (T := TX0) (N := 3) hx hb hts in_X0 hown hK hP 0 rfl rfl 1 (by decide) (hts _ q30) (fun _ h9 => h9) rfl dX0_block_1 ?_
  refine lv_iconst (v := nI 0) hx hb dX0_block_4 (by decide) ?_
  refine lv_iload_n hx hb dX0_block_5 rfl (lv_at hl 1 rfl) ?_
  have hPc := hP.sub (ws' := [(ab, .inl (db, 16, .inl fb))]) [1] rfl
  have hDc := hD.sub (ws' := [(ab, .inl (db, 16, .inl fb))]) [1] (by decide) rfl
  have hKc := hK.sub (tys' := [(db, .byte)]) [0] rfl
  have hFc := va_free (wc := [(ab, .inl (db, 16, .inl fb))]) hD hS hA [1] rfl
  refine va_callv (va_runS (As := [.ref ab, .int (nI 0), .int a]) (rest := []) ⟨hx, hb, hml, hown, hts⟩ (metX0_word l dC dI ab db 16 0 fb a s.heap.size (by omega) (by omega)) (va_cwS 3 hts (lw_S q44 q45 q12 q46) rfl rfl rfl (by decide +kernel) ⟨Nat.le_of_ble_eq_true rfl, Nat.le_of_ble_eq_true rfl⟩) ⟨fun a U g mk q => by obtain ⟨q0, q1, qP, qK, qD⟩ := q; exact ⟨q0, q1, qP, va_K.moved (u := U) (U := U.calling g mk a) (Vm.Alike.refl U.vm) qK, qD⟩, fun U hU hW => ⟨rfl, by rw [hU], by rw [hU]; exact hPc, va_K.moved hW.alike hKc, hDc.weaken (fun _ _ _ _ => trivial)⟩⟩ rfl rfl hl.1 rfl (lv_room (Nat.le_of_ble_eq_true rfl)) dX0_block_6 ⟨Nat.le_of_ble_eq_true rfl, Nat.le_of_ble_eq_true rfl⟩) hS (fun q _ h => hFc q h) hFc (fun u t H1 locs ht hvm hw_6 hB hz1 hk1 hS => ?_)
  obtain ⟨u_6, rfl⟩ : ∃ z, z = u := ⟨_, rfl⟩
  have hw_6 : mk8 u_6 = stn (mk8 fb) 0 (wb4 a) 4 := hw_6
  obtain ⟨hP1, hK1, hD1⟩ := hB
  rw [ht] at hP1
  have hK1 := va_K.moved hvm.symm hK1
  obtain ⟨hP, hD⟩ := va_join (wr := [(h0, .inr (0, [.ref ak, .ref ab, .ref ao]))]) (w1 := [(ab, .inl (db, 16, .inl u_6))]) hP hD [1] [0] rfl rfl (by decide) (by decide) hk1 hFc hP1 hD1
  have hK := (hK.sub (tys' := []) [] rfl).app hK1
  generalize H1 = H at hP hS ⊢
  have hP : va_P (dC, dI) vwCl [(h0, .inr (0, [.ref ak, .ref ab, .ref ao])), (ab, .inl (db, 16, .inl u_6))] H := hP
  have hD : va_D A [(h0, .inr (0, [.ref ak, .ref ab, .ref ao])), (ab, .inl (db, 16, .inl u_6))] := hD
  have hK : va_K (dC, dI) vwCl [(db, .byte)] s := hK
  refine lv_aload_n hx hb dX0_block_9 rfl (lv_at hl 0 rfl) ?_
  refine va_get (D := (dC, dI)) (ci := 0) (v := .ref ab) (C := RX0) (T := TX0) (N := 3) hx hb hts in_X0 hown hK hP 0 rfl rfl 1 (by decide) (hts _ q30) (fun _ h9 => h9) rfl dX0_block_10 ?_
  refine lv_iconst (v := nI 4) hx hb dX0_block_13 (by decide) ?_
  refine lv_iload_n hx hb dX0_block_14 rfl (lv_at hl 2 rfl) ?_
  have hPc := hP.sub (ws' := [(ab, .inl (db, 16, .inl u_6))]) [1] rfl
  have hDc := hD.sub (ws' := [(ab, .inl (db, 16, .inl u_6))]) [1] (by decide) rfl
  have hKc := hK.sub (tys' := [(db, .byte)]) [0] rfl
  have hFc := va_free (wc := [(ab, .inl (db, 16, .inl u_6))]) hD hS hA [1] rfl
  refine va_callv (va_runS (As := [.ref ab, .int (nI 4), .int b]) (rest := []) ⟨hx, hb, hml, hown, hts⟩ (metX0_word l dC dI ab db 16 4 u_6 b H.size (by omega) (by omega)) (va_cwS 3 hts (lw_S q44 q45 q12 q46) rfl rfl rfl (by decide +kernel) ⟨Nat.le_of_ble_eq_true rfl, Nat.le_of_ble_eq_true rfl⟩) ⟨fun a U g mk q => by obtain ⟨q0, q1, qP, qK, qD⟩ := q; exact ⟨q0, q1, qP, va_K.moved (u := U) (U := U.calling g mk a) (Vm.Alike.refl U.vm) qK, qD⟩, fun U hU hW => ⟨rfl, by rw [hU], by rw [hU]; exact hPc, va_K.moved hW.alike hKc, hDc.weaken (fun _ _ _ _ => trivial)⟩⟩ rfl rfl hl.1 rfl (lv_room (Nat.le_of_ble_eq_true rfl)) dX0_block_15 ⟨Nat.le_of_ble_eq_true rfl, Nat.le_of_ble_eq_true rfl⟩) hS (fun q _ h => hFc q h) hFc (fun u t H1 locs ht hvm hw_15 hB hz1 hk1 hS => ?_)
  obtain ⟨u_15, rfl⟩ : ∃ z, z = u := ⟨_, rfl⟩
  have hw_15 : mk8 u_15 = stn (mk8 u_6) 4 (wb4 b) 4 := hw_15
  obtain ⟨hP1, hK1, hD1⟩ := hB
  rw [ht] at hP1
  have hK1 := va_K.moved hvm.symm hK1
  obtain ⟨hP, hD⟩ := va_join (wr := [(h0, .inr (0, [.ref ak, .ref ab, .ref ao]))]) (w1 := [(ab, .inl (db, 16, .inl u_15))]) hP hD [1] [0] rfl rfl (by decide) (by decide) hk1 hFc hP1 hD1
  have hK := (hK.sub (tys' := []) [] rfl).app hK1
  generalize H1 = H at hP hS ⊢
  have hP : va_P (dC, dI) vwCl [(h0, .inr (0, [.ref ak, .ref ab, .ref ao])), (ab, .inl (db, 16, .inl u_15))] H := hP
  have hD : va_D A [(h0, .inr (0, [.ref ak, .ref ab, .ref ao])), (ab, .inl (db, 16, .inl u_15))] := hD
  have hK : va_K (dC, dI) vwCl [(db, .byte)] s := hK
  refine lv_aload_n hx hb dX0_block_18 rfl (lv_at hl 0 rfl) ?_
  refine va_get (D := (dC, dI)) (ci := 0) (v := .ref ab) (C := RX0) (T := TX0) (N := 3) hx hb hts in_X0 hown hK hP 0 rfl rfl 1 (by decide) (hts _ q30) (fun _ h9 => h9) rfl dX0_block_19 ?_
  refine lv_bipush (v := nI 8) hx hb dX0_block_22 (by decide) ?_
  refine lv_iload_n hx hb dX0_block_24 rfl (lv_at hl 3 rfl) ?_
  have hPc := hP.sub (ws' := [(ab, .inl (db, 16, .inl u_15))]) [1] rfl
  have hDc := hD.sub (ws' := [(ab, .inl (db, 16, .inl u_15))]) [1] (by decide) rfl
  have hKc := hK.sub (tys' := [(db, .byte)]) [0] rfl
  have hFc := va_free (wc := [(ab, .inl (db, 16, .inl u_15))]) hD hS hA [1] rfl
  refine va_callv (va_runS (As := [.ref ab, .int (nI 8), .int c4]) (rest := []) ⟨hx, hb, hml, hown, hts⟩ (metX0_word l dC dI ab db 16 8 u_15 c4 H.size (by omega) (by omega)) (va_cwS 3 hts (lw_S q44 q45 q12 q46) rfl rfl rfl (by decide +kernel) ⟨Nat.le_of_ble_eq_true rfl, Nat.le_of_ble_eq_true rfl⟩) ⟨fun a U g mk q => by obtain ⟨q0, q1, qP, qK, qD⟩ := q; exact ⟨q0, q1, qP, va_K.moved (u := U) (U := U.calling g mk a) (Vm.Alike.refl U.vm) qK, qD⟩, fun U hU hW => ⟨rfl, by rw [hU], by rw [hU]; exact hPc, va_K.moved hW.alike hKc, hDc.weaken (fun _ _ _ _ => trivial)⟩⟩ rfl rfl hl.1 rfl (lv_room (Nat.le_of_ble_eq_true rfl)) dX0_block_25 ⟨Nat.le_of_ble_eq_true rfl, Nat.le_of_ble_eq_true rfl⟩) hS (fun q _ h => hFc q h) hFc (fun u t H1 locs ht hvm hw_25 hB hz1 hk1 hS => ?_)
  obtain ⟨u_25, rfl⟩ : ∃ z, z = u := ⟨_, rfl⟩
  have hw_25 : mk8 u_25 = stn (mk8 u_15) 8 (wb4 c4) 4 := hw_25
  obtain ⟨hP1, hK1, hD1⟩ := hB
  rw [ht] at hP1
  have hK1 := va_K.moved hvm.symm hK1
  obtain ⟨hP, hD⟩ := va_join (wr := [(h0, .inr (0, [.ref ak, .ref ab, .ref ao]))]) (w1 := [(ab, .inl (db, 16, .inl u_25))]) hP hD [1] [0] rfl rfl (by decide) (by decide) hk1 hFc hP1 hD1
  have hK := (hK.sub (tys' := []) [] rfl).app hK1
  generalize H1 = H at hP hS ⊢
  have hP : va_P (dC, dI) vwCl [(h0, .inr (0, [.ref ak, .ref ab, .ref ao])), (ab, .inl (db, 16, .inl u_25))] H := hP
  have hD : va_D A [(h0, .inr (0, [.ref ak, .ref ab, .ref ao])), (ab, .inl (db, 16, .inl u_25))] := hD
  have hK : va_K (dC, dI) vwCl [(db, .byte)] s := hK
  refine lv_aload_n hx hb dX0_block_28 rfl (lv_at hl 0 rfl) ?_
  refine va_get (D := (dC, dI)) (ci := 0) (v := .ref ab) (C := RX0) (T := TX0) (N := 3) hx hb hts in_X0 hown hK hP 0 rfl rfl 1 (by decide) (hts _ q30) (fun _ h9 => h9) rfl dX0_block_29 ?_
  refine lv_bipush (v := nI 12) hx hb dX0_block_32 (by decide) ?_
  refine lv_iload hx hb dX0_block_34 (lv_at hl 4 rfl) ?_
  have hPc := hP.sub (ws' := [(ab, .inl (db, 16, .inl u_25))]) [1] rfl
  have hDc := hD.sub (ws' := [(ab, .inl (db, 16, .inl u_25))]) [1] (by decide) rfl
  have hKc := hK.sub (tys' := [(db, .byte)]) [0] rfl
  have hFc := va_free (wc := [(ab, .inl (db, 16, .inl u_25))]) hD hS hA [1] rfl
  refine va_callv (va_runS (As := [.ref ab, .int (nI 12), .int d4]) (rest := []) ⟨hx, hb, hml, hown, hts⟩ (metX0_word l dC dI ab db 16 12 u_25 d4 H.size (by omega) (by omega)) (va_cwS 3 hts (lw_S q44 q45 q12 q46) rfl rfl rfl (by decide +kernel) ⟨Nat.le_of_ble_eq_true rfl, Nat.le_of_ble_eq_true rfl⟩) ⟨fun a U g mk q => by obtain ⟨q0, q1, qP, qK, qD⟩ := q; exact ⟨q0, q1, qP, va_K.moved (u := U) (U := U.calling g mk a) (Vm.Alike.refl U.vm) qK, qD⟩, fun U hU hW => ⟨rfl, by rw [hU], by rw [hU]; exact hPc, va_K.moved hW.alike hKc, hDc.weaken (fun _ _ _ _ => trivial)⟩⟩ rfl rfl hl.1 rfl (lv_room (Nat.le_of_ble_eq_true rfl)) dX0_block_36 ⟨Nat.le_of_ble_eq_true rfl, Nat.le_of_ble_eq_true rfl⟩) hS (fun q _ h => hFc q h) hFc (fun u t H1 locs ht hvm hw_36 hB hz1 hk1 hS => ?_)
  obtain ⟨u_36, rfl⟩ : ∃ z, z = u := ⟨_, rfl⟩
  have hw_36 : mk8 u_36 = stn (mk8 u_25) 12 (wb4 d4) 4 := hw_36
  obtain ⟨hP1, hK1, hD1⟩ := hB
  rw [ht] at hP1
  have hK1 := va_K.moved hvm.symm hK1
  obtain ⟨hP, hD⟩ := va_join (wr := [(h0, .inr (0, [.ref ak, .ref ab, .ref ao]))]) (w1 := [(ab, .inl (db, 16, .inl u_36))]) hP hD [1] [0] rfl rfl (by decide) (by decide) hk1 hFc hP1 hD1
  have hK := (hK.sub (tys' := []) [] rfl).app hK1
  generalize H1 = H at hP hS ⊢
  have hP : va_P (dC, dI) vwCl [(h0, .inr (0, [.ref ak, .ref ab, .ref ao])), (ab, .inl (db, 16, .inl u_36))] H := hP
  have hD : va_D A [(h0, .inr (0, [.ref ak, .ref ab, .ref ao])), (ab, .inl (db, 16, .inl u_36))] := hD
  have hK : va_K (dC, dI) vwCl [(db, .byte)] s := hK
  refine W.widen (k := 0) (n := 0) (Nat.le_of_ble_eq_true rfl) (Nat.le_of_ble_eq_true rfl) ?_
  have hP9 := hP.sub (ws' := [(h0, .inr (0, [.ref ak, .ref ab, .ref ao])), (ab, .inl (db, 16, .inl u_36))]) [0, 1] rfl
  have hD9 := hD.sub (ws' := [(h0, .inr (0, [.ref ak, .ref ab, .ref ao])), (ab, .inl (db, 16, .inl u_36))]) [0, 1] (by decide) rfl
  have hK9 := hK.sub (tys' := [(db, .byte)]) [0] rfl
  have hpost : mk8 u_36 = st16 (mk8 fb) 0 a b c4 d4 := by rw [hw_36, hw_25, hw_15, hw_6]; rfl
  exact W.vret hx hb hr (fun t ht hW => ⟨⟨u_36, rfl, hpost, by rw [ht]; exact hP9, va_K.moved hW.alike hK9, hD9⟩, hS.F ht⟩) hS.2.2 dX0_block_39

abbrev wsX0_size : List Cond := ws_ yX0_size cX0_size 1 (some .int)
abbrev BX0_size (dC : Nat → ClassId) (dI : Nat → Nat → Nat) (A : Nat → Prop) (x : Int32) (u : Unit) (t : State) : Prop := va_P (dC, dI) vwCl [] t.heap ∧ va_K (dC, dI) vwCl [] t ∧ va_D A []
set_option maxHeartbeats 4000000 in
set_option maxRecDepth 100000 in
/-- size(kind) -/
theorem metX0_size (l : Launch) (dC : Nat → ClassId) (dI : Nat → Nat → Nat) (x : Int32) (sz : Nat) : Met l yX0_size wsX0_size ({ frames := 0, cells := 0, slots := 0, locals := 0 }) (va_Pc [.int x] (fun U => U.heap.size = sz ∧ va_P (dC, dI) vwCl [] U.heap ∧ va_K (dC, dI) vwCl [] U ∧ va_D (fun _ => True) [])) (va_Qi (fun (r : Int32) (u : Unit) => r = nI 16) (BX0_size dC dI (va_A [] sz) x) (va_A [] sz)) 0 0 (va_A [] sz) := by
  refine Met.ofW (cc := cX0_size) (maxL := 1) (ret := (some .int)) (by decide) rfl ?_
  intro p e s m args below meth c s₁ B hml hv
  obtain ⟨rfl, hsz, hP, hK, hD0⟩ := hv
  have hx := B.exec
  have hb := B.bytes
  have hr := B.returns
  have hts := atoms_spec (ws := wsX0_size) B.pre
  have hts : ∀ w ∈ lw_all, w.before _ s = true := fun w h => hts w (List.mem_cons_of_mem _ h)
  have hown : s.vm.findClass RX0 = some m.cls := findClass_of_methodNamed B.named
  have hlocks := B.notSynchronized
  subst hsz
  have hD := hD0.self (sz := s.heap.size)
  generalize hAe : va_A [] s.heap.size = A at hD ⊢
  have hA : ∀ q : Nat, s.heap.size ≤ q → A q := fun q h => by rw [← hAe]; exact Or.inr h
  have hS : va_S A s.heap s.heap [] := va_S.rf
  have hP : va_P (dC, dI) vwCl [] s.heap := hP
  have hl := lv_entry ([.int x]) (n := 1) (Nat.le_of_ble_eq_true rfl)
  rw [lg_entry_eq]
  generalize (lg_sl ([.int x]) ++ List.replicate (1 - (lg_sl ([.int x])).length) Slot.unset).toArray = ls at hl ⊢
  have hl : lv_has ls 1 [(0, .int x)] := hl
  refine lv_bipush (v := nI 16) hx hb dX0_size_0 (by decide) ?_
  have hP9 := hP.sub (ws' := []) [] rfl
  have hD9 := hD.sub (ws' := []) [] (by decide) rfl
  have hK9 := hK.sub (tys' := []) [] rfl
  exact W.iret hx hb hr (fun t ht hW => ⟨⟨_, (), rfl, rfl, by rw [ht]; exact hP9, va_K.moved hW.alike hK9, hD9⟩, hS.F ht⟩) hS.2.2 dX0_size_2

abbrev wsX0_again : List Cond := ws_ yX0_again cX0_again 2 none
abbrev BX0_again (dC : Nat → ClassId) (dI : Nat → Nat → Nat) (A : Nat → Prop) (h0 : Nat) (ak : Nat) (ab : Nat) (ao : Nat) (db : ClassId) (dd : ClassId) (fb : Nat → Int32) (fo : Nat → Int32) (u : Nat → Int32) (t : State) : Prop := va_P (dC, dI) vwCl [(h0, .inr (0, [.ref ak, .ref ab, .ref ao])), (ab, .inl (db, 16, .inl u)), (ao, .inl (dd, 16, .inl fo))] t.heap ∧ va_K (dC, dI) vwCl [(db, .byte), (dd, .byte)] t ∧ va_D A [(h0, .inr (0, [.ref ak, .ref ab, .ref ao])), (ab, .inl (db, 16, .inl u)), (ao, .inl (dd, 16, .inl fo))]
set_option maxHeartbeats 4000000 in
set_option maxRecDepth 100000 in
/-- again(): the answer is the next block -/
theorem metX0_again (l : Launch) (dC : Nat → ClassId) (dI : Nat → Nat → Nat) (h0 : Nat) (ak : Nat) (ab : Nat) (ao : Nat) (db : ClassId) (dd : ClassId) (fb : Nat → Int32) (fo : Nat → Int32) (sz : Nat) : Met l yX0_again wsX0_again ({ frames := 0, cells := 0, slots := 0, locals := 0 }) (va_Pc [.ref h0] (fun U => U.heap.size = sz ∧ va_P (dC, dI) vwCl [(h0, .inr (0, [.ref ak, .ref ab, .ref ao])), (ab, .inl (db, 16, .inl fb)), (ao, .inl (dd, 16, .inl fo))] U.heap ∧ va_K (dC, dI) vwCl [(db, .byte), (dd, .byte)] U ∧ va_D (fun _ => True) [(h0, .inr (0, [.ref ak, .ref ab, .ref ao])), (ab, .inl (db, 16, .inl fb)), (ao, .inl (dd, 16, .inl fo))])) (va_Qv (fun (u : Nat → Int32) => mk8 u = stn (mk8 fb) 0 (mk8 fo) 16) (BX0_again dC dI (va_A [(h0, .inr (0, [.ref ak, .ref ab, .ref ao])), (ab, .inl (db, 16, .inl fb)), (ao, .inl (dd, 16, .inl fo))] sz) h0 ak ab ao db dd fb fo) (va_A [(h0, .inr (0, [.ref ak, .ref ab, .ref ao])), (ab, .inl (db, 16, .inl fb)), (ao, .inl (dd, 16, .inl fo))] sz)) 0 0 (va_A [(h0, .inr (0, [.ref ak, .ref ab, .ref ao])), (ab, .inl (db, 16, .inl fb)), (ao, .inl (dd, 16, .inl fo))] sz) := by
  refine Met.ofW (cc := cX0_again) (maxL := 2) (ret := none) (by decide) rfl ?_
  intro p e s m args below meth c s₁ B hml hv
  obtain ⟨rfl, hsz, hP, hK, hD0⟩ := hv
  have hx := B.exec
  have hb := B.bytes
  have hr := B.returns
  have hts := atoms_spec (ws := wsX0_again) B.pre
  have hts : ∀ w ∈ lw_all, w.before _ s = true := fun w h => hts w (List.mem_cons_of_mem _ h)
  have hown : s.vm.findClass RX0 = some m.cls := findClass_of_methodNamed B.named
  have hlocks := B.notSynchronized
  subst hsz
  have hD := hD0.self (sz := s.heap.size)
  generalize hAe : va_A [(h0, .inr (0, [.ref ak, .ref ab, .ref ao])), (ab, .inl (db, 16, .inl fb)), (ao, .inl (dd, 16, .inl fo))] s.heap.size = A at hD ⊢
  have hA : ∀ q : Nat, s.heap.size ≤ q → A q := fun q h => by rw [← hAe]; exact Or.inr h
  have hS : va_S A s.heap s.heap [] := va_S.rf
  have hP : va_P (dC, dI) vwCl [(h0, .inr (0, [.ref ak, .ref ab, .ref ao])), (ab, .inl (db, 16, .inl fb)), (ao, .inl (dd, 16, .inl fo))] s.heap := hP
  have hl := lv_entry ([.ref h0]) (n := 2) (Nat.le_of_ble_eq_true rfl)
  rw [lg_entry_eq]
  generalize (lg_sl ([.ref h0]) ++ List.replicate (2 - (lg_sl ([.ref h0])).length) Slot.unset).toArray = ls at hl ⊢
  have hl : lv_has ls 2 [(0, .ref h0)] := hl
  have lp : ∀ (fu : Nat), ∀ (k : Nat), (17 - k) < fu → k ≤ 16 → va_K (dC, dI) vwCl [(db, .byte), (dd, .byte)] s → ∀ (H : Heap) (locs : List Loc), va_P (dC, dI) vwCl [(h0, .inr (0, [.ref ak, .ref ab, .ref ao])), (ab, .inl (db, 16, .inl (stn fb 0 (fun j => vp_nar .byte (fo j)) k))), (ao, .inl (dd, 16, .inl fo))] H → va_D A [(h0, .inr (0, [.ref ak, .ref ab, .ref ao])), (ab, .inl (db, 16, .inl (stn fb 0 (fun j => vp_nar .byte (fo j)) k))), (ao, .inl (dd, 16, .inl fo))] → va_S A s.heap H locs → ∀ (ls : Array Slot), lv_has ls 2 [(0, .ref h0), (1, .int (nI k))] → W p l e (headSpec wsX0_again ({ frames := 0, cells := 0, slots := 0, locals := 0 })).room s m ([.ref h0] : List Value).toArray below meth c H locs (0) (0) (MQ below (va_Qv (fun (u : Nat → Int32) => mk8 u = stn (mk8 fb) 0 (mk8 fo) 16) (BX0_again dC dI A h0 ak ab ao db dd fb fo) A) ([.ref h0] : List Value).toArray s 0 0 A) (F0 m 2 ls []) := by
    intro fu
    induction fu with
    | zero => intro k hme; exact absurd hme (Nat.not_lt_zero _)
    | succ fu ih =>
      intro k hme hk16 hK H locs hP hD hS ls hl
      refine lv_iload_n hx hb dX0_again_2 rfl (lv_at hl 1 rfl) ?_
      refine lv_bipush (v := nI 16) hx hb dX0_again_3 (by decide) ?_
      refine lv_icmp_ge (tgt := 26) hx hb dX0_again_5 (by decide) (fun c_5 => ?_) (fun c_5 => ?_)
      · have hk2 : k = 16 := by
          rcases Nat.lt_or_ge k 16 with q | q
          · exact absurd c_5 (nI_ge q (by omega))
          · omega
        subst hk2
        have hP9 := hP.sub (ws' := [(h0, .inr (0, [.ref ak, .ref ab, .ref ao])), (ab, .inl (db, 16, .inl ((stn fb 0 (fun j => vp_nar .byte (fo j)) 16)))), (ao, .inl (dd, 16, .inl fo))]) [0, 1, 2] rfl
        have hD9 := hD.sub (ws' := [(h0, .inr (0, [.ref ak, .ref ab, .ref ao])), (ab, .inl (db, 16, .inl ((stn fb 0 (fun j => vp_nar .byte (fo j)) 16)))), (ao, .inl (dd, 16, .inl fo))]) [0, 1, 2] (by decide) rfl
        have hK9 := hK.sub (tys' := [(db, .byte), (dd, .byte)]) [0, 1] rfl
        have hpost : mk8 ((stn fb 0 (fun j => vp_nar .byte (fo j)) 16)) = stn (mk8 fb) 0 (mk8 fo) 16 := by rw [mk8_stn, mk8_vnb]
        exact W.vret hx hb hr (fun t ht hW => ⟨⟨(stn fb 0 (fun j => vp_nar .byte (fo j)) 16), rfl, hpost, by rw [ht]; exact hP9, va_K.moved hW.alike hK9, hD9⟩, hS.F ht⟩) hS.2.2 dX0_again_26
      · have hlt : k < 16 := by
          rcases Nat.lt_or_ge k 16 with q | q
          · exact q
          · exact absurd (nI_le q (by omega)) c_5
        refine lv_aload_n hx hb dX0_again_8 rfl (lv_at hl 0 rfl) ?_
        refine va_get (D := (dC, dI)) (ci := 0) (v := .ref ab) (C := RX0) (T := TX0) (N := 3) hx hb hts in_X0 hown hK hP 0 rfl rfl 1 (by decide) (hts _ q30) (fun _ h9 => h9) rfl dX0_again_9 ?_
        refine lv_iload_n hx hb dX0_again_12 rfl (lv_at hl 1 rfl) ?_
        refine lv_aload_n hx hb dX0_again_13 rfl (lv_at hl 0 rfl) ?_
        refine va_get (D := (dC, dI)) (ci := 0) (v := .ref ao) (C := RX0) (T := TX0) (N := 3) hx hb hts in_X0 hown hK hP 0 rfl rfl 2 (by decide) (hts _ q31) (fun _ h9 => h9) rfl dX0_again_14 ?_
        refine lv_iload_n hx hb dX0_again_17 rfl (lv_at hl 1 rfl) ?_
        refine va_bald hx hb hK hP 2 1 rfl rfl (vp_in_nI (n := k) (N := 16) (by omega) (by omega)) dX0_again_18 ?_
        refine lv_topi (fun t_18 et_18 => ?_)
        have et_18 : t_18 = fo k := et_18.trans (congrArg fo (nI_clamp (n := k) (by omega)))
        subst et_18
        refine va_bast hx hb hK hP hD hS 1 0 rfl rfl (vp_in_nI (n := k) (N := 16) (by omega) (by omega)) dX0_again_19 (fun H locs hP hD hS => ?_)
        rw [nI_clamp (n := k) (by omega)] at hP hD
        have eg_19 : upd (stn fb 0 (fun j => vp_nar .byte (fo j)) k) k (vp_nar .byte (fo k)) = stn fb 0 (fun j => vp_nar .byte (fo j)) (k + 1) := stn_z fb (fun j => vp_nar .byte (fo j)) k
        rw [eg_19] at hP hD
        have hP : va_P (dC, dI) vwCl [(h0, .inr (0, [.ref ak, .ref ab, .ref ao])), (ab, .inl (db, 16, .inl (stn fb 0 (fun j => vp_nar .byte (fo j)) (k + 1)))), (ao, .inl (dd, 16, .inl fo))] H := hP
        have hD : va_D A [(h0, .inr (0, [.ref ak, .ref ab, .ref ao])), (ab, .inl (db, 16, .inl (stn fb 0 (fun j => vp_nar .byte (fo j)) (k + 1)))), (ao, .inl (dd, 16, .inl fo))] := hD
        refine lv_iinc (v := nI (k + 1)) (lv' := [(1, .int (nI (k + 1))), (0, .ref h0)]) hx hb dX0_again_20 hl (k := 1) rfl (nI_1 k) (by decide) rfl (fun ls hl => ?_)
        refine lv_goto (tgt := 2) hx hb dX0_again_23 (by decide) ?_
        exact ih (k + 1) (by omega) (by omega) (hK.sub [0, 1] rfl) _ _ (hP.sub (ws' := [(h0, .inr (0, [.ref ak, .ref ab, .ref ao])), (ab, .inl (db, 16, .inl (stn fb 0 (fun j => vp_nar .byte (fo j)) (k + 1)))), (ao, .inl (dd, 16, .inl fo))]) [0, 1, 2] rfl) (hD.sub (ws' := [(h0, .inr (0, [.ref ak, .ref ab, .ref ao])), (ab, .inl (db, 16, .inl (stn fb 0 (fun j => vp_nar .byte (fo j)) (k + 1)))), (ao, .inl (dd, 16, .inl fo))]) [0, 1, 2] (by decide) rfl) hS _ (lv_sub hl [1, 0] rfl)
  refine lv_iconst (v := nI 0) hx hb dX0_again_0 (by decide) ?_
  refine lv_istore_n (lv' := [(1, .int (nI 0)), (0, .ref h0)]) hx hb dX0_again_1 rfl hl (by decide) rfl (fun ls hl => ?_)
  have hz : stn fb 0 (fun j => vp_nar .byte (fo j)) 0 = fb := stn_0 fb 0 (fun j => vp_nar .byte (fo j))
  rw [← hz] at hP hD
  exact lp _ 0 (Nat.lt_succ_self _) (by omega) (hK.sub [0, 1] rfl) _ _ (hP.sub (ws' := [(h0, .inr (0, [.ref ak, .ref ab, .ref ao])), (ab, .inl (db, 16, .inl (stn fb 0 (fun j => vp_nar .byte (fo j)) 0))), (ao, .inl (dd, 16, .inl fo))]) [0, 1, 2] rfl) (hD.sub (ws' := [(h0, .inr (0, [.ref ak, .ref ab, .ref ao])), (ab, .inl (db, 16, .inl (stn fb 0 (fun j => vp_nar .byte (fo j)) 0))), (ao, .inl (dd, 16, .inl fo))]) [0, 1, 2] (by decide) rfl) hS _ (lv_sub hl [1, 0] rfl)

abbrev wsX0_out : List Cond := ws_ yX0_out cX0_out 2 (some .int)
abbrev BX0_out (dC : Nat → ClassId) (dI : Nat → Nat → Nat) (A : Nat → Prop) (h0 : Nat) (ak : Nat) (ab : Nat) (ao : Nat) (dd : ClassId) (fo : Nat → Int32) (x : Int32) (u : Unit) (t : State) : Prop := va_P (dC, dI) vwCl [(h0, .inr (0, [.ref ak, .ref ab, .ref ao])), (ao, .inl (dd, 16, .inl fo))] t.heap ∧ va_K (dC, dI) vwCl [(dd, .byte)] t ∧ va_D A [(h0, .inr (0, [.ref ak, .ref ab, .ref ao])), (ao, .inl (dd, 16, .inl fo))]
set_option maxHeartbeats 4000000 in
set_option maxRecDepth 100000 in
/-- out(at) -/
theorem metX0_out (l : Launch) (dC : Nat → ClassId) (dI : Nat → Nat → Nat) (h0 : Nat) (ak : Nat) (ab : Nat) (ao : Nat) (dd : ClassId) (fo : Nat → Int32) (x : Int32) (sz : Nat) : Met l yX0_out wsX0_out ({ frames := 0, cells := 0, slots := 0, locals := 0 }) (va_Pc [.ref h0, .int x] (fun U => U.heap.size = sz ∧ va_P (dC, dI) vwCl [(h0, .inr (0, [.ref ak, .ref ab, .ref ao])), (ao, .inl (dd, 16, .inl fo))] U.heap ∧ va_K (dC, dI) vwCl [(dd, .byte)] U ∧ va_D (fun _ => True) [(h0, .inr (0, [.ref ak, .ref ab, .ref ao])), (ao, .inl (dd, 16, .inl fo))])) (va_Qi (fun (r : Int32) (u : Unit) => r = mk8 fo (nib x)) (BX0_out dC dI (va_A [(h0, .inr (0, [.ref ak, .ref ab, .ref ao])), (ao, .inl (dd, 16, .inl fo))] sz) h0 ak ab ao dd fo x) (va_A [(h0, .inr (0, [.ref ak, .ref ab, .ref ao])), (ao, .inl (dd, 16, .inl fo))] sz)) 0 0 (va_A [(h0, .inr (0, [.ref ak, .ref ab, .ref ao])), (ao, .inl (dd, 16, .inl fo))] sz) := by
  refine Met.ofW (cc := cX0_out) (maxL := 2) (ret := (some .int)) (by decide) rfl ?_
  intro p e s m args below meth c s₁ B hml hv
  obtain ⟨rfl, hsz, hP, hK, hD0⟩ := hv
  have hx := B.exec
  have hb := B.bytes
  have hr := B.returns
  have hts := atoms_spec (ws := wsX0_out) B.pre
  have hts : ∀ w ∈ lw_all, w.before _ s = true := fun w h => hts w (List.mem_cons_of_mem _ h)
  have hown : s.vm.findClass RX0 = some m.cls := findClass_of_methodNamed B.named
  have hlocks := B.notSynchronized
  subst hsz
  have hD := hD0.self (sz := s.heap.size)
  generalize hAe : va_A [(h0, .inr (0, [.ref ak, .ref ab, .ref ao])), (ao, .inl (dd, 16, .inl fo))] s.heap.size = A at hD ⊢
  have hA : ∀ q : Nat, s.heap.size ≤ q → A q := fun q h => by rw [← hAe]; exact Or.inr h
  have hS : va_S A s.heap s.heap [] := va_S.rf
  have hP : va_P (dC, dI) vwCl [(h0, .inr (0, [.ref ak, .ref ab, .ref ao])), (ao, .inl (dd, 16, .inl fo))] s.heap := hP
  have hl := lv_entry ([.ref h0, .int x]) (n := 2) (Nat.le_of_ble_eq_true rfl)
  rw [lg_entry_eq]
  generalize (lg_sl ([.ref h0, .int x]) ++ List.replicate (2 - (lg_sl ([.ref h0, .int x])).length) Slot.unset).toArray = ls at hl ⊢
  have hl : lv_has ls 2 [(0, .ref h0), (1, .int x)] := hl
  refine lv_aload_n hx hb dX0_out_0 rfl (lv_at hl 0 rfl) ?_
  refine va_get (D := (dC, dI)) (ci := 0) (v := .ref ao) (C := RX0) (T := TX0) (N := 3) hx hb hts in_X0 hown hK hP 0 rfl rfl 2 (by decide) (hts _ q31) (fun _ h9 => h9) rfl dX0_out_1 ?_
  refine lv_iload_n hx hb dX0_out_4 rfl (lv_at hl 1 rfl) ?_
  refine lv_bipush (v := nI 15) hx hb dX0_out_5 (by decide) ?_
  refine lv_iand hx hb dX0_out_7 ?_
  refine lv_topi (fun t_7 et_7 => ?_)
  have et_7 : t_7 = nI (nib x) := et_7.trans (nib_and x)
  subst et_7
  have hnib := nib_lt x
  refine va_bald hx hb hK hP 1 0 rfl rfl (vp_in_nI (n := (nib x)) (N := 16) (by omega) (by omega)) dX0_out_8 ?_
  refine lv_topi (fun t_8 et_8 => ?_)
  have et_8 : t_8 = fo (nib x) := et_8.trans (congrArg fo (nI_clamp (n := (nib x)) (by omega)))
  subst et_8
  refine lv_sipush (v := nI 255) hx hb dX0_out_9 (by decide) ?_
  refine lv_iand hx hb dX0_out_12 ?_
  have hP9 := hP.sub (ws' := [(h0, .inr (0, [.ref ak, .ref ab, .ref ao])), (ao, .inl (dd, 16, .inl fo))]) [0, 1] rfl
  have hD9 := hD.sub (ws' := [(h0, .inr (0, [.ref ak, .ref ab, .ref ao])), (ao, .inl (dd, 16, .inl fo))]) [0, 1] (by decide) rfl
  have hK9 := hK.sub (tys' := [(dd, .byte)]) [0] rfl
  exact W.iret hx hb hr (fun t ht hW => ⟨⟨_, (), rfl, rfl, by rw [ht]; exact hP9, va_K.moved hW.alike hK9, hD9⟩, hS.F ht⟩) hS.2.2 dX0_out_13
end
section
abbrev wsX1_init : List Cond := ws_ yX1_init cX1_init 1 none
abbrev BX1_init (dC : Nat → ClassId) (dI : Nat → Nat → Nat) (A : Nat → Prop) (h0 : Nat) (u : Unit) (t : State) : Prop := ∃ (ak : Nat), ∃ (ab : Nat), ∃ (ao : Nat), ∃ (dk : ClassId), ∃ (db : ClassId), ∃ (dd : ClassId), va_P (dC, dI) vwCl [(h0, .inr (1, [.ref ak, .ref ab, .ref ao])), (ak, .inl (dk, 32, .inl (fun _ => 0))), (ab, .inl (db, 16, .inl (fun _ => 0))), (ao, .inl (dd, 16, .inl (fun _ => 0)))] t.heap ∧ va_K (dC, dI) vwCl [(dk, .int), (db, .int), (dd, .int)] t ∧ va_D A [(h0, .inr (1, [.ref ak, .ref ab, .ref ao])), (ak, .inl (dk, 32, .inl (fun _ => 0))), (ab, .inl (db, 16, .inl (fun _ => 0))), (ao, .inl (dd, 16, .inl (fun _ => 0)))]
set_option maxHeartbeats 4000000 in
set_option maxRecDepth 100000 in
/-- RcWideDeskModel() -/
theorem metX1_init (l : Launch) (dC : Nat → ClassId) (dI : Nat → Nat → Nat) (h0 : Nat) (sz : Nat) : Met l yX1_init wsX1_init ({ frames := 1, cells := 3, slots := 64, locals := 12 }) (va_Pc [.ref h0] (fun U => U.heap.size = sz ∧ va_P (dC, dI) vwCl [(h0, .inr (1, [.null, .null, .null]))] U.heap ∧ va_K (dC, dI) vwCl [] U ∧ va_D (fun _ => True) [(h0, .inr (1, [.null, .null, .null]))])) (va_Qv (fun (u : Unit) => True) (BX1_init dC dI (va_A [(h0, .inr (1, [.null, .null, .null]))] sz) h0) (va_A [(h0, .inr (1, [.null, .null, .null]))] sz)) 3 64 (va_A [(h0, .inr (1, [.null, .null, .null]))] sz) := by
  refine Met.ofW (cc := cX1_init) (maxL := 1) (ret := none) (by decide) rfl ?_
  intro p e s m args below meth c s₁ B hml hv
  obtain ⟨rfl, hsz, hP, hK, hD0⟩ := hv
  have hx := B.exec
  have hb := B.bytes
  have hr := B.returns
  have hts := atoms_spec (ws := wsX1_init) B.pre
  have hts : ∀ w ∈ lw_all, w.before _ s = true := fun w h => hts w (List.mem_cons_of_mem _ h)
  have hown : s.vm.findClass RX1 = some m.cls := findClass_of_methodNamed B.named
  have hlocks := B.notSynchronized
  have hin : meth.name = "<init>" := (name_of_methodNamed B.named B.method).1
  subst hsz
  have hD := hD0.self (sz := s.heap.size)
  generalize hAe : va_A [(h0, .inr (1, [.null, .null, .null]))] s.heap.size = A at hD ⊢
  have hA : ∀ q : Nat, s.heap.size ≤ q → A q := fun q h => by rw [← hAe]; exact Or.inr h
  have hS : va_S A s.heap s.heap [] := va_S.rf
  have hP : va_P (dC, dI) vwCl [(h0, .inr (1, [.null, .null, .null]))] s.heap := hP
  have hl := lv_entry ([.ref h0]) (n := 1) (Nat.le_of_ble_eq_true rfl)
  rw [lg_entry_eq]
  generalize (lg_sl ([.ref h0]) ++ List.replicate (1 - (lg_sl ([.ref h0])).length) Slot.unset).toArray = ls at hl ⊢
  have hl : lv_has ls 1 [(0, .ref h0)] := hl
  refine lv_aload_n hx hb dX1_init_0 rfl (lv_at hl 0 rfl) ?_
  refine W.objInit hx hb hown (hts _ q241) (hts _ q27) (hts _ q28) rfl (by rw [hml]; exact hl.1) rfl dX1_init_1 (Nat.le_of_ble_eq_true rfl) (Nat.le_of_ble_eq_true rfl) ?_
  refine W.eq (g2 := F0 m 4 ls []) rfl ?_
  refine lv_aload_n hx hb dX1_init_4 rfl (lv_at hl 0 rfl) ?_
  refine lv_bipush (v := nI 32) hx hb dX1_init_5 (by decide) ?_
  refine va_newa (atype := .int) (ty := .int) (N' := 32) (a0 := (32, .inl (fun _ => 0))) hx hb (hts _ q252) rfl hK hP hD hS hA (fun _ => rfl) (nI_pos (n := 32) (by omega)) (nI_clamp (n := 32) (by omega)) (Nat.le_of_ble_eq_true rfl) (Nat.le_of_ble_eq_true rfl) (Nat.le_of_ble_eq_true rfl) dX1_init_7 (fun q_7 d_7 H hK hP hD hS => ?_)
  have hP : va_P (dC, dI) vwCl [(h0, .inr (1, [.null, .null, .null])), (q_7, .inl (d_7, 32, .inl (fun _ => 0)))] H := hP
  have hD : va_D A [(h0, .inr (1, [.null, .null, .null])), (q_7, .inl (d_7, 32, .inl (fun _ => 0)))] := hD
  have hK : va_K (dC, dI) vwCl [(d_7, .int)] s := hK
  refine va_putF (D := (dC, dI)) (ci := 1) (v := .ref q_7) (ty := .array .int) (C := RX1) (T := TX1) (N := 3) hx hb hts in_X1 tyX1 tyX1_ok nmX1 hown hK hP hD hS 0 rfl rfl 0 (by decide) (hts _ q242) (fun _ h9 => h9) rfl hin rfl (by decide +kernel) rfl rfl (Nat.le_of_ble_eq_true rfl) dX1_init_9 (fun H locs hP hD hS => ?_)
  have hP : va_P (dC, dI) vwCl [(h0, .inr (1, [.ref q_7, .null, .null])), (q_7, .inl (d_7, 32, .inl (fun _ => 0)))] H := hP
  have hD : va_D A [(h0, .inr (1, [.ref q_7, .null, .null])), (q_7, .inl (d_7, 32, .inl (fun _ => 0)))] := hD
  refine lv_aload_n hx hb dX1_init_12 rfl (lv_at hl 0 rfl) ?_
  refine lv_bipush (v := nI 16) hx hb dX1_init_13 (by decide) ?_
  refine va_newa (atype := .int) (ty := .int) (N' := 16) (a0 := (16, .inl (fun _ => 0))) hx hb (hts _ q252) rfl hK hP hD hS hA (fun _ => rfl) (nI_pos (n := 16) (by omega)) (nI_clamp (n := 16) (by omega)) (Nat.le_of_ble_eq_true rfl) (Nat.le_of_ble_eq_true rfl) (Nat.le_of_ble_eq_true rfl) dX1_init_15 (fun q_15 d_15 H hK hP hD hS => ?_)
  have hP : va_P (dC, dI) vwCl [(h0, .inr (1, [.ref q_7, .null, .null])), (q_7, .inl (d_7, 32, .inl (fun _ => 0))), (q_15, .inl (d_15, 16, .inl (fun _ => 0)))] H := hP
  have hD : va_D A [(h0, .inr (1, [.ref q_7, .null, .null])), (q_7, .inl (d_7, 32, .inl (fun _ => 0))), (q_15, .inl (d_15, 16, .inl (fun _ => 0)))] := hD
  have hK : va_K (dC, dI) vwCl [(d_7, .int), (d_15, .int)] s := hK
  refine va_putF (D := (dC, dI)) (ci := 1) (v := .ref q_15) (ty := .array .int) (C := RX1) (T := TX1) (N := 3) hx hb hts in_X1 tyX1 tyX1_ok nmX1 hown hK hP hD hS 0 rfl rfl 1 (by decide) (hts _ q243) (fun _ h9 => h9) rfl hin rfl (by decide +kernel) rfl rfl (Nat.le_of_ble_eq_true rfl) dX1_init_17 (fun H locs hP hD hS => ?_)
  have hP : va_P (dC, dI) vwCl [(h0, .inr (1, [.ref q_7, .ref q_15, .null])), (q_7, .inl (d_7, 32, .inl (fun _ => 0))), (q_15, .inl (d_15, 16, .inl (fun _ => 0)))] H := hP
  have hD : va_D A [(h0, .inr (1, [.ref q_7, .ref q_15, .null])), (q_7, .inl (d_7, 32, .inl (fun _ => 0))), (q_15, .inl (d_15, 16, .inl (fun _ => 0)))] := hD
  refine lv_aload_n hx hb dX1_init_20 rfl (lv_at hl 0 rfl) ?_
  refine lv_bipush (v := nI 16) hx hb dX1_init_21 (by decide) ?_
  refine va_newa (atype := .int) (ty := .int) (N' := 16) (a0 := (16, .inl (fun _ => 0))) hx hb (hts _ q252) rfl hK hP hD hS hA (fun _ => rfl) (nI_pos (n := 16) (by omega)) (nI_clamp (n := 16) (by omega)) (Nat.le_of_ble_eq_true rfl) (Nat.le_of_ble_eq_true rfl) (Nat.le_of_ble_eq_true rfl) dX1_init_23 (fun q_23 d_23 H hK hP hD hS => ?_)
  have hP : va_P (dC, dI) vwCl [(h0, .inr (1, [.ref q_7, .ref q_15, .null])), (q_7, .inl (d_7, 32, .inl (fun _ => 0))), (q_15, .inl (d_15, 16, .inl (fun _ => 0))), (q_23, .inl (d_23, 16, .inl (fun _ => 0)))] H := hP
  have hD : va_D A [(h0, .inr (1, [.ref q_7, .ref q_15, .null])), (q_7, .inl (d_7, 32, .inl (fun _ => 0))), (q_15, .inl (d_15, 16, .inl (fun _ => 0))), (q_23, .inl (d_23, 16, .inl (fun _ => 0)))] := hD
  have hK : va_K (dC, dI) vwCl [(d_7, .int), (d_15, .int), (d_23, .int)] s := hK
  refine va_putF (D := (dC, dI)) (ci := 1) (v := .ref q_23) (ty := .array .int) (C := RX1) (T := TX1) (N := 3) hx hb hts in_X1 tyX1 tyX1_ok nmX1 hown hK hP hD hS 0 rfl rfl 2 (by decide) (hts _ q244) (fun _ h9 => h9) rfl hin rfl (by decide +kernel) rfl rfl (Nat.le_of_ble_eq_true rfl) dX1_init_25 (fun H locs hP hD hS => ?_)
  have hP : va_P (dC, dI) vwCl [(h0, .inr (1, [.ref q_7, .ref q_15, .ref q_23])), (q_7, .inl (d_7, 32, .inl (fun _ => 0))), (q_15, .inl (d_15, 16, .inl (fun _ => 0))), (q_23, .inl (d_23, 16, .inl (fun _ => 0)))] H := hP
  have hD : va_D A [(h0, .inr (1, [.ref q_7, .ref q_15, .ref q_23])), (q_7, .inl (d_7, 32, .inl (fun _ => 0))), (q_15, .inl (d_15, 16, .inl (fun _ => 0))), (q_23, .inl (d_23, 16, .inl (fun _ => 0)))] := hD
  refine W.widen (k := 3) (n := 64) (Nat.le_of_ble_eq_true rfl) (Nat.le_of_ble_eq_true rfl) ?_
  have hP9 := hP.sub (ws' := [(h0, .inr (1, [.ref q_7, .ref q_15, .ref q_23])), (q_7, .inl (d_7, 32, .inl (fun _ => 0))), (q_15, .inl (d_15, 16, .inl (fun _ => 0))), (q_23, .inl (d_23, 16, .inl (fun _ => 0)))]) [0, 1, 2, 3] rfl
  have hD9 := hD.sub (ws' := [(h0, .inr (1, [.ref q_7, .ref q_15, .ref q_23])), (q_7, .inl (d_7, 32, .inl (fun _ => 0))), (q_15, .inl (d_15, 16, .inl (fun _ => 0))), (q_23, .inl (d_23, 16, .inl (fun _ => 0)))]) [0, 1, 2, 3] (by decide) rfl
  have hK9 := hK.sub (tys' := [(d_7, .int), (d_15, .int), (d_23, .int)]) [0, 1, 2] rfl
  exact W.vret hx hb hr (fun t ht hW => ⟨⟨(), rfl, trivial, q_7, q_15, q_23, d_7, d_15, d_23, by rw [ht]; exact hP9, va_K.moved hW.alike hK9, hD9⟩, hS.F ht⟩) hS.2.2 dX1_init_28

abbrev wsX1_word : List Cond := ws_ yX1_word cX1_word 4 none
abbrev BX1_word (dC : Nat → ClassId) (dI : Nat → Nat → Nat) (A : Nat → Prop) (aa : Nat) (da : ClassId) (n : Nat) (o : Nat) (f : Nat → Int32) (w : Int32) (u : Nat → Int32) (t : State) : Prop := va_P (dC, dI) vwCl [(aa, .inl (da, n, .inl u))] t.heap ∧ va_K (dC, dI) vwCl [(da, .int)] t ∧ va_D A [(aa, .inl (da, n, .inl u))]
set_option maxHeartbeats 4000000 in
set_option maxRecDepth 100000 in
/-- word(to, at, w) -/
theorem metX1_word (l : Launch) (dC : Nat → ClassId) (dI : Nat → Nat → Nat) (aa : Nat) (da : ClassId) (n : Nat) (o : Nat) (f : Nat → Int32) (w : Int32) (sz : Nat) (hon : o + 4 ≤ n) (hn : n ≤ 32) : Met l yX1_word wsX1_word ({ frames := 0, cells := 0, slots := 0, locals := 0 }) (va_Pc [.ref aa, .int (nI o), .int w] (fun U => U.heap.size = sz ∧ va_P (dC, dI) vwCl [(aa, .inl (da, n, .inl f))] U.heap ∧ va_K (dC, dI) vwCl [(da, .int)] U ∧ va_D (fun _ => True) [(aa, .inl (da, n, .inl f))])) (va_Qv (fun (u : Nat → Int32) => u = stn f o (wb4 w) 4) (BX1_word dC dI (va_A [(aa, .inl (da, n, .inl f))] sz) aa da n o f w) (va_A [(aa, .inl (da, n, .inl f))] sz)) 0 0 (va_A [(aa, .inl (da, n, .inl f))] sz) := by
  refine Met.ofW (cc := cX1_word) (maxL := 4) (ret := none) (by decide) rfl ?_
  intro p e s m args below meth c s₁ B hml hv
  obtain ⟨rfl, hsz, hP, hK, hD0⟩ := hv
  have hx := B.exec
  have hb := B.bytes
  have hr := B.returns
  have hts := atoms_spec (ws := wsX1_word) B.pre
  have hts : ∀ w ∈ lw_all, w.before _ s = true := fun w h => hts w (List.mem_cons_of_mem _ h)
  have hown : s.vm.findClass RX1 = some m.cls := findClass_of_methodNamed B.named
  have hlocks := B.notSynchronized
  subst hsz
  have hD := hD0.self (sz := s.heap.size)
  generalize hAe : va_A [(aa, .inl (da, n, .inl f))] s.heap.size = A at hD ⊢
  have hA : ∀ q : Nat, s.heap.size ≤ q → A q := fun q h => by rw [← hAe]; exact Or.inr h
  have hS : va_S A s.heap s.heap [] := va_S.rf
  have hP : va_P (dC, dI) vwCl [(aa, .inl (da, n, .inl f))] s.heap := hP
  have hl := lv_entry ([.ref aa, .int (nI o), .int w]) (n := 4) (Nat.le_of_ble_eq_true rfl)
  rw [lg_entry_eq]
  generalize (lg_sl ([.ref aa, .int (nI o), .int w]) ++ List.replicate (4 - (lg_sl ([.ref aa, .int (nI o), .int w])).length) Slot.unset).toArray = ls at hl ⊢
  have hl : lv_has ls 4 [(0, .ref aa), (1, .int (nI o)), (2, .int w)] := hl
  have lp : ∀ (fu : Nat), ∀ (k : Nat), (5 - k) < fu → k ≤ 4 → va_K (dC, dI) vwCl [(da, .int)] s → ∀ (H : Heap) (locs : List Loc), va_P (dC, dI) vwCl [(aa, .inl (da, n, .inl (stn f o (wb4 w) k)))] H → va_D A [(aa, .inl (da, n, .inl (stn f o (wb4 w) k)))] → va_S A s.heap H locs → ∀ (ls : Array Slot), lv_has ls 4 [(0, .ref aa), (1, .int (nI o)), (2, .int w), (3, .int (nI k))] → W p l e (headSpec wsX1_word ({ frames := 0, cells := 0, slots := 0, locals := 0 })).room s m ([.ref aa, .int (nI o), .int w] : List Value).toArray below meth c H locs (0) (0) (MQ below (va_Qv (fun (u : Nat → Int32) => u = stn f o (wb4 w) 4) (BX1_word dC dI A aa da n o f w) A) ([.ref aa, .int (nI o), .int w] : List Value).toArray s 0 0 A) (F0 m 2 ls []) := by
    intro fu
    induction fu with
    | zero => intro k hme; exact absurd hme (Nat.not_lt_zero _)
    | succ fu ih =>
      intro k hme hk4 hK H locs hP hD hS ls hl
      refine lv_iload_n hx hb dX1_word_2 rfl (lv_at hl 3 rfl) ?_
      refine lv_iconst (v := nI 4) hx hb dX1_word_3 (by decide) ?_
      refine lv_icmp_ge (tgt := 31) hx hb dX1_word_4 (by decide) (fun c_4 => ?_) (fun c_4 => ?_)
      · have hk2 : k = 4 := by
          rcases Nat.lt_or_ge k 4 with q | q
          · exact absurd c_4 (nI_ge q (by omega))
          · omega
        subst hk2
        have hP9 := hP.sub (ws' := [(aa, .inl (da, n, .inl ((stn f o (wb4 w) 4))))]) [0] rfl
        have hD9 := hD.sub (ws' := [(aa, .inl (da, n, .inl ((stn f o (wb4 w) 4))))]) [0] (by decide) rfl
        have hK9 := hK.sub (tys' := [(da, .int)]) [0] rfl
        exact W.vret hx hb hr (fun t ht hW => ⟨⟨(stn f o (wb4 w) 4), rfl, rfl, by rw [ht]; exact hP9, va_K.moved hW.alike hK9, hD9⟩, hS.F ht⟩) hS.2.2 dX1_word_31
      · have hlt : k < 4 := by
          rcases Nat.lt_or_ge k 4 with q | q
          · exact q
          · exact absurd (nI_le q (by omega)) c_4
        refine lv_aload_n hx hb dX1_word_7 rfl (lv_at hl 0 rfl) ?_
        refine lv_iload_n hx hb dX1_word_8 rfl (lv_at hl 1 rfl) ?_
        refine lv_iload_n hx hb dX1_word_9 rfl (lv_at hl 3 rfl) ?_
        refine lv_iadd hx hb dX1_word_10 ?_
        refine lv_topi (fun t_10 et_10 => ?_)
        have et_10 : t_10 = nI (o + k) := et_10.trans (nI_add o k)
        subst et_10
        refine lv_iload_n hx hb dX1_word_11 rfl (lv_at hl 2 rfl) ?_
        refine lv_bipush (v := nI 24) hx hb dX1_word_12 (by decide) ?_
        refine lv_bipush (v := nI 8) hx hb dX1_word_14 (by decide) ?_
        refine lv_iload_n hx hb dX1_word_16 rfl (lv_at hl 3 rfl) ?_
        refine lv_imul hx hb dX1_word_17 ?_
        refine lv_isub hx hb dX1_word_18 ?_
        refine lv_ishr hx hb dX1_word_19 ?_
        refine lv_sipush (v := nI 255) hx hb dX1_word_20 (by decide) ?_
        refine lv_iand hx hb dX1_word_23 ?_
        refine va_iast hx hb hK hP hD hS 0 0 rfl rfl (vp_in_nI (n := (o + k)) (N := n) (by omega) (by omega)) dX1_word_24 (fun H locs hP hD hS => ?_)
        rw [nI_clamp (n := (o + k)) (by omega)] at hP hD
        have eg_24 : upd (stn f o (wb4 w) k) (o + k) ((w >>> (((nI 24) - ((nI 8) * (nI k))) &&& 31)) &&& (nI 255)) = stn f o (wb4 w) (k + 1) := stn_s f o (wb4 w) k
        rw [eg_24] at hP hD
        have hP : va_P (dC, dI) vwCl [(aa, .inl (da, n, .inl (stn f o (wb4 w) (k + 1))))] H := hP
        have hD : va_D A [(aa, .inl (da, n, .inl (stn f o (wb4 w) (k + 1))))] := hD
        refine lv_iinc (v := nI (k + 1)) (lv' := [(3, .int (nI (k + 1))), (0, .ref aa), (1, .int (nI o)), (2, .int w)]) hx hb dX1_word_25 hl (k := 3) rfl (nI_1 k) (by decide) rfl (fun ls hl => ?_)
        refine lv_goto (tgt := 2) hx hb dX1_word_28 (by decide) ?_
        exact ih (k + 1) (by omega) (by omega) (hK.sub [0] rfl) _ _ (hP.sub (ws' := [(aa, .inl (da, n, .inl (stn f o (wb4 w) (k + 1))))]) [0] rfl) (hD.sub (ws' := [(aa, .inl (da, n, .inl (stn f o (wb4 w) (k + 1))))]) [0] (by decide) rfl) hS _ (lv_sub hl [1, 2, 3, 0] rfl)
  refine lv_iconst (v := nI 0) hx hb dX1_word_0 (by decide) ?_
  refine lv_istore_n (lv' := [(3, .int (nI 0)), (0, .ref aa), (1, .int (nI o)), (2, .int w)]) hx hb dX1_word_1 rfl hl (by decide) rfl (fun ls hl => ?_)
  have hz : stn f o (wb4 w) 0 = f := stn_0 f o (wb4 w)
  rw [← hz] at hP hD
  exact lp _ 0 (Nat.lt_succ_self _) (by omega) (hK.sub [0] rfl) _ _ (hP.sub (ws' := [(aa, .inl (da, n, .inl (stn f o (wb4 w) 0)))]) [0] rfl) (hD.sub (ws' := [(aa, .inl (da, n, .inl (stn f o (wb4 w) 0)))]) [0] (by decide) rfl) hS _ (lv_sub hl [1, 2, 3, 0] rfl)

abbrev wsX1_words : List Cond := ws_ yX1_words cX1_words 6 none
abbrev BX1_words (dC : Nat → ClassId) (dI : Nat → Nat → Nat) (A : Nat → Prop) (aa : Nat) (da : ClassId) (n : Nat) (o : Nat) (f : Nat → Int32) (a : Int32) (b : Int32) (c4 : Int32) (d4 : Int32) (u : Nat → Int32) (t : State) : Prop := va_P (dC, dI) vwCl [(aa, .inl (da, n, .inl u))] t.heap ∧ va_K (dC, dI) vwCl [(da, .int)] t ∧ va_D A [(aa, .inl (da, n, .inl u))]
set_option maxHeartbeats 4000000 in
set_option maxRecDepth 100000 in
/-- words(to, at, a, b, c, d) -/
theorem metX1_words (l : Launch) (dC : Nat → ClassId) (dI : Nat → Nat → Nat) (aa : Nat) (da : ClassId) (n : Nat) (o : Nat) (f : Nat → Int32) (a : Int32) (b : Int32) (c4 : Int32) (d4 : Int32) (sz : Nat) (hon : o + 16 ≤ n) (hn : n ≤ 32) : Met l yX1_words wsX1_words ({ frames := 1, cells := 0, slots := 0, locals := 23 }) (va_Pc [.ref aa, .int (nI o), .int a, .int b, .int c4, .int d4] (fun U => U.heap.size = sz ∧ va_P (dC, dI) vwCl [(aa, .inl (da, n, .inl f))] U.heap ∧ va_K (dC, dI) vwCl [(da, .int)] U ∧ va_D (fun _ => True) [(aa, .inl (da, n, .inl f))])) (va_Qv (fun (u : Nat → Int32) => u = st16 f o a b c4 d4) (BX1_words dC dI (va_A [(aa, .inl (da, n, .inl f))] sz) aa da n o f a b c4 d4) (va_A [(aa, .inl (da, n, .inl f))] sz)) 0 0 (va_A [(aa, .inl (da, n, .inl f))] sz) := by
  refine Met.ofW (cc := cX1_words) (maxL := 6) (ret := none) (by decide) rfl ?_
  intro p e s m args below meth c s₁ B hml hv
  obtain ⟨rfl, hsz, hP, hK, hD0⟩ := hv
  have hx := B.exec
  have hb := B.bytes
  have hr := B.returns
  have hts := atoms_spec (ws := wsX1_words) B.pre
  have hts : ∀ w ∈ lw_all, w.before _ s = true := fun w h => hts w (List.mem_cons_of_mem _ h)
  have hown : s.vm.findClass RX1 = some m.cls := findClass_of_methodNamed B.named
  have hlocks := B.notSynchronized
  subst hsz
  have hD := hD0.self (sz := s.heap.size)
  generalize hAe : va_A [(aa, .inl (da, n, .inl f))] s.heap.size = A at hD ⊢
  have hA : ∀ q : Nat, s.heap.size ≤ q → A q := fun q h => by rw [← hAe]; exact Or.inr h
  have hS : va_S A s.heap s.heap [] := va_S.rf
  have hP : va_P (dC, dI) vwCl [(aa, .inl (da, n, .inl f))] s.heap := hP
  have hl := lv_entry ([.ref aa, .int (nI o), .int a, .int b, .int c4, .int d4]) (n := 6) (Nat.le_of_ble_eq_true rfl)
  rw [lg_entry_eq]
  generalize (lg_sl ([.ref aa, .int (nI o), .int a, .int b, .int c4, .int d4]) ++ List.replicate (6 - (lg_sl ([.ref aa, .int (nI o), .int a, .int b, .int c4, .int d4])).length) Slot.unset).toArray = ls at hl ⊢
  have hl : lv_has ls 6 [(0, .ref aa), (1, .int (nI o)), (2, .int a), (3, .int b), (4, .int c4), (5, .int d4)] := hl
  refine lv_aload_n hx hb dX1_words_0 rfl (lv_at hl 0 rfl) ?_
  refine lv_iload_n hx hb dX1_words_1 rfl (lv_at hl 1 rfl) ?_
  refine lv_iload_n hx hb dX1_words_2 rfl (lv_at hl 2 rfl) ?_
  have hPc := hP.sub (ws' := [(aa, .inl (da, n, .inl f))]) [0] rfl
  have hDc := hD.sub (ws' := [(aa, .inl (da, n, .inl f))]) [0] (by decide) rfl
  have hKc := hK.sub (tys' := [(da, .int)]) [0] rfl
  have hFc := va_free (wc := [(aa, .inl (da, n, .inl f))]) hD hS hA [0] rfl
  refine va_callv (va_runS (As := [.ref aa, .int (nI o), .int a]) (rest := []) ⟨hx, hb, hml, hown, hts⟩ (metX1_word l dC dI aa da n o f a s.heap.size (by omega) hn) (va_cwS 3 hts (lw_S q260 q261 q13 q262) rfl rfl rfl (by decide +kernel) ⟨Nat.le_of_ble_eq_true rfl, Nat.le_of_ble_eq_true rfl⟩) ⟨fun a U g mk q => by obtain ⟨q0, q1, qP, qK, qD⟩ := q; exact ⟨q0, q1, qP, va_K.moved (u := U) (U := U.calling g mk a) (Vm.Alike.refl U.vm) qK, qD⟩, fun U hU hW => ⟨rfl, by rw [hU], by rw [hU]; exact hPc, va_K.moved hW.alike hKc, hDc.weaken (fun _ _ _ _ => trivial)⟩⟩ rfl rfl hl.1 rfl (lv_room (Nat.le_of_ble_eq_true rfl)) dX1_words_3 ⟨Nat.le_of_ble_eq_true rfl, Nat.le_of_ble_eq_true rfl⟩) hS (fun q _ h => hFc q h) hFc (fun u t H1 locs ht hvm hw_3 hB hz1 hk1 hS => ?_)
  obtain ⟨u_3, rfl⟩ : ∃ z, z = u := ⟨_, rfl⟩
  have hw_3 : u_3 = stn f o (wb4 a) 4 := hw_3
  obtain ⟨hP1, hK1, hD1⟩ := hB
  have hw_3 := hw_3.symm
  subst hw_3
  rw [ht] at hP1
  have hK1 := va_K.moved hvm.symm hK1
  obtain ⟨hP, hD⟩ := va_join (wr := []) (w1 := [(aa, .inl (da, n, .inl (stn f o (wb4 a) 4)))]) hP hD [0] [] rfl rfl (by decide) (by decide) hk1 hFc hP1 hD1
  have hK := (hK.sub (tys' := []) [] rfl).app hK1
  generalize H1 = H at hP hS ⊢
  have hP : va_P (dC, dI) vwCl [(aa, .inl (da, n, .inl (stn f o (wb4 a) 4)))] H := hP
  have hD : va_D A [(aa, .inl (da, n, .inl (stn f o (wb4 a) 4)))] := hD
  have hK : va_K (dC, dI) vwCl [(da, .int)] s := hK
  refine lv_aload_n hx hb dX1_words_6 rfl (lv_at hl 0 rfl) ?_
  refine lv_iload_n hx hb dX1_words_7 rfl (lv_at hl 1 rfl) ?_
  refine lv_iconst (v := nI 4) hx hb dX1_words_8 (by decide) ?_
  refine lv_iadd hx hb dX1_words_9 ?_
  refine lv_topi (fun t_9 et_9 => ?_)
  have et_9 : t_9 = nI (o + 4) := et_9.trans (nI_add o 4)
  subst et_9
  refine lv_iload_n hx hb dX1_words_10 rfl (lv_at hl 3 rfl) ?_
  have hPc := hP.sub (ws' := [(aa, .inl (da, n, .inl (stn f o (wb4 a) 4)))]) [0] rfl
  have hDc := hD.sub (ws' := [(aa, .inl (da, n, .inl (stn f o (wb4 a) 4)))]) [0] (by decide) rfl
  have hKc := hK.sub (tys' := [(da, .int)]) [0] rfl
  have hFc := va_free (wc := [(aa, .inl (da, n, .inl (stn f o (wb4 a) 4)))]) hD hS hA [0] rfl
  refine va_callv (va_runS (As := [.ref aa, .int (nI (o + 4)), .int b]) (rest := []) ⟨hx, hb, hml, hown, hts⟩ (metX1_word l dC dI aa da n (o + 4) (stn f o (wb4 a) 4) b H.size (by omega) hn) (va_cwS 3 hts (lw_S q260 q261 q13 q262) rfl rfl rfl (by decide +kernel) ⟨Nat.le_of_ble_eq_true rfl, Nat.le_of_ble_eq_true rfl⟩) ⟨fun a U g mk q => by obtain ⟨q0, q1, qP, qK, qD⟩ := q; exact ⟨q0, q1, qP, va_K.moved (u := U) (U := U.calling g mk a) (Vm.Alike.refl U.vm) qK, qD⟩, fun U hU hW => ⟨rfl, by rw [hU], by rw [hU]; exact hPc, va_K.moved hW.alike hKc, hDc.weaken (fun _ _ _ _ => trivial)⟩⟩ rfl rfl hl.1 rfl (lv_room (Nat.le_of_ble_eq_true rfl)) dX1_words_11 ⟨Nat.le_of_ble_eq_true rfl, Nat.le_of_ble_eq_true rfl⟩) hS (fun q _ h => hFc q h) hFc (fun u t H1 locs ht hvm hw_11 hB hz1 hk1 hS => ?_)
  obtain ⟨u_11, rfl⟩ : ∃ z, z = u := ⟨_, rfl⟩
  have hw_11 : u_11 = stn (stn f o (wb4 a) 4) (o + 4) (wb4 b) 4 := hw_11
  obtain ⟨hP1, hK1, hD1⟩ := hB
  have hw_11 := hw_11.symm
  subst hw_11
  rw [ht] at hP1
  have hK1 := va_K.moved hvm.symm hK1
  obtain ⟨hP, hD⟩ := va_join (wr := []) (w1 := [(aa, .inl (da, n, .inl (stn (stn f o (wb4 a) 4) (o + 4) (wb4 b) 4)))]) hP hD [0] [] rfl rfl (by decide) (by decide) hk1 hFc hP1 hD1
  have hK := (hK.sub (tys' := []) [] rfl).app hK1
  generalize H1 = H at hP hS ⊢
  have hP : va_P (dC, dI) vwCl [(aa, .inl (da, n, .inl (stn (stn f o (wb4 a) 4) (o + 4) (wb4 b) 4)))] H := hP
  have hD : va_D A [(aa, .inl (da, n, .inl (stn (stn f o (wb4 a) 4) (o + 4) (wb4 b) 4)))] := hD
  have hK : va_K (dC, dI) vwCl [(da, .int)] s := hK
  refine lv_aload_n hx hb dX1_words_14 rfl (lv_at hl 0 rfl) ?_
  refine lv_iload_n hx hb dX1_words_15 rfl (lv_at hl 1 rfl) ?_
  refine lv_bipush (v := nI 8) hx hb dX1_words_16 (by decide) ?_
  refine lv_iadd hx hb dX1_words_18 ?_
  refine lv_topi (fun t_18 et_18 => ?_)
  have et_18 : t_18 = nI (o + 8) := et_18.trans (nI_add o 8)
  subst et_18
  refine lv_iload hx hb dX1_words_19 (lv_at hl 4 rfl) ?_
  have hPc := hP.sub (ws' := [(aa, .inl (da, n, .inl (stn (stn f o (wb4 a) 4) (o + 4) (wb4 b) 4)))]) [0] rfl
  have hDc := hD.sub (ws' := [(aa, .inl (da, n, .inl (stn (stn f o (wb4 a) 4) (o + 4) (wb4 b) 4)))]) [0] (by decide) rfl
  have hKc := hK.sub (tys' := [(da, .int)]) [0] rfl
  have hFc := va_free (wc := [(aa, .inl (da, n, .inl (stn (stn f o (wb4 a) 4) (o + 4) (wb4 b) 4)))]) hD hS hA [0] rfl
  refine va_callv (va_runS (As := [.ref aa, .int (nI (o + 8)), .int c4]) (rest := []) ⟨hx, hb, hml, hown, hts⟩ (metX1_word l dC dI aa da n (o + 8) (stn (stn f o (wb4 a) 4) (o + 4) (wb4 b) 4) c4 H.size (by omega) hn) (va_cwS 3 hts (lw_S q260 q261 q13 q262) rfl rfl rfl (by decide +kernel) ⟨Nat.le_of_ble_eq_true rfl, Nat.le_of_ble_eq_true rfl⟩) ⟨fun a U g mk q => by obtain ⟨q0, q1, qP, qK, qD⟩ := q; exact ⟨q0, q1, qP, va_K.moved (u := U) (U := U.calling g mk a) (Vm.Alike.refl U.vm) qK, qD⟩, fun U hU hW => ⟨rfl, by rw [hU], by rw [hU]; exact hPc, va_K.moved hW.alike hKc, hDc.weaken (fun _ _ _ _ => trivial)⟩⟩ rfl rfl hl.1 rfl (lv_room (Nat.le_of_ble_eq_true rfl)) dX1_words_21 ⟨Nat.le_of_ble_eq_true rfl, Nat.le_of_ble_eq_true rfl⟩) hS (fun q _ h => hFc q h) hFc (fun u t H1 locs ht hvm hw_21 hB hz1 hk1 hS => ?_)
  obtain ⟨u_21, rfl⟩ : ∃ z, z = u := ⟨_, rfl⟩
  have hw_21 : u_21 = stn (stn (stn f o (wb4 a) 4) (o + 4) (wb4 b) 4) (o + 8) (wb4 c4) 4 := hw_21
  obtain ⟨hP1, hK1, hD1⟩ := hB
  have hw_21 := hw_21.symm
  subst hw_21
  rw [ht] at hP1
  have hK1 := va_K.moved hvm.symm hK1
  obtain ⟨hP, hD⟩ := va_join (wr := []) (w1 := [(aa, .inl (da, n, .inl (stn (stn (stn f o (wb4 a) 4) (o + 4) (wb4 b) 4) (o + 8) (wb4 c4) 4)))]) hP hD [0] [] rfl rfl (by decide) (by decide) hk1 hFc hP1 hD1
  have hK := (hK.sub (tys' := []) [] rfl).app hK1
  generalize H1 = H at hP hS ⊢
  have hP : va_P (dC, dI) vwCl [(aa, .inl (da, n, .inl (stn (stn (stn f o (wb4 a) 4) (o + 4) (wb4 b) 4) (o + 8) (wb4 c4) 4)))] H := hP
  have hD : va_D A [(aa, .inl (da, n, .inl (stn (stn (stn f o (wb4 a) 4) (o + 4) (wb4 b) 4) (o + 8) (wb4 c4) 4)))] := hD
  have hK : va_K (dC, dI) vwCl [(da, .int)] s := hK
  refine lv_aload_n hx hb dX1_words_24 rfl (lv_at hl 0 rfl) ?_
  refine lv_iload_n hx hb dX1_words_25 rfl (lv_at hl 1 rfl) ?_
  refine lv_bipush (v := nI 12) hx hb dX1_words_26 (by decide) ?_
  refine lv_iadd hx hb dX1_words_28 ?_
  refine lv_topi (fun t_28 et_28 => ?_)
  have et_28 : t_28 = nI (o + 12) := et_28.trans (nI_add o 12)
  subst et_28
  refine lv_iload hx hb dX1_words_29 (lv_at hl 5 rfl) ?_
  have hPc := hP.sub (ws' := [(aa, .inl (da, n, .inl (stn (stn (stn f o (wb4 a) 4) (o + 4) (wb4 b) 4) (o + 8) (wb4 c4) 4)))]) [0] rfl
  have hDc := hD.sub (ws' := [(aa, .inl (da, n, .inl (stn (stn (stn f o (wb4 a) 4) (o + 4) (wb4 b) 4) (o + 8) (wb4 c4) 4)))]) [0] (by decide) rfl
  have hKc := hK.sub (tys' := [(da, .int)]) [0] rfl
  have hFc := va_free (wc := [(aa, .inl (da, n, .inl (stn (stn (stn f o (wb4 a) 4) (o + 4) (wb4 b) 4) (o + 8) (wb4 c4) 4)))]) hD hS hA [0] rfl
  refine va_callv (va_runS (As := [.ref aa, .int (nI (o + 12)), .int d4]) (rest := []) ⟨hx, hb, hml, hown, hts⟩ (metX1_word l dC dI aa da n (o + 12) (stn (stn (stn f o (wb4 a) 4) (o + 4) (wb4 b) 4) (o + 8) (wb4 c4) 4) d4 H.size (by omega) hn) (va_cwS 3 hts (lw_S q260 q261 q13 q262) rfl rfl rfl (by decide +kernel) ⟨Nat.le_of_ble_eq_true rfl, Nat.le_of_ble_eq_true rfl⟩) ⟨fun a U g mk q => by obtain ⟨q0, q1, qP, qK, qD⟩ := q; exact ⟨q0, q1, qP, va_K.moved (u := U) (U := U.calling g mk a) (Vm.Alike.refl U.vm) qK, qD⟩, fun U hU hW => ⟨rfl, by rw [hU], by rw [hU]; exact hPc, va_K.moved hW.alike hKc, hDc.weaken (fun _ _ _ _ => trivial)⟩⟩ rfl rfl hl.1 rfl (lv_room (Nat.le_of_ble_eq_true rfl)) dX1_words_31 ⟨Nat.le_of_ble_eq_true rfl, Nat.le_of_ble_eq_true rfl⟩) hS (fun q _ h => hFc q h) hFc (fun u t H1 locs ht hvm hw_31 hB hz1 hk1 hS => ?_)
  obtain ⟨u_31, rfl⟩ : ∃ z, z = u := ⟨_, rfl⟩
  have hw_31 : u_31 = stn (stn (stn (stn f o (wb4 a) 4) (o + 4) (wb4 b) 4) (o + 8) (wb4 c4) 4) (o + 12) (wb4 d4) 4 := hw_31
  obtain ⟨hP1, hK1, hD1⟩ := hB
  have hw_31 := hw_31.symm
  subst hw_31
  rw [ht] at hP1
  have hK1 := va_K.moved hvm.symm hK1
  obtain ⟨hP, hD⟩ := va_join (wr := []) (w1 := [(aa, .inl (da, n, .inl (stn (stn (stn (stn f o (wb4 a) 4) (o + 4) (wb4 b) 4) (o + 8) (wb4 c4) 4) (o + 12) (wb4 d4) 4)))]) hP hD [0] [] rfl rfl (by decide) (by decide) hk1 hFc hP1 hD1
  have hK := (hK.sub (tys' := []) [] rfl).app hK1
  generalize H1 = H at hP hS ⊢
  have hP : va_P (dC, dI) vwCl [(aa, .inl (da, n, .inl (stn (stn (stn (stn f o (wb4 a) 4) (o + 4) (wb4 b) 4) (o + 8) (wb4 c4) 4) (o + 12) (wb4 d4) 4)))] H := hP
  have hD : va_D A [(aa, .inl (da, n, .inl (stn (stn (stn (stn f o (wb4 a) 4) (o + 4) (wb4 b) 4) (o + 8) (wb4 c4) 4) (o + 12) (wb4 d4) 4)))] := hD
  have hK : va_K (dC, dI) vwCl [(da, .int)] s := hK
  refine W.widen (k := 0) (n := 0) (Nat.le_of_ble_eq_true rfl) (Nat.le_of_ble_eq_true rfl) ?_
  have hP9 := hP.sub (ws' := [(aa, .inl (da, n, .inl ((st16 f o a b c4 d4))))]) [0] rfl
  have hD9 := hD.sub (ws' := [(aa, .inl (da, n, .inl ((st16 f o a b c4 d4))))]) [0] (by decide) rfl
  have hK9 := hK.sub (tys' := [(da, .int)]) [0] rfl
  exact W.vret hx hb hr (fun t ht hW => ⟨⟨(st16 f o a b c4 d4), rfl, rfl, by rw [ht]; exact hP9, va_K.moved hW.alike hK9, hD9⟩, hS.F ht⟩) hS.2.2 dX1_words_34

abbrev wsX1_key : List Cond := ws_ yX1_key cX1_key 6 none
abbrev BX1_key (dC : Nat → ClassId) (dI : Nat → Nat → Nat) (A : Nat → Prop) (h0 : Nat) (ak : Nat) (ab : Nat) (ao : Nat) (dk : ClassId) (fk : Nat → Int32) (h : Int32) (a : Int32) (b : Int32) (c4 : Int32) (d4 : Int32) (u : Nat → Int32) (t : State) : Prop := va_P (dC, dI) vwCl [(h0, .inr (1, [.ref ak, .ref ab, .ref ao])), (ak, .inl (dk, 32, .inl u))] t.heap ∧ va_K (dC, dI) vwCl [(dk, .int)] t ∧ va_D A [(h0, .inr (1, [.ref ak, .ref ab, .ref ao])), (ak, .inl (dk, 32, .inl u))]
set_option maxHeartbeats 4000000 in
set_option maxRecDepth 100000 in
/-- key(half, a, b, c, d) -/
theorem metX1_key (l : Launch) (dC : Nat → ClassId) (dI : Nat → Nat → Nat) (h0 : Nat) (ak : Nat) (ab : Nat) (ao : Nat) (dk : ClassId) (fk : Nat → Int32) (h : Int32) (a : Int32) (b : Int32) (c4 : Int32) (d4 : Int32) (sz : Nat) : Met l yX1_key wsX1_key ({ frames := 2, cells := 0, slots := 0, locals := 48 }) (va_Pc [.ref h0, .int h, .int a, .int b, .int c4, .int d4] (fun U => U.heap.size = sz ∧ va_P (dC, dI) vwCl [(h0, .inr (1, [.ref ak, .ref ab, .ref ao])), (ak, .inl (dk, 32, .inl fk))] U.heap ∧ va_K (dC, dI) vwCl [(dk, .int)] U ∧ va_D (fun _ => True) [(h0, .inr (1, [.ref ak, .ref ab, .ref ao])), (ak, .inl (dk, 32, .inl fk))])) (va_Qv (fun (u : Nat → Int32) => u = st16 fk (16 * half h) a b c4 d4) (BX1_key dC dI (va_A [(h0, .inr (1, [.ref ak, .ref ab, .ref ao])), (ak, .inl (dk, 32, .inl fk))] sz) h0 ak ab ao dk fk h a b c4 d4) (va_A [(h0, .inr (1, [.ref ak, .ref ab, .ref ao])), (ak, .inl (dk, 32, .inl fk))] sz)) 0 0 (va_A [(h0, .inr (1, [.ref ak, .ref ab, .ref ao])), (ak, .inl (dk, 32, .inl fk))] sz) := by
  refine Met.ofW (cc := cX1_key) (maxL := 6) (ret := none) (by decide) rfl ?_
  intro p e s m args below meth c s₁ B hml hv
  obtain ⟨rfl, hsz, hP, hK, hD0⟩ := hv
  have hx := B.exec
  have hb := B.bytes
  have hr := B.returns
  have hts := atoms_spec (ws := wsX1_key) B.pre
  have hts : ∀ w ∈ lw_all, w.before _ s = true := fun w h => hts w (List.mem_cons_of_mem _ h)
  have hown : s.vm.findClass RX1 = some m.cls := findClass_of_methodNamed B.named
  have hlocks := B.notSynchronized
  subst hsz
  have hD := hD0.self (sz := s.heap.size)
  generalize hAe : va_A [(h0, .inr (1, [.ref ak, .ref ab, .ref ao])), (ak, .inl (dk, 32, .inl fk))] s.heap.size = A at hD ⊢
  have hA : ∀ q : Nat, s.heap.size ≤ q → A q := fun q h => by rw [← hAe]; exact Or.inr h
  have hS : va_S A s.heap s.heap [] := va_S.rf
  have hP : va_P (dC, dI) vwCl [(h0, .inr (1, [.ref ak, .ref ab, .ref ao])), (ak, .inl (dk, 32, .inl fk))] s.heap := hP
  have hl := lv_entry ([.ref h0, .int h, .int a, .int b, .int c4, .int d4]) (n := 6) (Nat.le_of_ble_eq_true rfl)
  rw [lg_entry_eq]
  generalize (lg_sl ([.ref h0, .int h, .int a, .int b, .int c4, .int d4]) ++ List.replicate (6 - (lg_sl ([.ref h0, .int h, .int a, .int b, .int c4, .int d4])).length) Slot.unset).toArray = ls at hl ⊢
  have hl : lv_has ls 6 [(0, .ref h0), (1, .int h), (2, .int a), (3, .int b), (4, .int c4), (5, .int d4)] := hl
  refine lv_aload_n hx hb dX1_key_0 rfl (lv_at hl 0 rfl) ?_
  refine va_get (D := (dC, dI)) (ci := 1) (v := .ref ak) (C := RX1) (T := TX1) (N := 3) hx hb hts in_X1 hown hK hP 0 rfl rfl 0 (by decide) (hts _ q242) (fun _ h9 => h9) rfl dX1_key_1 ?_
  refine lv_bipush (v := nI 16) hx hb dX1_key_4 (by decide) ?_
  refine lv_iload_n hx hb dX1_key_6 rfl (lv_at hl 1 rfl) ?_
  refine lv_iconst (v := nI 1) hx hb dX1_key_7 (by decide) ?_
  refine lv_iand hx hb dX1_key_8 ?_
  refine lv_imul hx hb dX1_key_9 ?_
  refine lv_topi (fun t_9 et_9 => ?_)
  have et_9 : t_9 = nI (16 * half h) := et_9.trans (half_mul h)
  subst et_9
  refine lv_iload_n hx hb dX1_key_10 rfl (lv_at hl 2 rfl) ?_
  refine lv_iload_n hx hb dX1_key_11 rfl (lv_at hl 3 rfl) ?_
  refine lv_iload hx hb dX1_key_12 (lv_at hl 4 rfl) ?_
  refine lv_iload hx hb dX1_key_14 (lv_at hl 5 rfl) ?_
  have hPc := hP.sub (ws' := [(ak, .inl (dk, 32, .inl fk))]) [1] rfl
  have hDc := hD.sub (ws' := [(ak, .inl (dk, 32, .inl fk))]) [1] (by decide) rfl
  have hKc := hK.sub (tys' := [(dk, .int)]) [0] rfl
  have hFc := va_free (wc := [(ak, .inl (dk, 32, .inl fk))]) hD hS hA [1] rfl
  refine va_callv (va_runS (As := [.ref ak, .int (nI (16 * half h)), .int a, .int b, .int c4, .int d4]) (rest := []) ⟨hx, hb, hml, hown, hts⟩ (metX1_words l dC dI ak dk 32 (16 * half h) fk a b c4 d4 s.heap.size (by have := half_lt h; omega) (by omega)) (va_cwS 6 hts (lw_S q257 q258 q13 q259) rfl rfl rfl (by decide +kernel) ⟨Nat.le_of_ble_eq_true rfl, Nat.le_of_ble_eq_true rfl⟩) ⟨fun a U g mk q => by obtain ⟨q0, q1, qP, qK, qD⟩ := q; exact ⟨q0, q1, qP, va_K.moved (u := U) (U := U.calling g mk a) (Vm.Alike.refl U.vm) qK, qD⟩, fun U hU hW => ⟨rfl, by rw [hU], by rw [hU]; exact hPc, va_K.moved hW.alike hKc, hDc.weaken (fun _ _ _ _ => trivial)⟩⟩ rfl rfl hl.1 rfl (lv_room (Nat.le_of_ble_eq_true rfl)) dX1_key_16 ⟨Nat.le_of_ble_eq_true rfl, Nat.le_of_ble_eq_true rfl⟩) hS (fun q _ h => hFc q h) hFc (fun u t H1 locs ht hvm hw_16 hB hz1 hk1 hS => ?_)
  obtain ⟨u_16, rfl⟩ : ∃ z, z = u := ⟨_, rfl⟩
  have hw_16 : u_16 = st16 fk (16 * half h) a b c4 d4 := hw_16
  obtain ⟨hP1, hK1, hD1⟩ := hB
  have hw_16 := hw_16.symm
  subst hw_16
  rw [ht] at hP1
  have hK1 := va_K.moved hvm.symm hK1
  obtain ⟨hP, hD⟩ := va_join (wr := [(h0, .inr (1, [.ref ak, .ref ab, .ref ao]))]) (w1 := [(ak, .inl (dk, 32, .inl (st16 fk (16 * half h) a b c4 d4)))]) hP hD [1] [0] rfl rfl (by decide) (by decide) hk1 hFc hP1 hD1
  have hK := (hK.sub (tys' := []) [] rfl).app hK1
  generalize H1 = H at hP hS ⊢
  have hP : va_P (dC, dI) vwCl [(h0, .inr (1, [.ref ak, .ref ab, .ref ao])), (ak, .inl (dk, 32, .inl (st16 fk (16 * half h) a b c4 d4)))] H := hP
  have hD : va_D A [(h0, .inr (1, [.ref ak, .ref ab, .ref ao])), (ak, .inl (dk, 32, .inl (st16 fk (16 * half h) a b c4 d4)))] := hD
  have hK : va_K (dC, dI) vwCl [(dk, .int)] s := hK
  refine W.widen (k := 0) (n := 0) (Nat.le_of_ble_eq_true rfl) (Nat.le_of_ble_eq_true rfl) ?_
  have hP9 := hP.sub (ws' := [(h0, .inr (1, [.ref ak, .ref ab, .ref ao])), (ak, .inl (dk, 32, .inl ((st16 fk (16 * half h) a b c4 d4))))]) [0, 1] rfl
  have hD9 := hD.sub (ws' := [(h0, .inr (1, [.ref ak, .ref ab, .ref ao])), (ak, .inl (dk, 32, .inl ((st16 fk (16 * half h) a b c4 d4))))]) [0, 1] (by decide) rfl
  have hK9 := hK.sub (tys' := [(dk, .int)]) [0] rfl
  exact W.vret hx hb hr (fun t ht hW => ⟨⟨(st16 fk (16 * half h) a b c4 d4), rfl, rfl, by rw [ht]; exact hP9, va_K.moved hW.alike hK9, hD9⟩, hS.F ht⟩) hS.2.2 dX1_key_19

abbrev wsX1_block : List Cond := ws_ yX1_block cX1_block 5 none
abbrev BX1_block (dC : Nat → ClassId) (dI : Nat → Nat → Nat) (A : Nat → Prop) (h0 : Nat) (ak : Nat) (ab : Nat) (ao : Nat) (db : ClassId) (fb : Nat → Int32) (a : Int32) (b : Int32) (c4 : Int32) (d4 : Int32) (u : Nat → Int32) (t : State) : Prop := va_P (dC, dI) vwCl [(h0, .inr (1, [.ref ak, .ref ab, .ref ao])), (ab, .inl (db, 16, .inl u))] t.heap ∧ va_K (dC, dI) vwCl [(db, .int)] t ∧ va_D A [(h0, .inr (1, [.ref ak, .ref ab, .ref ao])), (ab, .inl (db, 16, .inl u))]
set_option maxHeartbeats 4000000 in
set_option maxRecDepth 100000 in
/-- block(a, b, c, d) -/
theorem metX1_block (l : Launch) (dC : Nat → ClassId) (dI : Nat → Nat → Nat) (h0 : Nat) (ak : Nat) (ab : Nat) (ao : Nat) (db : ClassId) (fb : Nat → Int32) (a : Int32) (b : Int32) (c4 : Int32) (d4 : Int32) (sz : Nat) : Met l yX1_block wsX1_block ({ frames := 2, cells := 0, slots := 0, locals := 48 }) (va_Pc [.ref h0, .int a, .int b, .int c4, .int d4] (fun U => U.heap.size = sz ∧ va_P (dC, dI) vwCl [(h0, .inr (1, [.ref ak, .ref ab, .ref ao])), (ab, .inl (db, 16, .inl fb))] U.heap ∧ va_K (dC, dI) vwCl [(db, .int)] U ∧ va_D (fun _ => True) [(h0, .inr (1, [.ref ak, .ref ab, .ref ao])), (ab, .inl (db, 16, .inl fb))])) (va_Qv (fun (u : Nat → Int32) => u = st16 fb 0 a b c4 d4) (BX1_block dC dI (va_A [(h0, .inr (1, [.ref ak, .ref ab, .ref ao])), (ab, .inl (db, 16, .inl fb))] sz) h0 ak ab ao db fb a b c4 d4) (va_A [(h0, .inr (1, [.ref ak, .ref ab, .ref ao])), (ab, .inl (db, 16, .inl fb))] sz)) 0 0 (va_A [(h0, .inr (1, [.ref ak, .ref ab, .ref ao])), (ab, .inl (db, 16, .inl fb))] sz) := by
  refine Met.ofW (cc := cX1_block) (maxL := 5) (ret := none) (by decide) rfl ?_
  intro p e s m args below meth c s₁ B hml hv
  obtain ⟨rfl, hsz, hP, hK, hD0⟩ := hv
  have hx := B.exec
  have hb := B.bytes
  have hr := B.returns
  have hts := atoms_spec (ws := wsX1_block) B.pre
  have hts : ∀ w ∈ lw_all, w.before _ s = true := fun w h => hts w (List.mem_cons_of_mem _ h)
  have hown : s.vm.findClass RX1 = some m.cls := findClass_of_methodNamed B.named
  have hlocks := B.notSynchronized
  subst hsz
  have hD := hD0.self (sz := s.heap.size)
  generalize hAe : va_A [(h0, .inr (1, [.ref ak, .ref ab, .ref ao])), (ab, .inl (db, 16, .inl fb))] s.heap.size = A at hD ⊢
  have hA : ∀ q : Nat, s.heap.size ≤ q → A q := fun q h => by rw [← hAe]; exact Or.inr h
  have hS : va_S A s.heap s.heap [] := va_S.rf
  have hP : va_P (dC, dI) vwCl [(h0, .inr (1, [.ref ak, .ref ab, .ref ao])), (ab, .inl (db, 16, .inl fb))] s.heap := hP
  have hl := lv_entry ([.ref h0, .int a, .int b, .int c4, .int d4]) (n := 5) (Nat.le_of_ble_eq_true rfl)
  rw [lg_entry_eq]
  generalize (lg_sl ([.ref h0, .int a, .int b, .int c4, .int d4]) ++ List.replicate (5 - (lg_sl ([.ref h0, .int a, .int b, .int c4, .int d4])).length) Slot.unset).toArray = ls at hl ⊢
  have hl : lv_has ls 5 [(0, .ref h0), (1, .int a), (2, .int b), (3, .int c4), (4, .int d4)] := hl
  refine lv_aload_n hx hb dX1_block_0 rfl (lv_at hl 0 rfl) ?_
  refine va_get (D := (dC, dI)) (ci := 1) (v := .ref ab) (C := RX1) (T := TX1) (N := 3) hx hb hts in_X1 hown hK hP 0 rfl rfl 1 (by decide) (hts _ q243) (fun _ h9 => h9) rfl dX1_block_1 ?_
  refine lv_iconst (v := nI 0) hx hb dX1_block_4 (by decide) ?_
  refine lv_iload_n hx hb dX1_block_5 rfl (lv_at hl 1 rfl) ?_
  refine lv_iload_n hx hb dX1_block_6 rfl (lv_at hl 2 rfl) ?_
  refine lv_iload_n hx hb dX1_block_7 rfl (lv_at hl 3 rfl) ?_
  refine lv_iload hx hb dX1_block_8 (lv_at hl 4 rfl) ?_
  have hPc := hP.sub (ws' := [(ab, .inl (db, 16, .inl fb))]) [1] rfl
  have hDc := hD.sub (ws' := [(ab, .inl (db, 16, .inl fb))]) [1] (by decide) rfl
  have hKc := hK.sub (tys' := [(db, .int)]) [0] rfl
  have hFc := va_free (wc := [(ab, .inl (db, 16, .inl fb))]) hD hS hA [1] rfl
  refine va_callv (va_runS (As := [.ref ab, .int (nI 0), .int a, .int b, .int c4, .int d4]) (rest := []) ⟨hx, hb, hml, hown, hts⟩ (metX1_words l dC dI ab db 16 0 fb a b c4 d4 s.heap.size (by omega) (by omega)) (va_cwS 6 hts (lw_S q257 q258 q13 q259) rfl rfl rfl (by decide +kernel) ⟨Nat.le_of_ble_eq_true rfl, Nat.le_of_ble_eq_true rfl⟩) ⟨fun a U g mk q => by obtain ⟨q0, q1, qP, qK, qD⟩ := q; exact ⟨q0, q1, qP, va_K.moved (u := U) (U := U.calling g mk a) (Vm.Alike.refl U.vm) qK, qD⟩, fun U hU hW => ⟨rfl, by rw [hU], by rw [hU]; exact hPc, va_K.moved hW.alike hKc, hDc.weaken (fun _ _ _ _ => trivial)⟩⟩ rfl rfl hl.1 rfl (lv_room (Nat.le_of_ble_eq_true rfl)) dX1_block_10 ⟨Nat.le_of_ble_eq_true rfl, Nat.le_of_ble_eq_true rfl⟩) hS (fun q _ h => hFc q h) hFc (fun u t H1 locs ht hvm hw_10 hB hz1 hk1 hS => ?_)
  obtain ⟨u_10, rfl⟩ : ∃ z, z = u := ⟨_, rfl⟩
  have hw_10 : u_10 = st16 fb 0 a b c4 d4 := hw_10
  obtain ⟨hP1, hK1, hD1⟩ := hB
  have hw_10 := hw_10.symm
  subst hw_10
  rw [ht] at hP1
  have hK1 := va_K.moved hvm.symm hK1
  obtain ⟨hP, hD⟩ := va_join (wr := [(h0, .inr (1, [.ref ak, .ref ab, .ref ao]))]) (w1 := [(ab, .inl (db, 16, .inl (st16 fb 0 a b c4 d4)))]) hP hD [1] [0] rfl rfl (by decide) (by decide) hk1 hFc hP1 hD1
  have hK := (hK.sub (tys' := []) [] rfl).app hK1
  generalize H1 = H at hP hS ⊢
  have hP : va_P (dC, dI) vwCl [(h0, .inr (1, [.ref ak, .ref ab, .ref ao])), (ab, .inl (db, 16, .inl (st16 fb 0 a b c4 d4)))] H := hP
  have hD : va_D A [(h0, .inr (1, [.ref ak, .ref ab, .ref ao])), (ab, .inl (db, 16, .inl (st16 fb 0 a b c4 d4)))] := hD
  have hK : va_K (dC, dI) vwCl [(db, .int)] s := hK
  refine W.widen (k := 0) (n := 0) (Nat.le_of_ble_eq_true rfl) (Nat.le_of_ble_eq_true rfl) ?_
  have hP9 := hP.sub (ws' := [(h0, .inr (1, [.ref ak, .ref ab, .ref ao])), (ab, .inl (db, 16, .inl ((st16 fb 0 a b c4 d4))))]) [0, 1] rfl
  have hD9 := hD.sub (ws' := [(h0, .inr (1, [.ref ak, .ref ab, .ref ao])), (ab, .inl (db, 16, .inl ((st16 fb 0 a b c4 d4))))]) [0, 1] (by decide) rfl
  have hK9 := hK.sub (tys' := [(db, .int)]) [0] rfl
  exact W.vret hx hb hr (fun t ht hW => ⟨⟨(st16 fb 0 a b c4 d4), rfl, rfl, by rw [ht]; exact hP9, va_K.moved hW.alike hK9, hD9⟩, hS.F ht⟩) hS.2.2 dX1_block_13

abbrev wsX1_again : List Cond := ws_ yX1_again cX1_again 2 none
abbrev BX1_again (dC : Nat → ClassId) (dI : Nat → Nat → Nat) (A : Nat → Prop) (h0 : Nat) (ak : Nat) (ab : Nat) (ao : Nat) (db : ClassId) (dd : ClassId) (fb : Nat → Int32) (fo : Nat → Int32) (u : Nat → Int32) (t : State) : Prop := va_P (dC, dI) vwCl [(h0, .inr (1, [.ref ak, .ref ab, .ref ao])), (ab, .inl (db, 16, .inl u)), (ao, .inl (dd, 16, .inl fo))] t.heap ∧ va_K (dC, dI) vwCl [(db, .int), (dd, .int)] t ∧ va_D A [(h0, .inr (1, [.ref ak, .ref ab, .ref ao])), (ab, .inl (db, 16, .inl u)), (ao, .inl (dd, 16, .inl fo))]
set_option maxHeartbeats 4000000 in
set_option maxRecDepth 100000 in
/-- again() -/
theorem metX1_again (l : Launch) (dC : Nat → ClassId) (dI : Nat → Nat → Nat) (h0 : Nat) (ak : Nat) (ab : Nat) (ao : Nat) (db : ClassId) (dd : ClassId) (fb : Nat → Int32) (fo : Nat → Int32) (sz : Nat) : Met l yX1_again wsX1_again ({ frames := 0, cells := 0, slots := 0, locals := 0 }) (va_Pc [.ref h0] (fun U => U.heap.size = sz ∧ va_P (dC, dI) vwCl [(h0, .inr (1, [.ref ak, .ref ab, .ref ao])), (ab, .inl (db, 16, .inl fb)), (ao, .inl (dd, 16, .inl fo))] U.heap ∧ va_K (dC, dI) vwCl [(db, .int), (dd, .int)] U ∧ va_D (fun _ => True) [(h0, .inr (1, [.ref ak, .ref ab, .ref ao])), (ab, .inl (db, 16, .inl fb)), (ao, .inl (dd, 16, .inl fo))])) (va_Qv (fun (u : Nat → Int32) => u = stn fb 0 fo 16) (BX1_again dC dI (va_A [(h0, .inr (1, [.ref ak, .ref ab, .ref ao])), (ab, .inl (db, 16, .inl fb)), (ao, .inl (dd, 16, .inl fo))] sz) h0 ak ab ao db dd fb fo) (va_A [(h0, .inr (1, [.ref ak, .ref ab, .ref ao])), (ab, .inl (db, 16, .inl fb)), (ao, .inl (dd, 16, .inl fo))] sz)) 0 0 (va_A [(h0, .inr (1, [.ref ak, .ref ab, .ref ao])), (ab, .inl (db, 16, .inl fb)), (ao, .inl (dd, 16, .inl fo))] sz) := by
  refine Met.ofW (cc := cX1_again) (maxL := 2) (ret := none) (by decide) rfl ?_
  intro p e s m args below meth c s₁ B hml hv
  obtain ⟨rfl, hsz, hP, hK, hD0⟩ := hv
  have hx := B.exec
  have hb := B.bytes
  have hr := B.returns
  have hts := atoms_spec (ws := wsX1_again) B.pre
  have hts : ∀ w ∈ lw_all, w.before _ s = true := fun w h => hts w (List.mem_cons_of_mem _ h)
  have hown : s.vm.findClass RX1 = some m.cls := findClass_of_methodNamed B.named
  have hlocks := B.notSynchronized
  subst hsz
  have hD := hD0.self (sz := s.heap.size)
  generalize hAe : va_A [(h0, .inr (1, [.ref ak, .ref ab, .ref ao])), (ab, .inl (db, 16, .inl fb)), (ao, .inl (dd, 16, .inl fo))] s.heap.size = A at hD ⊢
  have hA : ∀ q : Nat, s.heap.size ≤ q → A q := fun q h => by rw [← hAe]; exact Or.inr h
  have hS : va_S A s.heap s.heap [] := va_S.rf
  have hP : va_P (dC, dI) vwCl [(h0, .inr (1, [.ref ak, .ref ab, .ref ao])), (ab, .inl (db, 16, .inl fb)), (ao, .inl (dd, 16, .inl fo))] s.heap := hP
  have hl := lv_entry ([.ref h0]) (n := 2) (Nat.le_of_ble_eq_true rfl)
  rw [lg_entry_eq]
  generalize (lg_sl ([.ref h0]) ++ List.replicate (2 - (lg_sl ([.ref h0])).length) Slot.unset).toArray = ls at hl ⊢
  have hl : lv_has ls 2 [(0, .ref h0)] := hl
  have lp : ∀ (fu : Nat), ∀ (k : Nat), (17 - k) < fu → k ≤ 16 → va_K (dC, dI) vwCl [(db, .int), (dd, .int)] s → ∀ (H : Heap) (locs : List Loc), va_P (dC, dI) vwCl [(h0, .inr (1, [.ref ak, .ref ab, .ref ao])), (ab, .inl (db, 16, .inl (stn fb 0 fo k))), (ao, .inl (dd, 16, .inl fo))] H → va_D A [(h0, .inr (1, [.ref ak, .ref ab, .ref ao])), (ab, .inl (db, 16, .inl (stn fb 0 fo k))), (ao, .inl (dd, 16, .inl fo))] → va_S A s.heap H locs → ∀ (ls : Array Slot), lv_has ls 2 [(0, .ref h0), (1, .int (nI k))] → W p l e (headSpec wsX1_again ({ frames := 0, cells := 0, slots := 0, locals := 0 })).room s m ([.ref h0] : List Value).toArray below meth c H locs (0) (0) (MQ below (va_Qv (fun (u : Nat → Int32) => u = stn fb 0 fo 16) (BX1_again dC dI A h0 ak ab ao db dd fb fo) A) ([.ref h0] : List Value).toArray s 0 0 A) (F0 m 2 ls []) := by
    intro fu
    induction fu with
    | zero => intro k hme; exact absurd hme (Nat.not_lt_zero _)
    | succ fu ih =>
      intro k hme hk16 hK H locs hP hD hS ls hl
      refine lv_iload_n hx hb dX1_again_2 rfl (lv_at hl 1 rfl) ?_
      refine lv_bipush (v := nI 16) hx hb dX1_again_3 (by decide) ?_
      refine lv_icmp_ge (tgt := 26) hx hb dX1_again_5 (by decide) (fun c_5 => ?_) (fun c_5 => ?_)
      · have hk2 : k = 16 := by
          rcases Nat.lt_or_ge k 16 with q | q
          · exact absurd c_5 (nI_ge q (by omega))
          · omega
        subst hk2
        have hP9 := hP.sub (ws' := [(h0, .inr (1, [.ref ak, .ref ab, .ref ao])), (ab, .inl (db, 16, .inl ((stn fb 0 fo 16)))), (ao, .inl (dd, 16, .inl fo))]) [0, 1, 2] rfl
        have hD9 := hD.sub (ws' := [(h0, .inr (1, [.ref ak, .ref ab, .ref ao])), (ab, .inl (db, 16, .inl ((stn fb 0 fo 16)))), (ao, .inl (dd, 16, .inl fo))]) [0, 1, 2] (by decide) rfl
        have hK9 := hK.sub (tys' := [(db, .int), (dd, .int)]) [0, 1] rfl
        exact W.vret hx hb hr (fun t ht hW => ⟨⟨(stn fb 0 fo 16), rfl, rfl, by rw [ht]; exact hP9, va_K.moved hW.alike hK9, hD9⟩, hS.F ht⟩) hS.2.2 dX1_again_26
      · have hlt : k < 16 := by
          rcases Nat.lt_or_ge k 16 with q | q
          · exact q
          · exact absurd (nI_le q (by omega)) c_5
        refine lv_aload_n hx hb dX1_again_8 rfl (lv_at hl 0 rfl) ?_
        refine va_get (D := (dC, dI)) (ci := 1) (v := .ref ab) (C := RX1) (T := TX1) (N := 3) hx hb hts in_X1 hown hK hP 0 rfl rfl 1 (by decide) (hts _ q243) (fun _ h9 => h9) rfl dX1_again_9 ?_
        refine lv_iload_n hx hb dX1_again_12 rfl (lv_at hl 1 rfl) ?_
        refine lv_aload_n hx hb dX1_again_13 rfl (lv_at hl 0 rfl) ?_
        refine va_get (D := (dC, dI)) (ci := 1) (v := .ref ao) (C := RX1) (T := TX1) (N := 3) hx hb hts in_X1 hown hK hP 0 rfl rfl 2 (by decide) (hts _ q244) (fun _ h9 => h9) rfl dX1_again_14 ?_
        refine lv_iload_n hx hb dX1_again_17 rfl (lv_at hl 1 rfl) ?_
        refine va_iald hx hb hK hP 2 1 rfl rfl (vp_in_nI (n := k) (N := 16) (by omega) (by omega)) dX1_again_18 ?_
        refine lv_topi (fun t_18 et_18 => ?_)
        have et_18 : t_18 = fo k := et_18.trans (congrArg fo (nI_clamp (n := k) (by omega)))
        subst et_18
        refine va_iast hx hb hK hP hD hS 1 0 rfl rfl (vp_in_nI (n := k) (N := 16) (by omega) (by omega)) dX1_again_19 (fun H locs hP hD hS => ?_)
        rw [nI_clamp (n := k) (by omega)] at hP hD
        have eg_19 : upd (stn fb 0 fo k) k (fo k) = stn fb 0 fo (k + 1) := stn_z fb fo k
        rw [eg_19] at hP hD
        have hP : va_P (dC, dI) vwCl [(h0, .inr (1, [.ref ak, .ref ab, .ref ao])), (ab, .inl (db, 16, .inl (stn fb 0 fo (k + 1)))), (ao, .inl (dd, 16, .inl fo))] H := hP
        have hD : va_D A [(h0, .inr (1, [.ref ak, .ref ab, .ref ao])), (ab, .inl (db, 16, .inl (stn fb 0 fo (k + 1)))), (ao, .inl (dd, 16, .inl fo))] := hD
        refine lv_iinc (v := nI (k + 1)) (lv' := [(1, .int (nI (k + 1))), (0, .ref h0)]) hx hb dX1_again_20 hl (k := 1) rfl (nI_1 k) (by decide) rfl (fun ls hl => ?_)
        refine lv_goto (tgt := 2) hx hb dX1_again_23 (by decide) ?_
        exact ih (k + 1) (by omega) (by omega) (hK.sub [0, 1] rfl) _ _ (hP.sub (ws' := [(h0, .inr (1, [.ref ak, .ref ab, .ref ao])), (ab, .inl (db, 16, .inl (stn fb 0 fo (k + 1)))), (ao, .inl (dd, 16, .inl fo))]) [0, 1, 2] rfl) (hD.sub (ws' := [(h0, .inr (1, [.ref ak, .ref ab, .ref ao])), (ab, .inl (db, 16, .inl (stn fb 0 fo (k + 1)))), (ao, .inl (dd, 16, .inl fo))]) [0, 1, 2] (by decide) rfl) hS _ (lv_sub hl [1, 0] rfl)
  refine lv_iconst (v := nI 0) hx hb dX1_again_0 (by decide) ?_
  refine lv_istore_n (lv' := [(1, .int (nI 0)), (0, .ref h0)]) hx hb dX1_again_1 rfl hl (by decide) rfl (fun ls hl => ?_)
  have hz : stn fb 0 fo 0 = fb := stn_0 fb 0 fo
  rw [← hz] at hP hD
  exact lp _ 0 (Nat.lt_succ_self _) (by omega) (hK.sub [0, 1] rfl) _ _ (hP.sub (ws' := [(h0, .inr (1, [.ref ak, .ref ab, .ref ao])), (ab, .inl (db, 16, .inl (stn fb 0 fo 0))), (ao, .inl (dd, 16, .inl fo))]) [0, 1, 2] rfl) (hD.sub (ws' := [(h0, .inr (1, [.ref ak, .ref ab, .ref ao])), (ab, .inl (db, 16, .inl (stn fb 0 fo 0))), (ao, .inl (dd, 16, .inl fo))]) [0, 1, 2] (by decide) rfl) hS _ (lv_sub hl [1, 0] rfl)

abbrev wsX1_out : List Cond := ws_ yX1_out cX1_out 2 (some .int)
abbrev BX1_out (dC : Nat → ClassId) (dI : Nat → Nat → Nat) (A : Nat → Prop) (h0 : Nat) (ak : Nat) (ab : Nat) (ao : Nat) (dd : ClassId) (fo : Nat → Int32) (x : Int32) (u : Unit) (t : State) : Prop := va_P (dC, dI) vwCl [(h0, .inr (1, [.ref ak, .ref ab, .ref ao])), (ao, .inl (dd, 16, .inl fo))] t.heap ∧ va_K (dC, dI) vwCl [(dd, .int)] t ∧ va_D A [(h0, .inr (1, [.ref ak, .ref ab, .ref ao])), (ao, .inl (dd, 16, .inl fo))]
set_option maxHeartbeats 4000000 in
set_option maxRecDepth 100000 in
/-- out(at) -/
theorem metX1_out (l : Launch) (dC : Nat → ClassId) (dI : Nat → Nat → Nat) (h0 : Nat) (ak : Nat) (ab : Nat) (ao : Nat) (dd : ClassId) (fo : Nat → Int32) (x : Int32) (sz : Nat) : Met l yX1_out wsX1_out ({ frames := 0, cells := 0, slots := 0, locals := 0 }) (va_Pc [.ref h0, .int x] (fun U => U.heap.size = sz ∧ va_P (dC, dI) vwCl [(h0, .inr (1, [.ref ak, .ref ab, .ref ao])), (ao, .inl (dd, 16, .inl fo))] U.heap ∧ va_K (dC, dI) vwCl [(dd, .int)] U ∧ va_D (fun _ => True) [(h0, .inr (1, [.ref ak, .ref ab, .ref ao])), (ao, .inl (dd, 16, .inl fo))])) (va_Qi (fun (r : Int32) (u : Unit) => r = fo (nib x)) (BX1_out dC dI (va_A [(h0, .inr (1, [.ref ak, .ref ab, .ref ao])), (ao, .inl (dd, 16, .inl fo))] sz) h0 ak ab ao dd fo x) (va_A [(h0, .inr (1, [.ref ak, .ref ab, .ref ao])), (ao, .inl (dd, 16, .inl fo))] sz)) 0 0 (va_A [(h0, .inr (1, [.ref ak, .ref ab, .ref ao])), (ao, .inl (dd, 16, .inl fo))] sz) := by
  refine Met.ofW (cc := cX1_out) (maxL := 2) (ret := (some .int)) (by decide) rfl ?_
  intro p e s m args below meth c s₁ B hml hv
  obtain ⟨rfl, hsz, hP, hK, hD0⟩ := hv
  have hx := B.exec
  have hb := B.bytes
  have hr := B.returns
  have hts := atoms_spec (ws := wsX1_out) B.pre
  have hts : ∀ w ∈ lw_all, w.before _ s = true := fun w h => hts w (List.mem_cons_of_mem _ h)
  have hown : s.vm.findClass RX1 = some m.cls := findClass_of_methodNamed B.named
  have hlocks := B.notSynchronized
  subst hsz
  have hD := hD0.self (sz := s.heap.size)
  generalize hAe : va_A [(h0, .inr (1, [.ref ak, .ref ab, .ref ao])), (ao, .inl (dd, 16, .inl fo))] s.heap.size = A at hD ⊢
  have hA : ∀ q : Nat, s.heap.size ≤ q → A q := fun q h => by rw [← hAe]; exact Or.inr h
  have hS : va_S A s.heap s.heap [] := va_S.rf
  have hP : va_P (dC, dI) vwCl [(h0, .inr (1, [.ref ak, .ref ab, .ref ao])), (ao, .inl (dd, 16, .inl fo))] s.heap := hP
  have hl := lv_entry ([.ref h0, .int x]) (n := 2) (Nat.le_of_ble_eq_true rfl)
  rw [lg_entry_eq]
  generalize (lg_sl ([.ref h0, .int x]) ++ List.replicate (2 - (lg_sl ([.ref h0, .int x])).length) Slot.unset).toArray = ls at hl ⊢
  have hl : lv_has ls 2 [(0, .ref h0), (1, .int x)] := hl
  refine lv_aload_n hx hb dX1_out_0 rfl (lv_at hl 0 rfl) ?_
  refine va_get (D := (dC, dI)) (ci := 1) (v := .ref ao) (C := RX1) (T := TX1) (N := 3) hx hb hts in_X1 hown hK hP 0 rfl rfl 2 (by decide) (hts _ q244) (fun _ h9 => h9) rfl dX1_out_1 ?_
  refine lv_iload_n hx hb dX1_out_4 rfl (lv_at hl 1 rfl) ?_
  refine lv_bipush (v := nI 15) hx hb dX1_out_5 (by decide) ?_
  refine lv_iand hx hb dX1_out_7 ?_
  refine lv_topi (fun t_7 et_7 => ?_)
  have et_7 : t_7 = nI (nib x) := et_7.trans (nib_and x)
  subst et_7
  have hnib := nib_lt x
  refine va_iald hx hb hK hP 1 0 rfl rfl (vp_in_nI (n := (nib x)) (N := 16) (by omega) (by omega)) dX1_out_8 ?_
  refine lv_topi (fun t_8 et_8 => ?_)
  have et_8 : t_8 = fo (nib x) := et_8.trans (congrArg fo (nI_clamp (n := (nib x)) (by omega)))
  subst et_8
  have hP9 := hP.sub (ws' := [(h0, .inr (1, [.ref ak, .ref ab, .ref ao])), (ao, .inl (dd, 16, .inl fo))]) [0, 1] rfl
  have hD9 := hD.sub (ws' := [(h0, .inr (1, [.ref ak, .ref ab, .ref ao])), (ao, .inl (dd, 16, .inl fo))]) [0, 1] (by decide) rfl
  have hK9 := hK.sub (tys' := [(dd, .int)]) [0] rfl
  exact W.iret hx hb hr (fun t ht hW => ⟨⟨_, (), rfl, rfl, by rw [ht]; exact hP9, va_K.moved hW.alike hK9, hD9⟩, hS.F ht⟩) hS.2.2 dX1_out_9
end
section
theorem cd_step (a n : Nat) : nI a - nI n + Int32.ofInt (-1) = nI a - nI (n + 1) := by
  rw [nI_succ, show Int32.ofInt (-1) = (-1 : Int32) from rfl]
  grind
theorem cd_idx (o n : Nat) (h : n ≤ 7) : nI o + (nI 7 - nI n) = nI (o + (7 - n)) := by
  rw [pk_sub h, nI_add]
theorem cd_idx2 (o n : Nat) (h : n ≤ 7) : (nI 7 - nI n) + nI o = nI (7 - n + o) := by
  rw [pk_sub h, nI_add]
theorem cd_neg (n : Nat) (hn : n ≤ 8) (h : nI 7 - nI n < 0) : n = 8 := by
  rcases Nat.lt_or_ge n 8 with q | q
  · rw [pk_sub (by omega)] at h
    exact absurd h (nI_pos (by omega))
  · omega
theorem cd_pos (n : Nat) (hn : n ≤ 8) (h : ¬ nI 7 - nI n < 0) : n < 8 := by
  rcases Nat.lt_or_ge n 8 with q | q
  · exact q
  · obtain rfl : n = 8 := by omega
    exact absurd (by decide) h
theorem cd_12 (n : Nat) (h : n < 12) : nI (12 - n) + Int32.ofInt (-1) = nI (12 - (n + 1)) := by
  rw [show 12 - n = (12 - (n + 1)) + 1 by omega]
  exact pk_m1 _
theorem mx_a (S L : Nat → Int64) (n : Nat) : (mx S L (n + 1)).1 (n % 26) = (mx S L (n + 1)).2.2.1 := if_pos rfl
theorem mx_b (S L : Nat → Int64) (n : Nat) : (mx S L (n + 1)).2.1 (n % 2) = (mx S L (n + 1)).2.2.2 := if_pos rfl

abbrev wsX1_told : List Cond := ws_ yX1_told cX1_told 5 (some .long)
abbrev BX1_told (dC : Nat → ClassId) (dI : Nat → Nat → Nat) (A : Nat → Prop) (aa : Nat) (da : ClassId) (N : Nat) (o : Nat) (f : Nat → Int32) (u : Unit) (t : State) : Prop := va_P (dC, dI) vwCl [(aa, .inl (da, N, .inl f))] t.heap ∧ va_K (dC, dI) vwCl [(da, .int)] t ∧ va_D A [(aa, .inl (da, N, .inl f))]
set_option maxHeartbeats 4000000 in
set_option maxRecDepth 100000 in
/-- told(row, at): eight bytes, the lowest first -/
theorem metX1_told (l : Launch) (dC : Nat → ClassId) (dI : Nat → Nat → Nat) (aa : Nat) (da : ClassId) (N : Nat) (o : Nat) (f : Nat → Int32) (sz : Nat) (hon : o + 8 ≤ N) (hN : N ≤ 32) (hf : mk8 f = f) : Met l yX1_told wsX1_told ({ frames := 0, cells := 0, slots := 0, locals := 0 }) (va_Pc [.ref aa, .int (nI o)] (fun U => U.heap.size = sz ∧ va_P (dC, dI) vwCl [(aa, .inl (da, N, .inl f))] U.heap ∧ va_K (dC, dI) vwCl [(da, .int)] U ∧ va_D (fun _ => True) [(aa, .inl (da, N, .inl f))])) (va_Ql (fun (r : Int64) (u : Unit) => r = hw f o 8) (BX1_told dC dI (va_A [(aa, .inl (da, N, .inl f))] sz) aa da N o f) (va_A [(aa, .inl (da, N, .inl f))] sz)) 0 0 (va_A [(aa, .inl (da, N, .inl f))] sz) := by
  refine Met.ofW (cc := cX1_told) (maxL := 5) (ret := (some .long)) (by decide) rfl ?_
  intro p e s m args below meth c s₁ B hml hv
  obtain ⟨rfl, hsz, hP, hK, hD0⟩ := hv
  have hx := B.exec
  have hb := B.bytes
  have hr := B.returns
  have hts := atoms_spec (ws := wsX1_told) B.pre
  have hts : ∀ w ∈ lw_all, w.before _ s = true := fun w h => hts w (List.mem_cons_of_mem _ h)
  have hown : s.vm.findClass RX1 = some m.cls := findClass_of_methodNamed B.named
  have hlocks := B.notSynchronized
  subst hsz
  have hD := hD0.self (sz := s.heap.size)
  generalize hAe : va_A [(aa, .inl (da, N, .inl f))] s.heap.size = A at hD ⊢
  have hA : ∀ q : Nat, s.heap.size ≤ q → A q := fun q h => by rw [← hAe]; exact Or.inr h
  have hS : va_S A s.heap s.heap [] := va_S.rf
  have hP : va_P (dC, dI) vwCl [(aa, .inl (da, N, .inl f))] s.heap := hP
  have hl := lv_entry ([.ref aa, .int (nI o)]) (n := 5) (Nat.le_of_ble_eq_true rfl)
  rw [lg_entry_eq]
  generalize (lg_sl ([.ref aa, .int (nI o)]) ++ List.replicate (5 - (lg_sl ([.ref aa, .int (nI o)])).length) Slot.unset).toArray = ls at hl ⊢
  have hl : lv_has ls 5 [(0, .ref aa), (1, .int (nI o))] := hl
  have lp : ∀ (fu : Nat), ∀ (n : Nat), (9 - n) < fu → n ≤ 8 → va_K (dC, dI) vwCl [(da, .int)] s → ∀ (H : Heap) (locs : List Loc), va_P (dC, dI) vwCl [(aa, .inl (da, N, .inl f))] H → va_D A [(aa, .inl (da, N, .inl f))] → va_S A s.heap H locs → ∀ (ls : Array Slot), lv_has ls 5 [(0, .ref aa), (1, .int (nI o)), (2, .long (hw f o n)), (4, .int (nI 7 - nI n))] → W p l e (headSpec wsX1_told ({ frames := 0, cells := 0, slots := 0, locals := 0 })).room s m ([.ref aa, .int (nI o)] : List Value).toArray below meth c H locs (0) (0) (MQ below (va_Ql (fun (r : Int64) (u : Unit) => r = hw f o 8) (BX1_told dC dI A aa da N o f) A) ([.ref aa, .int (nI o)] : List Value).toArray s 0 0 A) (F0 m 6 ls []) := by
    intro fu
    induction fu with
    | zero => intro n hme; exact absurd hme (Nat.not_lt_zero _)
    | succ fu ih =>
      intro n hme hn8 hK H locs hP hD hS ls hl
      refine lv_iload hx hb dX1_told_6 (lv_at hl 3 rfl) ?_
      refine lv_if_lt (tgt := 30) hx hb dX1_told_8 (by decide) (fun c_8 => ?_) (fun c_8 => ?_)
      · have hk2 : n = 8 := cd_neg n hn8 c_8
        subst hk2
        refine lv_lload_n hx hb dX1_told_30 rfl (lv_at hl 2 rfl) ?_
        have hP9 := hP.sub (ws' := [(aa, .inl (da, N, .inl f))]) [0] rfl
        have hD9 := hD.sub (ws' := [(aa, .inl (da, N, .inl f))]) [0] (by decide) rfl
        have hK9 := hK.sub (tys' := [(da, .int)]) [0] rfl
        exact W.lret hx hb hr (fun t ht hW => ⟨⟨_, (), rfl, rfl, by rw [ht]; exact hP9, va_K.moved hW.alike hK9, hD9⟩, hS.F ht⟩) hS.2.2 dX1_told_31
      · have hlt : n < 8 := cd_pos n hn8 c_8
        refine lv_lload_n hx hb dX1_told_11 rfl (lv_at hl 2 rfl) ?_
        refine lv_bipush (v := nI 8) hx hb dX1_told_12 (by decide) ?_
        refine lv_lshl (v := (hw f o n) <<< ((nI 8).toInt64 &&& 63)) hx hb dX1_told_14 rfl ?_
        refine lv_aload_n hx hb dX1_told_15 rfl (lv_at hl 0 rfl) ?_
        refine lv_iload_n hx hb dX1_told_16 rfl (lv_at hl 1 rfl) ?_
        refine lv_iload hx hb dX1_told_17 (lv_at hl 3 rfl) ?_
        refine lv_iadd hx hb dX1_told_19 ?_
        refine lv_topi (fun t_19 et_19 => ?_)
        have et_19 : t_19 = nI (o + (7 - n)) := et_19.trans (cd_idx o n (by omega))
        subst et_19
        refine va_iald hx hb hK hP 0 0 rfl rfl (vp_in_nI (n := (o + (7 - n))) (N := N) (by omega) (by omega)) dX1_told_20 ?_
        refine lv_topi (fun t_20 et_20 => ?_)
        have et_20 : t_20 = f (o + (7 - n)) := et_20.trans (congrArg f (nI_clamp (n := (o + (7 - n))) (by omega)))
        subst et_20
        refine lv_i2l (v := (f (o + (7 - n))).toInt64) hx hb dX1_told_21 rfl ?_
        refine lv_lor hx hb dX1_told_22 ?_
        refine lv_topl (fun t_22 et_22 => ?_)
        have et_22 : t_22 = hw f o (n + 1) := et_22.trans (hw_step f o n (congrFun hf _))
        subst et_22
        refine lv_lstore_n (lv' := [(2, .long (hw f o (n + 1))), (0, .ref aa), (1, .int (nI o)), (4, .int (nI 7 - nI n))]) hx hb dX1_told_23 rfl hl (by decide) rfl (fun ls hl => ?_)
        refine lv_iinc (v := nI 7 - nI (n + 1)) (lv' := [(4, .int (nI 7 - nI (n + 1))), (2, .long (hw f o (n + 1))), (0, .ref aa), (1, .int (nI o))]) hx hb dX1_told_24 hl (k := 3) rfl (cd_step 7 n) (by decide) rfl (fun ls hl => ?_)
        refine lv_goto (tgt := 6) hx hb dX1_told_27 (by decide) ?_
        exact ih (n + 1) (by omega) (by omega) (hK.sub [0] rfl) _ _ (hP.sub (ws' := [(aa, .inl (da, N, .inl f))]) [0] rfl) (hD.sub (ws' := [(aa, .inl (da, N, .inl f))]) [0] (by decide) rfl) hS _ (lv_sub hl [2, 3, 1, 0] rfl)
  refine lv_lconst (v := 0) hx hb dX1_told_0 rfl ?_
  refine lv_lstore_n (lv' := [(2, .long 0), (0, .ref aa), (1, .int (nI o))]) hx hb dX1_told_1 rfl hl (by decide) rfl (fun ls hl => ?_)
  refine lv_bipush (v := nI 7) hx hb dX1_told_2 (by decide) ?_
  refine lv_istore (lv' := [(4, .int (nI 7)), (2, .long 0), (0, .ref aa), (1, .int (nI o))]) hx hb dX1_told_4 hl (by decide) rfl (fun ls hl => ?_)
  exact lp _ 0 (Nat.lt_succ_self _) (by omega) (hK.sub [0] rfl) _ _ (hP.sub (ws' := [(aa, .inl (da, N, .inl f))]) [0] rfl) (hD.sub (ws' := [(aa, .inl (da, N, .inl f))]) [0] (by decide) rfl) hS _ (lv_sub hl [2, 3, 1, 0] rfl)

abbrev wsX1_tells : List Cond := ws_ yX1_tells cX1_tells 5 none
abbrev BX1_tells (dC : Nat → ClassId) (dI : Nat → Nat → Nat) (A : Nat → Prop) (h0 : Nat) (ak : Nat) (ab : Nat) (ao : Nat) (dd : ClassId) (fo : Nat → Int32) (w : Int64) (o : Nat) (u : Nat → Int32) (t : State) : Prop := va_P (dC, dI) vwCl [(h0, .inr (1, [.ref ak, .ref ab, .ref ao])), (ao, .inl (dd, 16, .inl u))] t.heap ∧ va_K (dC, dI) vwCl [(dd, .int)] t ∧ va_D A [(h0, .inr (1, [.ref ak, .ref ab, .ref ao])), (ao, .inl (dd, 16, .inl u))]
set_option maxHeartbeats 4000000 in
set_option maxRecDepth 100000 in
/-- tells(v, at) -/
theorem metX1_tells (l : Launch) (dC : Nat → ClassId) (dI : Nat → Nat → Nat) (h0 : Nat) (ak : Nat) (ab : Nat) (ao : Nat) (dd : ClassId) (fo : Nat → Int32) (w : Int64) (o : Nat) (sz : Nat) (hon : o + 8 ≤ 16) : Met l yX1_tells wsX1_tells ({ frames := 0, cells := 0, slots := 0, locals := 0 }) (va_Pc [.ref h0, .long w, .int (nI o)] (fun U => U.heap.size = sz ∧ va_P (dC, dI) vwCl [(h0, .inr (1, [.ref ak, .ref ab, .ref ao])), (ao, .inl (dd, 16, .inl fo))] U.heap ∧ va_K (dC, dI) vwCl [(dd, .int)] U ∧ va_D (fun _ => True) [(h0, .inr (1, [.ref ak, .ref ab, .ref ao])), (ao, .inl (dd, 16, .inl fo))])) (va_Qv (fun (u : Nat → Int32) => u = stn fo o (qb w) 8) (BX1_tells dC dI (va_A [(h0, .inr (1, [.ref ak, .ref ab, .ref ao])), (ao, .inl (dd, 16, .inl fo))] sz) h0 ak ab ao dd fo w o) (va_A [(h0, .inr (1, [.ref ak, .ref ab, .ref ao])), (ao, .inl (dd, 16, .inl fo))] sz)) 0 0 (va_A [(h0, .inr (1, [.ref ak, .ref ab, .ref ao])), (ao, .inl (dd, 16, .inl fo))] sz) := by
  refine Met.ofW (cc := cX1_tells) (maxL := 5) (ret := none) (by decide) rfl ?_
  intro p e s m args below meth c s₁ B hml hv
  obtain ⟨rfl, hsz, hP, hK, hD0⟩ := hv
  have hx := B.exec
  have hb := B.bytes
  have hr := B.returns
  have hts := atoms_spec (ws := wsX1_tells) B.pre
  have hts : ∀ w ∈ lw_all, w.before _ s = true := fun w h => hts w (List.mem_cons_of_mem _ h)
  have hown : s.vm.findClass RX1 = some m.cls := findClass_of_methodNamed B.named
  have hlocks := B.notSynchronized
  subst hsz
  have hD := hD0.self (sz := s.heap.size)
  generalize hAe : va_A [(h0, .inr (1, [.ref ak, .ref ab, .ref ao])), (ao, .inl (dd, 16, .inl fo))] s.heap.size = A at hD ⊢
  have hA : ∀ q : Nat, s.heap.size ≤ q → A q := fun q h => by rw [← hAe]; exact Or.inr h
  have hS : va_S A s.heap s.heap [] := va_S.rf
  have hP : va_P (dC, dI) vwCl [(h0, .inr (1, [.ref ak, .ref ab, .ref ao])), (ao, .inl (dd, 16, .inl fo))] s.heap := hP
  have hl := lv_entry ([.ref h0, .long w, .int (nI o)]) (n := 5) (Nat.le_of_ble_eq_true rfl)
  rw [lg_entry_eq]
  generalize (lg_sl ([.ref h0, .long w, .int (nI o)]) ++ List.replicate (5 - (lg_sl ([.ref h0, .long w, .int (nI o)])).length) Slot.unset).toArray = ls at hl ⊢
  have hl : lv_has ls 5 [(0, .ref h0), (1, .long w), (3, .int (nI o))] := hl
  have lp : ∀ (fu : Nat), ∀ (k : Nat), (9 - k) < fu → k ≤ 8 → va_K (dC, dI) vwCl [(dd, .int)] s → ∀ (H : Heap) (locs : List Loc), va_P (dC, dI) vwCl [(h0, .inr (1, [.ref ak, .ref ab, .ref ao])), (ao, .inl (dd, 16, .inl (stn fo o (qb w) k)))] H → va_D A [(h0, .inr (1, [.ref ak, .ref ab, .ref ao])), (ao, .inl (dd, 16, .inl (stn fo o (qb w) k)))] → va_S A s.heap H locs → ∀ (ls : Array Slot), lv_has ls 5 [(0, .ref h0), (1, .long w), (3, .int (nI o)), (4, .int (nI k))] → W p l e (headSpec wsX1_tells ({ frames := 0, cells := 0, slots := 0, locals := 0 })).room s m ([.ref h0, .long w, .int (nI o)] : List Value).toArray below meth c H locs (0) (0) (MQ below (va_Qv (fun (u : Nat → Int32) => u = stn fo o (qb w) 8) (BX1_tells dC dI A h0 ak ab ao dd fo w o) A) ([.ref h0, .long w, .int (nI o)] : List Value).toArray s 0 0 A) (F0 m 3 ls []) := by
    intro fu
    induction fu with
    | zero => intro k hme; exact absurd hme (Nat.not_lt_zero _)
    | succ fu ih =>
      intro k hme hk8 hK H locs hP hD hS ls hl
      refine lv_iload hx hb dX1_tells_3 (lv_at hl 3 rfl) ?_
      refine lv_bipush (v := nI 8) hx hb dX1_tells_5 (by decide) ?_
      refine lv_icmp_ge (tgt := 37) hx hb dX1_tells_7 (by decide) (fun c_7 => ?_) (fun c_7 => ?_)
      · have hk2 : k = 8 := by
          rcases Nat.lt_or_ge k 8 with q | q
          · exact absurd c_7 (nI_ge q (by omega))
          · omega
        subst hk2
        have hP9 := hP.sub (ws' := [(h0, .inr (1, [.ref ak, .ref ab, .ref ao])), (ao, .inl (dd, 16, .inl ((stn fo o (qb w) 8))))]) [0, 1] rfl
        have hD9 := hD.sub (ws' := [(h0, .inr (1, [.ref ak, .ref ab, .ref ao])), (ao, .inl (dd, 16, .inl ((stn fo o (qb w) 8))))]) [0, 1] (by decide) rfl
        have hK9 := hK.sub (tys' := [(dd, .int)]) [0] rfl
        exact W.vret hx hb hr (fun t ht hW => ⟨⟨(stn fo o (qb w) 8), rfl, rfl, by rw [ht]; exact hP9, va_K.moved hW.alike hK9, hD9⟩, hS.F ht⟩) hS.2.2 dX1_tells_37
      · have hlt : k < 8 := by
          rcases Nat.lt_or_ge k 8 with q | q
          · exact q
          · exact absurd (nI_le q (by omega)) c_7
        refine lv_aload_n hx hb dX1_tells_10 rfl (lv_at hl 0 rfl) ?_
        refine va_get (D := (dC, dI)) (ci := 1) (v := .ref ao) (C := RX1) (T := TX1) (N := 3) hx hb hts in_X1 hown hK hP 0 rfl rfl 2 (by decide) (hts _ q244) (fun _ h9 => h9) rfl dX1_tells_11 ?_
        refine lv_iload_n hx hb dX1_tells_14 rfl (lv_at hl 2 rfl) ?_
        refine lv_iload hx hb dX1_tells_15 (lv_at hl 3 rfl) ?_
        refine lv_iadd hx hb dX1_tells_17 ?_
        refine lv_topi (fun t_17 et_17 => ?_)
        have et_17 : t_17 = nI (o + k) := et_17.trans (nI_add o k)
        subst et_17
        refine lv_lload_n hx hb dX1_tells_18 rfl (lv_at hl 1 rfl) ?_
        refine lv_bipush (v := nI 8) hx hb dX1_tells_19 (by decide) ?_
        refine lv_iload hx hb dX1_tells_21 (lv_at hl 3 rfl) ?_
        refine lv_imul hx hb dX1_tells_23 ?_
        refine lv_lshr (v := w >>> (((nI 8) * (nI k)).toInt64 &&& 63)) hx hb dX1_tells_24 rfl ?_
        refine lv_ldc2 (v := 255) hx hb hown (hts _ q297) dX1_tells_25 ?_
        refine lv_land hx hb dX1_tells_28 ?_
        refine lv_l2i (v := ((w >>> (((nI 8) * (nI k)).toInt64 &&& 63)) &&& 255).toInt32) hx hb dX1_tells_29 rfl ?_
        refine va_iast hx hb hK hP hD hS 1 0 rfl rfl (vp_in_nI (n := (o + k)) (N := 16) (by omega) (by omega)) dX1_tells_30 (fun H locs hP hD hS => ?_)
        rw [nI_clamp (n := (o + k)) (by omega)] at hP hD
        have eg_30 : upd (stn fo o (qb w) k) (o + k) (((w >>> (((nI 8) * (nI k)).toInt64 &&& 63)) &&& 255).toInt32) = stn fo o (qb w) (k + 1) := stn_s fo o (qb w) k
        rw [eg_30] at hP hD
        have hP : va_P (dC, dI) vwCl [(h0, .inr (1, [.ref ak, .ref ab, .ref ao])), (ao, .inl (dd, 16, .inl (stn fo o (qb w) (k + 1))))] H := hP
        have hD : va_D A [(h0, .inr (1, [.ref ak, .ref ab, .ref ao])), (ao, .inl (dd, 16, .inl (stn fo o (qb w) (k + 1))))] := hD
        refine lv_iinc (v := nI (k + 1)) (lv' := [(4, .int (nI (k + 1))), (0, .ref h0), (1, .long w), (3, .int (nI o))]) hx hb dX1_tells_31 hl (k := 3) rfl (nI_1 k) (by decide) rfl (fun ls hl => ?_)
        refine lv_goto (tgt := 3) hx hb dX1_tells_34 (by decide) ?_
        exact ih (k + 1) (by omega) (by omega) (hK.sub [0] rfl) _ _ (hP.sub (ws' := [(h0, .inr (1, [.ref ak, .ref ab, .ref ao])), (ao, .inl (dd, 16, .inl (stn fo o (qb w) (k + 1))))]) [0, 1] rfl) (hD.sub (ws' := [(h0, .inr (1, [.ref ak, .ref ab, .ref ao])), (ao, .inl (dd, 16, .inl (stn fo o (qb w) (k + 1))))]) [0, 1] (by decide) rfl) hS _ (lv_sub hl [1, 2, 3, 0] rfl)
  refine lv_iconst (v := nI 0) hx hb dX1_tells_0 (by decide) ?_
  refine lv_istore (lv' := [(4, .int (nI 0)), (0, .ref h0), (1, .long w), (3, .int (nI o))]) hx hb dX1_tells_1 hl (by decide) rfl (fun ls hl => ?_)
  have hz : stn fo o (qb w) 0 = fo := stn_0 fo o (qb w)
  rw [← hz] at hP hD
  exact lp _ 0 (Nat.lt_succ_self _) (by omega) (hK.sub [0] rfl) _ _ (hP.sub (ws' := [(h0, .inr (1, [.ref ak, .ref ab, .ref ao])), (ao, .inl (dd, 16, .inl (stn fo o (qb w) 0)))]) [0, 1] rfl) (hD.sub (ws' := [(h0, .inr (1, [.ref ak, .ref ab, .ref ao])), (ao, .inl (dd, 16, .inl (stn fo o (qb w) 0)))]) [0, 1] (by decide) rfl) hS _ (lv_sub hl [1, 2, 3, 0] rfl)

abbrev wsX1_turned : List Cond := ws_ yX1_turned cX1_turned 5 (some .long)
abbrev BX1_turned (dC : Nat → ClassId) (dI : Nat → Nat → Nat) (A : Nat → Prop) (x : Int64) (y : Int64) (u : Unit) (t : State) : Prop := va_P (dC, dI) vwCl [] t.heap ∧ va_K (dC, dI) vwCl [] t ∧ va_D A []
set_option maxHeartbeats 4000000 in
set_option maxRecDepth 100000 in
/-- turned(v, by) -/
theorem metX1_turned (l : Launch) (dC : Nat → ClassId) (dI : Nat → Nat → Nat) (x : Int64) (y : Int64) (sz : Nat) : Met l yX1_turned wsX1_turned ({ frames := 0, cells := 0, slots := 0, locals := 0 }) (va_Pc [.long x, .long y] (fun U => U.heap.size = sz ∧ va_P (dC, dI) vwCl [] U.heap ∧ va_K (dC, dI) vwCl [] U ∧ va_D (fun _ => True) [])) (va_Ql (fun (r : Int64) (u : Unit) => r = rl x y) (BX1_turned dC dI (va_A [] sz) x y) (va_A [] sz)) 0 0 (va_A [] sz) := by
  refine Met.ofW (cc := cX1_turned) (maxL := 5) (ret := (some .long)) (by decide) rfl ?_
  intro p e s m args below meth c s₁ B hml hv
  obtain ⟨rfl, hsz, hP, hK, hD0⟩ := hv
  have hx := B.exec
  have hb := B.bytes
  have hr := B.returns
  have hts := atoms_spec (ws := wsX1_turned) B.pre
  have hts : ∀ w ∈ lw_all, w.before _ s = true := fun w h => hts w (List.mem_cons_of_mem _ h)
  have hown : s.vm.findClass RX1 = some m.cls := findClass_of_methodNamed B.named
  have hlocks := B.notSynchronized
  subst hsz
  have hD := hD0.self (sz := s.heap.size)
  generalize hAe : va_A [] s.heap.size = A at hD ⊢
  have hA : ∀ q : Nat, s.heap.size ≤ q → A q := fun q h => by rw [← hAe]; exact Or.inr h
  have hS : va_S A s.heap s.heap [] := va_S.rf
  have hP : va_P (dC, dI) vwCl [] s.heap := hP
  have hl := lv_entry ([.long x, .long y]) (n := 5) (Nat.le_of_ble_eq_true rfl)
  rw [lg_entry_eq]
  generalize (lg_sl ([.long x, .long y]) ++ List.replicate (5 - (lg_sl ([.long x, .long y])).length) Slot.unset).toArray = ls at hl ⊢
  have hl : lv_has ls 5 [(0, .long x), (2, .long y)] := hl
  refine lv_lload_n hx hb dX1_turned_0 rfl (lv_at hl 1 rfl) ?_
  refine lv_ldc2 (v := 63) hx hb hown (hts _ q292) dX1_turned_1 ?_
  refine lv_land hx hb dX1_turned_4 ?_
  refine lv_l2i (v := (y &&& 63).toInt32) hx hb dX1_turned_5 rfl ?_
  refine lv_istore (lv' := [(4, .int ((y &&& 63).toInt32)), (0, .long x), (2, .long y)]) hx hb dX1_turned_6 hl (by decide) rfl (fun ls hl => ?_)
  refine lv_lload_n hx hb dX1_turned_8 rfl (lv_at hl 1 rfl) ?_
  refine lv_iload hx hb dX1_turned_9 (lv_at hl 0 rfl) ?_
  refine lv_lshl (v := x <<< (((y &&& 63).toInt32).toInt64 &&& 63)) hx hb dX1_turned_11 rfl ?_
  refine lv_lload_n hx hb dX1_turned_12 rfl (lv_at hl 1 rfl) ?_
  refine lv_bipush (v := nI 64) hx hb dX1_turned_13 (by decide) ?_
  refine lv_iload hx hb dX1_turned_15 (lv_at hl 0 rfl) ?_
  refine lv_isub hx hb dX1_turned_17 ?_
  refine lv_lushr (v := (x.toUInt64 >>> (((nI 64) - ((y &&& 63).toInt32)).toInt64.toUInt64 &&& Int64.toUInt64 63)).toInt64) hx hb dX1_turned_18 rfl ?_
  refine lv_lor hx hb dX1_turned_19 ?_
  refine lv_topl (fun t_19 et_19 => ?_)
  have et_19 : t_19 = rl x y := et_19.trans (rl_m x y)
  subst et_19
  have hP9 := hP.sub (ws' := []) [] rfl
  have hD9 := hD.sub (ws' := []) [] (by decide) rfl
  have hK9 := hK.sub (tys' := []) [] rfl
  exact W.lret hx hb hr (fun t ht hW => ⟨⟨_, (), rfl, rfl, by rw [ht]; exact hP9, va_K.moved hW.alike hK9, hD9⟩, hS.F ht⟩) hS.2.2 dX1_turned_20

abbrev wsX1_back : List Cond := ws_ yX1_back cX1_back 5 (some .long)
abbrev BX1_back (dC : Nat → ClassId) (dI : Nat → Nat → Nat) (A : Nat → Prop) (x : Int64) (y : Int64) (u : Unit) (t : State) : Prop := va_P (dC, dI) vwCl [] t.heap ∧ va_K (dC, dI) vwCl [] t ∧ va_D A []
set_option maxHeartbeats 4000000 in
set_option maxRecDepth 100000 in
/-- back(v, by) -/
theorem metX1_back (l : Launch) (dC : Nat → ClassId) (dI : Nat → Nat → Nat) (x : Int64) (y : Int64) (sz : Nat) : Met l yX1_back wsX1_back ({ frames := 0, cells := 0, slots := 0, locals := 0 }) (va_Pc [.long x, .long y] (fun U => U.heap.size = sz ∧ va_P (dC, dI) vwCl [] U.heap ∧ va_K (dC, dI) vwCl [] U ∧ va_D (fun _ => True) [])) (va_Ql (fun (r : Int64) (u : Unit) => r = rr x y) (BX1_back dC dI (va_A [] sz) x y) (va_A [] sz)) 0 0 (va_A [] sz) := by
  refine Met.ofW (cc := cX1_back) (maxL := 5) (ret := (some .long)) (by decide) rfl ?_
  intro p e s m args below meth c s₁ B hml hv
  obtain ⟨rfl, hsz, hP, hK, hD0⟩ := hv
  have hx := B.exec
  have hb := B.bytes
  have hr := B.returns
  have hts := atoms_spec (ws := wsX1_back) B.pre
  have hts : ∀ w ∈ lw_all, w.before _ s = true := fun w h => hts w (List.mem_cons_of_mem _ h)
  have hown : s.vm.findClass RX1 = some m.cls := findClass_of_methodNamed B.named
  have hlocks := B.notSynchronized
  subst hsz
  have hD := hD0.self (sz := s.heap.size)
  generalize hAe : va_A [] s.heap.size = A at hD ⊢
  have hA : ∀ q : Nat, s.heap.size ≤ q → A q := fun q h => by rw [← hAe]; exact Or.inr h
  have hS : va_S A s.heap s.heap [] := va_S.rf
  have hP : va_P (dC, dI) vwCl [] s.heap := hP
  have hl := lv_entry ([.long x, .long y]) (n := 5) (Nat.le_of_ble_eq_true rfl)
  rw [lg_entry_eq]
  generalize (lg_sl ([.long x, .long y]) ++ List.replicate (5 - (lg_sl ([.long x, .long y])).length) Slot.unset).toArray = ls at hl ⊢
  have hl : lv_has ls 5 [(0, .long x), (2, .long y)] := hl
  refine lv_lload_n hx hb dX1_back_0 rfl (lv_at hl 1 rfl) ?_
  refine lv_ldc2 (v := 63) hx hb hown (hts _ q292) dX1_back_1 ?_
  refine lv_land hx hb dX1_back_4 ?_
  refine lv_l2i (v := (y &&& 63).toInt32) hx hb dX1_back_5 rfl ?_
  refine lv_istore (lv' := [(4, .int ((y &&& 63).toInt32)), (0, .long x), (2, .long y)]) hx hb dX1_back_6 hl (by decide) rfl (fun ls hl => ?_)
  refine lv_lload_n hx hb dX1_back_8 rfl (lv_at hl 1 rfl) ?_
  refine lv_iload hx hb dX1_back_9 (lv_at hl 0 rfl) ?_
  refine lv_lushr (v := (x.toUInt64 >>> (((y &&& 63).toInt32).toInt64.toUInt64 &&& Int64.toUInt64 63)).toInt64) hx hb dX1_back_11 rfl ?_
  refine lv_lload_n hx hb dX1_back_12 rfl (lv_at hl 1 rfl) ?_
  refine lv_bipush (v := nI 64) hx hb dX1_back_13 (by decide) ?_
  refine lv_iload hx hb dX1_back_15 (lv_at hl 0 rfl) ?_
  refine lv_isub hx hb dX1_back_17 ?_
  refine lv_lshl (v := x <<< (((nI 64) - ((y &&& 63).toInt32)).toInt64 &&& 63)) hx hb dX1_back_18 rfl ?_
  refine lv_lor hx hb dX1_back_19 ?_
  refine lv_topl (fun t_19 et_19 => ?_)
  have et_19 : t_19 = rr x y := et_19.trans (rr_m x y)
  subst et_19
  have hP9 := hP.sub (ws' := []) [] rfl
  have hD9 := hD.sub (ws' := []) [] (by decide) rfl
  have hK9 := hK.sub (tys' := []) [] rfl
  exact W.lret hx hb hr (fun t ht hW => ⟨⟨_, (), rfl, rfl, by rw [ht]; exact hP9, va_K.moved hW.alike hK9, hD9⟩, hS.F ht⟩) hS.2.2 dX1_back_20
end
section
abbrev wsX1_expanded : List Cond := ws_ yX1_expanded cX1_expanded 9 (some (.array .long))
abbrev BX1_expanded (dC : Nat → ClassId) (dI : Nat → Nat → Nat) (A : Nat → Prop) (h0 : Nat) (ak : Nat) (ab : Nat) (ao : Nat) (dk : ClassId) (fk : Nat → Int32) (u : Unit) (ra : Nat) (t : State) : Prop := ∃ (az : Nat), ∃ (ds : ClassId), ra = az ∧ va_P (dC, dI) vwCl [(h0, .inr (1, [.ref ak, .ref ab, .ref ao])), (ak, .inl (dk, 32, .inl fk)), (az, .inl (ds, 26, .inr (.inl (sch fk))))] t.heap ∧ va_K (dC, dI) vwCl [(dk, .int), (ds, .long)] t ∧ va_D A [(h0, .inr (1, [.ref ak, .ref ab, .ref ao])), (ak, .inl (dk, 32, .inl fk)), (az, .inl (ds, 26, .inr (.inl (sch fk))))]
set_option maxHeartbeats 4000000 in
set_option maxRecDepth 100000 in
/-- expanded(): the table -/
theorem metX1_expanded (l : Launch) (dC : Nat → ClassId) (dI : Nat → Nat → Nat) (h0 : Nat) (ak : Nat) (ab : Nat) (ao : Nat) (dk : ClassId) (fk : Nat → Int32) (sz : Nat) (hfk : mk8 fk = fk) : Met l yX1_expanded wsX1_expanded ({ frames := 1, cells := 2, slots := 28, locals := 24 }) (va_Pc [.ref h0] (fun U => U.heap.size = sz ∧ va_P (dC, dI) vwCl [(h0, .inr (1, [.ref ak, .ref ab, .ref ao])), (ak, .inl (dk, 32, .inl fk))] U.heap ∧ va_K (dC, dI) vwCl [(dk, .int)] U ∧ va_D (fun _ => True) [(h0, .inr (1, [.ref ak, .ref ab, .ref ao])), (ak, .inl (dk, 32, .inl fk))])) (va_Qr (fun (u : Unit) => True) (BX1_expanded dC dI (va_A [(h0, .inr (1, [.ref ak, .ref ab, .ref ao])), (ak, .inl (dk, 32, .inl fk))] sz) h0 ak ab ao dk fk) (va_A [(h0, .inr (1, [.ref ak, .ref ab, .ref ao])), (ak, .inl (dk, 32, .inl fk))] sz)) 2 28 (va_A [(h0, .inr (1, [.ref ak, .ref ab, .ref ao])), (ak, .inl (dk, 32, .inl fk))] sz) := by
  refine Met.ofW (cc := cX1_expanded) (maxL := 9) (ret := (some (.array .long))) (by decide) rfl ?_
  intro p e s m args below meth c s₁ B hml hv
  obtain ⟨rfl, hsz, hP, hK, hD0⟩ := hv
  have hx := B.exec
  have hb := B.bytes
  have hr := B.returns
  have hts := atoms_spec (ws := wsX1_expanded) B.pre
  have hts : ∀ w ∈ lw_all, w.before _ s = true := fun w h => hts w (List.mem_cons_of_mem _ h)
  have hown : s.vm.findClass RX1 = some m.cls := findClass_of_methodNamed B.named
  have hlocks := B.notSynchronized
  subst hsz
  have hD := hD0.self (sz := s.heap.size)
  generalize hAe : va_A [(h0, .inr (1, [.ref ak, .ref ab, .ref ao])), (ak, .inl (dk, 32, .inl fk))] s.heap.size = A at hD ⊢
  have hA : ∀ q : Nat, s.heap.size ≤ q → A q := fun q h => by rw [← hAe]; exact Or.inr h
  have hS : va_S A s.heap s.heap [] := va_S.rf
  have hP : va_P (dC, dI) vwCl [(h0, .inr (1, [.ref ak, .ref ab, .ref ao])), (ak, .inl (dk, 32, .inl fk))] s.heap := hP
  have hl := lv_entry ([.ref h0]) (n := 9) (Nat.le_of_ble_eq_true rfl)
  rw [lg_entry_eq]
  generalize (lg_sl ([.ref h0]) ++ List.replicate (9 - (lg_sl ([.ref h0])).length) Slot.unset).toArray = ls at hl ⊢
  have hl : lv_has ls 9 [(0, .ref h0)] := hl
  have l2 : ∀ (fu : Nat), ∀ (az : Nat) (ds : ClassId) (ql : Nat) (dl : ClassId) (n : Nat), (79 - n) < fu → n ≤ 78 → va_K (dC, dI) vwCl [(dk, .int), (ds, .long), (dl, .long)] s → ∀ (H : Heap) (locs : List Loc), va_P (dC, dI) vwCl [(h0, .inr (1, [.ref ak, .ref ab, .ref ao])), (ak, .inl (dk, 32, .inl fk)), (az, .inl (ds, 26, .inr (.inl ((mx (sf 26) (L0 fk) n).1)))), (ql, .inl (dl, 2, .inr (.inl ((mx (sf 26) (L0 fk) n).2.1))))] H → va_D A [(h0, .inr (1, [.ref ak, .ref ab, .ref ao])), (ak, .inl (dk, 32, .inl fk)), (az, .inl (ds, 26, .inr (.inl ((mx (sf 26) (L0 fk) n).1)))), (ql, .inl (dl, 2, .inr (.inl ((mx (sf 26) (L0 fk) n).2.1))))] → va_S A s.heap H locs → ∀ (ls : Array Slot), lv_has ls 9 [(0, .ref h0), (1, .ref az), (2, .ref ql), (3, .long ((mx (sf 26) (L0 fk) n).2.2.1)), (5, .long ((mx (sf 26) (L0 fk) n).2.2.2)), (7, .int (nI n))] → W p l e (headSpec wsX1_expanded ({ frames := 1, cells := 2, slots := 28, locals := 24 })).room s m ([.ref h0] : List Value).toArray below meth c H locs (2) (28) (MQ below (va_Qr (fun (u : Unit) => True) (BX1_expanded dC dI A h0 ak ab ao dk fk) A) ([.ref h0] : List Value).toArray s 2 28 A) (F0 m 72 ls []) := by
    intro fu
    induction fu with
    | zero => intro az ds ql dl n hme; exact absurd hme (Nat.not_lt_zero _)
    | succ fu ih =>
      intro az ds ql dl n hme hn78 hK H locs hP hD hS ls hl
      refine lv_iload hx hb dX1_expanded_72 (lv_at hl 5 rfl) ?_
      refine lv_iconst (v := nI 3) hx hb dX1_expanded_74 (by decide) ?_
      refine lv_aload_n hx hb dX1_expanded_75 rfl (lv_at hl 1 rfl) ?_
      refine va_alen (v := nI 26) hx hb hK hP 2 1 rfl rfl rfl dX1_expanded_76 ?_
      refine lv_imul hx hb dX1_expanded_77 ?_
      refine lv_topi (fun t_77 et_77 => ?_)
      have et_77 : t_77 = nI 78 := et_77.trans (pk_mul 3 26)
      subst et_77
      refine lv_icmp_ge (tgt := 150) hx hb dX1_expanded_78 (by decide) (fun c_78 => ?_) (fun c_78 => ?_)
      · have hk2 : n = 78 := by
          rcases Nat.lt_or_ge n 78 with q | q
          · exact absurd c_78 (nI_ge q (by omega))
          · omega
        subst hk2
        refine lv_aload_n hx hb dX1_expanded_150 rfl (lv_at hl 1 rfl) ?_
        have hP9 := hP.sub (ws' := [(h0, .inr (1, [.ref ak, .ref ab, .ref ao])), (ak, .inl (dk, 32, .inl fk)), (az, .inl (ds, 26, .inr (.inl (sch fk))))]) [0, 1, 2] rfl
        have hD9 := hD.sub (ws' := [(h0, .inr (1, [.ref ak, .ref ab, .ref ao])), (ak, .inl (dk, 32, .inl fk)), (az, .inl (ds, 26, .inr (.inl (sch fk))))]) [0, 1, 2] (by decide) rfl
        have hK9 := hK.sub (tys' := [(dk, .int), (ds, .long)]) [0, 1] rfl
        exact W.aret (v := .ref az) hx hb hr (Or.inr ⟨_, rfl⟩) (Or.inr ⟨_, rfl⟩) (fun t ht hW => ⟨⟨(), az, rfl, trivial, az, ds, rfl, by rw [ht]; exact hP9, va_K.moved hW.alike hK9, hD9⟩, hS.F ht⟩) hS.2.2 dX1_expanded_151
      · have hlt : n < 78 := by
          rcases Nat.lt_or_ge n 78 with q | q
          · exact q
          · exact absurd (nI_le q (by omega)) c_78
        refine lv_iload hx hb dX1_expanded_81 (lv_at hl 5 rfl) ?_
        refine lv_aload_n hx hb dX1_expanded_83 rfl (lv_at hl 1 rfl) ?_
        refine va_alen (v := nI 26) hx hb hK hP 2 1 rfl rfl rfl dX1_expanded_84 ?_
        refine lv_irem hx hb dX1_expanded_85 (by decide) ?_
        refine lv_topi (fun t_85 et_85 => ?_)
        have et_85 : t_85 = nI (n % 26) := et_85.trans (pk_rem (by omega) (by omega) (by omega))
        subst et_85
        refine lv_istore (lv' := [(8, .int (nI (n % 26))), (0, .ref h0), (1, .ref az), (2, .ref ql), (3, .long ((mx (sf 26) (L0 fk) n).2.2.1)), (5, .long ((mx (sf 26) (L0 fk) n).2.2.2)), (7, .int (nI n))]) hx hb dX1_expanded_86 hl (by decide) rfl (fun ls hl => ?_)
        refine lv_aload_n hx hb dX1_expanded_88 rfl (lv_at hl 2 rfl) ?_
        refine lv_iload hx hb dX1_expanded_89 (lv_at hl 0 rfl) ?_
        refine lv_aload_n hx hb dX1_expanded_91 rfl (lv_at hl 2 rfl) ?_
        refine lv_iload hx hb dX1_expanded_92 (lv_at hl 0 rfl) ?_
        refine va_lald hx hb hK hP 2 1 rfl rfl (vp_in_nI (n := (n % 26)) (N := 26) (by omega) (by omega)) dX1_expanded_94 ?_
        refine lv_topl (fun t_94 et_94 => ?_)
        have et_94 : t_94 = ((mx (sf 26) (L0 fk) n).1) (n % 26) := et_94.trans (congrArg ((mx (sf 26) (L0 fk) n).1) (nI_clamp (n := (n % 26)) (by omega)))
        subst et_94
        refine lv_lload_n hx hb dX1_expanded_95 rfl (lv_at hl 4 rfl) ?_
        refine lv_ladd hx hb dX1_expanded_96 ?_
        refine lv_lload hx hb dX1_expanded_97 (lv_at hl 5 rfl) ?_
        refine lv_ladd hx hb dX1_expanded_99 ?_
        refine lv_ldc2 (v := 3) hx hb hown (hts _ q288) dX1_expanded_100 ?_
        have hPc := hP.sub (ws' := []) [] rfl
        have hDc := hD.sub (ws' := []) [] (by decide) rfl
        have hKc := hK.sub (tys' := []) [] rfl
        have hFc := va_free (wc := []) hD hS hA [] rfl
        refine va_calll (va_runS (As := [.long (((((mx (sf 26) (L0 fk) n).1) (n % 26)) + ((mx (sf 26) (L0 fk) n).2.2.1)) + ((mx (sf 26) (L0 fk) n).2.2.2)), .long 3]) (rest := [.int (nI (n % 26)), .ref az]) ⟨hx, hb, hml, hown, hts⟩ (metX1_turned l dC dI (((((mx (sf 26) (L0 fk) n).1) (n % 26)) + ((mx (sf 26) (L0 fk) n).2.2.1)) + ((mx (sf 26) (L0 fk) n).2.2.2)) 3 H.size) (va_cwS 2 hts (lw_S q289 q290 q13 q291) rfl rfl rfl (by decide +kernel) ⟨Nat.le_of_ble_eq_true rfl, Nat.le_of_ble_eq_true rfl⟩) ⟨fun a U g mk q => by obtain ⟨q0, q1, qP, qK, qD⟩ := q; exact ⟨q0, q1, qP, va_K.moved (u := U) (U := U.calling g mk a) (Vm.Alike.refl U.vm) qK, qD⟩, fun U hU hW => ⟨rfl, by rw [hU], by rw [hU]; exact hPc, va_K.moved hW.alike hKc, hDc.weaken (fun _ _ _ _ => trivial)⟩⟩ rfl rfl hl.1 rfl (lv_room (Nat.le_of_ble_eq_true rfl)) dX1_expanded_103 ⟨Nat.le_of_ble_eq_true rfl, Nat.le_of_ble_eq_true rfl⟩) hS (fun q _ h => hFc q h) hFc (fun r_103 u t H1 locs ht hvm hw_103 hB hz1 hk1 hS => ?_)
        obtain ⟨u_103, rfl⟩ : ∃ z, z = u := ⟨_, rfl⟩
        have hw_103 : r_103 = rl (((((mx (sf 26) (L0 fk) n).1) (n % 26)) + ((mx (sf 26) (L0 fk) n).2.2.1)) + ((mx (sf 26) (L0 fk) n).2.2.2)) 3 := hw_103
        obtain ⟨hP1, hK1, hD1⟩ := hB
        have hw_103 := hw_103.symm
        subst hw_103
        rw [ht] at hP1
        have hK1 := va_K.moved hvm.symm hK1
        obtain ⟨hP, hD⟩ := va_join (wr := [(h0, .inr (1, [.ref ak, .ref ab, .ref ao])), (ak, .inl (dk, 32, .inl fk)), (az, .inl (ds, 26, .inr (.inl ((mx (sf 26) (L0 fk) n).1)))), (ql, .inl (dl, 2, .inr (.inl ((mx (sf 26) (L0 fk) n).2.1))))]) (w1 := []) hP hD [] [0, 1, 2, 3] rfl rfl (by decide) (by decide) hk1 hFc hP1 hD1
        have hK := (hK.sub (tys' := [(dk, .int), (ds, .long), (dl, .long)]) [0, 1, 2] rfl).app hK1
        generalize H1 = H at hP hS ⊢
        have hP : va_P (dC, dI) vwCl [(h0, .inr (1, [.ref ak, .ref ab, .ref ao])), (ak, .inl (dk, 32, .inl fk)), (az, .inl (ds, 26, .inr (.inl ((mx (sf 26) (L0 fk) n).1)))), (ql, .inl (dl, 2, .inr (.inl ((mx (sf 26) (L0 fk) n).2.1))))] H := hP
        have hD : va_D A [(h0, .inr (1, [.ref ak, .ref ab, .ref ao])), (ak, .inl (dk, 32, .inl fk)), (az, .inl (ds, 26, .inr (.inl ((mx (sf 26) (L0 fk) n).1)))), (ql, .inl (dl, 2, .inr (.inl ((mx (sf 26) (L0 fk) n).2.1))))] := hD
        have hK : va_K (dC, dI) vwCl [(dk, .int), (ds, .long), (dl, .long)] s := hK
        refine va_last hx hb hK hP hD hS 2 1 rfl rfl (vp_in_nI (n := (n % 26)) (N := 26) (by omega) (by omega)) dX1_expanded_106 (fun H locs hP hD hS => ?_)
        rw [nI_clamp (n := (n % 26)) (by omega)] at hP hD
        have eg_106 : vp_updL ((mx (sf 26) (L0 fk) n).1) (n % 26) (rl (((((mx (sf 26) (L0 fk) n).1) (n % 26)) + ((mx (sf 26) (L0 fk) n).2.2.1)) + ((mx (sf 26) (L0 fk) n).2.2.2)) 3) = (mx (sf 26) (L0 fk) (n + 1)).1 := rfl
        rw [eg_106] at hP hD
        have hP : va_P (dC, dI) vwCl [(h0, .inr (1, [.ref ak, .ref ab, .ref ao])), (ak, .inl (dk, 32, .inl fk)), (az, .inl (ds, 26, .inr (.inl ((mx (sf 26) (L0 fk) (n + 1)).1)))), (ql, .inl (dl, 2, .inr (.inl ((mx (sf 26) (L0 fk) n).2.1))))] H := hP
        have hD : va_D A [(h0, .inr (1, [.ref ak, .ref ab, .ref ao])), (ak, .inl (dk, 32, .inl fk)), (az, .inl (ds, 26, .inr (.inl ((mx (sf 26) (L0 fk) (n + 1)).1)))), (ql, .inl (dl, 2, .inr (.inl ((mx (sf 26) (L0 fk) n).2.1))))] := hD
        refine lv_aload_n hx hb dX1_expanded_107 rfl (lv_at hl 2 rfl) ?_
        refine lv_iload hx hb dX1_expanded_108 (lv_at hl 0 rfl) ?_
        refine va_lald hx hb hK hP 2 1 rfl rfl (vp_in_nI (n := (n % 26)) (N := 26) (by omega) (by omega)) dX1_expanded_110 ?_
        refine lv_topl (fun t_110 et_110 => ?_)
        have et_110 : t_110 = (mx (sf 26) (L0 fk) (n + 1)).2.2.1 := et_110.trans ((congrArg ((mx (sf 26) (L0 fk) (n + 1)).1) (nI_clamp (n := (n % 26)) (by omega))).trans (mx_a _ _ n))
        subst et_110
        refine lv_lstore_n (lv' := [(3, .long ((mx (sf 26) (L0 fk) (n + 1)).2.2.1)), (8, .int (nI (n % 26))), (0, .ref h0), (1, .ref az), (2, .ref ql), (5, .long ((mx (sf 26) (L0 fk) n).2.2.2)), (7, .int (nI n))]) hx hb dX1_expanded_111 rfl hl (by decide) rfl (fun ls hl => ?_)
        refine lv_aload_n hx hb dX1_expanded_112 rfl (lv_at hl 4 rfl) ?_
        refine lv_iload hx hb dX1_expanded_113 (lv_at hl 6 rfl) ?_
        refine lv_iconst (v := nI 2) hx hb dX1_expanded_115 (by decide) ?_
        refine lv_irem hx hb dX1_expanded_116 (by decide) ?_
        refine lv_topi (fun t_116 et_116 => ?_)
        have et_116 : t_116 = nI (n % 2) := et_116.trans (pk_rem (by omega) (by omega) (by omega))
        subst et_116
        refine lv_aload_n hx hb dX1_expanded_117 rfl (lv_at hl 4 rfl) ?_
        refine lv_iload hx hb dX1_expanded_118 (lv_at hl 6 rfl) ?_
        refine lv_iconst (v := nI 2) hx hb dX1_expanded_120 (by decide) ?_
        refine lv_irem hx hb dX1_expanded_121 (by decide) ?_
        refine lv_topi (fun t_121 et_121 => ?_)
        have et_121 : t_121 = nI (n % 2) := et_121.trans (pk_rem (by omega) (by omega) (by omega))
        subst et_121
        refine va_lald hx hb hK hP 3 2 rfl rfl (vp_in_nI (n := (n % 2)) (N := 2) (by omega) (by omega)) dX1_expanded_122 ?_
        refine lv_topl (fun t_122 et_122 => ?_)
        have et_122 : t_122 = ((mx (sf 26) (L0 fk) n).2.1) (n % 2) := et_122.trans (congrArg ((mx (sf 26) (L0 fk) n).2.1) (nI_clamp (n := (n % 2)) (by omega)))
        subst et_122
        refine lv_lload_n hx hb dX1_expanded_123 rfl (lv_at hl 0 rfl) ?_
        refine lv_ladd hx hb dX1_expanded_124 ?_
        refine lv_lload hx hb dX1_expanded_125 (lv_at hl 5 rfl) ?_
        refine lv_ladd hx hb dX1_expanded_127 ?_
        refine lv_lload_n hx hb dX1_expanded_128 rfl (lv_at hl 0 rfl) ?_
        refine lv_lload hx hb dX1_expanded_129 (lv_at hl 5 rfl) ?_
        refine lv_ladd hx hb dX1_expanded_131 ?_
        have hPc := hP.sub (ws' := []) [] rfl
        have hDc := hD.sub (ws' := []) [] (by decide) rfl
        have hKc := hK.sub (tys' := []) [] rfl
        have hFc := va_free (wc := []) hD hS hA [] rfl
        refine va_calll (va_runS (As := [.long (((((mx (sf 26) (L0 fk) n).2.1) (n % 2)) + ((mx (sf 26) (L0 fk) (n + 1)).2.2.1)) + ((mx (sf 26) (L0 fk) n).2.2.2)), .long (((mx (sf 26) (L0 fk) (n + 1)).2.2.1) + ((mx (sf 26) (L0 fk) n).2.2.2))]) (rest := [.int (nI (n % 2)), .ref ql]) ⟨hx, hb, hml, hown, hts⟩ (metX1_turned l dC dI (((((mx (sf 26) (L0 fk) n).2.1) (n % 2)) + ((mx (sf 26) (L0 fk) (n + 1)).2.2.1)) + ((mx (sf 26) (L0 fk) n).2.2.2)) (((mx (sf 26) (L0 fk) (n + 1)).2.2.1) + ((mx (sf 26) (L0 fk) n).2.2.2)) H.size) (va_cwS 2 hts (lw_S q289 q290 q13 q291) rfl rfl rfl (by decide +kernel) ⟨Nat.le_of_ble_eq_true rfl, Nat.le_of_ble_eq_true rfl⟩) ⟨fun a U g mk q => by obtain ⟨q0, q1, qP, qK, qD⟩ := q; exact ⟨q0, q1, qP, va_K.moved (u := U) (U := U.calling g mk a) (Vm.Alike.refl U.vm) qK, qD⟩, fun U hU hW => ⟨rfl, by rw [hU], by rw [hU]; exact hPc, va_K.moved hW.alike hKc, hDc.weaken (fun _ _ _ _ => trivial)⟩⟩ rfl rfl hl.1 rfl (lv_room (Nat.le_of_ble_eq_true rfl)) dX1_expanded_132 ⟨Nat.le_of_ble_eq_true rfl, Nat.le_of_ble_eq_true rfl⟩) hS (fun q _ h => hFc q h) hFc (fun r_132 u t H1 locs ht hvm hw_132 hB hz1 hk1 hS => ?_)
        obtain ⟨u_132, rfl⟩ : ∃ z, z = u := ⟨_, rfl⟩
        have hw_132 : r_132 = rl (((((mx (sf 26) (L0 fk) n).2.1) (n % 2)) + ((mx (sf 26) (L0 fk) (n + 1)).2.2.1)) + ((mx (sf 26) (L0 fk) n).2.2.2)) (((mx (sf 26) (L0 fk) (n + 1)).2.2.1) + ((mx (sf 26) (L0 fk) n).2.2.2)) := hw_132
        obtain ⟨hP1, hK1, hD1⟩ := hB
        have hw_132 := hw_132.symm
        subst hw_132
        rw [ht] at hP1
        have hK1 := va_K.moved hvm.symm hK1
        obtain ⟨hP, hD⟩ := va_join (wr := [(h0, .inr (1, [.ref ak, .ref ab, .ref ao])), (ak, .inl (dk, 32, .inl fk)), (az, .inl (ds, 26, .inr (.inl ((mx (sf 26) (L0 fk) (n + 1)).1)))), (ql, .inl (dl, 2, .inr (.inl ((mx (sf 26) (L0 fk) n).2.1))))]) (w1 := []) hP hD [] [0, 1, 2, 3] rfl rfl (by decide) (by decide) hk1 hFc hP1 hD1
        have hK := (hK.sub (tys' := [(dk, .int), (ds, .long), (dl, .long)]) [0, 1, 2] rfl).app hK1
        generalize H1 = H at hP hS ⊢
        have hP : va_P (dC, dI) vwCl [(h0, .inr (1, [.ref ak, .ref ab, .ref ao])), (ak, .inl (dk, 32, .inl fk)), (az, .inl (ds, 26, .inr (.inl ((mx (sf 26) (L0 fk) (n + 1)).1)))), (ql, .inl (dl, 2, .inr (.inl ((mx (sf 26) (L0 fk) n).2.1))))] H := hP
        have hD : va_D A [(h0, .inr (1, [.ref ak, .ref ab, .ref ao])), (ak, .inl (dk, 32, .inl fk)), (az, .inl (ds, 26, .inr (.inl ((mx (sf 26) (L0 fk) (n + 1)).1)))), (ql, .inl (dl, 2, .inr (.inl ((mx (sf 26) (L0 fk) n).2.1))))] := hD
        have hK : va_K (dC, dI) vwCl [(dk, .int), (ds, .long), (dl, .long)] s := hK
        refine va_last hx hb hK hP hD hS 3 2 rfl rfl (vp_in_nI (n := (n % 2)) (N := 2) (by omega) (by omega)) dX1_expanded_135 (fun H locs hP hD hS => ?_)
        rw [nI_clamp (n := (n % 2)) (by omega)] at hP hD
        have eg_135 : vp_updL ((mx (sf 26) (L0 fk) n).2.1) (n % 2) (rl (((((mx (sf 26) (L0 fk) n).2.1) (n % 2)) + ((mx (sf 26) (L0 fk) (n + 1)).2.2.1)) + ((mx (sf 26) (L0 fk) n).2.2.2)) (((mx (sf 26) (L0 fk) (n + 1)).2.2.1) + ((mx (sf 26) (L0 fk) n).2.2.2))) = (mx (sf 26) (L0 fk) (n + 1)).2.1 := rfl
        rw [eg_135] at hP hD
        have hP : va_P (dC, dI) vwCl [(h0, .inr (1, [.ref ak, .ref ab, .ref ao])), (ak, .inl (dk, 32, .inl fk)), (az, .inl (ds, 26, .inr (.inl ((mx (sf 26) (L0 fk) (n + 1)).1)))), (ql, .inl (dl, 2, .inr (.inl ((mx (sf 26) (L0 fk) (n + 1)).2.1))))] H := hP
        have hD : va_D A [(h0, .inr (1, [.ref ak, .ref ab, .ref ao])), (ak, .inl (dk, 32, .inl fk)), (az, .inl (ds, 26, .inr (.inl ((mx (sf 26) (L0 fk) (n + 1)).1)))), (ql, .inl (dl, 2, .inr (.inl ((mx (sf 26) (L0 fk) (n + 1)).2.1))))] := hD
        refine lv_aload_n hx hb dX1_expanded_136 rfl (lv_at hl 4 rfl) ?_
        refine lv_iload hx hb dX1_expanded_137 (lv_at hl 6 rfl) ?_
        refine lv_iconst (v := nI 2) hx hb dX1_expanded_139 (by decide) ?_
        refine lv_irem hx hb dX1_expanded_140 (by decide) ?_
        refine lv_topi (fun t_140 et_140 => ?_)
        have et_140 : t_140 = nI (n % 2) := et_140.trans (pk_rem (by omega) (by omega) (by omega))
        subst et_140
        refine va_lald hx hb hK hP 3 2 rfl rfl (vp_in_nI (n := (n % 2)) (N := 2) (by omega) (by omega)) dX1_expanded_141 ?_
        refine lv_topl (fun t_141 et_141 => ?_)
        have et_141 : t_141 = (mx (sf 26) (L0 fk) (n + 1)).2.2.2 := et_141.trans ((congrArg ((mx (sf 26) (L0 fk) (n + 1)).2.1) (nI_clamp (n := (n % 2)) (by omega))).trans (mx_b _ _ n))
        subst et_141
        refine lv_lstore (lv' := [(5, .long ((mx (sf 26) (L0 fk) (n + 1)).2.2.2)), (3, .long ((mx (sf 26) (L0 fk) (n + 1)).2.2.1)), (8, .int (nI (n % 26))), (0, .ref h0), (1, .ref az), (2, .ref ql), (7, .int (nI n))]) hx hb dX1_expanded_142 hl (by decide) rfl (fun ls hl => ?_)
        refine lv_iinc (v := nI (n + 1)) (lv' := [(7, .int (nI (n + 1))), (5, .long ((mx (sf 26) (L0 fk) (n + 1)).2.2.2)), (3, .long ((mx (sf 26) (L0 fk) (n + 1)).2.2.1)), (8, .int (nI (n % 26))), (0, .ref h0), (1, .ref az), (2, .ref ql)]) hx hb dX1_expanded_144 hl (k := 6) rfl (nI_1 n) (by decide) rfl (fun ls hl => ?_)
        refine lv_goto (tgt := 72) hx hb dX1_expanded_147 (by decide) ?_
        refine W.widen (k := 2) (n := 28) (Nat.le_of_ble_eq_true rfl) (Nat.le_of_ble_eq_true rfl) ?_
        exact ih az ds ql dl (n + 1) (by omega) (by omega) (hK.sub [0, 1, 2] rfl) _ _ (hP.sub (ws' := [(h0, .inr (1, [.ref ak, .ref ab, .ref ao])), (ak, .inl (dk, 32, .inl fk)), (az, .inl (ds, 26, .inr (.inl ((mx (sf 26) (L0 fk) (n + 1)).1)))), (ql, .inl (dl, 2, .inr (.inl ((mx (sf 26) (L0 fk) (n + 1)).2.1))))]) [0, 1, 2, 3] rfl) (hD.sub (ws' := [(h0, .inr (1, [.ref ak, .ref ab, .ref ao])), (ak, .inl (dk, 32, .inl fk)), (az, .inl (ds, 26, .inr (.inl ((mx (sf 26) (L0 fk) (n + 1)).1)))), (ql, .inl (dl, 2, .inr (.inl ((mx (sf 26) (L0 fk) (n + 1)).2.1))))]) [0, 1, 2, 3] (by decide) rfl) hS _ (lv_sub hl [4, 5, 6, 2, 1, 0] rfl)
  have b1 : ∀ (az : Nat) (ds : ClassId), va_K (dC, dI) vwCl [(dk, .int), (ds, .long)] s → ∀ (H : Heap) (locs : List Loc), va_P (dC, dI) vwCl [(h0, .inr (1, [.ref ak, .ref ab, .ref ao])), (ak, .inl (dk, 32, .inl fk)), (az, .inl (ds, 26, .inr (.inl (sf 26))))] H → va_D A [(h0, .inr (1, [.ref ak, .ref ab, .ref ao])), (ak, .inl (dk, 32, .inl fk)), (az, .inl (ds, 26, .inr (.inl (sf 26))))] → va_S A s.heap H locs → ∀ (ls : Array Slot), lv_has ls 9 [(0, .ref h0), (1, .ref az)] → W p l e (headSpec wsX1_expanded ({ frames := 1, cells := 2, slots := 28, locals := 24 })).room s m ([.ref h0] : List Value).toArray below meth c H locs (1) (26) (MQ below (va_Qr (fun (u : Unit) => True) (BX1_expanded dC dI A h0 ak ab ao dk fk) A) ([.ref h0] : List Value).toArray s 2 28 A) (F0 m 37 ls []) := by
    intro az ds  hK H locs hP hD hS ls hl
    refine lv_iconst (v := nI 2) hx hb dX1_expanded_37 (by decide) ?_
    refine va_newa (atype := .long) (ty := .long) (N' := 2) (a0 := (2, .inr (.inl (fun _ => 0)))) hx hb (hts _ q223) rfl hK hP hD hS hA (fun _ => rfl) (nI_pos (n := 2) (by omega)) (nI_clamp (n := 2) (by omega)) (Nat.le_of_ble_eq_true rfl) (Nat.le_of_ble_eq_true rfl) (Nat.le_of_ble_eq_true rfl) dX1_expanded_38 (fun q_38 d_38 H hK hP hD hS => ?_)
    have hP : va_P (dC, dI) vwCl [(h0, .inr (1, [.ref ak, .ref ab, .ref ao])), (ak, .inl (dk, 32, .inl fk)), (az, .inl (ds, 26, .inr (.inl (sf 26)))), (q_38, .inl (d_38, 2, .inr (.inl (fun _ => 0))))] H := hP
    have hD : va_D A [(h0, .inr (1, [.ref ak, .ref ab, .ref ao])), (ak, .inl (dk, 32, .inl fk)), (az, .inl (ds, 26, .inr (.inl (sf 26)))), (q_38, .inl (d_38, 2, .inr (.inl (fun _ => 0))))] := hD
    have hK : va_K (dC, dI) vwCl [(dk, .int), (ds, .long), (d_38, .long)] s := hK
    refine lv_dup hx hb dX1_expanded_40 rfl ?_
    refine lv_iconst (v := nI 0) hx hb dX1_expanded_41 (by decide) ?_
    refine lv_aload_n hx hb dX1_expanded_42 rfl (lv_at hl 0 rfl) ?_
    refine va_get (D := (dC, dI)) (ci := 1) (v := .ref ak) (C := RX1) (T := TX1) (N := 3) hx hb hts in_X1 hown hK hP 0 rfl rfl 0 (by decide) (hts _ q242) (fun _ h9 => h9) rfl dX1_expanded_43 ?_
    refine lv_iconst (v := nI 0) hx hb dX1_expanded_46 (by decide) ?_
    have hPc := hP.sub (ws' := [(ak, .inl (dk, 32, .inl fk))]) [1] rfl
    have hDc := hD.sub (ws' := [(ak, .inl (dk, 32, .inl fk))]) [1] (by decide) rfl
    have hKc := hK.sub (tys' := [(dk, .int)]) [0] rfl
    have hFc := va_free (wc := [(ak, .inl (dk, 32, .inl fk))]) hD hS hA [1] rfl
    refine va_calll (va_runS (As := [.ref ak, .int (nI 0)]) (rest := [.int (nI 0), .ref q_38, .ref q_38]) ⟨hx, hb, hml, hown, hts⟩ (metX1_told l dC dI ak dk 32 0 fk H.size (by omega) (by omega) hfk) (va_cwS 2 hts (lw_S q285 q286 q13 q287) rfl rfl rfl (by decide +kernel) ⟨Nat.le_of_ble_eq_true rfl, Nat.le_of_ble_eq_true rfl⟩) ⟨fun a U g mk q => by obtain ⟨q0, q1, qP, qK, qD⟩ := q; exact ⟨q0, q1, qP, va_K.moved (u := U) (U := U.calling g mk a) (Vm.Alike.refl U.vm) qK, qD⟩, fun U hU hW => ⟨rfl, by rw [hU], by rw [hU]; exact hPc, va_K.moved hW.alike hKc, hDc.weaken (fun _ _ _ _ => trivial)⟩⟩ rfl rfl hl.1 rfl (lv_room (Nat.le_of_ble_eq_true rfl)) dX1_expanded_47 ⟨Nat.le_of_ble_eq_true rfl, Nat.le_of_ble_eq_true rfl⟩) hS (fun q _ h => hFc q h) hFc (fun r_47 u t H1 locs ht hvm hw_47 hB hz1 hk1 hS => ?_)
    obtain ⟨u_47, rfl⟩ : ∃ z, z = u := ⟨_, rfl⟩
    have hw_47 : r_47 = hw fk 0 8 := hw_47
    obtain ⟨hP1, hK1, hD1⟩ := hB
    have hw_47 := hw_47.symm
    subst hw_47
    rw [ht] at hP1
    have hK1 := va_K.moved hvm.symm hK1
    obtain ⟨hP, hD⟩ := va_join (wr := [(h0, .inr (1, [.ref ak, .ref ab, .ref ao])), (az, .inl (ds, 26, .inr (.inl (sf 26)))), (q_38, .inl (d_38, 2, .inr (.inl (fun _ => 0))))]) (w1 := [(ak, .inl (dk, 32, .inl fk))]) hP hD [1] [0, 2, 3] rfl rfl (by decide) (by decide) hk1 hFc hP1 hD1
    have hK := (hK.sub (tys' := [(ds, .long), (d_38, .long)]) [1, 2] rfl).app hK1
    generalize H1 = H at hP hS ⊢
    have hP : va_P (dC, dI) vwCl [(h0, .inr (1, [.ref ak, .ref ab, .ref ao])), (az, .inl (ds, 26, .inr (.inl (sf 26)))), (q_38, .inl (d_38, 2, .inr (.inl (fun _ => 0)))), (ak, .inl (dk, 32, .inl fk))] H := hP
    have hD : va_D A [(h0, .inr (1, [.ref ak, .ref ab, .ref ao])), (az, .inl (ds, 26, .inr (.inl (sf 26)))), (q_38, .inl (d_38, 2, .inr (.inl (fun _ => 0)))), (ak, .inl (dk, 32, .inl fk))] := hD
    have hK : va_K (dC, dI) vwCl [(ds, .long), (d_38, .long), (dk, .int)] s := hK
    refine va_last hx hb hK hP hD hS 2 1 rfl rfl (vp_in_nI (n := 0) (N := 2) (by omega) (by omega)) dX1_expanded_50 (fun H locs hP hD hS => ?_)
    rw [nI_clamp (n := 0) (by omega)] at hP hD
    have eg_50 : vp_updL (fun _ => 0) 0 (hw fk 0 8) = vp_updL (fun _ => 0) 0 (hw fk 0 8) := rfl
    rw [eg_50] at hP hD
    have hP : va_P (dC, dI) vwCl [(h0, .inr (1, [.ref ak, .ref ab, .ref ao])), (az, .inl (ds, 26, .inr (.inl (sf 26)))), (q_38, .inl (d_38, 2, .inr (.inl (vp_updL (fun _ => 0) 0 (hw fk 0 8))))), (ak, .inl (dk, 32, .inl fk))] H := hP
    have hD : va_D A [(h0, .inr (1, [.ref ak, .ref ab, .ref ao])), (az, .inl (ds, 26, .inr (.inl (sf 26)))), (q_38, .inl (d_38, 2, .inr (.inl (vp_updL (fun _ => 0) 0 (hw fk 0 8))))), (ak, .inl (dk, 32, .inl fk))] := hD
    refine lv_dup hx hb dX1_expanded_51 rfl ?_
    refine lv_iconst (v := nI 1) hx hb dX1_expanded_52 (by decide) ?_
    refine lv_aload_n hx hb dX1_expanded_53 rfl (lv_at hl 0 rfl) ?_
    refine va_get (D := (dC, dI)) (ci := 1) (v := .ref ak) (C := RX1) (T := TX1) (N := 3) hx hb hts in_X1 hown hK hP 0 rfl rfl 0 (by decide) (hts _ q242) (fun _ h9 => h9) rfl dX1_expanded_54 ?_
    refine lv_bipush (v := nI 8) hx hb dX1_expanded_57 (by decide) ?_
    have hPc := hP.sub (ws' := [(ak, .inl (dk, 32, .inl fk))]) [3] rfl
    have hDc := hD.sub (ws' := [(ak, .inl (dk, 32, .inl fk))]) [3] (by decide) rfl
    have hKc := hK.sub (tys' := [(dk, .int)]) [2] rfl
    have hFc := va_free (wc := [(ak, .inl (dk, 32, .inl fk))]) hD hS hA [3] rfl
    refine va_calll (va_runS (As := [.ref ak, .int (nI 8)]) (rest := [.int (nI 1), .ref q_38, .ref q_38]) ⟨hx, hb, hml, hown, hts⟩ (metX1_told l dC dI ak dk 32 8 fk H.size (by omega) (by omega) hfk) (va_cwS 2 hts (lw_S q285 q286 q13 q287) rfl rfl rfl (by decide +kernel) ⟨Nat.le_of_ble_eq_true rfl, Nat.le_of_ble_eq_true rfl⟩) ⟨fun a U g mk q => by obtain ⟨q0, q1, qP, qK, qD⟩ := q; exact ⟨q0, q1, qP, va_K.moved (u := U) (U := U.calling g mk a) (Vm.Alike.refl U.vm) qK, qD⟩, fun U hU hW => ⟨rfl, by rw [hU], by rw [hU]; exact hPc, va_K.moved hW.alike hKc, hDc.weaken (fun _ _ _ _ => trivial)⟩⟩ rfl rfl hl.1 rfl (lv_room (Nat.le_of_ble_eq_true rfl)) dX1_expanded_59 ⟨Nat.le_of_ble_eq_true rfl, Nat.le_of_ble_eq_true rfl⟩) hS (fun q _ h => hFc q h) hFc (fun r_59 u t H1 locs ht hvm hw_59 hB hz1 hk1 hS => ?_)
    obtain ⟨u_59, rfl⟩ : ∃ z, z = u := ⟨_, rfl⟩
    have hw_59 : r_59 = hw fk 8 8 := hw_59
    obtain ⟨hP1, hK1, hD1⟩ := hB
    have hw_59 := hw_59.symm
    subst hw_59
    rw [ht] at hP1
    have hK1 := va_K.moved hvm.symm hK1
    obtain ⟨hP, hD⟩ := va_join (wr := [(h0, .inr (1, [.ref ak, .ref ab, .ref ao])), (az, .inl (ds, 26, .inr (.inl (sf 26)))), (q_38, .inl (d_38, 2, .inr (.inl (vp_updL (fun _ => 0) 0 (hw fk 0 8)))))]) (w1 := [(ak, .inl (dk, 32, .inl fk))]) hP hD [3] [0, 1, 2] rfl rfl (by decide) (by decide) hk1 hFc hP1 hD1
    have hK := (hK.sub (tys' := [(ds, .long), (d_38, .long)]) [0, 1] rfl).app hK1
    generalize H1 = H at hP hS ⊢
    have hP : va_P (dC, dI) vwCl [(h0, .inr (1, [.ref ak, .ref ab, .ref ao])), (az, .inl (ds, 26, .inr (.inl (sf 26)))), (q_38, .inl (d_38, 2, .inr (.inl (vp_updL (fun _ => 0) 0 (hw fk 0 8))))), (ak, .inl (dk, 32, .inl fk))] H := hP
    have hD : va_D A [(h0, .inr (1, [.ref ak, .ref ab, .ref ao])), (az, .inl (ds, 26, .inr (.inl (sf 26)))), (q_38, .inl (d_38, 2, .inr (.inl (vp_updL (fun _ => 0) 0 (hw fk 0 8))))), (ak, .inl (dk, 32, .inl fk))] := hD
    have hK : va_K (dC, dI) vwCl [(ds, .long), (d_38, .long), (dk, .int)] s := hK
    refine va_last hx hb hK hP hD hS 2 1 rfl rfl (vp_in_nI (n := 1) (N := 2) (by omega) (by omega)) dX1_expanded_62 (fun H locs hP hD hS => ?_)
    rw [nI_clamp (n := 1) (by omega)] at hP hD
    have eg_62 : vp_updL (vp_updL (fun _ => 0) 0 (hw fk 0 8)) 1 (hw fk 8 8) = L0 fk := rfl
    rw [eg_62] at hP hD
    have hP : va_P (dC, dI) vwCl [(h0, .inr (1, [.ref ak, .ref ab, .ref ao])), (az, .inl (ds, 26, .inr (.inl (sf 26)))), (q_38, .inl (d_38, 2, .inr (.inl (L0 fk)))), (ak, .inl (dk, 32, .inl fk))] H := hP
    have hD : va_D A [(h0, .inr (1, [.ref ak, .ref ab, .ref ao])), (az, .inl (ds, 26, .inr (.inl (sf 26)))), (q_38, .inl (d_38, 2, .inr (.inl (L0 fk)))), (ak, .inl (dk, 32, .inl fk))] := hD
    refine lv_astore_n (lv' := [(2, .ref q_38), (0, .ref h0), (1, .ref az)]) hx hb dX1_expanded_63 rfl hl (by decide) rfl (fun ls hl => ?_)
    refine lv_lconst (v := 0) hx hb dX1_expanded_64 rfl ?_
    refine lv_lstore_n (lv' := [(3, .long 0), (2, .ref q_38), (0, .ref h0), (1, .ref az)]) hx hb dX1_expanded_65 rfl hl (by decide) rfl (fun ls hl => ?_)
    refine lv_lconst (v := 0) hx hb dX1_expanded_66 rfl ?_
    refine lv_lstore (lv' := [(5, .long 0), (3, .long 0), (2, .ref q_38), (0, .ref h0), (1, .ref az)]) hx hb dX1_expanded_67 hl (by decide) rfl (fun ls hl => ?_)
    refine lv_iconst (v := nI 0) hx hb dX1_expanded_69 (by decide) ?_
    refine lv_istore (lv' := [(7, .int (nI 0)), (5, .long 0), (3, .long 0), (2, .ref q_38), (0, .ref h0), (1, .ref az)]) hx hb dX1_expanded_70 hl (by decide) rfl (fun ls hl => ?_)
    refine W.widen (k := 2) (n := 28) (Nat.le_of_ble_eq_true rfl) (Nat.le_of_ble_eq_true rfl) ?_
    exact l2 _ az ds q_38 d_38 0 (Nat.lt_succ_self _) (by omega) (hK.sub [2, 0, 1] rfl) _ _ (hP.sub (ws' := [(h0, .inr (1, [.ref ak, .ref ab, .ref ao])), (ak, .inl (dk, 32, .inl fk)), (az, .inl (ds, 26, .inr (.inl ((mx (sf 26) (L0 fk) 0).1)))), (q_38, .inl (d_38, 2, .inr (.inl ((mx (sf 26) (L0 fk) 0).2.1))))]) [0, 3, 1, 2] rfl) (hD.sub (ws' := [(h0, .inr (1, [.ref ak, .ref ab, .ref ao])), (ak, .inl (dk, 32, .inl fk)), (az, .inl (ds, 26, .inr (.inl ((mx (sf 26) (L0 fk) 0).1)))), (q_38, .inl (d_38, 2, .inr (.inl ((mx (sf 26) (L0 fk) 0).2.1))))]) [0, 3, 1, 2] (by decide) rfl) hS _ (lv_sub hl [4, 5, 3, 2, 1, 0] rfl)
  have l1 : ∀ (fu : Nat), ∀ (az : Nat) (ds : ClassId) (k : Nat), (26 - k) < fu → k ≤ 25 → va_K (dC, dI) vwCl [(dk, .int), (ds, .long)] s → ∀ (H : Heap) (locs : List Loc), va_P (dC, dI) vwCl [(h0, .inr (1, [.ref ak, .ref ab, .ref ao])), (ak, .inl (dk, 32, .inl fk)), (az, .inl (ds, 26, .inr (.inl (sf (k + 1)))))] H → va_D A [(h0, .inr (1, [.ref ak, .ref ab, .ref ao])), (ak, .inl (dk, 32, .inl fk)), (az, .inl (ds, 26, .inr (.inl (sf (k + 1)))))] → va_S A s.heap H locs → ∀ (ls : Array Slot), lv_has ls 9 [(0, .ref h0), (1, .ref az), (2, .int (nI (k + 1)))] → W p l e (headSpec wsX1_expanded ({ frames := 1, cells := 2, slots := 28, locals := 24 })).room s m ([.ref h0] : List Value).toArray below meth c H locs (1) (26) (MQ below (va_Qr (fun (u : Unit) => True) (BX1_expanded dC dI A h0 ak ab ao dk fk) A) ([.ref h0] : List Value).toArray s 2 28 A) (F0 m 13 ls []) := by
    intro fu
    induction fu with
    | zero => intro az ds k hme; exact absurd hme (Nat.not_lt_zero _)
    | succ fu ih =>
      intro az ds k hme hk25 hK H locs hP hD hS ls hl
      refine lv_iload_n hx hb dX1_expanded_13 rfl (lv_at hl 2 rfl) ?_
      refine lv_aload_n hx hb dX1_expanded_14 rfl (lv_at hl 1 rfl) ?_
      refine va_alen (v := nI 26) hx hb hK hP 2 1 rfl rfl rfl dX1_expanded_15 ?_
      refine lv_icmp_ge (tgt := 37) hx hb dX1_expanded_16 (by decide) (fun c_16 => ?_) (fun c_16 => ?_)
      · have hk2 : k = 25 := by
          rcases Nat.lt_or_ge (k + 1) 26 with q | q
          · exact absurd c_16 (nI_ge q (by omega))
          · omega
        subst hk2
        exact b1 az ds (hK.sub [0, 1] rfl) _ _ (hP.sub (ws' := [(h0, .inr (1, [.ref ak, .ref ab, .ref ao])), (ak, .inl (dk, 32, .inl fk)), (az, .inl (ds, 26, .inr (.inl (sf 26))))]) [0, 1, 2] rfl) (hD.sub (ws' := [(h0, .inr (1, [.ref ak, .ref ab, .ref ao])), (ak, .inl (dk, 32, .inl fk)), (az, .inl (ds, 26, .inr (.inl (sf 26))))]) [0, 1, 2] (by decide) rfl) hS _ (lv_sub hl [0, 1] rfl)
      · have hlt : k + 1 < 26 := by
          rcases Nat.lt_or_ge (k + 1) 26 with q | q
          · exact q
          · exact absurd (nI_le q (by omega)) c_16
        refine lv_aload_n hx hb dX1_expanded_19 rfl (lv_at hl 1 rfl) ?_
        refine lv_iload_n hx hb dX1_expanded_20 rfl (lv_at hl 2 rfl) ?_
        refine lv_aload_n hx hb dX1_expanded_21 rfl (lv_at hl 1 rfl) ?_
        refine lv_iload_n hx hb dX1_expanded_22 rfl (lv_at hl 2 rfl) ?_
        refine lv_iconst (v := nI 1) hx hb dX1_expanded_23 (by decide) ?_
        refine lv_isub hx hb dX1_expanded_24 ?_
        refine lv_topi (fun t_24 et_24 => ?_)
        have et_24 : t_24 = nI k := et_24.trans (pk_sub (a := k + 1) (b := 1) (by omega))
        subst et_24
        refine va_lald hx hb hK hP 2 1 rfl rfl (vp_in_nI (n := k) (N := 26) (by omega) (by omega)) dX1_expanded_25 ?_
        refine lv_topl (fun t_25 et_25 => ?_)
        have et_25 : t_25 = (sf (k + 1)) k := et_25.trans (congrArg (sf (k + 1)) (nI_clamp (n := k) (by omega)))
        subst et_25
        refine lv_ldc2 (v := -7046029254386353131) hx hb hown (hts _ q284) dX1_expanded_26 ?_
        refine lv_ladd hx hb dX1_expanded_29 ?_
        refine va_last hx hb hK hP hD hS 2 1 rfl rfl (vp_in_nI (n := (k + 1)) (N := 26) (by omega) (by omega)) dX1_expanded_30 (fun H locs hP hD hS => ?_)
        rw [nI_clamp (n := (k + 1)) (by omega)] at hP hD
        have eg_30 : vp_updL (sf (k + 1)) (k + 1) (((sf (k + 1)) k) + (-7046029254386353131)) = sf (k + 1 + 1) := sf_s k
        rw [eg_30] at hP hD
        have hP : va_P (dC, dI) vwCl [(h0, .inr (1, [.ref ak, .ref ab, .ref ao])), (ak, .inl (dk, 32, .inl fk)), (az, .inl (ds, 26, .inr (.inl (sf (k + 1 + 1)))))] H := hP
        have hD : va_D A [(h0, .inr (1, [.ref ak, .ref ab, .ref ao])), (ak, .inl (dk, 32, .inl fk)), (az, .inl (ds, 26, .inr (.inl (sf (k + 1 + 1)))))] := hD
        refine lv_iinc (v := nI (k + 1 + 1)) (lv' := [(2, .int (nI (k + 1 + 1))), (0, .ref h0), (1, .ref az)]) hx hb dX1_expanded_31 hl (k := 2) rfl (nI_1 (k + 1)) (by decide) rfl (fun ls hl => ?_)
        refine lv_goto (tgt := 13) hx hb dX1_expanded_34 (by decide) ?_
        exact ih az ds (k + 1) (by omega) (by omega) (hK.sub [0, 1] rfl) _ _ (hP.sub (ws' := [(h0, .inr (1, [.ref ak, .ref ab, .ref ao])), (ak, .inl (dk, 32, .inl fk)), (az, .inl (ds, 26, .inr (.inl (sf ((k + 1) + 1)))))]) [0, 1, 2] rfl) (hD.sub (ws' := [(h0, .inr (1, [.ref ak, .ref ab, .ref ao])), (ak, .inl (dk, 32, .inl fk)), (az, .inl (ds, 26, .inr (.inl (sf ((k + 1) + 1)))))]) [0, 1, 2] (by decide) rfl) hS _ (lv_sub hl [1, 2, 0] rfl)
  refine lv_bipush (v := nI 26) hx hb dX1_expanded_0 (by decide) ?_
  refine va_newa (atype := .long) (ty := .long) (N' := 26) (a0 := (26, .inr (.inl (fun _ => 0)))) hx hb (hts _ q223) rfl hK hP hD hS hA (fun _ => rfl) (nI_pos (n := 26) (by omega)) (nI_clamp (n := 26) (by omega)) (Nat.le_of_ble_eq_true rfl) (Nat.le_of_ble_eq_true rfl) (Nat.le_of_ble_eq_true rfl) dX1_expanded_2 (fun q_2 d_2 H hK hP hD hS => ?_)
  have hP : va_P (dC, dI) vwCl [(h0, .inr (1, [.ref ak, .ref ab, .ref ao])), (ak, .inl (dk, 32, .inl fk)), (q_2, .inl (d_2, 26, .inr (.inl (fun _ => 0))))] H := hP
  have hD : va_D A [(h0, .inr (1, [.ref ak, .ref ab, .ref ao])), (ak, .inl (dk, 32, .inl fk)), (q_2, .inl (d_2, 26, .inr (.inl (fun _ => 0))))] := hD
  have hK : va_K (dC, dI) vwCl [(dk, .int), (d_2, .long)] s := hK
  refine lv_astore_n (lv' := [(1, .ref q_2), (0, .ref h0)]) hx hb dX1_expanded_4 rfl hl (by decide) rfl (fun ls hl => ?_)
  refine lv_aload_n hx hb dX1_expanded_5 rfl (lv_at hl 0 rfl) ?_
  refine lv_iconst (v := nI 0) hx hb dX1_expanded_6 (by decide) ?_
  refine lv_ldc2 (v := -5196783011329398165) hx hb hown (hts _ q283) dX1_expanded_7 ?_
  refine va_last hx hb hK hP hD hS 2 1 rfl rfl (vp_in_nI (n := 0) (N := 26) (by omega) (by omega)) dX1_expanded_10 (fun H locs hP hD hS => ?_)
  rw [nI_clamp (n := 0) (by omega)] at hP hD
  have eg_10 : vp_updL (fun _ => 0) 0 ((-5196783011329398165)) = sf 1 := sf_1
  rw [eg_10] at hP hD
  have hP : va_P (dC, dI) vwCl [(h0, .inr (1, [.ref ak, .ref ab, .ref ao])), (ak, .inl (dk, 32, .inl fk)), (q_2, .inl (d_2, 26, .inr (.inl (sf 1))))] H := hP
  have hD : va_D A [(h0, .inr (1, [.ref ak, .ref ab, .ref ao])), (ak, .inl (dk, 32, .inl fk)), (q_2, .inl (d_2, 26, .inr (.inl (sf 1))))] := hD
  refine lv_iconst (v := nI 1) hx hb dX1_expanded_11 (by decide) ?_
  refine lv_istore_n (lv' := [(2, .int (nI 1)), (1, .ref q_2), (0, .ref h0)]) hx hb dX1_expanded_12 rfl hl (by decide) rfl (fun ls hl => ?_)
  refine W.widen (k := 1) (n := 26) (Nat.le_of_ble_eq_true rfl) (Nat.le_of_ble_eq_true rfl) ?_
  exact l1 _ q_2 d_2 0 (Nat.lt_succ_self _) (by omega) (hK.sub [0, 1] rfl) _ _ (hP.sub (ws' := [(h0, .inr (1, [.ref ak, .ref ab, .ref ao])), (ak, .inl (dk, 32, .inl fk)), (q_2, .inl (d_2, 26, .inr (.inl (sf (0 + 1)))))]) [0, 1, 2] rfl) (hD.sub (ws' := [(h0, .inr (1, [.ref ak, .ref ab, .ref ao])), (ak, .inl (dk, 32, .inl fk)), (q_2, .inl (d_2, 26, .inr (.inl (sf (0 + 1)))))]) [0, 1, 2] (by decide) rfl) hS _ (lv_sub hl [2, 1, 0] rfl)
end
section
abbrev wsX1_lock : List Cond := ws_ yX1_lock cX1_lock 8 none
abbrev BX1_lock (dC : Nat → ClassId) (dI : Nat → Nat → Nat) (A : Nat → Prop) (h0 : Nat) (ak : Nat) (ab : Nat) (ao : Nat) (dk : ClassId) (db : ClassId) (dd : ClassId) (fk : Nat → Int32) (fb : Nat → Int32) (fo : Nat → Int32) (x : Int32) (u : Nat → Int32) (t : State) : Prop := va_P (dC, dI) vwCl [(h0, .inr (1, [.ref ak, .ref ab, .ref ao])), (ak, .inl (dk, 32, .inl fk)), (ab, .inl (db, 16, .inl fb)), (ao, .inl (dd, 16, .inl u))] t.heap ∧ va_K (dC, dI) vwCl [(dk, .int), (db, .int), (dd, .int)] t ∧ va_D A [(h0, .inr (1, [.ref ak, .ref ab, .ref ao])), (ak, .inl (dk, 32, .inl fk)), (ab, .inl (db, 16, .inl fb)), (ao, .inl (dd, 16, .inl u))]
set_option maxHeartbeats 4000000 in
set_option maxRecDepth 100000 in
/-- lock(kind) -/
theorem metX1_lock (l : Launch) (dC : Nat → ClassId) (dI : Nat → Nat → Nat) (h0 : Nat) (ak : Nat) (ab : Nat) (ao : Nat) (dk : ClassId) (db : ClassId) (dd : ClassId) (fk : Nat → Int32) (fb : Nat → Int32) (fo : Nat → Int32) (x : Int32) (sz : Nat) (hfk : mk8 fk = fk) (hfb : mk8 fb = fb) : Met l yX1_lock wsX1_lock ({ frames := 2, cells := 2, slots := 28, locals := 52 }) (va_Pc [.ref h0, .int x] (fun U => U.heap.size = sz ∧ va_P (dC, dI) vwCl [(h0, .inr (1, [.ref ak, .ref ab, .ref ao])), (ak, .inl (dk, 32, .inl fk)), (ab, .inl (db, 16, .inl fb)), (ao, .inl (dd, 16, .inl fo))] U.heap ∧ va_K (dC, dI) vwCl [(dk, .int), (db, .int), (dd, .int)] U ∧ va_D (fun _ => True) [(h0, .inr (1, [.ref ak, .ref ab, .ref ao])), (ak, .inl (dk, 32, .inl fk)), (ab, .inl (db, 16, .inl fb)), (ao, .inl (dd, 16, .inl fo))])) (va_Qv (fun (u : Nat → Int32) => u = encO (sch fk) fb fo) (BX1_lock dC dI (va_A [(h0, .inr (1, [.ref ak, .ref ab, .ref ao])), (ak, .inl (dk, 32, .inl fk)), (ab, .inl (db, 16, .inl fb)), (ao, .inl (dd, 16, .inl fo))] sz) h0 ak ab ao dk db dd fk fb fo x) (va_A [(h0, .inr (1, [.ref ak, .ref ab, .ref ao])), (ak, .inl (dk, 32, .inl fk)), (ab, .inl (db, 16, .inl fb)), (ao, .inl (dd, 16, .inl fo))] sz)) 2 28 (va_A [(h0, .inr (1, [.ref ak, .ref ab, .ref ao])), (ak, .inl (dk, 32, .inl fk)), (ab, .inl (db, 16, .inl fb)), (ao, .inl (dd, 16, .inl fo))] sz) := by
  refine Met.ofW (cc := cX1_lock) (maxL := 8) (ret := none) (by decide) rfl ?_
  intro p e s m args below meth c s₁ B hml hv
  obtain ⟨rfl, hsz, hP, hK, hD0⟩ := hv
  have hx := B.exec
  have hb := B.bytes
  have hr := B.returns
  have hts := atoms_spec (ws := wsX1_lock) B.pre
  have hts : ∀ w ∈ lw_all, w.before _ s = true := fun w h => hts w (List.mem_cons_of_mem _ h)
  have hown : s.vm.findClass RX1 = some m.cls := findClass_of_methodNamed B.named
  have hlocks := B.notSynchronized
  subst hsz
  have hD := hD0.self (sz := s.heap.size)
  generalize hAe : va_A [(h0, .inr (1, [.ref ak, .ref ab, .ref ao])), (ak, .inl (dk, 32, .inl fk)), (ab, .inl (db, 16, .inl fb)), (ao, .inl (dd, 16, .inl fo))] s.heap.size = A at hD ⊢
  have hA : ∀ q : Nat, s.heap.size ≤ q → A q := fun q h => by rw [← hAe]; exact Or.inr h
  have hS : va_S A s.heap s.heap [] := va_S.rf
  have hP : va_P (dC, dI) vwCl [(h0, .inr (1, [.ref ak, .ref ab, .ref ao])), (ak, .inl (dk, 32, .inl fk)), (ab, .inl (db, 16, .inl fb)), (ao, .inl (dd, 16, .inl fo))] s.heap := hP
  have hl := lv_entry ([.ref h0, .int x]) (n := 8) (Nat.le_of_ble_eq_true rfl)
  rw [lg_entry_eq]
  generalize (lg_sl ([.ref h0, .int x]) ++ List.replicate (8 - (lg_sl ([.ref h0, .int x])).length) Slot.unset).toArray = ls at hl ⊢
  have hl : lv_has ls 8 [(0, .ref h0), (1, .int x)] := hl
  have lp : ∀ (fu : Nat), ∀ (az : Nat) (ds : ClassId) (k : Nat), (13 - k) < fu → k ≤ 12 → va_K (dC, dI) vwCl [(dk, .int), (db, .int), (dd, .int), (ds, .long)] s → ∀ (H : Heap) (locs : List Loc), va_P (dC, dI) vwCl [(h0, .inr (1, [.ref ak, .ref ab, .ref ao])), (ak, .inl (dk, 32, .inl fk)), (ab, .inl (db, 16, .inl fb)), (ao, .inl (dd, 16, .inl fo)), (az, .inl (ds, 26, .inr (.inl (sch fk))))] H → va_D A [(h0, .inr (1, [.ref ak, .ref ab, .ref ao])), (ak, .inl (dk, 32, .inl fk)), (ab, .inl (db, 16, .inl fb)), (ao, .inl (dd, 16, .inl fo)), (az, .inl (ds, 26, .inr (.inl (sch fk))))] → va_S A s.heap H locs → ∀ (ls : Array Slot), lv_has ls 8 [(0, .ref h0), (2, .ref az), (3, .long ((en (sch fk) (hw fb 0 8 + sch fk 0) (hw fb 8 8 + sch fk 1) k).1)), (5, .long ((en (sch fk) (hw fb 0 8 + sch fk 0) (hw fb 8 8 + sch fk 1) k).2)), (7, .int (nI (k + 1)))] → W p l e (headSpec wsX1_lock ({ frames := 2, cells := 2, slots := 28, locals := 52 })).room s m ([.ref h0, .int x] : List Value).toArray below meth c H locs (2) (28) (MQ below (va_Qv (fun (u : Nat → Int32) => u = encO (sch fk) fb fo) (BX1_lock dC dI A h0 ak ab ao dk db dd fk fb fo x) A) ([.ref h0, .int x] : List Value).toArray s 2 28 A) (F0 m 36 ls []) := by
    intro fu
    induction fu with
    | zero => intro az ds k hme; exact absurd hme (Nat.not_lt_zero _)
    | succ fu ih =>
      intro az ds k hme hk12 hK H locs hP hD hS ls hl
      refine lv_iload hx hb dX1_lock_36 (lv_at hl 4 rfl) ?_
      refine lv_bipush (v := nI 12) hx hb dX1_lock_38 (by decide) ?_
      refine lv_icmp_gt (tgt := 85) hx hb dX1_lock_40 (by decide) (fun c_40 => ?_) (fun c_40 => ?_)
      · have hk2 : k = 12 := by
          rcases Nat.lt_or_ge k 12 with q | q
          · exact absurd c_40 (nI_nlt (by omega : k + 1 ≤ 12) (by omega))
          · omega
        subst hk2
        refine lv_aload_n hx hb dX1_lock_85 rfl (lv_at hl 0 rfl) ?_
        refine lv_lload_n hx hb dX1_lock_86 rfl (lv_at hl 2 rfl) ?_
        refine lv_iconst (v := nI 0) hx hb dX1_lock_87 (by decide) ?_
        have hPc := hP.sub (ws' := [(h0, .inr (1, [.ref ak, .ref ab, .ref ao])), (ao, .inl (dd, 16, .inl fo))]) [0, 3] rfl
        have hDc := hD.sub (ws' := [(h0, .inr (1, [.ref ak, .ref ab, .ref ao])), (ao, .inl (dd, 16, .inl fo))]) [0, 3] (by decide) rfl
        have hKc := hK.sub (tys' := [(dd, .int)]) [2] rfl
        have hFc := va_free (wc := [(h0, .inr (1, [.ref ak, .ref ab, .ref ao])), (ao, .inl (dd, 16, .inl fo))]) hD hS hA [0, 3] rfl
        refine va_callv (va_runV (As := [.long ((en (sch fk) (hw fb 0 8 + sch fk 0) (hw fb 8 8 + sch fk 1) 12).1), .int (nI 0)]) (rest := []) ⟨hx, hb, hml, hown, hts⟩ (metX1_tells l dC dI h0 ak ab ao dd fo ((en (sch fk) (hw fb 0 8 + sch fk 0) (hw fb 8 8 + sch fk 1) 12).1) 0 H.size (by omega)) (cwV 2 hts (lw_V q293 q295 qs10 q13 q296) rfl rfl rfl (by decide +kernel) ⟨Nat.le_of_ble_eq_true rfl, Nat.le_of_ble_eq_true rfl⟩) ⟨fun a U g mk q => by obtain ⟨q0, q1, qP, qK, qD⟩ := q; exact ⟨q0, q1, qP, va_K.moved (u := U) (U := U.calling g mk a) (Vm.Alike.refl U.vm) qK, qD⟩, va_recv hK hP (ci := 1) (q0 := 0) rfl rfl, fun U hU hW => ⟨rfl, by rw [hU], by rw [hU]; exact hPc, va_K.moved hW.alike hKc, hDc.weaken (fun _ _ _ _ => trivial)⟩⟩ rfl rfl hl.1 rfl (lv_room (Nat.le_of_ble_eq_true rfl)) dX1_lock_88 ⟨Nat.le_of_ble_eq_true rfl, Nat.le_of_ble_eq_true rfl⟩) hS (fun q _ h => hFc q h) hFc (fun u t H1 locs ht hvm hw_88 hB hz1 hk1 hS => ?_)
        obtain ⟨u_88, rfl⟩ : ∃ z, z = u := ⟨_, rfl⟩
        have hw_88 : u_88 = stn fo 0 (qb ((en (sch fk) (hw fb 0 8 + sch fk 0) (hw fb 8 8 + sch fk 1) 12).1)) 8 := hw_88
        obtain ⟨hP1, hK1, hD1⟩ := hB
        have hw_88 := hw_88.symm
        subst hw_88
        rw [ht] at hP1
        have hK1 := va_K.moved hvm.symm hK1
        obtain ⟨hP, hD⟩ := va_join (wr := [(ak, .inl (dk, 32, .inl fk)), (ab, .inl (db, 16, .inl fb)), (az, .inl (ds, 26, .inr (.inl (sch fk))))]) (w1 := [(h0, .inr (1, [.ref ak, .ref ab, .ref ao])), (ao, .inl (dd, 16, .inl (stn fo 0 (qb ((en (sch fk) (hw fb 0 8 + sch fk 0) (hw fb 8 8 + sch fk 1) 12).1)) 8)))]) hP hD [0, 3] [1, 2, 4] rfl rfl (by decide) (by decide) hk1 hFc hP1 hD1
        have hK := (hK.sub (tys' := [(dk, .int), (db, .int), (ds, .long)]) [0, 1, 3] rfl).app hK1
        generalize H1 = H at hP hS ⊢
        have hP : va_P (dC, dI) vwCl [(ak, .inl (dk, 32, .inl fk)), (ab, .inl (db, 16, .inl fb)), (az, .inl (ds, 26, .inr (.inl (sch fk)))), (h0, .inr (1, [.ref ak, .ref ab, .ref ao])), (ao, .inl (dd, 16, .inl (stn fo 0 (qb ((en (sch fk) (hw fb 0 8 + sch fk 0) (hw fb 8 8 + sch fk 1) 12).1)) 8)))] H := hP
        have hD : va_D A [(ak, .inl (dk, 32, .inl fk)), (ab, .inl (db, 16, .inl fb)), (az, .inl (ds, 26, .inr (.inl (sch fk)))), (h0, .inr (1, [.ref ak, .ref ab, .ref ao])), (ao, .inl (dd, 16, .inl (stn fo 0 (qb ((en (sch fk) (hw fb 0 8 + sch fk 0) (hw fb 8 8 + sch fk 1) 12).1)) 8)))] := hD
        have hK : va_K (dC, dI) vwCl [(dk, .int), (db, .int), (ds, .long), (dd, .int)] s := hK
        refine lv_aload_n hx hb dX1_lock_91 rfl (lv_at hl 0 rfl) ?_
        refine lv_lload hx hb dX1_lock_92 (lv_at hl 3 rfl) ?_
        refine lv_bipush (v := nI 8) hx hb dX1_lock_94 (by decide) ?_
        have hPc := hP.sub (ws' := [(h0, .inr (1, [.ref ak, .ref ab, .ref ao])), (ao, .inl (dd, 16, .inl (stn fo 0 (qb ((en (sch fk) (hw fb 0 8 + sch fk 0) (hw fb 8 8 + sch fk 1) 12).1)) 8)))]) [3, 4] rfl
        have hDc := hD.sub (ws' := [(h0, .inr (1, [.ref ak, .ref ab, .ref ao])), (ao, .inl (dd, 16, .inl (stn fo 0 (qb ((en (sch fk) (hw fb 0 8 + sch fk 0) (hw fb 8 8 + sch fk 1) 12).1)) 8)))]) [3, 4] (by decide) rfl
        have hKc := hK.sub (tys' := [(dd, .int)]) [3] rfl
        have hFc := va_free (wc := [(h0, .inr (1, [.ref ak, .ref ab, .ref ao])), (ao, .inl (dd, 16, .inl (stn fo 0 (qb ((en (sch fk) (hw fb 0 8 + sch fk 0) (hw fb 8 8 + sch fk 1) 12).1)) 8)))]) hD hS hA [3, 4] rfl
        refine va_callv (va_runV (As := [.long ((en (sch fk) (hw fb 0 8 + sch fk 0) (hw fb 8 8 + sch fk 1) 12).2), .int (nI 8)]) (rest := []) ⟨hx, hb, hml, hown, hts⟩ (metX1_tells l dC dI h0 ak ab ao dd (stn fo 0 (qb ((en (sch fk) (hw fb 0 8 + sch fk 0) (hw fb 8 8 + sch fk 1) 12).1)) 8) ((en (sch fk) (hw fb 0 8 + sch fk 0) (hw fb 8 8 + sch fk 1) 12).2) 8 H.size (by omega)) (cwV 2 hts (lw_V q293 q295 qs10 q13 q296) rfl rfl rfl (by decide +kernel) ⟨Nat.le_of_ble_eq_true rfl, Nat.le_of_ble_eq_true rfl⟩) ⟨fun a U g mk q => by obtain ⟨q0, q1, qP, qK, qD⟩ := q; exact ⟨q0, q1, qP, va_K.moved (u := U) (U := U.calling g mk a) (Vm.Alike.refl U.vm) qK, qD⟩, va_recv hK hP (ci := 1) (q0 := 3) rfl rfl, fun U hU hW => ⟨rfl, by rw [hU], by rw [hU]; exact hPc, va_K.moved hW.alike hKc, hDc.weaken (fun _ _ _ _ => trivial)⟩⟩ rfl rfl hl.1 rfl (lv_room (Nat.le_of_ble_eq_true rfl)) dX1_lock_96 ⟨Nat.le_of_ble_eq_true rfl, Nat.le_of_ble_eq_true rfl⟩) hS (fun q _ h => hFc q h) hFc (fun u t H1 locs ht hvm hw_96 hB hz1 hk1 hS => ?_)
        obtain ⟨u_96, rfl⟩ : ∃ z, z = u := ⟨_, rfl⟩
        have hw_96 : u_96 = stn (stn fo 0 (qb ((en (sch fk) (hw fb 0 8 + sch fk 0) (hw fb 8 8 + sch fk 1) 12).1)) 8) 8 (qb ((en (sch fk) (hw fb 0 8 + sch fk 0) (hw fb 8 8 + sch fk 1) 12).2)) 8 := hw_96
        obtain ⟨hP1, hK1, hD1⟩ := hB
        have hw_96 := hw_96.symm
        subst hw_96
        rw [ht] at hP1
        have hK1 := va_K.moved hvm.symm hK1
        obtain ⟨hP, hD⟩ := va_join (wr := [(ak, .inl (dk, 32, .inl fk)), (ab, .inl (db, 16, .inl fb)), (az, .inl (ds, 26, .inr (.inl (sch fk))))]) (w1 := [(h0, .inr (1, [.ref ak, .ref ab, .ref ao])), (ao, .inl (dd, 16, .inl (stn (stn fo 0 (qb ((en (sch fk) (hw fb 0 8 + sch fk 0) (hw fb 8 8 + sch fk 1) 12).1)) 8) 8 (qb ((en (sch fk) (hw fb 0 8 + sch fk 0) (hw fb 8 8 + sch fk 1) 12).2)) 8)))]) hP hD [3, 4] [0, 1, 2] rfl rfl (by decide) (by decide) hk1 hFc hP1 hD1
        have hK := (hK.sub (tys' := [(dk, .int), (db, .int), (ds, .long)]) [0, 1, 2] rfl).app hK1
        generalize H1 = H at hP hS ⊢
        have hP : va_P (dC, dI) vwCl [(ak, .inl (dk, 32, .inl fk)), (ab, .inl (db, 16, .inl fb)), (az, .inl (ds, 26, .inr (.inl (sch fk)))), (h0, .inr (1, [.ref ak, .ref ab, .ref ao])), (ao, .inl (dd, 16, .inl (stn (stn fo 0 (qb ((en (sch fk) (hw fb 0 8 + sch fk 0) (hw fb 8 8 + sch fk 1) 12).1)) 8) 8 (qb ((en (sch fk) (hw fb 0 8 + sch fk 0) (hw fb 8 8 + sch fk 1) 12).2)) 8)))] H := hP
        have hD : va_D A [(ak, .inl (dk, 32, .inl fk)), (ab, .inl (db, 16, .inl fb)), (az, .inl (ds, 26, .inr (.inl (sch fk)))), (h0, .inr (1, [.ref ak, .ref ab, .ref ao])), (ao, .inl (dd, 16, .inl (stn (stn fo 0 (qb ((en (sch fk) (hw fb 0 8 + sch fk 0) (hw fb 8 8 + sch fk 1) 12).1)) 8) 8 (qb ((en (sch fk) (hw fb 0 8 + sch fk 0) (hw fb 8 8 + sch fk 1) 12).2)) 8)))] := hD
        have hK : va_K (dC, dI) vwCl [(dk, .int), (db, .int), (ds, .long), (dd, .int)] s := hK
        refine W.widen (k := 2) (n := 28) (Nat.le_of_ble_eq_true rfl) (Nat.le_of_ble_eq_true rfl) ?_
        have hP9 := hP.sub (ws' := [(h0, .inr (1, [.ref ak, .ref ab, .ref ao])), (ak, .inl (dk, 32, .inl fk)), (ab, .inl (db, 16, .inl fb)), (ao, .inl (dd, 16, .inl ((encO (sch fk) fb fo))))]) [3, 0, 1, 4] rfl
        have hD9 := hD.sub (ws' := [(h0, .inr (1, [.ref ak, .ref ab, .ref ao])), (ak, .inl (dk, 32, .inl fk)), (ab, .inl (db, 16, .inl fb)), (ao, .inl (dd, 16, .inl ((encO (sch fk) fb fo))))]) [3, 0, 1, 4] (by decide) rfl
        have hK9 := hK.sub (tys' := [(dk, .int), (db, .int), (dd, .int)]) [0, 1, 3] rfl
        exact W.vret hx hb hr (fun t ht hW => ⟨⟨(encO (sch fk) fb fo), rfl, rfl, by rw [ht]; exact hP9, va_K.moved hW.alike hK9, hD9⟩, hS.F ht⟩) hS.2.2 dX1_lock_99
      · have hlt : k < 12 := by
          rcases Nat.lt_or_ge k 12 with q | q
          · exact q
          · exact absurd (nI_lt (by omega : 12 < k + 1) (by omega)) c_40
        refine lv_lload_n hx hb dX1_lock_43 rfl (lv_at hl 2 rfl) ?_
        refine lv_lload hx hb dX1_lock_44 (lv_at hl 3 rfl) ?_
        refine lv_lxor hx hb dX1_lock_46 ?_
        refine lv_lload hx hb dX1_lock_47 (lv_at hl 3 rfl) ?_
        have hPc := hP.sub (ws' := []) [] rfl
        have hDc := hD.sub (ws' := []) [] (by decide) rfl
        have hKc := hK.sub (tys' := []) [] rfl
        have hFc := va_free (wc := []) hD hS hA [] rfl
        refine va_calll (va_runS (As := [.long (((en (sch fk) (hw fb 0 8 + sch fk 0) (hw fb 8 8 + sch fk 1) k).1) ^^^ ((en (sch fk) (hw fb 0 8 + sch fk 0) (hw fb 8 8 + sch fk 1) k).2)), .long ((en (sch fk) (hw fb 0 8 + sch fk 0) (hw fb 8 8 + sch fk 1) k).2)]) (rest := []) ⟨hx, hb, hml, hown, hts⟩ (metX1_turned l dC dI (((en (sch fk) (hw fb 0 8 + sch fk 0) (hw fb 8 8 + sch fk 1) k).1) ^^^ ((en (sch fk) (hw fb 0 8 + sch fk 0) (hw fb 8 8 + sch fk 1) k).2)) ((en (sch fk) (hw fb 0 8 + sch fk 0) (hw fb 8 8 + sch fk 1) k).2) H.size) (va_cwS 2 hts (lw_S q289 q290 q13 q291) rfl rfl rfl (by decide +kernel) ⟨Nat.le_of_ble_eq_true rfl, Nat.le_of_ble_eq_true rfl⟩) ⟨fun a U g mk q => by obtain ⟨q0, q1, qP, qK, qD⟩ := q; exact ⟨q0, q1, qP, va_K.moved (u := U) (U := U.calling g mk a) (Vm.Alike.refl U.vm) qK, qD⟩, fun U hU hW => ⟨rfl, by rw [hU], by rw [hU]; exact hPc, va_K.moved hW.alike hKc, hDc.weaken (fun _ _ _ _ => trivial)⟩⟩ rfl rfl hl.1 rfl (lv_room (Nat.le_of_ble_eq_true rfl)) dX1_lock_49 ⟨Nat.le_of_ble_eq_true rfl, Nat.le_of_ble_eq_true rfl⟩) hS (fun q _ h => hFc q h) hFc (fun r_49 u t H1 locs ht hvm hw_49 hB hz1 hk1 hS => ?_)
        obtain ⟨u_49, rfl⟩ : ∃ z, z = u := ⟨_, rfl⟩
        have hw_49 : r_49 = rl (((en (sch fk) (hw fb 0 8 + sch fk 0) (hw fb 8 8 + sch fk 1) k).1) ^^^ ((en (sch fk) (hw fb 0 8 + sch fk 0) (hw fb 8 8 + sch fk 1) k).2)) ((en (sch fk) (hw fb 0 8 + sch fk 0) (hw fb 8 8 + sch fk 1) k).2) := hw_49
        obtain ⟨hP1, hK1, hD1⟩ := hB
        have hw_49 := hw_49.symm
        subst hw_49
        rw [ht] at hP1
        have hK1 := va_K.moved hvm.symm hK1
        obtain ⟨hP, hD⟩ := va_join (wr := [(h0, .inr (1, [.ref ak, .ref ab, .ref ao])), (ak, .inl (dk, 32, .inl fk)), (ab, .inl (db, 16, .inl fb)), (ao, .inl (dd, 16, .inl fo)), (az, .inl (ds, 26, .inr (.inl (sch fk))))]) (w1 := []) hP hD [] [0, 1, 2, 3, 4] rfl rfl (by decide) (by decide) hk1 hFc hP1 hD1
        have hK := (hK.sub (tys' := [(dk, .int), (db, .int), (dd, .int), (ds, .long)]) [0, 1, 2, 3] rfl).app hK1
        generalize H1 = H at hP hS ⊢
        have hP : va_P (dC, dI) vwCl [(h0, .inr (1, [.ref ak, .ref ab, .ref ao])), (ak, .inl (dk, 32, .inl fk)), (ab, .inl (db, 16, .inl fb)), (ao, .inl (dd, 16, .inl fo)), (az, .inl (ds, 26, .inr (.inl (sch fk))))] H := hP
        have hD : va_D A [(h0, .inr (1, [.ref ak, .ref ab, .ref ao])), (ak, .inl (dk, 32, .inl fk)), (ab, .inl (db, 16, .inl fb)), (ao, .inl (dd, 16, .inl fo)), (az, .inl (ds, 26, .inr (.inl (sch fk))))] := hD
        have hK : va_K (dC, dI) vwCl [(dk, .int), (db, .int), (dd, .int), (ds, .long)] s := hK
        refine lv_aload_n hx hb dX1_lock_52 rfl (lv_at hl 1 rfl) ?_
        refine lv_iconst (v := nI 2) hx hb dX1_lock_53 (by decide) ?_
        refine lv_iload hx hb dX1_lock_54 (lv_at hl 4 rfl) ?_
        refine lv_imul hx hb dX1_lock_56 ?_
        refine lv_topi (fun t_56 et_56 => ?_)
        have et_56 : t_56 = nI (2 * (k + 1)) := et_56.trans (pk_mul 2 (k + 1))
        subst et_56
        refine va_lald hx hb hK hP 4 3 rfl rfl (vp_in_nI (n := (2 * (k + 1))) (N := 26) (by omega) (by omega)) dX1_lock_57 ?_
        refine lv_topl (fun t_57 et_57 => ?_)
        have et_57 : t_57 = (sch fk) (2 * (k + 1)) := et_57.trans (congrArg (sch fk) (nI_clamp (n := (2 * (k + 1))) (by omega)))
        subst et_57
        refine lv_ladd hx hb dX1_lock_58 ?_
        refine lv_topl (fun t_58 et_58 => ?_)
        have et_58 : t_58 = (en (sch fk) (hw fb 0 8 + sch fk 0) (hw fb 8 8 + sch fk 1) (k + 1)).1 := et_58.trans (rfl)
        subst et_58
        refine lv_lstore_n (lv' := [(3, .long ((en (sch fk) (hw fb 0 8 + sch fk 0) (hw fb 8 8 + sch fk 1) (k + 1)).1)), (0, .ref h0), (2, .ref az), (5, .long ((en (sch fk) (hw fb 0 8 + sch fk 0) (hw fb 8 8 + sch fk 1) k).2)), (7, .int (nI (k + 1)))]) hx hb dX1_lock_59 rfl hl (by decide) rfl (fun ls hl => ?_)
        refine lv_lload hx hb dX1_lock_60 (lv_at hl 3 rfl) ?_
        refine lv_lload_n hx hb dX1_lock_62 rfl (lv_at hl 0 rfl) ?_
        refine lv_lxor hx hb dX1_lock_63 ?_
        refine lv_lload_n hx hb dX1_lock_64 rfl (lv_at hl 0 rfl) ?_
        have hPc := hP.sub (ws' := []) [] rfl
        have hDc := hD.sub (ws' := []) [] (by decide) rfl
        have hKc := hK.sub (tys' := []) [] rfl
        have hFc := va_free (wc := []) hD hS hA [] rfl
        refine va_calll (va_runS (As := [.long (((en (sch fk) (hw fb 0 8 + sch fk 0) (hw fb 8 8 + sch fk 1) k).2) ^^^ ((en (sch fk) (hw fb 0 8 + sch fk 0) (hw fb 8 8 + sch fk 1) (k + 1)).1)), .long ((en (sch fk) (hw fb 0 8 + sch fk 0) (hw fb 8 8 + sch fk 1) (k + 1)).1)]) (rest := []) ⟨hx, hb, hml, hown, hts⟩ (metX1_turned l dC dI (((en (sch fk) (hw fb 0 8 + sch fk 0) (hw fb 8 8 + sch fk 1) k).2) ^^^ ((en (sch fk) (hw fb 0 8 + sch fk 0) (hw fb 8 8 + sch fk 1) (k + 1)).1)) ((en (sch fk) (hw fb 0 8 + sch fk 0) (hw fb 8 8 + sch fk 1) (k + 1)).1) H.size) (va_cwS 2 hts (lw_S q289 q290 q13 q291) rfl rfl rfl (by decide +kernel) ⟨Nat.le_of_ble_eq_true rfl, Nat.le_of_ble_eq_true rfl⟩) ⟨fun a U g mk q => by obtain ⟨q0, q1, qP, qK, qD⟩ := q; exact ⟨q0, q1, qP, va_K.moved (u := U) (U := U.calling g mk a) (Vm.Alike.refl U.vm) qK, qD⟩, fun U hU hW => ⟨rfl, by rw [hU], by rw [hU]; exact hPc, va_K.moved hW.alike hKc, hDc.weaken (fun _ _ _ _ => trivial)⟩⟩ rfl rfl hl.1 rfl (lv_room (Nat.le_of_ble_eq_true rfl)) dX1_lock_65 ⟨Nat.le_of_ble_eq_true rfl, Nat.le_of_ble_eq_true rfl⟩) hS (fun q _ h => hFc q h) hFc (fun r_65 u t H1 locs ht hvm hw_65 hB hz1 hk1 hS => ?_)
        obtain ⟨u_65, rfl⟩ : ∃ z, z = u := ⟨_, rfl⟩
        have hw_65 : r_65 = rl (((en (sch fk) (hw fb 0 8 + sch fk 0) (hw fb 8 8 + sch fk 1) k).2) ^^^ ((en (sch fk) (hw fb 0 8 + sch fk 0) (hw fb 8 8 + sch fk 1) (k + 1)).1)) ((en (sch fk) (hw fb 0 8 + sch fk 0) (hw fb 8 8 + sch fk 1) (k + 1)).1) := hw_65
        obtain ⟨hP1, hK1, hD1⟩ := hB
        have hw_65 := hw_65.symm
        subst hw_65
        rw [ht] at hP1
        have hK1 := va_K.moved hvm.symm hK1
        obtain ⟨hP, hD⟩ := va_join (wr := [(h0, .inr (1, [.ref ak, .ref ab, .ref ao])), (ak, .inl (dk, 32, .inl fk)), (ab, .inl (db, 16, .inl fb)), (ao, .inl (dd, 16, .inl fo)), (az, .inl (ds, 26, .inr (.inl (sch fk))))]) (w1 := []) hP hD [] [0, 1, 2, 3, 4] rfl rfl (by decide) (by decide) hk1 hFc hP1 hD1
        have hK := (hK.sub (tys' := [(dk, .int), (db, .int), (dd, .int), (ds, .long)]) [0, 1, 2, 3] rfl).app hK1
        generalize H1 = H at hP hS ⊢
        have hP : va_P (dC, dI) vwCl [(h0, .inr (1, [.ref ak, .ref ab, .ref ao])), (ak, .inl (dk, 32, .inl fk)), (ab, .inl (db, 16, .inl fb)), (ao, .inl (dd, 16, .inl fo)), (az, .inl (ds, 26, .inr (.inl (sch fk))))] H := hP
        have hD : va_D A [(h0, .inr (1, [.ref ak, .ref ab, .ref ao])), (ak, .inl (dk, 32, .inl fk)), (ab, .inl (db, 16, .inl fb)), (ao, .inl (dd, 16, .inl fo)), (az, .inl (ds, 26, .inr (.inl (sch fk))))] := hD
        have hK : va_K (dC, dI) vwCl [(dk, .int), (db, .int), (dd, .int), (ds, .long)] s := hK
        refine lv_aload_n hx hb dX1_lock_68 rfl (lv_at hl 2 rfl) ?_
        refine lv_iconst (v := nI 2) hx hb dX1_lock_69 (by decide) ?_
        refine lv_iload hx hb dX1_lock_70 (lv_at hl 4 rfl) ?_
        refine lv_imul hx hb dX1_lock_72 ?_
        refine lv_topi (fun t_72 et_72 => ?_)
        have et_72 : t_72 = nI (2 * (k + 1)) := et_72.trans (pk_mul 2 (k + 1))
        subst et_72
        refine lv_iconst (v := nI 1) hx hb dX1_lock_73 (by decide) ?_
        refine lv_iadd hx hb dX1_lock_74 ?_
        refine lv_topi (fun t_74 et_74 => ?_)
        have et_74 : t_74 = nI (2 * (k + 1) + 1) := et_74.trans (nI_add (2 * (k + 1)) 1)
        subst et_74
        refine va_lald hx hb hK hP 4 3 rfl rfl (vp_in_nI (n := (2 * (k + 1) + 1)) (N := 26) (by omega) (by omega)) dX1_lock_75 ?_
        refine lv_topl (fun t_75 et_75 => ?_)
        have et_75 : t_75 = (sch fk) (2 * (k + 1) + 1) := et_75.trans (congrArg (sch fk) (nI_clamp (n := (2 * (k + 1) + 1)) (by omega)))
        subst et_75
        refine lv_ladd hx hb dX1_lock_76 ?_
        refine lv_topl (fun t_76 et_76 => ?_)
        have et_76 : t_76 = (en (sch fk) (hw fb 0 8 + sch fk 0) (hw fb 8 8 + sch fk 1) (k + 1)).2 := et_76.trans (rfl)
        subst et_76
        refine lv_lstore (lv' := [(5, .long ((en (sch fk) (hw fb 0 8 + sch fk 0) (hw fb 8 8 + sch fk 1) (k + 1)).2)), (3, .long ((en (sch fk) (hw fb 0 8 + sch fk 0) (hw fb 8 8 + sch fk 1) (k + 1)).1)), (0, .ref h0), (2, .ref az), (7, .int (nI (k + 1)))]) hx hb dX1_lock_77 hl (by decide) rfl (fun ls hl => ?_)
        refine lv_iinc (v := nI (k + 1 + 1)) (lv' := [(7, .int (nI (k + 1 + 1))), (5, .long ((en (sch fk) (hw fb 0 8 + sch fk 0) (hw fb 8 8 + sch fk 1) (k + 1)).2)), (3, .long ((en (sch fk) (hw fb 0 8 + sch fk 0) (hw fb 8 8 + sch fk 1) (k + 1)).1)), (0, .ref h0), (2, .ref az)]) hx hb dX1_lock_79 hl (k := 4) rfl (nI_1 (k + 1)) (by decide) rfl (fun ls hl => ?_)
        refine lv_goto (tgt := 36) hx hb dX1_lock_82 (by decide) ?_
        refine W.widen (k := 2) (n := 28) (Nat.le_of_ble_eq_true rfl) (Nat.le_of_ble_eq_true rfl) ?_
        exact ih az ds (k + 1) (by omega) (by omega) (hK.sub [0, 1, 2, 3] rfl) _ _ (hP.sub (ws' := [(h0, .inr (1, [.ref ak, .ref ab, .ref ao])), (ak, .inl (dk, 32, .inl fk)), (ab, .inl (db, 16, .inl fb)), (ao, .inl (dd, 16, .inl fo)), (az, .inl (ds, 26, .inr (.inl (sch fk))))]) [0, 1, 2, 3, 4] rfl) (hD.sub (ws' := [(h0, .inr (1, [.ref ak, .ref ab, .ref ao])), (ak, .inl (dk, 32, .inl fk)), (ab, .inl (db, 16, .inl fb)), (ao, .inl (dd, 16, .inl fo)), (az, .inl (ds, 26, .inr (.inl (sch fk))))]) [0, 1, 2, 3, 4] (by decide) rfl) hS _ (lv_sub hl [3, 4, 2, 1, 0] rfl)
  refine lv_aload_n hx hb dX1_lock_0 rfl (lv_at hl 0 rfl) ?_
  have hPc := hP.sub (ws' := [(h0, .inr (1, [.ref ak, .ref ab, .ref ao])), (ak, .inl (dk, 32, .inl fk))]) [0, 1] rfl
  have hDc := hD.sub (ws' := [(h0, .inr (1, [.ref ak, .ref ab, .ref ao])), (ak, .inl (dk, 32, .inl fk))]) [0, 1] (by decide) rfl
  have hKc := hK.sub (tys' := [(dk, .int)]) [0] rfl
  have hFc := va_free (wc := [(h0, .inr (1, [.ref ak, .ref ab, .ref ao])), (ak, .inl (dk, 32, .inl fk))]) hD hS hA [0, 1] rfl
  refine va_callr (va_runV (As := []) (rest := []) ⟨hx, hb, hml, hown, hts⟩ (metX1_expanded l dC dI h0 ak ab ao dk fk s.heap.size hfk) (cwV 0 hts (lw_V q279 q281 qs9 q13 q282) rfl rfl rfl (by decide +kernel) ⟨Nat.le_of_ble_eq_true rfl, Nat.le_of_ble_eq_true rfl⟩) ⟨fun a U g mk q => by obtain ⟨q0, q1, qP, qK, qD⟩ := q; exact ⟨q0, q1, qP, va_K.moved (u := U) (U := U.calling g mk a) (Vm.Alike.refl U.vm) qK, qD⟩, va_recv hK hP (ci := 1) (q0 := 0) rfl rfl, fun U hU hW => ⟨rfl, by rw [hU], by rw [hU]; exact hPc, va_K.moved hW.alike hKc, hDc.weaken (fun _ _ _ _ => trivial)⟩⟩ rfl rfl hl.1 rfl (lv_room (Nat.le_of_ble_eq_true rfl)) dX1_lock_1 ⟨Nat.le_of_ble_eq_true rfl, Nat.le_of_ble_eq_true rfl⟩) hS (fun q _ h => hFc q h) hFc (fun u ra t H1 locs ht hvm hw_1 hB hz1 hk1 hS => ?_)
  obtain ⟨u_1, rfl⟩ : ∃ z, z = u := ⟨_, rfl⟩
  obtain ⟨az_1, ds_1, hra, hP1, hK1, hD1⟩ := hB
  have hra := hra.symm
  subst hra
  rw [ht] at hP1
  have hK1 := va_K.moved hvm.symm hK1
  obtain ⟨hP, hD⟩ := va_join (wr := [(ab, .inl (db, 16, .inl fb)), (ao, .inl (dd, 16, .inl fo))]) (w1 := [(h0, .inr (1, [.ref ak, .ref ab, .ref ao])), (ak, .inl (dk, 32, .inl fk)), (az_1, .inl (ds_1, 26, .inr (.inl (sch fk))))]) hP hD [0, 1] [2, 3] rfl rfl (by decide) (by decide) hk1 hFc hP1 hD1
  have hK := (hK.sub (tys' := [(db, .int), (dd, .int)]) [1, 2] rfl).app hK1
  generalize H1 = H at hP hS ⊢
  have hP : va_P (dC, dI) vwCl [(ab, .inl (db, 16, .inl fb)), (ao, .inl (dd, 16, .inl fo)), (h0, .inr (1, [.ref ak, .ref ab, .ref ao])), (ak, .inl (dk, 32, .inl fk)), (az_1, .inl (ds_1, 26, .inr (.inl (sch fk))))] H := hP
  have hD : va_D A [(ab, .inl (db, 16, .inl fb)), (ao, .inl (dd, 16, .inl fo)), (h0, .inr (1, [.ref ak, .ref ab, .ref ao])), (ak, .inl (dk, 32, .inl fk)), (az_1, .inl (ds_1, 26, .inr (.inl (sch fk))))] := hD
  have hK : va_K (dC, dI) vwCl [(db, .int), (dd, .int), (dk, .int), (ds_1, .long)] s := hK
  refine lv_astore_n (lv' := [(2, .ref az_1), (0, .ref h0), (1, .int x)]) hx hb dX1_lock_4 rfl hl (by decide) rfl (fun ls hl => ?_)
  refine lv_aload_n hx hb dX1_lock_5 rfl (lv_at hl 1 rfl) ?_
  refine va_get (D := (dC, dI)) (ci := 1) (v := .ref ab) (C := RX1) (T := TX1) (N := 3) hx hb hts in_X1 hown hK hP 2 rfl rfl 1 (by decide) (hts _ q243) (fun _ h9 => h9) rfl dX1_lock_6 ?_
  refine lv_iconst (v := nI 0) hx hb dX1_lock_9 (by decide) ?_
  have hPc := hP.sub (ws' := [(ab, .inl (db, 16, .inl fb))]) [0] rfl
  have hDc := hD.sub (ws' := [(ab, .inl (db, 16, .inl fb))]) [0] (by decide) rfl
  have hKc := hK.sub (tys' := [(db, .int)]) [0] rfl
  have hFc := va_free (wc := [(ab, .inl (db, 16, .inl fb))]) hD hS hA [0] rfl
  refine va_calll (va_runS (As := [.ref ab, .int (nI 0)]) (rest := []) ⟨hx, hb, hml, hown, hts⟩ (metX1_told l dC dI ab db 16 0 fb H.size (by omega) (by omega) hfb) (va_cwS 2 hts (lw_S q285 q286 q13 q287) rfl rfl rfl (by decide +kernel) ⟨Nat.le_of_ble_eq_true rfl, Nat.le_of_ble_eq_true rfl⟩) ⟨fun a U g mk q => by obtain ⟨q0, q1, qP, qK, qD⟩ := q; exact ⟨q0, q1, qP, va_K.moved (u := U) (U := U.calling g mk a) (Vm.Alike.refl U.vm) qK, qD⟩, fun U hU hW => ⟨rfl, by rw [hU], by rw [hU]; exact hPc, va_K.moved hW.alike hKc, hDc.weaken (fun _ _ _ _ => trivial)⟩⟩ rfl rfl hl.1 rfl (lv_room (Nat.le_of_ble_eq_true rfl)) dX1_lock_10 ⟨Nat.le_of_ble_eq_true rfl, Nat.le_of_ble_eq_true rfl⟩) hS (fun q _ h => hFc q h) hFc (fun r_10 u t H1 locs ht hvm hw_10 hB hz1 hk1 hS => ?_)
  obtain ⟨u_10, rfl⟩ : ∃ z, z = u := ⟨_, rfl⟩
  have hw_10 : r_10 = hw fb 0 8 := hw_10
  obtain ⟨hP1, hK1, hD1⟩ := hB
  have hw_10 := hw_10.symm
  subst hw_10
  rw [ht] at hP1
  have hK1 := va_K.moved hvm.symm hK1
  obtain ⟨hP, hD⟩ := va_join (wr := [(ao, .inl (dd, 16, .inl fo)), (h0, .inr (1, [.ref ak, .ref ab, .ref ao])), (ak, .inl (dk, 32, .inl fk)), (az_1, .inl (ds_1, 26, .inr (.inl (sch fk))))]) (w1 := [(ab, .inl (db, 16, .inl fb))]) hP hD [0] [1, 2, 3, 4] rfl rfl (by decide) (by decide) hk1 hFc hP1 hD1
  have hK := (hK.sub (tys' := [(dd, .int), (dk, .int), (ds_1, .long)]) [1, 2, 3] rfl).app hK1
  generalize H1 = H at hP hS ⊢
  have hP : va_P (dC, dI) vwCl [(ao, .inl (dd, 16, .inl fo)), (h0, .inr (1, [.ref ak, .ref ab, .ref ao])), (ak, .inl (dk, 32, .inl fk)), (az_1, .inl (ds_1, 26, .inr (.inl (sch fk)))), (ab, .inl (db, 16, .inl fb))] H := hP
  have hD : va_D A [(ao, .inl (dd, 16, .inl fo)), (h0, .inr (1, [.ref ak, .ref ab, .ref ao])), (ak, .inl (dk, 32, .inl fk)), (az_1, .inl (ds_1, 26, .inr (.inl (sch fk)))), (ab, .inl (db, 16, .inl fb))] := hD
  have hK : va_K (dC, dI) vwCl [(dd, .int), (dk, .int), (ds_1, .long), (db, .int)] s := hK
  refine lv_aload_n hx hb dX1_lock_13 rfl (lv_at hl 0 rfl) ?_
  refine lv_iconst (v := nI 0) hx hb dX1_lock_14 (by decide) ?_
  refine va_lald hx hb hK hP 3 2 rfl rfl (vp_in_nI (n := 0) (N := 26) (by omega) (by omega)) dX1_lock_15 ?_
  refine lv_topl (fun t_15 et_15 => ?_)
  have et_15 : t_15 = (sch fk) 0 := et_15.trans (congrArg (sch fk) (nI_clamp (n := 0) (by omega)))
  subst et_15
  refine lv_ladd hx hb dX1_lock_16 ?_
  refine lv_lstore_n (lv' := [(3, .long ((hw fb 0 8) + ((sch fk) 0))), (2, .ref az_1), (0, .ref h0), (1, .int x)]) hx hb dX1_lock_17 rfl hl (by decide) rfl (fun ls hl => ?_)
  refine lv_aload_n hx hb dX1_lock_18 rfl (lv_at hl 2 rfl) ?_
  refine va_get (D := (dC, dI)) (ci := 1) (v := .ref ab) (C := RX1) (T := TX1) (N := 3) hx hb hts in_X1 hown hK hP 1 rfl rfl 1 (by decide) (hts _ q243) (fun _ h9 => h9) rfl dX1_lock_19 ?_
  refine lv_bipush (v := nI 8) hx hb dX1_lock_22 (by decide) ?_
  have hPc := hP.sub (ws' := [(ab, .inl (db, 16, .inl fb))]) [4] rfl
  have hDc := hD.sub (ws' := [(ab, .inl (db, 16, .inl fb))]) [4] (by decide) rfl
  have hKc := hK.sub (tys' := [(db, .int)]) [3] rfl
  have hFc := va_free (wc := [(ab, .inl (db, 16, .inl fb))]) hD hS hA [4] rfl
  refine va_calll (va_runS (As := [.ref ab, .int (nI 8)]) (rest := []) ⟨hx, hb, hml, hown, hts⟩ (metX1_told l dC dI ab db 16 8 fb H.size (by omega) (by omega) hfb) (va_cwS 2 hts (lw_S q285 q286 q13 q287) rfl rfl rfl (by decide +kernel) ⟨Nat.le_of_ble_eq_true rfl, Nat.le_of_ble_eq_true rfl⟩) ⟨fun a U g mk q => by obtain ⟨q0, q1, qP, qK, qD⟩ := q; exact ⟨q0, q1, qP, va_K.moved (u := U) (U := U.calling g mk a) (Vm.Alike.refl U.vm) qK, qD⟩, fun U hU hW => ⟨rfl, by rw [hU], by rw [hU]; exact hPc, va_K.moved hW.alike hKc, hDc.weaken (fun _ _ _ _ => trivial)⟩⟩ rfl rfl hl.1 rfl (lv_room (Nat.le_of_ble_eq_true rfl)) dX1_lock_24 ⟨Nat.le_of_ble_eq_true rfl, Nat.le_of_ble_eq_true rfl⟩) hS (fun q _ h => hFc q h) hFc (fun r_24 u t H1 locs ht hvm hw_24 hB hz1 hk1 hS => ?_)
  obtain ⟨u_24, rfl⟩ : ∃ z, z = u := ⟨_, rfl⟩
  have hw_24 : r_24 = hw fb 8 8 := hw_24
  obtain ⟨hP1, hK1, hD1⟩ := hB
  have hw_24 := hw_24.symm
  subst hw_24
  rw [ht] at hP1
  have hK1 := va_K.moved hvm.symm hK1
  obtain ⟨hP, hD⟩ := va_join (wr := [(ao, .inl (dd, 16, .inl fo)), (h0, .inr (1, [.ref ak, .ref ab, .ref ao])), (ak, .inl (dk, 32, .inl fk)), (az_1, .inl (ds_1, 26, .inr (.inl (sch fk))))]) (w1 := [(ab, .inl (db, 16, .inl fb))]) hP hD [4] [0, 1, 2, 3] rfl rfl (by decide) (by decide) hk1 hFc hP1 hD1
  have hK := (hK.sub (tys' := [(dd, .int), (dk, .int), (ds_1, .long)]) [0, 1, 2] rfl).app hK1
  generalize H1 = H at hP hS ⊢
  have hP : va_P (dC, dI) vwCl [(ao, .inl (dd, 16, .inl fo)), (h0, .inr (1, [.ref ak, .ref ab, .ref ao])), (ak, .inl (dk, 32, .inl fk)), (az_1, .inl (ds_1, 26, .inr (.inl (sch fk)))), (ab, .inl (db, 16, .inl fb))] H := hP
  have hD : va_D A [(ao, .inl (dd, 16, .inl fo)), (h0, .inr (1, [.ref ak, .ref ab, .ref ao])), (ak, .inl (dk, 32, .inl fk)), (az_1, .inl (ds_1, 26, .inr (.inl (sch fk)))), (ab, .inl (db, 16, .inl fb))] := hD
  have hK : va_K (dC, dI) vwCl [(dd, .int), (dk, .int), (ds_1, .long), (db, .int)] s := hK
  refine lv_aload_n hx hb dX1_lock_27 rfl (lv_at hl 1 rfl) ?_
  refine lv_iconst (v := nI 1) hx hb dX1_lock_28 (by decide) ?_
  refine va_lald hx hb hK hP 3 2 rfl rfl (vp_in_nI (n := 1) (N := 26) (by omega) (by omega)) dX1_lock_29 ?_
  refine lv_topl (fun t_29 et_29 => ?_)
  have et_29 : t_29 = (sch fk) 1 := et_29.trans (congrArg (sch fk) (nI_clamp (n := 1) (by omega)))
  subst et_29
  refine lv_ladd hx hb dX1_lock_30 ?_
  refine lv_lstore (lv' := [(5, .long ((hw fb 8 8) + ((sch fk) 1))), (3, .long ((hw fb 0 8) + ((sch fk) 0))), (2, .ref az_1), (0, .ref h0), (1, .int x)]) hx hb dX1_lock_31 hl (by decide) rfl (fun ls hl => ?_)
  refine lv_iconst (v := nI 1) hx hb dX1_lock_33 (by decide) ?_
  refine lv_istore (lv' := [(7, .int (nI 1)), (5, .long ((hw fb 8 8) + ((sch fk) 1))), (3, .long ((hw fb 0 8) + ((sch fk) 0))), (2, .ref az_1), (0, .ref h0), (1, .int x)]) hx hb dX1_lock_34 hl (by decide) rfl (fun ls hl => ?_)
  refine W.widen (k := 2) (n := 28) (Nat.le_of_ble_eq_true rfl) (Nat.le_of_ble_eq_true rfl) ?_
  exact lp _ az_1 ds_1 0 (Nat.lt_succ_self _) (by omega) (hK.sub [1, 3, 0, 2] rfl) _ _ (hP.sub (ws' := [(h0, .inr (1, [.ref ak, .ref ab, .ref ao])), (ak, .inl (dk, 32, .inl fk)), (ab, .inl (db, 16, .inl fb)), (ao, .inl (dd, 16, .inl fo)), (az_1, .inl (ds_1, 26, .inr (.inl (sch fk))))]) [1, 2, 4, 0, 3] rfl) (hD.sub (ws' := [(h0, .inr (1, [.ref ak, .ref ab, .ref ao])), (ak, .inl (dk, 32, .inl fk)), (ab, .inl (db, 16, .inl fb)), (ao, .inl (dd, 16, .inl fo)), (az_1, .inl (ds_1, 26, .inr (.inl (sch fk))))]) [1, 2, 4, 0, 3] (by decide) rfl) hS _ (lv_sub hl [4, 3, 2, 1, 0] rfl)

abbrev wsX1_open : List Cond := ws_ yX1_open cX1_open 8 none
abbrev BX1_open (dC : Nat → ClassId) (dI : Nat → Nat → Nat) (A : Nat → Prop) (h0 : Nat) (ak : Nat) (ab : Nat) (ao : Nat) (dk : ClassId) (db : ClassId) (dd : ClassId) (fk : Nat → Int32) (fb : Nat → Int32) (fo : Nat → Int32) (x : Int32) (u : Nat → Int32) (t : State) : Prop := va_P (dC, dI) vwCl [(h0, .inr (1, [.ref ak, .ref ab, .ref ao])), (ak, .inl (dk, 32, .inl fk)), (ab, .inl (db, 16, .inl fb)), (ao, .inl (dd, 16, .inl u))] t.heap ∧ va_K (dC, dI) vwCl [(dk, .int), (db, .int), (dd, .int)] t ∧ va_D A [(h0, .inr (1, [.ref ak, .ref ab, .ref ao])), (ak, .inl (dk, 32, .inl fk)), (ab, .inl (db, 16, .inl fb)), (ao, .inl (dd, 16, .inl u))]
set_option maxHeartbeats 4000000 in
set_option maxRecDepth 100000 in
/-- open(kind) -/
theorem metX1_open (l : Launch) (dC : Nat → ClassId) (dI : Nat → Nat → Nat) (h0 : Nat) (ak : Nat) (ab : Nat) (ao : Nat) (dk : ClassId) (db : ClassId) (dd : ClassId) (fk : Nat → Int32) (fb : Nat → Int32) (fo : Nat → Int32) (x : Int32) (sz : Nat) (hfk : mk8 fk = fk) (hfb : mk8 fb = fb) : Met l yX1_open wsX1_open ({ frames := 2, cells := 2, slots := 28, locals := 52 }) (va_Pc [.ref h0, .int x] (fun U => U.heap.size = sz ∧ va_P (dC, dI) vwCl [(h0, .inr (1, [.ref ak, .ref ab, .ref ao])), (ak, .inl (dk, 32, .inl fk)), (ab, .inl (db, 16, .inl fb)), (ao, .inl (dd, 16, .inl fo))] U.heap ∧ va_K (dC, dI) vwCl [(dk, .int), (db, .int), (dd, .int)] U ∧ va_D (fun _ => True) [(h0, .inr (1, [.ref ak, .ref ab, .ref ao])), (ak, .inl (dk, 32, .inl fk)), (ab, .inl (db, 16, .inl fb)), (ao, .inl (dd, 16, .inl fo))])) (va_Qv (fun (u : Nat → Int32) => u = decO (sch fk) fb fo) (BX1_open dC dI (va_A [(h0, .inr (1, [.ref ak, .ref ab, .ref ao])), (ak, .inl (dk, 32, .inl fk)), (ab, .inl (db, 16, .inl fb)), (ao, .inl (dd, 16, .inl fo))] sz) h0 ak ab ao dk db dd fk fb fo x) (va_A [(h0, .inr (1, [.ref ak, .ref ab, .ref ao])), (ak, .inl (dk, 32, .inl fk)), (ab, .inl (db, 16, .inl fb)), (ao, .inl (dd, 16, .inl fo))] sz)) 2 28 (va_A [(h0, .inr (1, [.ref ak, .ref ab, .ref ao])), (ak, .inl (dk, 32, .inl fk)), (ab, .inl (db, 16, .inl fb)), (ao, .inl (dd, 16, .inl fo))] sz) := by
  refine Met.ofW (cc := cX1_open) (maxL := 8) (ret := none) (by decide) rfl ?_
  intro p e s m args below meth c s₁ B hml hv
  obtain ⟨rfl, hsz, hP, hK, hD0⟩ := hv
  have hx := B.exec
  have hb := B.bytes
  have hr := B.returns
  have hts := atoms_spec (ws := wsX1_open) B.pre
  have hts : ∀ w ∈ lw_all, w.before _ s = true := fun w h => hts w (List.mem_cons_of_mem _ h)
  have hown : s.vm.findClass RX1 = some m.cls := findClass_of_methodNamed B.named
  have hlocks := B.notSynchronized
  subst hsz
  have hD := hD0.self (sz := s.heap.size)
  generalize hAe : va_A [(h0, .inr (1, [.ref ak, .ref ab, .ref ao])), (ak, .inl (dk, 32, .inl fk)), (ab, .inl (db, 16, .inl fb)), (ao, .inl (dd, 16, .inl fo))] s.heap.size = A at hD ⊢
  have hA : ∀ q : Nat, s.heap.size ≤ q → A q := fun q h => by rw [← hAe]; exact Or.inr h
  have hS : va_S A s.heap s.heap [] := va_S.rf
  have hP : va_P (dC, dI) vwCl [(h0, .inr (1, [.ref ak, .ref ab, .ref ao])), (ak, .inl (dk, 32, .inl fk)), (ab, .inl (db, 16, .inl fb)), (ao, .inl (dd, 16, .inl fo))] s.heap := hP
  have hl := lv_entry ([.ref h0, .int x]) (n := 8) (Nat.le_of_ble_eq_true rfl)
  rw [lg_entry_eq]
  generalize (lg_sl ([.ref h0, .int x]) ++ List.replicate (8 - (lg_sl ([.ref h0, .int x])).length) Slot.unset).toArray = ls at hl ⊢
  have hl : lv_has ls 8 [(0, .ref h0), (1, .int x)] := hl
  have lp : ∀ (fu : Nat), ∀ (az : Nat) (ds : ClassId) (n : Nat), (13 - n) < fu → n ≤ 12 → va_K (dC, dI) vwCl [(dk, .int), (db, .int), (dd, .int), (ds, .long)] s → ∀ (H : Heap) (locs : List Loc), va_P (dC, dI) vwCl [(h0, .inr (1, [.ref ak, .ref ab, .ref ao])), (ak, .inl (dk, 32, .inl fk)), (ab, .inl (db, 16, .inl fb)), (ao, .inl (dd, 16, .inl fo)), (az, .inl (ds, 26, .inr (.inl (sch fk))))] H → va_D A [(h0, .inr (1, [.ref ak, .ref ab, .ref ao])), (ak, .inl (dk, 32, .inl fk)), (ab, .inl (db, 16, .inl fb)), (ao, .inl (dd, 16, .inl fo)), (az, .inl (ds, 26, .inr (.inl (sch fk))))] → va_S A s.heap H locs → ∀ (ls : Array Slot), lv_has ls 8 [(0, .ref h0), (2, .ref az), (3, .long ((de (sch fk) (hw fb 0 8) (hw fb 8 8) n).1)), (5, .long ((de (sch fk) (hw fb 0 8) (hw fb 8 8) n).2)), (7, .int (nI (12 - n)))] → W p l e (headSpec wsX1_open ({ frames := 2, cells := 2, slots := 28, locals := 52 })).room s m ([.ref h0, .int x] : List Value).toArray below meth c H locs (2) (28) (MQ below (va_Qv (fun (u : Nat → Int32) => u = decO (sch fk) fb fo) (BX1_open dC dI A h0 ak ab ao dk db dd fk fb fo x) A) ([.ref h0, .int x] : List Value).toArray s 2 28 A) (F0 m 29 ls []) := by
    intro fu
    induction fu with
    | zero => intro az ds n hme; exact absurd hme (Nat.not_lt_zero _)
    | succ fu ih =>
      intro az ds n hme hn12 hK H locs hP hD hS ls hl
      refine lv_iload hx hb dX1_open_29 (lv_at hl 4 rfl) ?_
      refine lv_iconst (v := nI 1) hx hb dX1_open_31 (by decide) ?_
      refine lv_icmp_lt (tgt := 77) hx hb dX1_open_32 (by decide) (fun c_32 => ?_) (fun c_32 => ?_)
      · have hk2 : n = 12 := by
          rcases Nat.lt_or_ge n 12 with q | q
          · exact absurd c_32 (nI_nlt (by omega : 1 ≤ 12 - n) (by omega))
          · omega
        subst hk2
        refine lv_aload_n hx hb dX1_open_77 rfl (lv_at hl 0 rfl) ?_
        refine lv_lload_n hx hb dX1_open_78 rfl (lv_at hl 2 rfl) ?_
        refine lv_aload_n hx hb dX1_open_79 rfl (lv_at hl 1 rfl) ?_
        refine lv_iconst (v := nI 0) hx hb dX1_open_80 (by decide) ?_
        refine va_lald hx hb hK hP 4 3 rfl rfl (vp_in_nI (n := 0) (N := 26) (by omega) (by omega)) dX1_open_81 ?_
        refine lv_topl (fun t_81 et_81 => ?_)
        have et_81 : t_81 = (sch fk) 0 := et_81.trans (congrArg (sch fk) (nI_clamp (n := 0) (by omega)))
        subst et_81
        refine lv_lsub hx hb dX1_open_82 ?_
        refine lv_iconst (v := nI 0) hx hb dX1_open_83 (by decide) ?_
        have hPc := hP.sub (ws' := [(h0, .inr (1, [.ref ak, .ref ab, .ref ao])), (ao, .inl (dd, 16, .inl fo))]) [0, 3] rfl
        have hDc := hD.sub (ws' := [(h0, .inr (1, [.ref ak, .ref ab, .ref ao])), (ao, .inl (dd, 16, .inl fo))]) [0, 3] (by decide) rfl
        have hKc := hK.sub (tys' := [(dd, .int)]) [2] rfl
        have hFc := va_free (wc := [(h0, .inr (1, [.ref ak, .ref ab, .ref ao])), (ao, .inl (dd, 16, .inl fo))]) hD hS hA [0, 3] rfl
        refine va_callv (va_runV (As := [.long (((de (sch fk) (hw fb 0 8) (hw fb 8 8) 12).1) - ((sch fk) 0)), .int (nI 0)]) (rest := []) ⟨hx, hb, hml, hown, hts⟩ (metX1_tells l dC dI h0 ak ab ao dd fo (((de (sch fk) (hw fb 0 8) (hw fb 8 8) 12).1) - ((sch fk) 0)) 0 H.size (by omega)) (cwV 2 hts (lw_V q293 q295 qs10 q13 q296) rfl rfl rfl (by decide +kernel) ⟨Nat.le_of_ble_eq_true rfl, Nat.le_of_ble_eq_true rfl⟩) ⟨fun a U g mk q => by obtain ⟨q0, q1, qP, qK, qD⟩ := q; exact ⟨q0, q1, qP, va_K.moved (u := U) (U := U.calling g mk a) (Vm.Alike.refl U.vm) qK, qD⟩, va_recv hK hP (ci := 1) (q0 := 0) rfl rfl, fun U hU hW => ⟨rfl, by rw [hU], by rw [hU]; exact hPc, va_K.moved hW.alike hKc, hDc.weaken (fun _ _ _ _ => trivial)⟩⟩ rfl rfl hl.1 rfl (lv_room (Nat.le_of_ble_eq_true rfl)) dX1_open_84 ⟨Nat.le_of_ble_eq_true rfl, Nat.le_of_ble_eq_true rfl⟩) hS (fun q _ h => hFc q h) hFc (fun u t H1 locs ht hvm hw_84 hB hz1 hk1 hS => ?_)
        obtain ⟨u_84, rfl⟩ : ∃ z, z = u := ⟨_, rfl⟩
        have hw_84 : u_84 = stn fo 0 (qb (((de (sch fk) (hw fb 0 8) (hw fb 8 8) 12).1) - ((sch fk) 0))) 8 := hw_84
        obtain ⟨hP1, hK1, hD1⟩ := hB
        have hw_84 := hw_84.symm
        subst hw_84
        rw [ht] at hP1
        have hK1 := va_K.moved hvm.symm hK1
        obtain ⟨hP, hD⟩ := va_join (wr := [(ak, .inl (dk, 32, .inl fk)), (ab, .inl (db, 16, .inl fb)), (az, .inl (ds, 26, .inr (.inl (sch fk))))]) (w1 := [(h0, .inr (1, [.ref ak, .ref ab, .ref ao])), (ao, .inl (dd, 16, .inl (stn fo 0 (qb (((de (sch fk) (hw fb 0 8) (hw fb 8 8) 12).1) - ((sch fk) 0))) 8)))]) hP hD [0, 3] [1, 2, 4] rfl rfl (by decide) (by decide) hk1 hFc hP1 hD1
        have hK := (hK.sub (tys' := [(dk, .int), (db, .int), (ds, .long)]) [0, 1, 3] rfl).app hK1
        generalize H1 = H at hP hS ⊢
        have hP : va_P (dC, dI) vwCl [(ak, .inl (dk, 32, .inl fk)), (ab, .inl (db, 16, .inl fb)), (az, .inl (ds, 26, .inr (.inl (sch fk)))), (h0, .inr (1, [.ref ak, .ref ab, .ref ao])), (ao, .inl (dd, 16, .inl (stn fo 0 (qb (((de (sch fk) (hw fb 0 8) (hw fb 8 8) 12).1) - ((sch fk) 0))) 8)))] H := hP
        have hD : va_D A [(ak, .inl (dk, 32, .inl fk)), (ab, .inl (db, 16, .inl fb)), (az, .inl (ds, 26, .inr (.inl (sch fk)))), (h0, .inr (1, [.ref ak, .ref ab, .ref ao])), (ao, .inl (dd, 16, .inl (stn fo 0 (qb (((de (sch fk) (hw fb 0 8) (hw fb 8 8) 12).1) - ((sch fk) 0))) 8)))] := hD
        have hK : va_K (dC, dI) vwCl [(dk, .int), (db, .int), (ds, .long), (dd, .int)] s := hK
        refine lv_aload_n hx hb dX1_open_87 rfl (lv_at hl 0 rfl) ?_
        refine lv_lload hx hb dX1_open_88 (lv_at hl 3 rfl) ?_
        refine lv_aload_n hx hb dX1_open_90 rfl (lv_at hl 1 rfl) ?_
        refine lv_iconst (v := nI 1) hx hb dX1_open_91 (by decide) ?_
        refine va_lald hx hb hK hP 2 2 rfl rfl (vp_in_nI (n := 1) (N := 26) (by omega) (by omega)) dX1_open_92 ?_
        refine lv_topl (fun t_92 et_92 => ?_)
        have et_92 : t_92 = (sch fk) 1 := et_92.trans (congrArg (sch fk) (nI_clamp (n := 1) (by omega)))
        subst et_92
        refine lv_lsub hx hb dX1_open_93 ?_
        refine lv_bipush (v := nI 8) hx hb dX1_open_94 (by decide) ?_
        have hPc := hP.sub (ws' := [(h0, .inr (1, [.ref ak, .ref ab, .ref ao])), (ao, .inl (dd, 16, .inl (stn fo 0 (qb (((de (sch fk) (hw fb 0 8) (hw fb 8 8) 12).1) - ((sch fk) 0))) 8)))]) [3, 4] rfl
        have hDc := hD.sub (ws' := [(h0, .inr (1, [.ref ak, .ref ab, .ref ao])), (ao, .inl (dd, 16, .inl (stn fo 0 (qb (((de (sch fk) (hw fb 0 8) (hw fb 8 8) 12).1) - ((sch fk) 0))) 8)))]) [3, 4] (by decide) rfl
        have hKc := hK.sub (tys' := [(dd, .int)]) [3] rfl
        have hFc := va_free (wc := [(h0, .inr (1, [.ref ak, .ref ab, .ref ao])), (ao, .inl (dd, 16, .inl (stn fo 0 (qb (((de (sch fk) (hw fb 0 8) (hw fb 8 8) 12).1) - ((sch fk) 0))) 8)))]) hD hS hA [3, 4] rfl
        refine va_callv (va_runV (As := [.long (((de (sch fk) (hw fb 0 8) (hw fb 8 8) 12).2) - ((sch fk) 1)), .int (nI 8)]) (rest := []) ⟨hx, hb, hml, hown, hts⟩ (metX1_tells l dC dI h0 ak ab ao dd (stn fo 0 (qb (((de (sch fk) (hw fb 0 8) (hw fb 8 8) 12).1) - ((sch fk) 0))) 8) (((de (sch fk) (hw fb 0 8) (hw fb 8 8) 12).2) - ((sch fk) 1)) 8 H.size (by omega)) (cwV 2 hts (lw_V q293 q295 qs10 q13 q296) rfl rfl rfl (by decide +kernel) ⟨Nat.le_of_ble_eq_true rfl, Nat.le_of_ble_eq_true rfl⟩) ⟨fun a U g mk q => by obtain ⟨q0, q1, qP, qK, qD⟩ := q; exact ⟨q0, q1, qP, va_K.moved (u := U) (U := U.calling g mk a) (Vm.Alike.refl U.vm) qK, qD⟩, va_recv hK hP (ci := 1) (q0 := 3) rfl rfl, fun U hU hW => ⟨rfl, by rw [hU], by rw [hU]; exact hPc, va_K.moved hW.alike hKc, hDc.weaken (fun _ _ _ _ => trivial)⟩⟩ rfl rfl hl.1 rfl (lv_room (Nat.le_of_ble_eq_true rfl)) dX1_open_96 ⟨Nat.le_of_ble_eq_true rfl, Nat.le_of_ble_eq_true rfl⟩) hS (fun q _ h => hFc q h) hFc (fun u t H1 locs ht hvm hw_96 hB hz1 hk1 hS => ?_)
        obtain ⟨u_96, rfl⟩ : ∃ z, z = u := ⟨_, rfl⟩
        have hw_96 : u_96 = stn (stn fo 0 (qb (((de (sch fk) (hw fb 0 8) (hw fb 8 8) 12).1) - ((sch fk) 0))) 8) 8 (qb (((de (sch fk) (hw fb 0 8) (hw fb 8 8) 12).2) - ((sch fk) 1))) 8 := hw_96
        obtain ⟨hP1, hK1, hD1⟩ := hB
        have hw_96 := hw_96.symm
        subst hw_96
        rw [ht] at hP1
        have hK1 := va_K.moved hvm.symm hK1
        obtain ⟨hP, hD⟩ := va_join (wr := [(ak, .inl (dk, 32, .inl fk)), (ab, .inl (db, 16, .inl fb)), (az, .inl (ds, 26, .inr (.inl (sch fk))))]) (w1 := [(h0, .inr (1, [.ref ak, .ref ab, .ref ao])), (ao, .inl (dd, 16, .inl (stn (stn fo 0 (qb (((de (sch fk) (hw fb 0 8) (hw fb 8 8) 12).1) - ((sch fk) 0))) 8) 8 (qb (((de (sch fk) (hw fb 0 8) (hw fb 8 8) 12).2) - ((sch fk) 1))) 8)))]) hP hD [3, 4] [0, 1, 2] rfl rfl (by decide) (by decide) hk1 hFc hP1 hD1
        have hK := (hK.sub (tys' := [(dk, .int), (db, .int), (ds, .long)]) [0, 1, 2] rfl).app hK1
        generalize H1 = H at hP hS ⊢
        have hP : va_P (dC, dI) vwCl [(ak, .inl (dk, 32, .inl fk)), (ab, .inl (db, 16, .inl fb)), (az, .inl (ds, 26, .inr (.inl (sch fk)))), (h0, .inr (1, [.ref ak, .ref ab, .ref ao])), (ao, .inl (dd, 16, .inl (stn (stn fo 0 (qb (((de (sch fk) (hw fb 0 8) (hw fb 8 8) 12).1) - ((sch fk) 0))) 8) 8 (qb (((de (sch fk) (hw fb 0 8) (hw fb 8 8) 12).2) - ((sch fk) 1))) 8)))] H := hP
        have hD : va_D A [(ak, .inl (dk, 32, .inl fk)), (ab, .inl (db, 16, .inl fb)), (az, .inl (ds, 26, .inr (.inl (sch fk)))), (h0, .inr (1, [.ref ak, .ref ab, .ref ao])), (ao, .inl (dd, 16, .inl (stn (stn fo 0 (qb (((de (sch fk) (hw fb 0 8) (hw fb 8 8) 12).1) - ((sch fk) 0))) 8) 8 (qb (((de (sch fk) (hw fb 0 8) (hw fb 8 8) 12).2) - ((sch fk) 1))) 8)))] := hD
        have hK : va_K (dC, dI) vwCl [(dk, .int), (db, .int), (ds, .long), (dd, .int)] s := hK
        refine W.widen (k := 2) (n := 28) (Nat.le_of_ble_eq_true rfl) (Nat.le_of_ble_eq_true rfl) ?_
        have hP9 := hP.sub (ws' := [(h0, .inr (1, [.ref ak, .ref ab, .ref ao])), (ak, .inl (dk, 32, .inl fk)), (ab, .inl (db, 16, .inl fb)), (ao, .inl (dd, 16, .inl ((decO (sch fk) fb fo))))]) [3, 0, 1, 4] rfl
        have hD9 := hD.sub (ws' := [(h0, .inr (1, [.ref ak, .ref ab, .ref ao])), (ak, .inl (dk, 32, .inl fk)), (ab, .inl (db, 16, .inl fb)), (ao, .inl (dd, 16, .inl ((decO (sch fk) fb fo))))]) [3, 0, 1, 4] (by decide) rfl
        have hK9 := hK.sub (tys' := [(dk, .int), (db, .int), (dd, .int)]) [0, 1, 3] rfl
        exact W.vret hx hb hr (fun t ht hW => ⟨⟨(decO (sch fk) fb fo), rfl, rfl, by rw [ht]; exact hP9, va_K.moved hW.alike hK9, hD9⟩, hS.F ht⟩) hS.2.2 dX1_open_99
      · have hlt : n < 12 := by
          rcases Nat.lt_or_ge n 12 with q | q
          · exact q
          · exact absurd (nI_lt (by omega : 12 - n < 1) (by omega)) c_32
        refine lv_lload hx hb dX1_open_35 (lv_at hl 3 rfl) ?_
        refine lv_aload_n hx hb dX1_open_37 rfl (lv_at hl 1 rfl) ?_
        refine lv_iconst (v := nI 2) hx hb dX1_open_38 (by decide) ?_
        refine lv_iload hx hb dX1_open_39 (lv_at hl 4 rfl) ?_
        refine lv_imul hx hb dX1_open_41 ?_
        refine lv_topi (fun t_41 et_41 => ?_)
        have et_41 : t_41 = nI (2 * (12 - n)) := et_41.trans (pk_mul 2 (12 - n))
        subst et_41
        refine lv_iconst (v := nI 1) hx hb dX1_open_42 (by decide) ?_
        refine lv_iadd hx hb dX1_open_43 ?_
        refine lv_topi (fun t_43 et_43 => ?_)
        have et_43 : t_43 = nI (2 * (12 - n) + 1) := et_43.trans (nI_add (2 * (12 - n)) 1)
        subst et_43
        refine va_lald hx hb hK hP 4 3 rfl rfl (vp_in_nI (n := (2 * (12 - n) + 1)) (N := 26) (by omega) (by omega)) dX1_open_44 ?_
        refine lv_topl (fun t_44 et_44 => ?_)
        have et_44 : t_44 = (sch fk) (2 * (12 - n) + 1) := et_44.trans (congrArg (sch fk) (nI_clamp (n := (2 * (12 - n) + 1)) (by omega)))
        subst et_44
        refine lv_lsub hx hb dX1_open_45 ?_
        refine lv_lload_n hx hb dX1_open_46 rfl (lv_at hl 2 rfl) ?_
        have hPc := hP.sub (ws' := []) [] rfl
        have hDc := hD.sub (ws' := []) [] (by decide) rfl
        have hKc := hK.sub (tys' := []) [] rfl
        have hFc := va_free (wc := []) hD hS hA [] rfl
        refine va_calll (va_runS (As := [.long (((de (sch fk) (hw fb 0 8) (hw fb 8 8) n).2) - ((sch fk) (2 * (12 - n) + 1))), .long ((de (sch fk) (hw fb 0 8) (hw fb 8 8) n).1)]) (rest := []) ⟨hx, hb, hml, hown, hts⟩ (metX1_back l dC dI (((de (sch fk) (hw fb 0 8) (hw fb 8 8) n).2) - ((sch fk) (2 * (12 - n) + 1))) ((de (sch fk) (hw fb 0 8) (hw fb 8 8) n).1) H.size) (va_cwS 2 hts (lw_S q302 q303 q13 q304) rfl rfl rfl (by decide +kernel) ⟨Nat.le_of_ble_eq_true rfl, Nat.le_of_ble_eq_true rfl⟩) ⟨fun a U g mk q => by obtain ⟨q0, q1, qP, qK, qD⟩ := q; exact ⟨q0, q1, qP, va_K.moved (u := U) (U := U.calling g mk a) (Vm.Alike.refl U.vm) qK, qD⟩, fun U hU hW => ⟨rfl, by rw [hU], by rw [hU]; exact hPc, va_K.moved hW.alike hKc, hDc.weaken (fun _ _ _ _ => trivial)⟩⟩ rfl rfl hl.1 rfl (lv_room (Nat.le_of_ble_eq_true rfl)) dX1_open_47 ⟨Nat.le_of_ble_eq_true rfl, Nat.le_of_ble_eq_true rfl⟩) hS (fun q _ h => hFc q h) hFc (fun r_47 u t H1 locs ht hvm hw_47 hB hz1 hk1 hS => ?_)
        obtain ⟨u_47, rfl⟩ : ∃ z, z = u := ⟨_, rfl⟩
        have hw_47 : r_47 = rr (((de (sch fk) (hw fb 0 8) (hw fb 8 8) n).2) - ((sch fk) (2 * (12 - n) + 1))) ((de (sch fk) (hw fb 0 8) (hw fb 8 8) n).1) := hw_47
        obtain ⟨hP1, hK1, hD1⟩ := hB
        have hw_47 := hw_47.symm
        subst hw_47
        rw [ht] at hP1
        have hK1 := va_K.moved hvm.symm hK1
        obtain ⟨hP, hD⟩ := va_join (wr := [(h0, .inr (1, [.ref ak, .ref ab, .ref ao])), (ak, .inl (dk, 32, .inl fk)), (ab, .inl (db, 16, .inl fb)), (ao, .inl (dd, 16, .inl fo)), (az, .inl (ds, 26, .inr (.inl (sch fk))))]) (w1 := []) hP hD [] [0, 1, 2, 3, 4] rfl rfl (by decide) (by decide) hk1 hFc hP1 hD1
        have hK := (hK.sub (tys' := [(dk, .int), (db, .int), (dd, .int), (ds, .long)]) [0, 1, 2, 3] rfl).app hK1
        generalize H1 = H at hP hS ⊢
        have hP : va_P (dC, dI) vwCl [(h0, .inr (1, [.ref ak, .ref ab, .ref ao])), (ak, .inl (dk, 32, .inl fk)), (ab, .inl (db, 16, .inl fb)), (ao, .inl (dd, 16, .inl fo)), (az, .inl (ds, 26, .inr (.inl (sch fk))))] H := hP
        have hD : va_D A [(h0, .inr (1, [.ref ak, .ref ab, .ref ao])), (ak, .inl (dk, 32, .inl fk)), (ab, .inl (db, 16, .inl fb)), (ao, .inl (dd, 16, .inl fo)), (az, .inl (ds, 26, .inr (.inl (sch fk))))] := hD
        have hK : va_K (dC, dI) vwCl [(dk, .int), (db, .int), (dd, .int), (ds, .long)] s := hK
        refine lv_lload_n hx hb dX1_open_50 rfl (lv_at hl 2 rfl) ?_
        refine lv_lxor hx hb dX1_open_51 ?_
        refine lv_topl (fun t_51 et_51 => ?_)
        have et_51 : t_51 = (de (sch fk) (hw fb 0 8) (hw fb 8 8) (n + 1)).2 := et_51.trans (rfl)
        subst et_51
        refine lv_lstore (lv' := [(5, .long ((de (sch fk) (hw fb 0 8) (hw fb 8 8) (n + 1)).2)), (0, .ref h0), (2, .ref az), (3, .long ((de (sch fk) (hw fb 0 8) (hw fb 8 8) n).1)), (7, .int (nI (12 - n)))]) hx hb dX1_open_52 hl (by decide) rfl (fun ls hl => ?_)
        refine lv_lload_n hx hb dX1_open_54 rfl (lv_at hl 3 rfl) ?_
        refine lv_aload_n hx hb dX1_open_55 rfl (lv_at hl 2 rfl) ?_
        refine lv_iconst (v := nI 2) hx hb dX1_open_56 (by decide) ?_
        refine lv_iload hx hb dX1_open_57 (lv_at hl 4 rfl) ?_
        refine lv_imul hx hb dX1_open_59 ?_
        refine lv_topi (fun t_59 et_59 => ?_)
        have et_59 : t_59 = nI (2 * (12 - n)) := et_59.trans (pk_mul 2 (12 - n))
        subst et_59
        refine va_lald hx hb hK hP 4 3 rfl rfl (vp_in_nI (n := (2 * (12 - n))) (N := 26) (by omega) (by omega)) dX1_open_60 ?_
        refine lv_topl (fun t_60 et_60 => ?_)
        have et_60 : t_60 = (sch fk) (2 * (12 - n)) := et_60.trans (congrArg (sch fk) (nI_clamp (n := (2 * (12 - n))) (by omega)))
        subst et_60
        refine lv_lsub hx hb dX1_open_61 ?_
        refine lv_lload hx hb dX1_open_62 (lv_at hl 0 rfl) ?_
        have hPc := hP.sub (ws' := []) [] rfl
        have hDc := hD.sub (ws' := []) [] (by decide) rfl
        have hKc := hK.sub (tys' := []) [] rfl
        have hFc := va_free (wc := []) hD hS hA [] rfl
        refine va_calll (va_runS (As := [.long (((de (sch fk) (hw fb 0 8) (hw fb 8 8) n).1) - ((sch fk) (2 * (12 - n)))), .long ((de (sch fk) (hw fb 0 8) (hw fb 8 8) (n + 1)).2)]) (rest := []) ⟨hx, hb, hml, hown, hts⟩ (metX1_back l dC dI (((de (sch fk) (hw fb 0 8) (hw fb 8 8) n).1) - ((sch fk) (2 * (12 - n)))) ((de (sch fk) (hw fb 0 8) (hw fb 8 8) (n + 1)).2) H.size) (va_cwS 2 hts (lw_S q302 q303 q13 q304) rfl rfl rfl (by decide +kernel) ⟨Nat.le_of_ble_eq_true rfl, Nat.le_of_ble_eq_true rfl⟩) ⟨fun a U g mk q => by obtain ⟨q0, q1, qP, qK, qD⟩ := q; exact ⟨q0, q1, qP, va_K.moved (u := U) (U := U.calling g mk a) (Vm.Alike.refl U.vm) qK, qD⟩, fun U hU hW => ⟨rfl, by rw [hU], by rw [hU]; exact hPc, va_K.moved hW.alike hKc, hDc.weaken (fun _ _ _ _ => trivial)⟩⟩ rfl rfl hl.1 rfl (lv_room (Nat.le_of_ble_eq_true rfl)) dX1_open_64 ⟨Nat.le_of_ble_eq_true rfl, Nat.le_of_ble_eq_true rfl⟩) hS (fun q _ h => hFc q h) hFc (fun r_64 u t H1 locs ht hvm hw_64 hB hz1 hk1 hS => ?_)
        obtain ⟨u_64, rfl⟩ : ∃ z, z = u := ⟨_, rfl⟩
        have hw_64 : r_64 = rr (((de (sch fk) (hw fb 0 8) (hw fb 8 8) n).1) - ((sch fk) (2 * (12 - n)))) ((de (sch fk) (hw fb 0 8) (hw fb 8 8) (n + 1)).2) := hw_64
        obtain ⟨hP1, hK1, hD1⟩ := hB
        have hw_64 := hw_64.symm
        subst hw_64
        rw [ht] at hP1
        have hK1 := va_K.moved hvm.symm hK1
        obtain ⟨hP, hD⟩ := va_join (wr := [(h0, .inr (1, [.ref ak, .ref ab, .ref ao])), (ak, .inl (dk, 32, .inl fk)), (ab, .inl (db, 16, .inl fb)), (ao, .inl (dd, 16, .inl fo)), (az, .inl (ds, 26, .inr (.inl (sch fk))))]) (w1 := []) hP hD [] [0, 1, 2, 3, 4] rfl rfl (by decide) (by decide) hk1 hFc hP1 hD1
        have hK := (hK.sub (tys' := [(dk, .int), (db, .int), (dd, .int), (ds, .long)]) [0, 1, 2, 3] rfl).app hK1
        generalize H1 = H at hP hS ⊢
        have hP : va_P (dC, dI) vwCl [(h0, .inr (1, [.ref ak, .ref ab, .ref ao])), (ak, .inl (dk, 32, .inl fk)), (ab, .inl (db, 16, .inl fb)), (ao, .inl (dd, 16, .inl fo)), (az, .inl (ds, 26, .inr (.inl (sch fk))))] H := hP
        have hD : va_D A [(h0, .inr (1, [.ref ak, .ref ab, .ref ao])), (ak, .inl (dk, 32, .inl fk)), (ab, .inl (db, 16, .inl fb)), (ao, .inl (dd, 16, .inl fo)), (az, .inl (ds, 26, .inr (.inl (sch fk))))] := hD
        have hK : va_K (dC, dI) vwCl [(dk, .int), (db, .int), (dd, .int), (ds, .long)] s := hK
        refine lv_lload hx hb dX1_open_67 (lv_at hl 0 rfl) ?_
        refine lv_lxor hx hb dX1_open_69 ?_
        refine lv_topl (fun t_69 et_69 => ?_)
        have et_69 : t_69 = (de (sch fk) (hw fb 0 8) (hw fb 8 8) (n + 1)).1 := et_69.trans (rfl)
        subst et_69
        refine lv_lstore_n (lv' := [(3, .long ((de (sch fk) (hw fb 0 8) (hw fb 8 8) (n + 1)).1)), (5, .long ((de (sch fk) (hw fb 0 8) (hw fb 8 8) (n + 1)).2)), (0, .ref h0), (2, .ref az), (7, .int (nI (12 - n)))]) hx hb dX1_open_70 rfl hl (by decide) rfl (fun ls hl => ?_)
        refine lv_iinc (v := nI (12 - (n + 1))) (lv' := [(7, .int (nI (12 - (n + 1)))), (3, .long ((de (sch fk) (hw fb 0 8) (hw fb 8 8) (n + 1)).1)), (5, .long ((de (sch fk) (hw fb 0 8) (hw fb 8 8) (n + 1)).2)), (0, .ref h0), (2, .ref az)]) hx hb dX1_open_71 hl (k := 4) rfl (cd_12 n hlt) (by decide) rfl (fun ls hl => ?_)
        refine lv_goto (tgt := 29) hx hb dX1_open_74 (by decide) ?_
        refine W.widen (k := 2) (n := 28) (Nat.le_of_ble_eq_true rfl) (Nat.le_of_ble_eq_true rfl) ?_
        exact ih az ds (n + 1) (by omega) (by omega) (hK.sub [0, 1, 2, 3] rfl) _ _ (hP.sub (ws' := [(h0, .inr (1, [.ref ak, .ref ab, .ref ao])), (ak, .inl (dk, 32, .inl fk)), (ab, .inl (db, 16, .inl fb)), (ao, .inl (dd, 16, .inl fo)), (az, .inl (ds, 26, .inr (.inl (sch fk))))]) [0, 1, 2, 3, 4] rfl) (hD.sub (ws' := [(h0, .inr (1, [.ref ak, .ref ab, .ref ao])), (ak, .inl (dk, 32, .inl fk)), (ab, .inl (db, 16, .inl fb)), (ao, .inl (dd, 16, .inl fo)), (az, .inl (ds, 26, .inr (.inl (sch fk))))]) [0, 1, 2, 3, 4] (by decide) rfl) hS _ (lv_sub hl [3, 4, 1, 2, 0] rfl)
  refine lv_aload_n hx hb dX1_open_0 rfl (lv_at hl 0 rfl) ?_
  have hPc := hP.sub (ws' := [(h0, .inr (1, [.ref ak, .ref ab, .ref ao])), (ak, .inl (dk, 32, .inl fk))]) [0, 1] rfl
  have hDc := hD.sub (ws' := [(h0, .inr (1, [.ref ak, .ref ab, .ref ao])), (ak, .inl (dk, 32, .inl fk))]) [0, 1] (by decide) rfl
  have hKc := hK.sub (tys' := [(dk, .int)]) [0] rfl
  have hFc := va_free (wc := [(h0, .inr (1, [.ref ak, .ref ab, .ref ao])), (ak, .inl (dk, 32, .inl fk))]) hD hS hA [0, 1] rfl
  refine va_callr (va_runV (As := []) (rest := []) ⟨hx, hb, hml, hown, hts⟩ (metX1_expanded l dC dI h0 ak ab ao dk fk s.heap.size hfk) (cwV 0 hts (lw_V q279 q281 qs9 q13 q282) rfl rfl rfl (by decide +kernel) ⟨Nat.le_of_ble_eq_true rfl, Nat.le_of_ble_eq_true rfl⟩) ⟨fun a U g mk q => by obtain ⟨q0, q1, qP, qK, qD⟩ := q; exact ⟨q0, q1, qP, va_K.moved (u := U) (U := U.calling g mk a) (Vm.Alike.refl U.vm) qK, qD⟩, va_recv hK hP (ci := 1) (q0 := 0) rfl rfl, fun U hU hW => ⟨rfl, by rw [hU], by rw [hU]; exact hPc, va_K.moved hW.alike hKc, hDc.weaken (fun _ _ _ _ => trivial)⟩⟩ rfl rfl hl.1 rfl (lv_room (Nat.le_of_ble_eq_true rfl)) dX1_open_1 ⟨Nat.le_of_ble_eq_true rfl, Nat.le_of_ble_eq_true rfl⟩) hS (fun q _ h => hFc q h) hFc (fun u ra t H1 locs ht hvm hw_1 hB hz1 hk1 hS => ?_)
  obtain ⟨u_1, rfl⟩ : ∃ z, z = u := ⟨_, rfl⟩
  obtain ⟨az_1, ds_1, hra, hP1, hK1, hD1⟩ := hB
  have hra := hra.symm
  subst hra
  rw [ht] at hP1
  have hK1 := va_K.moved hvm.symm hK1
  obtain ⟨hP, hD⟩ := va_join (wr := [(ab, .inl (db, 16, .inl fb)), (ao, .inl (dd, 16, .inl fo))]) (w1 := [(h0, .inr (1, [.ref ak, .ref ab, .ref ao])), (ak, .inl (dk, 32, .inl fk)), (az_1, .inl (ds_1, 26, .inr (.inl (sch fk))))]) hP hD [0, 1] [2, 3] rfl rfl (by decide) (by decide) hk1 hFc hP1 hD1
  have hK := (hK.sub (tys' := [(db, .int), (dd, .int)]) [1, 2] rfl).app hK1
  generalize H1 = H at hP hS ⊢
  have hP : va_P (dC, dI) vwCl [(ab, .inl (db, 16, .inl fb)), (ao, .inl (dd, 16, .inl fo)), (h0, .inr (1, [.ref ak, .ref ab, .ref ao])), (ak, .inl (dk, 32, .inl fk)), (az_1, .inl (ds_1, 26, .inr (.inl (sch fk))))] H := hP
  have hD : va_D A [(ab, .inl (db, 16, .inl fb)), (ao, .inl (dd, 16, .inl fo)), (h0, .inr (1, [.ref ak, .ref ab, .ref ao])), (ak, .inl (dk, 32, .inl fk)), (az_1, .inl (ds_1, 26, .inr (.inl (sch fk))))] := hD
  have hK : va_K (dC, dI) vwCl [(db, .int), (dd, .int), (dk, .int), (ds_1, .long)] s := hK
  refine lv_astore_n (lv' := [(2, .ref az_1), (0, .ref h0), (1, .int x)]) hx hb dX1_open_4 rfl hl (by decide) rfl (fun ls hl => ?_)
  refine lv_aload_n hx hb dX1_open_5 rfl (lv_at hl 1 rfl) ?_
  refine va_get (D := (dC, dI)) (ci := 1) (v := .ref ab) (C := RX1) (T := TX1) (N := 3) hx hb hts in_X1 hown hK hP 2 rfl rfl 1 (by decide) (hts _ q243) (fun _ h9 => h9) rfl dX1_open_6 ?_
  refine lv_iconst (v := nI 0) hx hb dX1_open_9 (by decide) ?_
  have hPc := hP.sub (ws' := [(ab, .inl (db, 16, .inl fb))]) [0] rfl
  have hDc := hD.sub (ws' := [(ab, .inl (db, 16, .inl fb))]) [0] (by decide) rfl
  have hKc := hK.sub (tys' := [(db, .int)]) [0] rfl
  have hFc := va_free (wc := [(ab, .inl (db, 16, .inl fb))]) hD hS hA [0] rfl
  refine va_calll (va_runS (As := [.ref ab, .int (nI 0)]) (rest := []) ⟨hx, hb, hml, hown, hts⟩ (metX1_told l dC dI ab db 16 0 fb H.size (by omega) (by omega) hfb) (va_cwS 2 hts (lw_S q285 q286 q13 q287) rfl rfl rfl (by decide +kernel) ⟨Nat.le_of_ble_eq_true rfl, Nat.le_of_ble_eq_true rfl⟩) ⟨fun a U g mk q => by obtain ⟨q0, q1, qP, qK, qD⟩ := q; exact ⟨q0, q1, qP, va_K.moved (u := U) (U := U.calling g mk a) (Vm.Alike.refl U.vm) qK, qD⟩, fun U hU hW => ⟨rfl, by rw [hU], by rw [hU]; exact hPc, va_K.moved hW.alike hKc, hDc.weaken (fun _ _ _ _ => trivial)⟩⟩ rfl rfl hl.1 rfl (lv_room (Nat.le_of_ble_eq_true rfl)) dX1_open_10 ⟨Nat.le_of_ble_eq_true rfl, Nat.le_of_ble_eq_true rfl⟩) hS (fun q _ h => hFc q h) hFc (fun r_10 u t H1 locs ht hvm hw_10 hB hz1 hk1 hS => ?_)
  obtain ⟨u_10, rfl⟩ : ∃ z, z = u := ⟨_, rfl⟩
  have hw_10 : r_10 = hw fb 0 8 := hw_10
  obtain ⟨hP1, hK1, hD1⟩ := hB
  have hw_10 := hw_10.symm
  subst hw_10
  rw [ht] at hP1
  have hK1 := va_K.moved hvm.symm hK1
  obtain ⟨hP, hD⟩ := va_join (wr := [(ao, .inl (dd, 16, .inl fo)), (h0, .inr (1, [.ref ak, .ref ab, .ref ao])), (ak, .inl (dk, 32, .inl fk)), (az_1, .inl (ds_1, 26, .inr (.inl (sch fk))))]) (w1 := [(ab, .inl (db, 16, .inl fb))]) hP hD [0] [1, 2, 3, 4] rfl rfl (by decide) (by decide) hk1 hFc hP1 hD1
  have hK := (hK.sub (tys' := [(dd, .int), (dk, .int), (ds_1, .long)]) [1, 2, 3] rfl).app hK1
  generalize H1 = H at hP hS ⊢
  have hP : va_P (dC, dI) vwCl [(ao, .inl (dd, 16, .inl fo)), (h0, .inr (1, [.ref ak, .ref ab, .ref ao])), (ak, .inl (dk, 32, .inl fk)), (az_1, .inl (ds_1, 26, .inr (.inl (sch fk)))), (ab, .inl (db, 16, .inl fb))] H := hP
  have hD : va_D A [(ao, .inl (dd, 16, .inl fo)), (h0, .inr (1, [.ref ak, .ref ab, .ref ao])), (ak, .inl (dk, 32, .inl fk)), (az_1, .inl (ds_1, 26, .inr (.inl (sch fk)))), (ab, .inl (db, 16, .inl fb))] := hD
  have hK : va_K (dC, dI) vwCl [(dd, .int), (dk, .int), (ds_1, .long), (db, .int)] s := hK
  refine lv_lstore_n (lv' := [(3, .long (hw fb 0 8)), (2, .ref az_1), (0, .ref h0), (1, .int x)]) hx hb dX1_open_13 rfl hl (by decide) rfl (fun ls hl => ?_)
  refine lv_aload_n hx hb dX1_open_14 rfl (lv_at hl 2 rfl) ?_
  refine va_get (D := (dC, dI)) (ci := 1) (v := .ref ab) (C := RX1) (T := TX1) (N := 3) hx hb hts in_X1 hown hK hP 1 rfl rfl 1 (by decide) (hts _ q243) (fun _ h9 => h9) rfl dX1_open_15 ?_
  refine lv_bipush (v := nI 8) hx hb dX1_open_18 (by decide) ?_
  have hPc := hP.sub (ws' := [(ab, .inl (db, 16, .inl fb))]) [4] rfl
  have hDc := hD.sub (ws' := [(ab, .inl (db, 16, .inl fb))]) [4] (by decide) rfl
  have hKc := hK.sub (tys' := [(db, .int)]) [3] rfl
  have hFc := va_free (wc := [(ab, .inl (db, 16, .inl fb))]) hD hS hA [4] rfl
  refine va_calll (va_runS (As := [.ref ab, .int (nI 8)]) (rest := []) ⟨hx, hb, hml, hown, hts⟩ (metX1_told l dC dI ab db 16 8 fb H.size (by omega) (by omega) hfb) (va_cwS 2 hts (lw_S q285 q286 q13 q287) rfl rfl rfl (by decide +kernel) ⟨Nat.le_of_ble_eq_true rfl, Nat.le_of_ble_eq_true rfl⟩) ⟨fun a U g mk q => by obtain ⟨q0, q1, qP, qK, qD⟩ := q; exact ⟨q0, q1, qP, va_K.moved (u := U) (U := U.calling g mk a) (Vm.Alike.refl U.vm) qK, qD⟩, fun U hU hW => ⟨rfl, by rw [hU], by rw [hU]; exact hPc, va_K.moved hW.alike hKc, hDc.weaken (fun _ _ _ _ => trivial)⟩⟩ rfl rfl hl.1 rfl (lv_room (Nat.le_of_ble_eq_true rfl)) dX1_open_20 ⟨Nat.le_of_ble_eq_true rfl, Nat.le_of_ble_eq_true rfl⟩) hS (fun q _ h => hFc q h) hFc (fun r_20 u t H1 locs ht hvm hw_20 hB hz1 hk1 hS => ?_)
  obtain ⟨u_20, rfl⟩ : ∃ z, z = u := ⟨_, rfl⟩
  have hw_20 : r_20 = hw fb 8 8 := hw_20
  obtain ⟨hP1, hK1, hD1⟩ := hB
  have hw_20 := hw_20.symm
  subst hw_20
  rw [ht] at hP1
  have hK1 := va_K.moved hvm.symm hK1
  obtain ⟨hP, hD⟩ := va_join (wr := [(ao, .inl (dd, 16, .inl fo)), (h0, .inr (1, [.ref ak, .ref ab, .ref ao])), (ak, .inl (dk, 32, .inl fk)), (az_1, .inl (ds_1, 26, .inr (.inl (sch fk))))]) (w1 := [(ab, .inl (db, 16, .inl fb))]) hP hD [4] [0, 1, 2, 3] rfl rfl (by decide) (by decide) hk1 hFc hP1 hD1
  have hK := (hK.sub (tys' := [(dd, .int), (dk, .int), (ds_1, .long)]) [0, 1, 2] rfl).app hK1
  generalize H1 = H at hP hS ⊢
  have hP : va_P (dC, dI) vwCl [(ao, .inl (dd, 16, .inl fo)), (h0, .inr (1, [.ref ak, .ref ab, .ref ao])), (ak, .inl (dk, 32, .inl fk)), (az_1, .inl (ds_1, 26, .inr (.inl (sch fk)))), (ab, .inl (db, 16, .inl fb))] H := hP
  have hD : va_D A [(ao, .inl (dd, 16, .inl fo)), (h0, .inr (1, [.ref ak, .ref ab, .ref ao])), (ak, .inl (dk, 32, .inl fk)), (az_1, .inl (ds_1, 26, .inr (.inl (sch fk)))), (ab, .inl (db, 16, .inl fb))] := hD
  have hK : va_K (dC, dI) vwCl [(dd, .int), (dk, .int), (ds_1, .long), (db, .int)] s := hK
  refine lv_lstore (lv' := [(5, .long (hw fb 8 8)), (3, .long (hw fb 0 8)), (2, .ref az_1), (0, .ref h0), (1, .int x)]) hx hb dX1_open_23 hl (by decide) rfl (fun ls hl => ?_)
  refine lv_bipush (v := nI 12) hx hb dX1_open_25 (by decide) ?_
  refine lv_istore (lv' := [(7, .int (nI 12)), (5, .long (hw fb 8 8)), (3, .long (hw fb 0 8)), (2, .ref az_1), (0, .ref h0), (1, .int x)]) hx hb dX1_open_27 hl (by decide) rfl (fun ls hl => ?_)
  refine W.widen (k := 2) (n := 28) (Nat.le_of_ble_eq_true rfl) (Nat.le_of_ble_eq_true rfl) ?_
  exact lp _ az_1 ds_1 0 (Nat.lt_succ_self _) (by omega) (hK.sub [1, 3, 0, 2] rfl) _ _ (hP.sub (ws' := [(h0, .inr (1, [.ref ak, .ref ab, .ref ao])), (ak, .inl (dk, 32, .inl fk)), (ab, .inl (db, 16, .inl fb)), (ao, .inl (dd, 16, .inl fo)), (az_1, .inl (ds_1, 26, .inr (.inl (sch fk))))]) [1, 2, 4, 0, 3] rfl) (hD.sub (ws' := [(h0, .inr (1, [.ref ak, .ref ab, .ref ao])), (ak, .inl (dk, 32, .inl fk)), (ab, .inl (db, 16, .inl fb)), (ao, .inl (dd, 16, .inl fo)), (az_1, .inl (ds_1, 26, .inr (.inl (sch fk))))]) [1, 2, 4, 0, 3] (by decide) rfl) hS _ (lv_sub hl [4, 3, 2, 1, 0] rfl)
end
section
abbrev wsX2_init : List Cond := ws_ yX2_init cX2_init 1 none
abbrev BX2_init (dC : Nat → ClassId) (dI : Nat → Nat → Nat) (A : Nat → Prop) (h0 : Nat) (u : Unit) (t : State) : Prop := va_P (dC, dI) vwCl [(h0, .inr (2, [.int (nI 12), .null, .int (nI 0)]))] t.heap ∧ va_K (dC, dI) vwCl [] t ∧ va_D A [(h0, .inr (2, [.int (nI 12), .null, .int (nI 0)]))]
set_option maxHeartbeats 4000000 in
set_option maxRecDepth 100000 in
/-- RC564Engine() -/
theorem metX2_init (l : Launch) (dC : Nat → ClassId) (dI : Nat → Nat → Nat) (h0 : Nat) (sz : Nat) : Met l yX2_init wsX2_init ({ frames := 1, cells := 0, slots := 0, locals := 12 }) (va_Pc [.ref h0] (fun U => U.heap.size = sz ∧ va_P (dC, dI) vwCl [(h0, .inr (2, [.int (nI 0), .null, .int (nI 0)]))] U.heap ∧ va_K (dC, dI) vwCl [] U ∧ va_D (fun _ => True) [(h0, .inr (2, [.int (nI 0), .null, .int (nI 0)]))])) (va_Qv (fun (u : Unit) => True) (BX2_init dC dI (va_A [(h0, .inr (2, [.int (nI 0), .null, .int (nI 0)]))] sz) h0) (va_A [(h0, .inr (2, [.int (nI 0), .null, .int (nI 0)]))] sz)) 0 0 (va_A [(h0, .inr (2, [.int (nI 0), .null, .int (nI 0)]))] sz) := by
  refine Met.ofW (cc := cX2_init) (maxL := 1) (ret := none) (by decide) rfl ?_
  intro p e s m args below meth c s₁ B hml hv
  obtain ⟨rfl, hsz, hP, hK, hD0⟩ := hv
  have hx := B.exec
  have hb := B.bytes
  have hr := B.returns
  have hts := atoms_spec (ws := wsX2_init) B.pre
  have hts : ∀ w ∈ lw_all, w.before _ s = true := fun w h => hts w (List.mem_cons_of_mem _ h)
  have hown : s.vm.findClass RX2 = some m.cls := findClass_of_methodNamed B.named
  have hlocks := B.notSynchronized
  have hin : meth.name = "<init>" := (name_of_methodNamed B.named B.method).1
  subst hsz
  have hD := hD0.self (sz := s.heap.size)
  generalize hAe : va_A [(h0, .inr (2, [.int (nI 0), .null, .int (nI 0)]))] s.heap.size = A at hD ⊢
  have hA : ∀ q : Nat, s.heap.size ≤ q → A q := fun q h => by rw [← hAe]; exact Or.inr h
  have hS : va_S A s.heap s.heap [] := va_S.rf
  have hP : va_P (dC, dI) vwCl [(h0, .inr (2, [.int (nI 0), .null, .int (nI 0)]))] s.heap := hP
  have hl := lv_entry ([.ref h0]) (n := 1) (Nat.le_of_ble_eq_true rfl)
  rw [lg_entry_eq]
  generalize (lg_sl ([.ref h0]) ++ List.replicate (1 - (lg_sl ([.ref h0])).length) Slot.unset).toArray = ls at hl ⊢
  have hl : lv_has ls 1 [(0, .ref h0)] := hl
  refine lv_aload_n hx hb dX2_init_0 rfl (lv_at hl 0 rfl) ?_
  refine W.objInit hx hb hown (hts _ q67) (hts _ q27) (hts _ q28) rfl (by rw [hml]; exact hl.1) rfl dX2_init_1 (Nat.le_of_ble_eq_true rfl) (Nat.le_of_ble_eq_true rfl) ?_
  refine W.eq (g2 := F0 m 4 ls []) rfl ?_
  refine lv_aload_n hx hb dX2_init_4 rfl (lv_at hl 0 rfl) ?_
  refine lv_bipush (v := nI 12) hx hb dX2_init_5 (by decide) ?_
  refine va_put (D := (dC, dI)) (ci := 2) (v := .int (nI 12)) (ty := .int) (C := RX2) (T := TX2) (N := 3) hx hb hts in_X2 tyX2 tyX2_ok nmX2 hown hK hP hD hS 0 rfl rfl 0 (by decide) (hts _ q68) (fun _ h9 => h9) rfl (by decide +kernel) rfl rfl (Nat.le_of_ble_eq_true rfl) dX2_init_7 (fun H locs hP hD hS => ?_)
  have hP : va_P (dC, dI) vwCl [(h0, .inr (2, [.int (nI 12), .null, .int (nI 0)]))] H := hP
  have hD : va_D A [(h0, .inr (2, [.int (nI 12), .null, .int (nI 0)]))] := hD
  refine lv_aload_n hx hb dX2_init_10 rfl (lv_at hl 0 rfl) ?_
  refine lv_null hx hb dX2_init_11 ?_
  refine va_put (D := (dC, dI)) (ci := 2) (v := .null) (ty := .array .long) (C := RX2) (T := TX2) (N := 3) hx hb hts in_X2 tyX2 tyX2_ok nmX2 hown hK hP hD hS 0 rfl rfl 1 (by decide) (hts _ q69) (fun _ h9 => h9) rfl (by decide +kernel) rfl rfl (Nat.le_of_ble_eq_true rfl) dX2_init_12 (fun H locs hP hD hS => ?_)
  have hP : va_P (dC, dI) vwCl [(h0, .inr (2, [.int (nI 12), .null, .int (nI 0)]))] H := hP
  have hD : va_D A [(h0, .inr (2, [.int (nI 12), .null, .int (nI 0)]))] := hD
  have hP9 := hP.sub (ws' := [(h0, .inr (2, [.int (nI 12), .null, .int (nI 0)]))]) [0] rfl
  have hD9 := hD.sub (ws' := [(h0, .inr (2, [.int (nI 12), .null, .int (nI 0)]))]) [0] (by decide) rfl
  have hK9 := hK.sub (tys' := []) [] rfl
  exact W.vret hx hb hr (fun t ht hW => ⟨⟨(), rfl, trivial, by rw [ht]; exact hP9, va_K.moved hW.alike hK9, hD9⟩, hS.F ht⟩) hS.2.2 dX2_init_15

abbrev wsX2_rotateLeft : List Cond := ws_ yX2_rotateLeft cX2_rotateLeft 5 (some .long)
abbrev BX2_rotateLeft (dC : Nat → ClassId) (dI : Nat → Nat → Nat) (A : Nat → Prop) (h0 : Nat) (x : Int64) (y : Int64) (u : Unit) (t : State) : Prop := va_P (dC, dI) vwCl [] t.heap ∧ va_K (dC, dI) vwCl [] t ∧ va_D A []
set_option maxHeartbeats 4000000 in
set_option maxRecDepth 100000 in
/-- rotateLeft(x, y) -/
theorem metX2_rotateLeft (l : Launch) (dC : Nat → ClassId) (dI : Nat → Nat → Nat) (h0 : Nat) (x : Int64) (y : Int64) (sz : Nat) : Met l yX2_rotateLeft wsX2_rotateLeft ({ frames := 0, cells := 0, slots := 0, locals := 0 }) (va_Pc [.ref h0, .long x, .long y] (fun U => U.heap.size = sz ∧ va_P (dC, dI) vwCl [] U.heap ∧ va_K (dC, dI) vwCl [] U ∧ va_D (fun _ => True) [])) (va_Ql (fun (r : Int64) (u : Unit) => r = rl x y) (BX2_rotateLeft dC dI (va_A [] sz) h0 x y) (va_A [] sz)) 0 0 (va_A [] sz) := by
  refine Met.ofW (cc := cX2_rotateLeft) (maxL := 5) (ret := (some .long)) (by decide) rfl ?_
  intro p e s m args below meth c s₁ B hml hv
  obtain ⟨rfl, hsz, hP, hK, hD0⟩ := hv
  have hx := B.exec
  have hb := B.bytes
  have hr := B.returns
  have hts := atoms_spec (ws := wsX2_rotateLeft) B.pre
  have hts : ∀ w ∈ lw_all, w.before _ s = true := fun w h => hts w (List.mem_cons_of_mem _ h)
  have hown : s.vm.findClass RX2 = some m.cls := findClass_of_methodNamed B.named
  have hlocks := B.notSynchronized
  subst hsz
  have hD := hD0.self (sz := s.heap.size)
  generalize hAe : va_A [] s.heap.size = A at hD ⊢
  have hA : ∀ q : Nat, s.heap.size ≤ q → A q := fun q h => by rw [← hAe]; exact Or.inr h
  have hS : va_S A s.heap s.heap [] := va_S.rf
  have hP : va_P (dC, dI) vwCl [] s.heap := hP
  have hl := lv_entry ([.ref h0, .long x, .long y]) (n := 5) (Nat.le_of_ble_eq_true rfl)
  rw [lg_entry_eq]
  generalize (lg_sl ([.ref h0, .long x, .long y]) ++ List.replicate (5 - (lg_sl ([.ref h0, .long x, .long y])).length) Slot.unset).toArray = ls at hl ⊢
  have hl : lv_has ls 5 [(0, .ref h0), (1, .long x), (3, .long y)] := hl
  refine lv_lload_n hx hb dX2_rotateLeft_0 rfl (lv_at hl 1 rfl) ?_
  refine lv_lload_n hx hb dX2_rotateLeft_1 rfl (lv_at hl 2 rfl) ?_
  refine lv_ldc2 (v := 63) hx hb hown (hts _ q192) dX2_rotateLeft_2 ?_
  refine lv_land hx hb dX2_rotateLeft_5 ?_
  refine lv_l2i (v := (y &&& 63).toInt32) hx hb dX2_rotateLeft_6 rfl ?_
  refine lv_lshl (v := x <<< (((y &&& 63).toInt32).toInt64 &&& 63)) hx hb dX2_rotateLeft_7 rfl ?_
  refine lv_lload_n hx hb dX2_rotateLeft_8 rfl (lv_at hl 1 rfl) ?_
  refine lv_ldc2 (v := 64) hx hb hown (hts _ q193) dX2_rotateLeft_9 ?_
  refine lv_lload_n hx hb dX2_rotateLeft_12 rfl (lv_at hl 2 rfl) ?_
  refine lv_ldc2 (v := 63) hx hb hown (hts _ q192) dX2_rotateLeft_13 ?_
  refine lv_land hx hb dX2_rotateLeft_16 ?_
  refine lv_lsub hx hb dX2_rotateLeft_17 ?_
  refine lv_l2i (v := (64 - (y &&& 63)).toInt32) hx hb dX2_rotateLeft_18 rfl ?_
  refine lv_lushr (v := (x.toUInt64 >>> (((64 - (y &&& 63)).toInt32).toInt64.toUInt64 &&& Int64.toUInt64 63)).toInt64) hx hb dX2_rotateLeft_19 rfl ?_
  refine lv_lor hx hb dX2_rotateLeft_20 ?_
  refine lv_topl (fun t_20 et_20 => ?_)
  have et_20 : t_20 = rl x y := et_20.trans (rfl)
  subst et_20
  have hP9 := hP.sub (ws' := []) [] rfl
  have hD9 := hD.sub (ws' := []) [] (by decide) rfl
  have hK9 := hK.sub (tys' := []) [] rfl
  exact W.lret hx hb hr (fun t ht hW => ⟨⟨_, (), rfl, rfl, by rw [ht]; exact hP9, va_K.moved hW.alike hK9, hD9⟩, hS.F ht⟩) hS.2.2 dX2_rotateLeft_21

abbrev wsX2_rotateRight : List Cond := ws_ yX2_rotateRight cX2_rotateRight 5 (some .long)
abbrev BX2_rotateRight (dC : Nat → ClassId) (dI : Nat → Nat → Nat) (A : Nat → Prop) (h0 : Nat) (x : Int64) (y : Int64) (u : Unit) (t : State) : Prop := va_P (dC, dI) vwCl [] t.heap ∧ va_K (dC, dI) vwCl [] t ∧ va_D A []
set_option maxHeartbeats 4000000 in
set_option maxRecDepth 100000 in
/-- rotateRight(x, y) -/
theorem metX2_rotateRight (l : Launch) (dC : Nat → ClassId) (dI : Nat → Nat → Nat) (h0 : Nat) (x : Int64) (y : Int64) (sz : Nat) : Met l yX2_rotateRight wsX2_rotateRight ({ frames := 0, cells := 0, slots := 0, locals := 0 }) (va_Pc [.ref h0, .long x, .long y] (fun U => U.heap.size = sz ∧ va_P (dC, dI) vwCl [] U.heap ∧ va_K (dC, dI) vwCl [] U ∧ va_D (fun _ => True) [])) (va_Ql (fun (r : Int64) (u : Unit) => r = rr x y) (BX2_rotateRight dC dI (va_A [] sz) h0 x y) (va_A [] sz)) 0 0 (va_A [] sz) := by
  refine Met.ofW (cc := cX2_rotateRight) (maxL := 5) (ret := (some .long)) (by decide) rfl ?_
  intro p e s m args below meth c s₁ B hml hv
  obtain ⟨rfl, hsz, hP, hK, hD0⟩ := hv
  have hx := B.exec
  have hb := B.bytes
  have hr := B.returns
  have hts := atoms_spec (ws := wsX2_rotateRight) B.pre
  have hts : ∀ w ∈ lw_all, w.before _ s = true := fun w h => hts w (List.mem_cons_of_mem _ h)
  have hown : s.vm.findClass RX2 = some m.cls := findClass_of_methodNamed B.named
  have hlocks := B.notSynchronized
  subst hsz
  have hD := hD0.self (sz := s.heap.size)
  generalize hAe : va_A [] s.heap.size = A at hD ⊢
  have hA : ∀ q : Nat, s.heap.size ≤ q → A q := fun q h => by rw [← hAe]; exact Or.inr h
  have hS : va_S A s.heap s.heap [] := va_S.rf
  have hP : va_P (dC, dI) vwCl [] s.heap := hP
  have hl := lv_entry ([.ref h0, .long x, .long y]) (n := 5) (Nat.le_of_ble_eq_true rfl)
  rw [lg_entry_eq]
  generalize (lg_sl ([.ref h0, .long x, .long y]) ++ List.replicate (5 - (lg_sl ([.ref h0, .long x, .long y])).length) Slot.unset).toArray = ls at hl ⊢
  have hl : lv_has ls 5 [(0, .ref h0), (1, .long x), (3, .long y)] := hl
  refine lv_lload_n hx hb dX2_rotateRight_0 rfl (lv_at hl 1 rfl) ?_
  refine lv_lload_n hx hb dX2_rotateRight_1 rfl (lv_at hl 2 rfl) ?_
  refine lv_ldc2 (v := 63) hx hb hown (hts _ q192) dX2_rotateRight_2 ?_
  refine lv_land hx hb dX2_rotateRight_5 ?_
  refine lv_l2i (v := (y &&& 63).toInt32) hx hb dX2_rotateRight_6 rfl ?_
  refine lv_lushr (v := (x.toUInt64 >>> (((y &&& 63).toInt32).toInt64.toUInt64 &&& Int64.toUInt64 63)).toInt64) hx hb dX2_rotateRight_7 rfl ?_
  refine lv_lload_n hx hb dX2_rotateRight_8 rfl (lv_at hl 1 rfl) ?_
  refine lv_ldc2 (v := 64) hx hb hown (hts _ q193) dX2_rotateRight_9 ?_
  refine lv_lload_n hx hb dX2_rotateRight_12 rfl (lv_at hl 2 rfl) ?_
  refine lv_ldc2 (v := 63) hx hb hown (hts _ q192) dX2_rotateRight_13 ?_
  refine lv_land hx hb dX2_rotateRight_16 ?_
  refine lv_lsub hx hb dX2_rotateRight_17 ?_
  refine lv_l2i (v := (64 - (y &&& 63)).toInt32) hx hb dX2_rotateRight_18 rfl ?_
  refine lv_lshl (v := x <<< (((64 - (y &&& 63)).toInt32).toInt64 &&& 63)) hx hb dX2_rotateRight_19 rfl ?_
  refine lv_lor hx hb dX2_rotateRight_20 ?_
  refine lv_topl (fun t_20 et_20 => ?_)
  have et_20 : t_20 = rr x y := et_20.trans (rfl)
  subst et_20
  have hP9 := hP.sub (ws' := []) [] rfl
  have hD9 := hD.sub (ws' := []) [] (by decide) rfl
  have hK9 := hK.sub (tys' := []) [] rfl
  exact W.lret hx hb hr (fun t ht hW => ⟨⟨_, (), rfl, rfl, by rw [ht]; exact hP9, va_K.moved hW.alike hK9, hD9⟩, hS.F ht⟩) hS.2.2 dX2_rotateRight_21

abbrev wsX2_bytesToWord : List Cond := ws_ yX2_bytesToWord cX2_bytesToWord 6 (some .long)
abbrev BX2_bytesToWord (dC : Nat → ClassId) (dI : Nat → Nat → Nat) (A : Nat → Prop) (h0 : Nat) (aa : Nat) (da : ClassId) (N : Nat) (o : Nat) (f : Nat → Int32) (u : Unit) (t : State) : Prop := va_P (dC, dI) vwCl [(aa, .inl (da, N, .inl f))] t.heap ∧ va_K (dC, dI) vwCl [(da, .byte)] t ∧ va_D A [(aa, .inl (da, N, .inl f))]
set_option maxHeartbeats 4000000 in
set_option maxRecDepth 100000 in
/-- bytesToWord(src, srcOff) -/
theorem metX2_bytesToWord (l : Launch) (dC : Nat → ClassId) (dI : Nat → Nat → Nat) (h0 : Nat) (aa : Nat) (da : ClassId) (N : Nat) (o : Nat) (f : Nat → Int32) (sz : Nat) (hon : o + 8 ≤ N) (hN : N ≤ 32) : Met l yX2_bytesToWord wsX2_bytesToWord ({ frames := 0, cells := 0, slots := 0, locals := 0 }) (va_Pc [.ref h0, .ref aa, .int (nI o)] (fun U => U.heap.size = sz ∧ va_P (dC, dI) vwCl [(aa, .inl (da, N, .inl f))] U.heap ∧ va_K (dC, dI) vwCl [(da, .byte)] U ∧ va_D (fun _ => True) [(aa, .inl (da, N, .inl f))])) (va_Ql (fun (r : Int64) (u : Unit) => r = hw (mk8 f) o 8) (BX2_bytesToWord dC dI (va_A [(aa, .inl (da, N, .inl f))] sz) h0 aa da N o f) (va_A [(aa, .inl (da, N, .inl f))] sz)) 0 0 (va_A [(aa, .inl (da, N, .inl f))] sz) := by
  refine Met.ofW (cc := cX2_bytesToWord) (maxL := 6) (ret := (some .long)) (by decide) rfl ?_
  intro p e s m args below meth c s₁ B hml hv
  obtain ⟨rfl, hsz, hP, hK, hD0⟩ := hv
  have hx := B.exec
  have hb := B.bytes
  have hr := B.returns
  have hts := atoms_spec (ws := wsX2_bytesToWord) B.pre
  have hts : ∀ w ∈ lw_all, w.before _ s = true := fun w h => hts w (List.mem_cons_of_mem _ h)
  have hown : s.vm.findClass RX2 = some m.cls := findClass_of_methodNamed B.named
  have hlocks := B.notSynchronized
  subst hsz
  have hD := hD0.self (sz := s.heap.size)
  generalize hAe : va_A [(aa, .inl (da, N, .inl f))] s.heap.size = A at hD ⊢
  have hA : ∀ q : Nat, s.heap.size ≤ q → A q := fun q h => by rw [← hAe]; exact Or.inr h
  have hS : va_S A s.heap s.heap [] := va_S.rf
  have hP : va_P (dC, dI) vwCl [(aa, .inl (da, N, .inl f))] s.heap := hP
  have hl := lv_entry ([.ref h0, .ref aa, .int (nI o)]) (n := 6) (Nat.le_of_ble_eq_true rfl)
  rw [lg_entry_eq]
  generalize (lg_sl ([.ref h0, .ref aa, .int (nI o)]) ++ List.replicate (6 - (lg_sl ([.ref h0, .ref aa, .int (nI o)])).length) Slot.unset).toArray = ls at hl ⊢
  have hl : lv_has ls 6 [(0, .ref h0), (1, .ref aa), (2, .int (nI o))] := hl
  have lp : ∀ (fu : Nat), ∀ (n : Nat), (9 - n) < fu → n ≤ 8 → va_K (dC, dI) vwCl [(da, .byte)] s → ∀ (H : Heap) (locs : List Loc), va_P (dC, dI) vwCl [(aa, .inl (da, N, .inl f))] H → va_D A [(aa, .inl (da, N, .inl f))] → va_S A s.heap H locs → ∀ (ls : Array Slot), lv_has ls 6 [(0, .ref h0), (1, .ref aa), (2, .int (nI o)), (3, .long (hw (mk8 f) o n)), (5, .int (nI 7 - nI n))] → W p l e (headSpec wsX2_bytesToWord ({ frames := 0, cells := 0, slots := 0, locals := 0 })).room s m ([.ref h0, .ref aa, .int (nI o)] : List Value).toArray below meth c H locs (0) (0) (MQ below (va_Ql (fun (r : Int64) (u : Unit) => r = hw (mk8 f) o 8) (BX2_bytesToWord dC dI A h0 aa da N o f) A) ([.ref h0, .ref aa, .int (nI o)] : List Value).toArray s 0 0 A) (F0 m 6 ls []) := by
    intro fu
    induction fu with
    | zero => intro n hme; exact absurd hme (Nat.not_lt_zero _)
    | succ fu ih =>
      intro n hme hn8 hK H locs hP hD hS ls hl
      refine lv_iload hx hb dX2_bytesToWord_6 (lv_at hl 4 rfl) ?_
      refine lv_if_lt (tgt := 34) hx hb dX2_bytesToWord_8 (by decide) (fun c_8 => ?_) (fun c_8 => ?_)
      · have hk2 : n = 8 := cd_neg n hn8 c_8
        subst hk2
        refine lv_lload_n hx hb dX2_bytesToWord_34 rfl (lv_at hl 3 rfl) ?_
        have hP9 := hP.sub (ws' := [(aa, .inl (da, N, .inl f))]) [0] rfl
        have hD9 := hD.sub (ws' := [(aa, .inl (da, N, .inl f))]) [0] (by decide) rfl
        have hK9 := hK.sub (tys' := [(da, .byte)]) [0] rfl
        exact W.lret hx hb hr (fun t ht hW => ⟨⟨_, (), rfl, rfl, by rw [ht]; exact hP9, va_K.moved hW.alike hK9, hD9⟩, hS.F ht⟩) hS.2.2 dX2_bytesToWord_35
      · have hlt : n < 8 := cd_pos n hn8 c_8
        refine lv_lload_n hx hb dX2_bytesToWord_11 rfl (lv_at hl 3 rfl) ?_
        refine lv_bipush (v := nI 8) hx hb dX2_bytesToWord_12 (by decide) ?_
        refine lv_lshl (v := (hw (mk8 f) o n) <<< ((nI 8).toInt64 &&& 63)) hx hb dX2_bytesToWord_14 rfl ?_
        refine lv_aload_n hx hb dX2_bytesToWord_15 rfl (lv_at hl 1 rfl) ?_
        refine lv_iload hx hb dX2_bytesToWord_16 (lv_at hl 4 rfl) ?_
        refine lv_iload_n hx hb dX2_bytesToWord_18 rfl (lv_at hl 2 rfl) ?_
        refine lv_iadd hx hb dX2_bytesToWord_19 ?_
        refine lv_topi (fun t_19 et_19 => ?_)
        have et_19 : t_19 = nI (7 - n + o) := et_19.trans (cd_idx2 o n (by omega))
        subst et_19
        refine va_bald hx hb hK hP 0 0 rfl rfl (vp_in_nI (n := (7 - n + o)) (N := N) (by omega) (by omega)) dX2_bytesToWord_20 ?_
        refine lv_topi (fun t_20 et_20 => ?_)
        have et_20 : t_20 = f (7 - n + o) := et_20.trans (congrArg f (nI_clamp (n := (7 - n + o)) (by omega)))
        subst et_20
        refine lv_sipush (v := nI 255) hx hb dX2_bytesToWord_21 (by decide) ?_
        refine lv_iand hx hb dX2_bytesToWord_24 ?_
        refine lv_i2l (v := ((f (7 - n + o)) &&& (nI 255)).toInt64) hx hb dX2_bytesToWord_25 rfl ?_
        refine lv_ladd hx hb dX2_bytesToWord_26 ?_
        refine lv_topl (fun t_26 et_26 => ?_)
        have et_26 : t_26 = hw (mk8 f) o (n + 1) := et_26.trans (hw_step8 f o n)
        subst et_26
        refine lv_lstore_n (lv' := [(3, .long (hw (mk8 f) o (n + 1))), (0, .ref h0), (1, .ref aa), (2, .int (nI o)), (5, .int (nI 7 - nI n))]) hx hb dX2_bytesToWord_27 rfl hl (by decide) rfl (fun ls hl => ?_)
        refine lv_iinc (v := nI 7 - nI (n + 1)) (lv' := [(5, .int (nI 7 - nI (n + 1))), (3, .long (hw (mk8 f) o (n + 1))), (0, .ref h0), (1, .ref aa), (2, .int (nI o))]) hx hb dX2_bytesToWord_28 hl (k := 4) rfl (cd_step 7 n) (by decide) rfl (fun ls hl => ?_)
        refine lv_goto (tgt := 6) hx hb dX2_bytesToWord_31 (by decide) ?_
        exact ih (n + 1) (by omega) (by omega) (hK.sub [0] rfl) _ _ (hP.sub (ws' := [(aa, .inl (da, N, .inl f))]) [0] rfl) (hD.sub (ws' := [(aa, .inl (da, N, .inl f))]) [0] (by decide) rfl) hS _ (lv_sub hl [2, 3, 4, 1, 0] rfl)
  refine lv_lconst (v := 0) hx hb dX2_bytesToWord_0 rfl ?_
  refine lv_lstore_n (lv' := [(3, .long 0), (0, .ref h0), (1, .ref aa), (2, .int (nI o))]) hx hb dX2_bytesToWord_1 rfl hl (by decide) rfl (fun ls hl => ?_)
  refine lv_bipush (v := nI 7) hx hb dX2_bytesToWord_2 (by decide) ?_
  refine lv_istore (lv' := [(5, .int (nI 7)), (3, .long 0), (0, .ref h0), (1, .ref aa), (2, .int (nI o))]) hx hb dX2_bytesToWord_4 hl (by decide) rfl (fun ls hl => ?_)
  exact lp _ 0 (Nat.lt_succ_self _) (by omega) (hK.sub [0] rfl) _ _ (hP.sub (ws' := [(aa, .inl (da, N, .inl f))]) [0] rfl) (hD.sub (ws' := [(aa, .inl (da, N, .inl f))]) [0] (by decide) rfl) hS _ (lv_sub hl [2, 3, 4, 1, 0] rfl)

abbrev wsX2_wordToBytes : List Cond := ws_ yX2_wordToBytes cX2_wordToBytes 6 none
abbrev BX2_wordToBytes (dC : Nat → ClassId) (dI : Nat → Nat → Nat) (A : Nat → Prop) (h0 : Nat) (w : Int64) (aa : Nat) (da : ClassId) (N : Nat) (o : Nat) (f : Nat → Int32) (u : Nat → Int32) (t : State) : Prop := va_P (dC, dI) vwCl [(aa, .inl (da, N, .inl u))] t.heap ∧ va_K (dC, dI) vwCl [(da, .byte)] t ∧ va_D A [(aa, .inl (da, N, .inl u))]
set_option maxHeartbeats 4000000 in
set_option maxRecDepth 100000 in
/-- wordToBytes(word, dst, dstOff) -/
theorem metX2_wordToBytes (l : Launch) (dC : Nat → ClassId) (dI : Nat → Nat → Nat) (h0 : Nat) (w : Int64) (aa : Nat) (da : ClassId) (N : Nat) (o : Nat) (f : Nat → Int32) (sz : Nat) (hon : o + 8 ≤ N) (hN : N ≤ 32) : Met l yX2_wordToBytes wsX2_wordToBytes ({ frames := 0, cells := 0, slots := 0, locals := 0 }) (va_Pc [.ref h0, .long w, .ref aa, .int (nI o)] (fun U => U.heap.size = sz ∧ va_P (dC, dI) vwCl [(aa, .inl (da, N, .inl f))] U.heap ∧ va_K (dC, dI) vwCl [(da, .byte)] U ∧ va_D (fun _ => True) [(aa, .inl (da, N, .inl f))])) (va_Qv (fun (u : Nat → Int32) => mk8 u = stn (mk8 f) o (qb w) 8) (BX2_wordToBytes dC dI (va_A [(aa, .inl (da, N, .inl f))] sz) h0 w aa da N o f) (va_A [(aa, .inl (da, N, .inl f))] sz)) 0 0 (va_A [(aa, .inl (da, N, .inl f))] sz) := by
  refine Met.ofW (cc := cX2_wordToBytes) (maxL := 6) (ret := none) (by decide) rfl ?_
  intro p e s m args below meth c s₁ B hml hv
  obtain ⟨rfl, hsz, hP, hK, hD0⟩ := hv
  have hx := B.exec
  have hb := B.bytes
  have hr := B.returns
  have hts := atoms_spec (ws := wsX2_wordToBytes) B.pre
  have hts : ∀ w ∈ lw_all, w.before _ s = true := fun w h => hts w (List.mem_cons_of_mem _ h)
  have hown : s.vm.findClass RX2 = some m.cls := findClass_of_methodNamed B.named
  have hlocks := B.notSynchronized
  subst hsz
  have hD := hD0.self (sz := s.heap.size)
  generalize hAe : va_A [(aa, .inl (da, N, .inl f))] s.heap.size = A at hD ⊢
  have hA : ∀ q : Nat, s.heap.size ≤ q → A q := fun q h => by rw [← hAe]; exact Or.inr h
  have hS : va_S A s.heap s.heap [] := va_S.rf
  have hP : va_P (dC, dI) vwCl [(aa, .inl (da, N, .inl f))] s.heap := hP
  have hl := lv_entry ([.ref h0, .long w, .ref aa, .int (nI o)]) (n := 6) (Nat.le_of_ble_eq_true rfl)
  rw [lg_entry_eq]
  generalize (lg_sl ([.ref h0, .long w, .ref aa, .int (nI o)]) ++ List.replicate (6 - (lg_sl ([.ref h0, .long w, .ref aa, .int (nI o)])).length) Slot.unset).toArray = ls at hl ⊢
  have hl : lv_has ls 6 [(0, .ref h0), (1, .long w), (3, .ref aa), (4, .int (nI o))] := hl
  have lp : ∀ (fu : Nat), ∀ (k : Nat) (g : Nat → Int32), (9 - k) < fu → k ≤ 8 → mk8 g = stn (mk8 f) o (qb w) k → va_K (dC, dI) vwCl [(da, .byte)] s → ∀ (H : Heap) (locs : List Loc), va_P (dC, dI) vwCl [(aa, .inl (da, N, .inl g))] H → va_D A [(aa, .inl (da, N, .inl g))] → va_S A s.heap H locs → ∀ (ls : Array Slot), lv_has ls 6 [(0, .ref h0), (1, .long (lw w k)), (3, .ref aa), (4, .int (nI o)), (5, .int (nI k))] → W p l e (headSpec wsX2_wordToBytes ({ frames := 0, cells := 0, slots := 0, locals := 0 })).room s m ([.ref h0, .long w, .ref aa, .int (nI o)] : List Value).toArray below meth c H locs (0) (0) (MQ below (va_Qv (fun (u : Nat → Int32) => mk8 u = stn (mk8 f) o (qb w) 8) (BX2_wordToBytes dC dI A h0 w aa da N o f) A) ([.ref h0, .long w, .ref aa, .int (nI o)] : List Value).toArray s 0 0 A) (F0 m 3 ls []) := by
    intro fu
    induction fu with
    | zero => intro k g hme; exact absurd hme (Nat.not_lt_zero _)
    | succ fu ih =>
      intro k g hme hk8 hg hK H locs hP hD hS ls hl
      refine lv_iload hx hb dX2_wordToBytes_3 (lv_at hl 4 rfl) ?_
      refine lv_bipush (v := nI 8) hx hb dX2_wordToBytes_5 (by decide) ?_
      refine lv_icmp_ge (tgt := 31) hx hb dX2_wordToBytes_7 (by decide) (fun c_7 => ?_) (fun c_7 => ?_)
      · have hk2 : k = 8 := by
          rcases Nat.lt_or_ge k 8 with q | q
          · exact absurd c_7 (nI_ge q (by omega))
          · omega
        subst hk2
        have hP9 := hP.sub (ws' := [(aa, .inl (da, N, .inl g))]) [0] rfl
        have hD9 := hD.sub (ws' := [(aa, .inl (da, N, .inl g))]) [0] (by decide) rfl
        have hK9 := hK.sub (tys' := [(da, .byte)]) [0] rfl
        have hpost : mk8 g = stn (mk8 f) o (qb w) 8 := hg
        exact W.vret hx hb hr (fun t ht hW => ⟨⟨g, rfl, hpost, by rw [ht]; exact hP9, va_K.moved hW.alike hK9, hD9⟩, hS.F ht⟩) hS.2.2 dX2_wordToBytes_31
      · have hlt : k < 8 := by
          rcases Nat.lt_or_ge k 8 with q | q
          · exact q
          · exact absurd (nI_le q (by omega)) c_7
        refine lv_aload_n hx hb dX2_wordToBytes_10 rfl (lv_at hl 2 rfl) ?_
        refine lv_iload hx hb dX2_wordToBytes_11 (lv_at hl 4 rfl) ?_
        refine lv_iload hx hb dX2_wordToBytes_13 (lv_at hl 3 rfl) ?_
        refine lv_iadd hx hb dX2_wordToBytes_15 ?_
        refine lv_topi (fun t_15 et_15 => ?_)
        have et_15 : t_15 = nI (k + o) := et_15.trans (nI_add k o)
        subst et_15
        refine lv_lload_n hx hb dX2_wordToBytes_16 rfl (lv_at hl 1 rfl) ?_
        refine lv_l2i (v := (lw w k).toInt32) hx hb dX2_wordToBytes_17 rfl ?_
        refine lv_i2b (v := ((lw w k).toInt32).toInt8.toInt32) hx hb dX2_wordToBytes_18 rfl ?_
        refine va_bast hx hb hK hP hD hS 0 0 rfl rfl (vp_in_nI (n := (k + o)) (N := N) (by omega) (by omega)) dX2_wordToBytes_19 (fun H locs hP hD hS => ?_)
        rw [nI_clamp (n := (k + o)) (by omega)] at hP hD
        obtain ⟨g_19, eg_19⟩ : ∃ z9 : Nat → Int32, z9 = upd g (k + o) (vp_nar .byte (((lw w k).toInt32).toInt8.toInt32)) := ⟨_, rfl⟩
        rw [← eg_19] at hP hD
        have hP : va_P (dC, dI) vwCl [(aa, .inl (da, N, .inl g_19))] H := hP
        have hD : va_D A [(aa, .inl (da, N, .inl g_19))] := hD
        refine lv_lload_n hx hb dX2_wordToBytes_20 rfl (lv_at hl 1 rfl) ?_
        refine lv_bipush (v := nI 8) hx hb dX2_wordToBytes_21 (by decide) ?_
        refine lv_lushr (v := ((lw w k).toUInt64 >>> ((nI 8).toInt64.toUInt64 &&& Int64.toUInt64 63)).toInt64) hx hb dX2_wordToBytes_23 rfl ?_
        refine lv_topl (fun t_23 et_23 => ?_)
        have et_23 : t_23 = lw w (k + 1) := et_23.trans (rfl)
        subst et_23
        refine lv_lstore_n (lv' := [(1, .long (lw w (k + 1))), (0, .ref h0), (3, .ref aa), (4, .int (nI o)), (5, .int (nI k))]) hx hb dX2_wordToBytes_24 rfl hl (by decide) rfl (fun ls hl => ?_)
        refine lv_iinc (v := nI (k + 1)) (lv' := [(5, .int (nI (k + 1))), (1, .long (lw w (k + 1))), (0, .ref h0), (3, .ref aa), (4, .int (nI o))]) hx hb dX2_wordToBytes_25 hl (k := 4) rfl (nI_1 k) (by decide) rfl (fun ls hl => ?_)
        refine lv_goto (tgt := 3) hx hb dX2_wordToBytes_28 (by decide) ?_
        exact ih (k + 1) g_19 (by omega) (by omega) (by rw [eg_19, mk8_upd, vnb8, lw_qb w k hlt, hg, Nat.add_comm k o, stn_s]) (hK.sub [0] rfl) _ _ (hP.sub (ws' := [(aa, .inl (da, N, .inl g_19))]) [0] rfl) (hD.sub (ws' := [(aa, .inl (da, N, .inl g_19))]) [0] (by decide) rfl) hS _ (lv_sub hl [2, 1, 3, 4, 0] rfl)
  refine lv_iconst (v := nI 0) hx hb dX2_wordToBytes_0 (by decide) ?_
  refine lv_istore (lv' := [(5, .int (nI 0)), (0, .ref h0), (1, .long w), (3, .ref aa), (4, .int (nI o))]) hx hb dX2_wordToBytes_1 hl (by decide) rfl (fun ls hl => ?_)
  exact lp _ 0 f (Nat.lt_succ_self _) (by omega) ((stn_0 (mk8 f) o (qb w)).symm) (hK.sub [0] rfl) _ _ (hP.sub (ws' := [(aa, .inl (da, N, .inl f))]) [0] rfl) (hD.sub (ws' := [(aa, .inl (da, N, .inl f))]) [0] (by decide) rfl) hS _ (lv_sub hl [1, 2, 3, 4, 0] rfl)
end
section
abbrev wsX2_setKey : List Cond := ws_ yX2_setKey cX2_setKey 11 none
abbrev BX2_setKey (dC : Nat → ClassId) (dI : Nat → Nat → Nat) (A : Nat → Prop) (h0 : Nat) (aa : Nat) (da : ClassId) (f : Nat → Int32) (eb : Int32) (u : Unit) (t : State) : Prop := ∃ (az : Nat), ∃ (ds : ClassId), va_P (dC, dI) vwCl [(h0, .inr (2, [.int (nI 12), .ref az, .int eb])), (aa, .inl (da, 16, .inl f)), (az, .inl (ds, 26, .inr (.inl (sch (mk8 f)))))] t.heap ∧ va_K (dC, dI) vwCl [(da, .byte), (ds, .long)] t ∧ va_D A [(h0, .inr (2, [.int (nI 12), .ref az, .int eb])), (aa, .inl (da, 16, .inl f)), (az, .inl (ds, 26, .inr (.inl (sch (mk8 f)))))]
set_option maxHeartbeats 4000000 in
set_option maxRecDepth 100000 in
/-- setKey(key) -/
theorem metX2_setKey (l : Launch) (dC : Nat → ClassId) (dI : Nat → Nat → Nat) (h0 : Nat) (aa : Nat) (da : ClassId) (f : Nat → Int32) (eb : Int32) (sz : Nat) : Met l yX2_setKey wsX2_setKey ({ frames := 1, cells := 2, slots := 28, locals := 24 }) (va_Pc [.ref h0, .ref aa] (fun U => U.heap.size = sz ∧ va_P (dC, dI) vwCl [(h0, .inr (2, [.int (nI 12), .null, .int eb])), (aa, .inl (da, 16, .inl f))] U.heap ∧ va_K (dC, dI) vwCl [(da, .byte)] U ∧ va_D (fun _ => True) [(h0, .inr (2, [.int (nI 12), .null, .int eb])), (aa, .inl (da, 16, .inl f))])) (va_Qv (fun (u : Unit) => True) (BX2_setKey dC dI (va_A [(h0, .inr (2, [.int (nI 12), .null, .int eb])), (aa, .inl (da, 16, .inl f))] sz) h0 aa da f eb) (va_A [(h0, .inr (2, [.int (nI 12), .null, .int eb])), (aa, .inl (da, 16, .inl f))] sz)) 2 28 (va_A [(h0, .inr (2, [.int (nI 12), .null, .int eb])), (aa, .inl (da, 16, .inl f))] sz) := by
  refine Met.ofW (cc := cX2_setKey) (maxL := 11) (ret := none) (by decide) rfl ?_
  intro p e s m args below meth c s₁ B hml hv
  obtain ⟨rfl, hsz, hP, hK, hD0⟩ := hv
  have hx := B.exec
  have hb := B.bytes
  have hr := B.returns
  have hts := atoms_spec (ws := wsX2_setKey) B.pre
  have hts : ∀ w ∈ lw_all, w.before _ s = true := fun w h => hts w (List.mem_cons_of_mem _ h)
  have hown : s.vm.findClass RX2 = some m.cls := findClass_of_methodNamed B.named
  have hlocks := B.notSynchronized
  subst hsz
  have hD := hD0.self (sz := s.heap.size)
  generalize hAe : va_A [(h0, .inr (2, [.int (nI 12), .null, .int eb])), (aa, .inl (da, 16, .inl f))] s.heap.size = A at hD ⊢
  have hA : ∀ q : Nat, s.heap.size ≤ q → A q := fun q h => by rw [← hAe]; exact Or.inr h
  have hS : va_S A s.heap s.heap [] := va_S.rf
  have hP : va_P (dC, dI) vwCl [(h0, .inr (2, [.int (nI 12), .null, .int eb])), (aa, .inl (da, 16, .inl f))] s.heap := hP
  have hl := lv_entry ([.ref h0, .ref aa]) (n := 11) (Nat.le_of_ble_eq_true rfl)
  rw [lg_entry_eq]
  generalize (lg_sl ([.ref h0, .ref aa]) ++ List.replicate (11 - (lg_sl ([.ref h0, .ref aa])).length) Slot.unset).toArray = ls at hl ⊢
  have hl : lv_has ls 11 [(0, .ref h0), (1, .ref aa)] := hl
  have l3 : ∀ (fu : Nat), ∀ (ql : Nat) (dl : ClassId) (az : Nat) (ds : ClassId) (n : Nat), (79 - n) < fu → n ≤ 78 → va_K (dC, dI) vwCl [(da, .byte), (dl, .long), (ds, .long)] s → ∀ (H : Heap) (locs : List Loc), va_P (dC, dI) vwCl [(h0, .inr (2, [.int (nI 12), .ref az, .int eb])), (aa, .inl (da, 16, .inl f)), (ql, .inl (dl, 2, .inr (.inl ((mx (sf 26) (L0 (mk8 f)) n).2.1)))), (az, .inl (ds, 26, .inr (.inl ((mx (sf 26) (L0 (mk8 f)) n).1))))] H → va_D A [(h0, .inr (2, [.int (nI 12), .ref az, .int eb])), (aa, .inl (da, 16, .inl f)), (ql, .inl (dl, 2, .inr (.inl ((mx (sf 26) (L0 (mk8 f)) n).2.1)))), (az, .inl (ds, 26, .inr (.inl ((mx (sf 26) (L0 (mk8 f)) n).1))))] → va_S A s.heap H locs → ∀ (ls : Array Slot), lv_has ls 11 [(0, .ref h0), (1, .ref aa), (2, .ref ql), (3, .int (nI 78)), (4, .long ((mx (sf 26) (L0 (mk8 f)) n).2.2.1)), (6, .long ((mx (sf 26) (L0 (mk8 f)) n).2.2.2)), (8, .int (nI (n % 26))), (9, .int (nI (n % 2))), (10, .int (nI n))] → W p l e (headSpec wsX2_setKey ({ frames := 1, cells := 2, slots := 28, locals := 24 })).room s m ([.ref h0, .ref aa] : List Value).toArray below meth c H locs (2) (28) (MQ below (va_Qv (fun (u : Unit) => True) (BX2_setKey dC dI A h0 aa da f eb) A) ([.ref h0, .ref aa] : List Value).toArray s 2 28 A) (F0 m 149 ls []) := by
    intro fu
    induction fu with
    | zero => intro ql dl az ds n hme; exact absurd hme (Nat.not_lt_zero _)
    | succ fu ih =>
      intro ql dl az ds n hme hn78 hK H locs hP hD hS ls hl
      refine lv_iload hx hb dX2_setKey_149 (lv_at hl 8 rfl) ?_
      refine lv_iload_n hx hb dX2_setKey_151 rfl (lv_at hl 3 rfl) ?_
      refine lv_icmp_ge (tgt := 238) hx hb dX2_setKey_152 (by decide) (fun c_152 => ?_) (fun c_152 => ?_)
      · have hk2 : n = 78 := by
          rcases Nat.lt_or_ge n 78 with q | q
          · exact absurd c_152 (nI_ge q (by omega))
          · omega
        subst hk2
        have hP9 := hP.sub (ws' := [(h0, .inr (2, [.int (nI 12), .ref az, .int eb])), (aa, .inl (da, 16, .inl f)), (az, .inl (ds, 26, .inr (.inl (sch (mk8 f)))))]) [0, 1, 3] rfl
        have hD9 := hD.sub (ws' := [(h0, .inr (2, [.int (nI 12), .ref az, .int eb])), (aa, .inl (da, 16, .inl f)), (az, .inl (ds, 26, .inr (.inl (sch (mk8 f)))))]) [0, 1, 3] (by decide) rfl
        have hK9 := hK.sub (tys' := [(da, .byte), (ds, .long)]) [0, 2] rfl
        exact W.vret hx hb hr (fun t ht hW => ⟨⟨(), rfl, trivial, az, ds, by rw [ht]; exact hP9, va_K.moved hW.alike hK9, hD9⟩, hS.F ht⟩) hS.2.2 dX2_setKey_238
      · have hlt : n < 78 := by
          rcases Nat.lt_or_ge n 78 with q | q
          · exact q
          · exact absurd (nI_le q (by omega)) c_152
        refine lv_aload_n hx hb dX2_setKey_155 rfl (lv_at hl 0 rfl) ?_
        refine va_get (D := (dC, dI)) (ci := 2) (v := .ref az) (C := RX2) (T := TX2) (N := 3) hx hb hts in_X2 hown hK hP 0 rfl rfl 1 (by decide) (hts _ q69) (fun _ h9 => h9) rfl dX2_setKey_156 ?_
        refine lv_iload hx hb dX2_setKey_159 (lv_at hl 6 rfl) ?_
        refine lv_aload_n hx hb dX2_setKey_161 rfl (lv_at hl 0 rfl) ?_
        refine lv_aload_n hx hb dX2_setKey_162 rfl (lv_at hl 0 rfl) ?_
        refine va_get (D := (dC, dI)) (ci := 2) (v := .ref az) (C := RX2) (T := TX2) (N := 3) hx hb hts in_X2 hown hK hP 0 rfl rfl 1 (by decide) (hts _ q69) (fun _ h9 => h9) rfl dX2_setKey_163 ?_
        refine lv_iload hx hb dX2_setKey_166 (lv_at hl 6 rfl) ?_
        refine va_lald hx hb hK hP 3 2 rfl rfl (vp_in_nI (n := (n % 26)) (N := 26) (by omega) (by omega)) dX2_setKey_168 ?_
        refine lv_topl (fun t_168 et_168 => ?_)
        have et_168 : t_168 = ((mx (sf 26) (L0 (mk8 f)) n).1) (n % 26) := et_168.trans (congrArg ((mx (sf 26) (L0 (mk8 f)) n).1) (nI_clamp (n := (n % 26)) (by omega)))
        subst et_168
        refine lv_lload hx hb dX2_setKey_169 (lv_at hl 4 rfl) ?_
        refine lv_ladd hx hb dX2_setKey_171 ?_
        refine lv_lload hx hb dX2_setKey_172 (lv_at hl 5 rfl) ?_
        refine lv_ladd hx hb dX2_setKey_174 ?_
        refine lv_ldc2 (v := 3) hx hb hown (hts _ q187) dX2_setKey_175 ?_
        have hPc := hP.sub (ws' := []) [] rfl
        have hDc := hD.sub (ws' := []) [] (by decide) rfl
        have hKc := hK.sub (tys' := []) [] rfl
        have hFc := va_free (wc := []) hD hS hA [] rfl
        refine va_calll (va_runV (As := [.long (((((mx (sf 26) (L0 (mk8 f)) n).1) (n % 26)) + ((mx (sf 26) (L0 (mk8 f)) n).2.2.1)) + ((mx (sf 26) (L0 (mk8 f)) n).2.2.2)), .long 3]) (rest := [.int (nI (n % 26)), .ref az]) ⟨hx, hb, hml, hown, hts⟩ (metX2_rotateLeft l dC dI h0 (((((mx (sf 26) (L0 (mk8 f)) n).1) (n % 26)) + ((mx (sf 26) (L0 (mk8 f)) n).2.2.1)) + ((mx (sf 26) (L0 (mk8 f)) n).2.2.2)) 3 H.size) (cwV 2 hts (lw_V q188 q190 qs3 q14 q191) rfl rfl rfl (by decide +kernel) ⟨Nat.le_of_ble_eq_true rfl, Nat.le_of_ble_eq_true rfl⟩) ⟨fun a U g mk q => by obtain ⟨q0, q1, qP, qK, qD⟩ := q; exact ⟨q0, q1, qP, va_K.moved (u := U) (U := U.calling g mk a) (Vm.Alike.refl U.vm) qK, qD⟩, va_recv hK hP (ci := 2) (q0 := 0) rfl rfl, fun U hU hW => ⟨rfl, by rw [hU], by rw [hU]; exact hPc, va_K.moved hW.alike hKc, hDc.weaken (fun _ _ _ _ => trivial)⟩⟩ rfl rfl hl.1 rfl (lv_room (Nat.le_of_ble_eq_true rfl)) dX2_setKey_178 ⟨Nat.le_of_ble_eq_true rfl, Nat.le_of_ble_eq_true rfl⟩) hS (fun q _ h => hFc q h) hFc (fun r_178 u t H1 locs ht hvm hw_178 hB hz1 hk1 hS => ?_)
        obtain ⟨u_178, rfl⟩ : ∃ z, z = u := ⟨_, rfl⟩
        have hw_178 : r_178 = rl (((((mx (sf 26) (L0 (mk8 f)) n).1) (n % 26)) + ((mx (sf 26) (L0 (mk8 f)) n).2.2.1)) + ((mx (sf 26) (L0 (mk8 f)) n).2.2.2)) 3 := hw_178
        obtain ⟨hP1, hK1, hD1⟩ := hB
        have hw_178 := hw_178.symm
        subst hw_178
        rw [ht] at hP1
        have hK1 := va_K.moved hvm.symm hK1
        obtain ⟨hP, hD⟩ := va_join (wr := [(h0, .inr (2, [.int (nI 12), .ref az, .int eb])), (aa, .inl (da, 16, .inl f)), (ql, .inl (dl, 2, .inr (.inl ((mx (sf 26) (L0 (mk8 f)) n).2.1)))), (az, .inl (ds, 26, .inr (.inl ((mx (sf 26) (L0 (mk8 f)) n).1))))]) (w1 := []) hP hD [] [0, 1, 2, 3] rfl rfl (by decide) (by decide) hk1 hFc hP1 hD1
        have hK := (hK.sub (tys' := [(da, .byte), (dl, .long), (ds, .long)]) [0, 1, 2] rfl).app hK1
        generalize H1 = H at hP hS ⊢
        have hP : va_P (dC, dI) vwCl [(h0, .inr (2, [.int (nI 12), .ref az, .int eb])), (aa, .inl (da, 16, .inl f)), (ql, .inl (dl, 2, .inr (.inl ((mx (sf 26) (L0 (mk8 f)) n).2.1)))), (az, .inl (ds, 26, .inr (.inl ((mx (sf 26) (L0 (mk8 f)) n).1))))] H := hP
        have hD : va_D A [(h0, .inr (2, [.int (nI 12), .ref az, .int eb])), (aa, .inl (da, 16, .inl f)), (ql, .inl (dl, 2, .inr (.inl ((mx (sf 26) (L0 (mk8 f)) n).2.1)))), (az, .inl (ds, 26, .inr (.inl ((mx (sf 26) (L0 (mk8 f)) n).1))))] := hD
        have hK : va_K (dC, dI) vwCl [(da, .byte), (dl, .long), (ds, .long)] s := hK
        refine lv_topl (fun t_178 et_178 => ?_)
        have et_178 : t_178 = (mx (sf 26) (L0 (mk8 f)) (n + 1)).2.2.1 := et_178.trans (rfl)
        subst et_178
        refine lv_dup2_x2_2 hx hb dX2_setKey_181 rfl rfl rfl ?_
        refine va_last hx hb hK hP hD hS 3 2 rfl rfl (vp_in_nI (n := (n % 26)) (N := 26) (by omega) (by omega)) dX2_setKey_182 (fun H locs hP hD hS => ?_)
        rw [nI_clamp (n := (n % 26)) (by omega)] at hP hD
        have eg_182 : vp_updL ((mx (sf 26) (L0 (mk8 f)) n).1) (n % 26) ((mx (sf 26) (L0 (mk8 f)) (n + 1)).2.2.1) = (mx (sf 26) (L0 (mk8 f)) (n + 1)).1 := rfl
        rw [eg_182] at hP hD
        have hP : va_P (dC, dI) vwCl [(h0, .inr (2, [.int (nI 12), .ref az, .int eb])), (aa, .inl (da, 16, .inl f)), (ql, .inl (dl, 2, .inr (.inl ((mx (sf 26) (L0 (mk8 f)) n).2.1)))), (az, .inl (ds, 26, .inr (.inl ((mx (sf 26) (L0 (mk8 f)) (n + 1)).1))))] H := hP
        have hD : va_D A [(h0, .inr (2, [.int (nI 12), .ref az, .int eb])), (aa, .inl (da, 16, .inl f)), (ql, .inl (dl, 2, .inr (.inl ((mx (sf 26) (L0 (mk8 f)) n).2.1)))), (az, .inl (ds, 26, .inr (.inl ((mx (sf 26) (L0 (mk8 f)) (n + 1)).1))))] := hD
        refine lv_lstore (lv' := [(4, .long ((mx (sf 26) (L0 (mk8 f)) (n + 1)).2.2.1)), (0, .ref h0), (1, .ref aa), (2, .ref ql), (3, .int (nI 78)), (6, .long ((mx (sf 26) (L0 (mk8 f)) n).2.2.2)), (8, .int (nI (n % 26))), (9, .int (nI (n % 2))), (10, .int (nI n))]) hx hb dX2_setKey_183 hl (by decide) rfl (fun ls hl => ?_)
        refine lv_aload_n hx hb dX2_setKey_185 rfl (lv_at hl 3 rfl) ?_
        refine lv_iload hx hb dX2_setKey_186 (lv_at hl 7 rfl) ?_
        refine lv_aload_n hx hb dX2_setKey_188 rfl (lv_at hl 1 rfl) ?_
        refine lv_aload_n hx hb dX2_setKey_189 rfl (lv_at hl 3 rfl) ?_
        refine lv_iload hx hb dX2_setKey_190 (lv_at hl 7 rfl) ?_
        refine va_lald hx hb hK hP 2 1 rfl rfl (vp_in_nI (n := (n % 2)) (N := 2) (by omega) (by omega)) dX2_setKey_192 ?_
        refine lv_topl (fun t_192 et_192 => ?_)
        have et_192 : t_192 = ((mx (sf 26) (L0 (mk8 f)) n).2.1) (n % 2) := et_192.trans (congrArg ((mx (sf 26) (L0 (mk8 f)) n).2.1) (nI_clamp (n := (n % 2)) (by omega)))
        subst et_192
        refine lv_lload hx hb dX2_setKey_193 (lv_at hl 0 rfl) ?_
        refine lv_ladd hx hb dX2_setKey_195 ?_
        refine lv_lload hx hb dX2_setKey_196 (lv_at hl 5 rfl) ?_
        refine lv_ladd hx hb dX2_setKey_198 ?_
        refine lv_lload hx hb dX2_setKey_199 (lv_at hl 0 rfl) ?_
        refine lv_lload hx hb dX2_setKey_201 (lv_at hl 5 rfl) ?_
        refine lv_ladd hx hb dX2_setKey_203 ?_
        have hPc := hP.sub (ws' := []) [] rfl
        have hDc := hD.sub (ws' := []) [] (by decide) rfl
        have hKc := hK.sub (tys' := []) [] rfl
        have hFc := va_free (wc := []) hD hS hA [] rfl
        refine va_calll (va_runV (As := [.long (((((mx (sf 26) (L0 (mk8 f)) n).2.1) (n % 2)) + ((mx (sf 26) (L0 (mk8 f)) (n + 1)).2.2.1)) + ((mx (sf 26) (L0 (mk8 f)) n).2.2.2)), .long (((mx (sf 26) (L0 (mk8 f)) (n + 1)).2.2.1) + ((mx (sf 26) (L0 (mk8 f)) n).2.2.2))]) (rest := [.int (nI (n % 2)), .ref ql]) ⟨hx, hb, hml, hown, hts⟩ (metX2_rotateLeft l dC dI h0 (((((mx (sf 26) (L0 (mk8 f)) n).2.1) (n % 2)) + ((mx (sf 26) (L0 (mk8 f)) (n + 1)).2.2.1)) + ((mx (sf 26) (L0 (mk8 f)) n).2.2.2)) (((mx (sf 26) (L0 (mk8 f)) (n + 1)).2.2.1) + ((mx (sf 26) (L0 (mk8 f)) n).2.2.2)) H.size) (cwV 2 hts (lw_V q188 q190 qs3 q14 q191) rfl rfl rfl (by decide +kernel) ⟨Nat.le_of_ble_eq_true rfl, Nat.le_of_ble_eq_true rfl⟩) ⟨fun a U g mk q => by obtain ⟨q0, q1, qP, qK, qD⟩ := q; exact ⟨q0, q1, qP, va_K.moved (u := U) (U := U.calling g mk a) (Vm.Alike.refl U.vm) qK, qD⟩, va_recv hK hP (ci := 2) (q0 := 0) rfl rfl, fun U hU hW => ⟨rfl, by rw [hU], by rw [hU]; exact hPc, va_K.moved hW.alike hKc, hDc.weaken (fun _ _ _ _ => trivial)⟩⟩ rfl rfl hl.1 rfl (lv_room (Nat.le_of_ble_eq_true rfl)) dX2_setKey_204 ⟨Nat.le_of_ble_eq_true rfl, Nat.le_of_ble_eq_true rfl⟩) hS (fun q _ h => hFc q h) hFc (fun r_204 u t H1 locs ht hvm hw_204 hB hz1 hk1 hS => ?_)
        obtain ⟨u_204, rfl⟩ : ∃ z, z = u := ⟨_, rfl⟩
        have hw_204 : r_204 = rl (((((mx (sf 26) (L0 (mk8 f)) n).2.1) (n % 2)) + ((mx (sf 26) (L0 (mk8 f)) (n + 1)).2.2.1)) + ((mx (sf 26) (L0 (mk8 f)) n).2.2.2)) (((mx (sf 26) (L0 (mk8 f)) (n + 1)).2.2.1) + ((mx (sf 26) (L0 (mk8 f)) n).2.2.2)) := hw_204
        obtain ⟨hP1, hK1, hD1⟩ := hB
        have hw_204 := hw_204.symm
        subst hw_204
        rw [ht] at hP1
        have hK1 := va_K.moved hvm.symm hK1
        obtain ⟨hP, hD⟩ := va_join (wr := [(h0, .inr (2, [.int (nI 12), .ref az, .int eb])), (aa, .inl (da, 16, .inl f)), (ql, .inl (dl, 2, .inr (.inl ((mx (sf 26) (L0 (mk8 f)) n).2.1)))), (az, .inl (ds, 26, .inr (.inl ((mx (sf 26) (L0 (mk8 f)) (n + 1)).1))))]) (w1 := []) hP hD [] [0, 1, 2, 3] rfl rfl (by decide) (by decide) hk1 hFc hP1 hD1
        have hK := (hK.sub (tys' := [(da, .byte), (dl, .long), (ds, .long)]) [0, 1, 2] rfl).app hK1
        generalize H1 = H at hP hS ⊢
        have hP : va_P (dC, dI) vwCl [(h0, .inr (2, [.int (nI 12), .ref az, .int eb])), (aa, .inl (da, 16, .inl f)), (ql, .inl (dl, 2, .inr (.inl ((mx (sf 26) (L0 (mk8 f)) n).2.1)))), (az, .inl (ds, 26, .inr (.inl ((mx (sf 26) (L0 (mk8 f)) (n + 1)).1))))] H := hP
        have hD : va_D A [(h0, .inr (2, [.int (nI 12), .ref az, .int eb])), (aa, .inl (da, 16, .inl f)), (ql, .inl (dl, 2, .inr (.inl ((mx (sf 26) (L0 (mk8 f)) n).2.1)))), (az, .inl (ds, 26, .inr (.inl ((mx (sf 26) (L0 (mk8 f)) (n + 1)).1))))] := hD
        have hK : va_K (dC, dI) vwCl [(da, .byte), (dl, .long), (ds, .long)] s := hK
        refine lv_topl (fun t_204 et_204 => ?_)
        have et_204 : t_204 = (mx (sf 26) (L0 (mk8 f)) (n + 1)).2.2.2 := et_204.trans (rfl)
        subst et_204
        refine lv_dup2_x2_2 hx hb dX2_setKey_207 rfl rfl rfl ?_
        refine va_last hx hb hK hP hD hS 2 1 rfl rfl (vp_in_nI (n := (n % 2)) (N := 2) (by omega) (by omega)) dX2_setKey_208 (fun H locs hP hD hS => ?_)
        rw [nI_clamp (n := (n % 2)) (by omega)] at hP hD
        have eg_208 : vp_updL ((mx (sf 26) (L0 (mk8 f)) n).2.1) (n % 2) ((mx (sf 26) (L0 (mk8 f)) (n + 1)).2.2.2) = (mx (sf 26) (L0 (mk8 f)) (n + 1)).2.1 := rfl
        rw [eg_208] at hP hD
        have hP : va_P (dC, dI) vwCl [(h0, .inr (2, [.int (nI 12), .ref az, .int eb])), (aa, .inl (da, 16, .inl f)), (ql, .inl (dl, 2, .inr (.inl ((mx (sf 26) (L0 (mk8 f)) (n + 1)).2.1)))), (az, .inl (ds, 26, .inr (.inl ((mx (sf 26) (L0 (mk8 f)) (n + 1)).1))))] H := hP
        have hD : va_D A [(h0, .inr (2, [.int (nI 12), .ref az, .int eb])), (aa, .inl (da, 16, .inl f)), (ql, .inl (dl, 2, .inr (.inl ((mx (sf 26) (L0 (mk8 f)) (n + 1)).2.1)))), (az, .inl (ds, 26, .inr (.inl ((mx (sf 26) (L0 (mk8 f)) (n + 1)).1))))] := hD
        refine lv_lstore (lv' := [(6, .long ((mx (sf 26) (L0 (mk8 f)) (n + 1)).2.2.2)), (4, .long ((mx (sf 26) (L0 (mk8 f)) (n + 1)).2.2.1)), (0, .ref h0), (1, .ref aa), (2, .ref ql), (3, .int (nI 78)), (8, .int (nI (n % 26))), (9, .int (nI (n % 2))), (10, .int (nI n))]) hx hb dX2_setKey_209 hl (by decide) rfl (fun ls hl => ?_)
        refine lv_iload hx hb dX2_setKey_211 (lv_at hl 6 rfl) ?_
        refine lv_iconst (v := nI 1) hx hb dX2_setKey_213 (by decide) ?_
        refine lv_iadd hx hb dX2_setKey_214 ?_
        refine lv_topi (fun t_214 et_214 => ?_)
        have et_214 : t_214 = nI (n % 26 + 1) := et_214.trans (nI_add (n % 26) 1)
        subst et_214
        refine lv_aload_n hx hb dX2_setKey_215 rfl (lv_at hl 2 rfl) ?_
        refine va_get (D := (dC, dI)) (ci := 2) (v := .ref az) (C := RX2) (T := TX2) (N := 3) hx hb hts in_X2 hown hK hP 0 rfl rfl 1 (by decide) (hts _ q69) (fun _ h9 => h9) rfl dX2_setKey_216 ?_
        refine va_alen (v := nI 26) hx hb hK hP 3 2 rfl rfl rfl dX2_setKey_219 ?_
        refine lv_irem hx hb dX2_setKey_220 (by decide) ?_
        refine lv_topi (fun t_220 et_220 => ?_)
        have et_220 : t_220 = nI ((n + 1) % 26) := et_220.trans ((pk_rem (a := n % 26 + 1) (d := 26) (by omega) (by omega) (by omega)).trans (congrArg nI (by omega)))
        subst et_220
        refine lv_istore (lv' := [(8, .int (nI ((n + 1) % 26))), (6, .long ((mx (sf 26) (L0 (mk8 f)) (n + 1)).2.2.2)), (4, .long ((mx (sf 26) (L0 (mk8 f)) (n + 1)).2.2.1)), (0, .ref h0), (1, .ref aa), (2, .ref ql), (3, .int (nI 78)), (9, .int (nI (n % 2))), (10, .int (nI n))]) hx hb dX2_setKey_221 hl (by decide) rfl (fun ls hl => ?_)
        refine lv_iload hx hb dX2_setKey_223 (lv_at hl 7 rfl) ?_
        refine lv_iconst (v := nI 1) hx hb dX2_setKey_225 (by decide) ?_
        refine lv_iadd hx hb dX2_setKey_226 ?_
        refine lv_topi (fun t_226 et_226 => ?_)
        have et_226 : t_226 = nI (n % 2 + 1) := et_226.trans (nI_add (n % 2) 1)
        subst et_226
        refine lv_aload_n hx hb dX2_setKey_227 rfl (lv_at hl 5 rfl) ?_
        refine va_alen (v := nI 2) hx hb hK hP 2 1 rfl rfl rfl dX2_setKey_228 ?_
        refine lv_irem hx hb dX2_setKey_229 (by decide) ?_
        refine lv_topi (fun t_229 et_229 => ?_)
        have et_229 : t_229 = nI ((n + 1) % 2) := et_229.trans ((pk_rem (a := n % 2 + 1) (d := 2) (by omega) (by omega) (by omega)).trans (congrArg nI (by omega)))
        subst et_229
        refine lv_istore (lv' := [(9, .int (nI ((n + 1) % 2))), (8, .int (nI ((n + 1) % 26))), (6, .long ((mx (sf 26) (L0 (mk8 f)) (n + 1)).2.2.2)), (4, .long ((mx (sf 26) (L0 (mk8 f)) (n + 1)).2.2.1)), (0, .ref h0), (1, .ref aa), (2, .ref ql), (3, .int (nI 78)), (10, .int (nI n))]) hx hb dX2_setKey_230 hl (by decide) rfl (fun ls hl => ?_)
        refine lv_iinc (v := nI (n + 1)) (lv' := [(10, .int (nI (n + 1))), (9, .int (nI ((n + 1) % 2))), (8, .int (nI ((n + 1) % 26))), (6, .long ((mx (sf 26) (L0 (mk8 f)) (n + 1)).2.2.2)), (4, .long ((mx (sf 26) (L0 (mk8 f)) (n + 1)).2.2.1)), (0, .ref h0), (1, .ref aa), (2, .ref ql), (3, .int (nI 78))]) hx hb dX2_setKey_232 hl (k := 8) rfl (nI_1 n) (by decide) rfl (fun ls hl => ?_)
        refine lv_goto (tgt := 149) hx hb dX2_setKey_235 (by decide) ?_
        refine W.widen (k := 2) (n := 28) (Nat.le_of_ble_eq_true rfl) (Nat.le_of_ble_eq_true rfl) ?_
        exact ih ql dl az ds (n + 1) (by omega) (by omega) (hK.sub [0, 1, 2] rfl) _ _ (hP.sub (ws' := [(h0, .inr (2, [.int (nI 12), .ref az, .int eb])), (aa, .inl (da, 16, .inl f)), (ql, .inl (dl, 2, .inr (.inl ((mx (sf 26) (L0 (mk8 f)) (n + 1)).2.1)))), (az, .inl (ds, 26, .inr (.inl ((mx (sf 26) (L0 (mk8 f)) (n + 1)).1))))]) [0, 1, 2, 3] rfl) (hD.sub (ws' := [(h0, .inr (2, [.int (nI 12), .ref az, .int eb])), (aa, .inl (da, 16, .inl f)), (ql, .inl (dl, 2, .inr (.inl ((mx (sf 26) (L0 (mk8 f)) (n + 1)).2.1)))), (az, .inl (ds, 26, .inr (.inl ((mx (sf 26) (L0 (mk8 f)) (n + 1)).1))))]) [0, 1, 2, 3] (by decide) rfl) hS _ (lv_sub hl [5, 6, 7, 8, 4, 3, 2, 1, 0] rfl)
  have b2 : ∀ (ql : Nat) (dl : ClassId) (az : Nat) (ds : ClassId), va_K (dC, dI) vwCl [(da, .byte), (dl, .long), (ds, .long)] s → ∀ (H : Heap) (locs : List Loc), va_P (dC, dI) vwCl [(h0, .inr (2, [.int (nI 12), .ref az, .int eb])), (aa, .inl (da, 16, .inl f)), (ql, .inl (dl, 2, .inr (.inl (L0 (mk8 f))))), (az, .inl (ds, 26, .inr (.inl (sf 26))))] H → va_D A [(h0, .inr (2, [.int (nI 12), .ref az, .int eb])), (aa, .inl (da, 16, .inl f)), (ql, .inl (dl, 2, .inr (.inl (L0 (mk8 f))))), (az, .inl (ds, 26, .inr (.inl (sf 26))))] → va_S A s.heap H locs → ∀ (ls : Array Slot), lv_has ls 11 [(0, .ref h0), (1, .ref aa), (2, .ref ql)] → W p l e (headSpec wsX2_setKey ({ frames := 1, cells := 2, slots := 28, locals := 24 })).room s m ([.ref h0, .ref aa] : List Value).toArray below meth c H locs (2) (28) (MQ below (va_Qv (fun (u : Unit) => True) (BX2_setKey dC dI A h0 aa da f eb) A) ([.ref h0, .ref aa] : List Value).toArray s 2 28 A) (F0 m 108 ls []) := by
    intro ql dl az ds  hK H locs hP hD hS ls hl
    refine lv_aload_n hx hb dX2_setKey_108 rfl (lv_at hl 2 rfl) ?_
    refine va_alen (v := nI 2) hx hb hK hP 2 1 rfl rfl rfl dX2_setKey_109 ?_
    refine lv_aload_n hx hb dX2_setKey_110 rfl (lv_at hl 0 rfl) ?_
    refine va_get (D := (dC, dI)) (ci := 2) (v := .ref az) (C := RX2) (T := TX2) (N := 3) hx hb hts in_X2 hown hK hP 0 rfl rfl 1 (by decide) (hts _ q69) (fun _ h9 => h9) rfl dX2_setKey_111 ?_
    refine va_alen (v := nI 26) hx hb hK hP 3 2 rfl rfl rfl dX2_setKey_114 ?_
    refine lv_icmp_le (tgt := 126) hx hb dX2_setKey_115 (by decide) (fun c_115 => ?_) (fun c_115 => ?_)
    · refine lv_iconst (v := nI 3) hx hb dX2_setKey_126 (by decide) ?_
      refine lv_aload_n hx hb dX2_setKey_127 rfl (lv_at hl 0 rfl) ?_
      refine va_get (D := (dC, dI)) (ci := 2) (v := .ref az) (C := RX2) (T := TX2) (N := 3) hx hb hts in_X2 hown hK hP 0 rfl rfl 1 (by decide) (hts _ q69) (fun _ h9 => h9) rfl dX2_setKey_128 ?_
      refine va_alen (v := nI 26) hx hb hK hP 3 2 rfl rfl rfl dX2_setKey_131 ?_
      refine lv_imul hx hb dX2_setKey_132 ?_
      refine lv_topi (fun t_132 et_132 => ?_)
      have et_132 : t_132 = nI 78 := et_132.trans (pk_mul 3 26)
      subst et_132
      refine lv_istore_n (lv' := [(3, .int (nI 78)), (0, .ref h0), (1, .ref aa), (2, .ref ql)]) hx hb dX2_setKey_133 rfl hl (by decide) rfl (fun ls hl => ?_)
      refine lv_lconst (v := 0) hx hb dX2_setKey_134 rfl ?_
      refine lv_lstore (lv' := [(4, .long 0), (3, .int (nI 78)), (0, .ref h0), (1, .ref aa), (2, .ref ql)]) hx hb dX2_setKey_135 hl (by decide) rfl (fun ls hl => ?_)
      refine lv_lconst (v := 0) hx hb dX2_setKey_137 rfl ?_
      refine lv_lstore (lv' := [(6, .long 0), (4, .long 0), (3, .int (nI 78)), (0, .ref h0), (1, .ref aa), (2, .ref ql)]) hx hb dX2_setKey_138 hl (by decide) rfl (fun ls hl => ?_)
      refine lv_iconst (v := nI 0) hx hb dX2_setKey_140 (by decide) ?_
      refine lv_istore (lv' := [(8, .int (nI 0)), (6, .long 0), (4, .long 0), (3, .int (nI 78)), (0, .ref h0), (1, .ref aa), (2, .ref ql)]) hx hb dX2_setKey_141 hl (by decide) rfl (fun ls hl => ?_)
      refine lv_iconst (v := nI 0) hx hb dX2_setKey_143 (by decide) ?_
      refine lv_istore (lv' := [(9, .int (nI 0)), (8, .int (nI 0)), (6, .long 0), (4, .long 0), (3, .int (nI 78)), (0, .ref h0), (1, .ref aa), (2, .ref ql)]) hx hb dX2_setKey_144 hl (by decide) rfl (fun ls hl => ?_)
      refine lv_iconst (v := nI 0) hx hb dX2_setKey_146 (by decide) ?_
      refine lv_istore (lv' := [(10, .int (nI 0)), (9, .int (nI 0)), (8, .int (nI 0)), (6, .long 0), (4, .long 0), (3, .int (nI 78)), (0, .ref h0), (1, .ref aa), (2, .ref ql)]) hx hb dX2_setKey_147 hl (by decide) rfl (fun ls hl => ?_)
      exact l3 _ ql dl az ds 0 (Nat.lt_succ_self _) (by omega) (hK.sub [0, 1, 2] rfl) _ _ (hP.sub (ws' := [(h0, .inr (2, [.int (nI 12), .ref az, .int eb])), (aa, .inl (da, 16, .inl f)), (ql, .inl (dl, 2, .inr (.inl ((mx (sf 26) (L0 (mk8 f)) 0).2.1)))), (az, .inl (ds, 26, .inr (.inl ((mx (sf 26) (L0 (mk8 f)) 0).1))))]) [0, 1, 2, 3] rfl) (hD.sub (ws' := [(h0, .inr (2, [.int (nI 12), .ref az, .int eb])), (aa, .inl (da, 16, .inl f)), (ql, .inl (dl, 2, .inr (.inl ((mx (sf 26) (L0 (mk8 f)) 0).2.1)))), (az, .inl (ds, 26, .inr (.inl ((mx (sf 26) (L0 (mk8 f)) 0).1))))]) [0, 1, 2, 3] (by decide) rfl) hS _ (lv_sub hl [6, 7, 8, 5, 4, 3, 2, 1, 0] rfl)
    · exact absurd (show nI 2 ≤ nI 26 by decide) c_115
  have l2 : ∀ (fu : Nat), ∀ (ql : Nat) (dl : ClassId) (az : Nat) (ds : ClassId) (k : Nat), (26 - k) < fu → k ≤ 25 → va_K (dC, dI) vwCl [(da, .byte), (dl, .long), (ds, .long)] s → ∀ (H : Heap) (locs : List Loc), va_P (dC, dI) vwCl [(h0, .inr (2, [.int (nI 12), .ref az, .int eb])), (aa, .inl (da, 16, .inl f)), (ql, .inl (dl, 2, .inr (.inl (L0 (mk8 f))))), (az, .inl (ds, 26, .inr (.inl (sf (k + 1)))))] H → va_D A [(h0, .inr (2, [.int (nI 12), .ref az, .int eb])), (aa, .inl (da, 16, .inl f)), (ql, .inl (dl, 2, .inr (.inl (L0 (mk8 f))))), (az, .inl (ds, 26, .inr (.inl (sf (k + 1)))))] → va_S A s.heap H locs → ∀ (ls : Array Slot), lv_has ls 11 [(0, .ref h0), (1, .ref aa), (2, .ref ql), (3, .int (nI (k + 1)))] → W p l e (headSpec wsX2_setKey ({ frames := 1, cells := 2, slots := 28, locals := 24 })).room s m ([.ref h0, .ref aa] : List Value).toArray below meth c H locs (2) (28) (MQ below (va_Qv (fun (u : Unit) => True) (BX2_setKey dC dI A h0 aa da f eb) A) ([.ref h0, .ref aa] : List Value).toArray s 2 28 A) (F0 m 75 ls []) := by
    intro fu
    induction fu with
    | zero => intro ql dl az ds k hme; exact absurd hme (Nat.not_lt_zero _)
    | succ fu ih =>
      intro ql dl az ds k hme hk25 hK H locs hP hD hS ls hl
      refine lv_iload_n hx hb dX2_setKey_75 rfl (lv_at hl 3 rfl) ?_
      refine lv_aload_n hx hb dX2_setKey_76 rfl (lv_at hl 0 rfl) ?_
      refine va_get (D := (dC, dI)) (ci := 2) (v := .ref az) (C := RX2) (T := TX2) (N := 3) hx hb hts in_X2 hown hK hP 0 rfl rfl 1 (by decide) (hts _ q69) (fun _ h9 => h9) rfl dX2_setKey_77 ?_
      refine va_alen (v := nI 26) hx hb hK hP 3 2 rfl rfl rfl dX2_setKey_80 ?_
      refine lv_icmp_ge (tgt := 108) hx hb dX2_setKey_81 (by decide) (fun c_81 => ?_) (fun c_81 => ?_)
      · have hk2 : k = 25 := by
          rcases Nat.lt_or_ge (k + 1) 26 with q | q
          · exact absurd c_81 (nI_ge q (by omega))
          · omega
        subst hk2
        exact b2 ql dl az ds (hK.sub [0, 1, 2] rfl) _ _ (hP.sub (ws' := [(h0, .inr (2, [.int (nI 12), .ref az, .int eb])), (aa, .inl (da, 16, .inl f)), (ql, .inl (dl, 2, .inr (.inl (L0 (mk8 f))))), (az, .inl (ds, 26, .inr (.inl (sf 26))))]) [0, 1, 2, 3] rfl) (hD.sub (ws' := [(h0, .inr (2, [.int (nI 12), .ref az, .int eb])), (aa, .inl (da, 16, .inl f)), (ql, .inl (dl, 2, .inr (.inl (L0 (mk8 f))))), (az, .inl (ds, 26, .inr (.inl (sf 26))))]) [0, 1, 2, 3] (by decide) rfl) hS _ (lv_sub hl [0, 1, 2] rfl)
      · have hlt : k + 1 < 26 := by
          rcases Nat.lt_or_ge (k + 1) 26 with q | q
          · exact q
          · exact absurd (nI_le q (by omega)) c_81
        refine lv_aload_n hx hb dX2_setKey_84 rfl (lv_at hl 0 rfl) ?_
        refine va_get (D := (dC, dI)) (ci := 2) (v := .ref az) (C := RX2) (T := TX2) (N := 3) hx hb hts in_X2 hown hK hP 0 rfl rfl 1 (by decide) (hts _ q69) (fun _ h9 => h9) rfl dX2_setKey_85 ?_
        refine lv_iload_n hx hb dX2_setKey_88 rfl (lv_at hl 3 rfl) ?_
        refine lv_aload_n hx hb dX2_setKey_89 rfl (lv_at hl 0 rfl) ?_
        refine va_get (D := (dC, dI)) (ci := 2) (v := .ref az) (C := RX2) (T := TX2) (N := 3) hx hb hts in_X2 hown hK hP 0 rfl rfl 1 (by decide) (hts _ q69) (fun _ h9 => h9) rfl dX2_setKey_90 ?_
        refine lv_iload_n hx hb dX2_setKey_93 rfl (lv_at hl 3 rfl) ?_
        refine lv_iconst (v := nI 1) hx hb dX2_setKey_94 (by decide) ?_
        refine lv_isub hx hb dX2_setKey_95 ?_
        refine lv_topi (fun t_95 et_95 => ?_)
        have et_95 : t_95 = nI k := et_95.trans (pk_sub (a := k + 1) (b := 1) (by omega))
        subst et_95
        refine va_lald hx hb hK hP 3 2 rfl rfl (vp_in_nI (n := k) (N := 26) (by omega) (by omega)) dX2_setKey_96 ?_
        refine lv_topl (fun t_96 et_96 => ?_)
        have et_96 : t_96 = (sf (k + 1)) k := et_96.trans (congrArg (sf (k + 1)) (nI_clamp (n := k) (by omega)))
        subst et_96
        refine lv_ldc2 (v := -7046029254386353131) hx hb hown (hts _ q186) dX2_setKey_97 ?_
        refine lv_ladd hx hb dX2_setKey_100 ?_
        refine va_last hx hb hK hP hD hS 3 2 rfl rfl (vp_in_nI (n := (k + 1)) (N := 26) (by omega) (by omega)) dX2_setKey_101 (fun H locs hP hD hS => ?_)
        rw [nI_clamp (n := (k + 1)) (by omega)] at hP hD
        have eg_101 : vp_updL (sf (k + 1)) (k + 1) (((sf (k + 1)) k) + (-7046029254386353131)) = sf (k + 1 + 1) := sf_s k
        rw [eg_101] at hP hD
        have hP : va_P (dC, dI) vwCl [(h0, .inr (2, [.int (nI 12), .ref az, .int eb])), (aa, .inl (da, 16, .inl f)), (ql, .inl (dl, 2, .inr (.inl (L0 (mk8 f))))), (az, .inl (ds, 26, .inr (.inl (sf (k + 1 + 1)))))] H := hP
        have hD : va_D A [(h0, .inr (2, [.int (nI 12), .ref az, .int eb])), (aa, .inl (da, 16, .inl f)), (ql, .inl (dl, 2, .inr (.inl (L0 (mk8 f))))), (az, .inl (ds, 26, .inr (.inl (sf (k + 1 + 1)))))] := hD
        refine lv_iinc (v := nI (k + 1 + 1)) (lv' := [(3, .int (nI (k + 1 + 1))), (0, .ref h0), (1, .ref aa), (2, .ref ql)]) hx hb dX2_setKey_102 hl (k := 3) rfl (nI_1 (k + 1)) (by decide) rfl (fun ls hl => ?_)
        refine lv_goto (tgt := 75) hx hb dX2_setKey_105 (by decide) ?_
        exact ih ql dl az ds (k + 1) (by omega) (by omega) (hK.sub [0, 1, 2] rfl) _ _ (hP.sub (ws' := [(h0, .inr (2, [.int (nI 12), .ref az, .int eb])), (aa, .inl (da, 16, .inl f)), (ql, .inl (dl, 2, .inr (.inl (L0 (mk8 f))))), (az, .inl (ds, 26, .inr (.inl (sf ((k + 1) + 1)))))]) [0, 1, 2, 3] rfl) (hD.sub (ws' := [(h0, .inr (2, [.int (nI 12), .ref az, .int eb])), (aa, .inl (da, 16, .inl f)), (ql, .inl (dl, 2, .inr (.inl (L0 (mk8 f))))), (az, .inl (ds, 26, .inr (.inl (sf ((k + 1) + 1)))))]) [0, 1, 2, 3] (by decide) rfl) hS _ (lv_sub hl [1, 2, 3, 0] rfl)
  have b1 : ∀ (ql : Nat) (dl : ClassId), va_K (dC, dI) vwCl [(da, .byte), (dl, .long)] s → ∀ (H : Heap) (locs : List Loc), va_P (dC, dI) vwCl [(h0, .inr (2, [.int (nI 12), .null, .int eb])), (aa, .inl (da, 16, .inl f)), (ql, .inl (dl, 2, .inr (.inl (L0 (mk8 f)))))] H → va_D A [(h0, .inr (2, [.int (nI 12), .null, .int eb])), (aa, .inl (da, 16, .inl f)), (ql, .inl (dl, 2, .inr (.inl (L0 (mk8 f)))))] → va_S A s.heap H locs → ∀ (ls : Array Slot), lv_has ls 11 [(0, .ref h0), (1, .ref aa), (2, .ref ql)] → W p l e (headSpec wsX2_setKey ({ frames := 1, cells := 2, slots := 28, locals := 24 })).room s m ([.ref h0, .ref aa] : List Value).toArray below meth c H locs (1) (2) (MQ below (va_Qv (fun (u : Unit) => True) (BX2_setKey dC dI A h0 aa da f eb) A) ([.ref h0, .ref aa] : List Value).toArray s 2 28 A) (F0 m 50 ls []) := by
    intro ql dl  hK H locs hP hD hS ls hl
    refine lv_aload_n hx hb dX2_setKey_50 rfl (lv_at hl 0 rfl) ?_
    refine lv_iconst (v := nI 2) hx hb dX2_setKey_51 (by decide) ?_
    refine lv_aload_n hx hb dX2_setKey_52 rfl (lv_at hl 0 rfl) ?_
    refine va_get (D := (dC, dI)) (ci := 2) (v := .int (nI 12)) (C := RX2) (T := TX2) (N := 3) hx hb hts in_X2 hown hK hP 0 rfl rfl 0 (by decide) (hts _ q68) (fun _ h9 => h9) rfl dX2_setKey_53 ?_
    refine lv_iconst (v := nI 1) hx hb dX2_setKey_56 (by decide) ?_
    refine lv_iadd hx hb dX2_setKey_57 ?_
    refine lv_topi (fun t_57 et_57 => ?_)
    have et_57 : t_57 = nI 13 := et_57.trans (nI_add 12 1)
    subst et_57
    refine lv_imul hx hb dX2_setKey_58 ?_
    refine lv_topi (fun t_58 et_58 => ?_)
    have et_58 : t_58 = nI 26 := et_58.trans (pk_mul 2 13)
    subst et_58
    refine va_newa (atype := .long) (ty := .long) (N' := 26) (a0 := (26, .inr (.inl (fun _ => 0)))) hx hb (hts _ q223) rfl hK hP hD hS hA (fun _ => rfl) (nI_pos (n := 26) (by omega)) (nI_clamp (n := 26) (by omega)) (Nat.le_of_ble_eq_true rfl) (Nat.le_of_ble_eq_true rfl) (Nat.le_of_ble_eq_true rfl) dX2_setKey_59 (fun q_59 d_59 H hK hP hD hS => ?_)
    have hP : va_P (dC, dI) vwCl [(h0, .inr (2, [.int (nI 12), .null, .int eb])), (aa, .inl (da, 16, .inl f)), (ql, .inl (dl, 2, .inr (.inl (L0 (mk8 f))))), (q_59, .inl (d_59, 26, .inr (.inl (fun _ => 0))))] H := hP
    have hD : va_D A [(h0, .inr (2, [.int (nI 12), .null, .int eb])), (aa, .inl (da, 16, .inl f)), (ql, .inl (dl, 2, .inr (.inl (L0 (mk8 f))))), (q_59, .inl (d_59, 26, .inr (.inl (fun _ => 0))))] := hD
    have hK : va_K (dC, dI) vwCl [(da, .byte), (dl, .long), (d_59, .long)] s := hK
    refine va_put (D := (dC, dI)) (ci := 2) (v := .ref q_59) (ty := .array .long) (C := RX2) (T := TX2) (N := 3) hx hb hts in_X2 tyX2 tyX2_ok nmX2 hown hK hP hD hS 0 rfl rfl 1 (by decide) (hts _ q69) (fun _ h9 => h9) rfl (by decide +kernel) rfl rfl (Nat.le_of_ble_eq_true rfl) dX2_setKey_61 (fun H locs hP hD hS => ?_)
    have hP : va_P (dC, dI) vwCl [(h0, .inr (2, [.int (nI 12), .ref q_59, .int eb])), (aa, .inl (da, 16, .inl f)), (ql, .inl (dl, 2, .inr (.inl (L0 (mk8 f))))), (q_59, .inl (d_59, 26, .inr (.inl (fun _ => 0))))] H := hP
    have hD : va_D A [(h0, .inr (2, [.int (nI 12), .ref q_59, .int eb])), (aa, .inl (da, 16, .inl f)), (ql, .inl (dl, 2, .inr (.inl (L0 (mk8 f))))), (q_59, .inl (d_59, 26, .inr (.inl (fun _ => 0))))] := hD
    refine lv_aload_n hx hb dX2_setKey_64 rfl (lv_at hl 0 rfl) ?_
    refine va_get (D := (dC, dI)) (ci := 2) (v := .ref q_59) (C := RX2) (T := TX2) (N := 3) hx hb hts in_X2 hown hK hP 0 rfl rfl 1 (by decide) (hts _ q69) (fun _ h9 => h9) rfl dX2_setKey_65 ?_
    refine lv_iconst (v := nI 0) hx hb dX2_setKey_68 (by decide) ?_
    refine lv_ldc2 (v := -5196783011329398165) hx hb hown (hts _ q185) dX2_setKey_69 ?_
    refine va_last hx hb hK hP hD hS 3 2 rfl rfl (vp_in_nI (n := 0) (N := 26) (by omega) (by omega)) dX2_setKey_72 (fun H locs hP hD hS => ?_)
    rw [nI_clamp (n := 0) (by omega)] at hP hD
    have eg_72 : vp_updL (fun _ => 0) 0 ((-5196783011329398165)) = sf 1 := sf_1
    rw [eg_72] at hP hD
    have hP : va_P (dC, dI) vwCl [(h0, .inr (2, [.int (nI 12), .ref q_59, .int eb])), (aa, .inl (da, 16, .inl f)), (ql, .inl (dl, 2, .inr (.inl (L0 (mk8 f))))), (q_59, .inl (d_59, 26, .inr (.inl (sf 1))))] H := hP
    have hD : va_D A [(h0, .inr (2, [.int (nI 12), .ref q_59, .int eb])), (aa, .inl (da, 16, .inl f)), (ql, .inl (dl, 2, .inr (.inl (L0 (mk8 f))))), (q_59, .inl (d_59, 26, .inr (.inl (sf 1))))] := hD
    refine lv_iconst (v := nI 1) hx hb dX2_setKey_73 (by decide) ?_
    refine lv_istore_n (lv' := [(3, .int (nI 1)), (0, .ref h0), (1, .ref aa), (2, .ref ql)]) hx hb dX2_setKey_74 rfl hl (by decide) rfl (fun ls hl => ?_)
    refine W.widen (k := 2) (n := 28) (Nat.le_of_ble_eq_true rfl) (Nat.le_of_ble_eq_true rfl) ?_
    exact l2 _ ql dl q_59 d_59 0 (Nat.lt_succ_self _) (by omega) (hK.sub [0, 1, 2] rfl) _ _ (hP.sub (ws' := [(h0, .inr (2, [.int (nI 12), .ref q_59, .int eb])), (aa, .inl (da, 16, .inl f)), (ql, .inl (dl, 2, .inr (.inl (L0 (mk8 f))))), (q_59, .inl (d_59, 26, .inr (.inl (sf (0 + 1)))))]) [0, 1, 2, 3] rfl) (hD.sub (ws' := [(h0, .inr (2, [.int (nI 12), .ref q_59, .int eb])), (aa, .inl (da, 16, .inl f)), (ql, .inl (dl, 2, .inr (.inl (L0 (mk8 f))))), (q_59, .inl (d_59, 26, .inr (.inl (sf (0 + 1)))))]) [0, 1, 2, 3] (by decide) rfl) hS _ (lv_sub hl [1, 2, 3, 0] rfl)
  have l1 : ∀ (fu : Nat), ∀ (ql : Nat) (dl : ClassId) (i : Nat), (17 - i) < fu → i ≤ 16 → va_K (dC, dI) vwCl [(da, .byte), (dl, .long)] s → ∀ (H : Heap) (locs : List Loc), va_P (dC, dI) vwCl [(h0, .inr (2, [.int (nI 12), .null, .int eb])), (aa, .inl (da, 16, .inl f)), (ql, .inl (dl, 2, .inr (.inl (lq (mk8 f) i))))] H → va_D A [(h0, .inr (2, [.int (nI 12), .null, .int eb])), (aa, .inl (da, 16, .inl f)), (ql, .inl (dl, 2, .inr (.inl (lq (mk8 f) i))))] → va_S A s.heap H locs → ∀ (ls : Array Slot), lv_has ls 11 [(0, .ref h0), (1, .ref aa), (2, .ref ql), (3, .int (nI i))] → W p l e (headSpec wsX2_setKey ({ frames := 1, cells := 2, slots := 28, locals := 24 })).room s m ([.ref h0, .ref aa] : List Value).toArray below meth c H locs (1) (2) (MQ below (va_Qv (fun (u : Unit) => True) (BX2_setKey dC dI A h0 aa da f eb) A) ([.ref h0, .ref aa] : List Value).toArray s 2 28 A) (F0 m 13 ls []) := by
    intro fu
    induction fu with
    | zero => intro ql dl i hme; exact absurd hme (Nat.not_lt_zero _)
    | succ fu ih =>
      intro ql dl i hme hi16 hK H locs hP hD hS ls hl
      refine lv_iload_n hx hb dX2_setKey_13 rfl (lv_at hl 3 rfl) ?_
      refine lv_aload_n hx hb dX2_setKey_14 rfl (lv_at hl 1 rfl) ?_
      refine va_alen (v := nI 16) hx hb hK hP 1 0 rfl rfl rfl dX2_setKey_15 ?_
      refine lv_icmp_eq (tgt := 50) hx hb dX2_setKey_16 (by decide) (fun c_16 => ?_) (fun c_16 => ?_)
      · have hi2 : i = 16 := (nI_eq (by omega) (by omega)).mp c_16
        subst hi2
        rw [lq_16] at hP hD
        exact b1 ql dl (hK.sub [0, 1] rfl) _ _ (hP.sub (ws' := [(h0, .inr (2, [.int (nI 12), .null, .int eb])), (aa, .inl (da, 16, .inl f)), (ql, .inl (dl, 2, .inr (.inl (L0 (mk8 f)))))]) [0, 1, 2] rfl) (hD.sub (ws' := [(h0, .inr (2, [.int (nI 12), .null, .int eb])), (aa, .inl (da, 16, .inl f)), (ql, .inl (dl, 2, .inr (.inl (L0 (mk8 f)))))]) [0, 1, 2] (by decide) rfl) hS _ (lv_sub hl [0, 1, 2] rfl)
      · have hlt : i < 16 := by
          rcases Nat.lt_or_ge i 16 with q | q
          · exact q
          · exact absurd (by rw [show i = 16 by omega]) c_16
        refine lv_aload_n hx hb dX2_setKey_19 rfl (lv_at hl 2 rfl) ?_
        refine lv_iload_n hx hb dX2_setKey_20 rfl (lv_at hl 3 rfl) ?_
        refine lv_bipush (v := nI 8) hx hb dX2_setKey_21 (by decide) ?_
        refine lv_idiv hx hb dX2_setKey_23 (by decide) ?_
        refine lv_topi (fun t_23 et_23 => ?_)
        have et_23 : t_23 = nI (i / 8) := et_23.trans (pk_div (by omega) (by omega) (by omega))
        subst et_23
        refine lv_dup2_11 hx hb dX2_setKey_24 rfl rfl ?_
        refine va_lald hx hb hK hP 2 1 rfl rfl (vp_in_nI (n := (i / 8)) (N := 2) (by omega) (by omega)) dX2_setKey_25 ?_
        refine lv_topl (fun t_25 et_25 => ?_)
        have et_25 : t_25 = (lq (mk8 f) i) (i / 8) := et_25.trans (congrArg (lq (mk8 f) i) (nI_clamp (n := (i / 8)) (by omega)))
        subst et_25
        refine lv_aload_n hx hb dX2_setKey_26 rfl (lv_at hl 1 rfl) ?_
        refine lv_iload_n hx hb dX2_setKey_27 rfl (lv_at hl 3 rfl) ?_
        refine va_bald hx hb hK hP 1 0 rfl rfl (vp_in_nI (n := i) (N := 16) (by omega) (by omega)) dX2_setKey_28 ?_
        refine lv_topi (fun t_28 et_28 => ?_)
        have et_28 : t_28 = f i := et_28.trans (congrArg f (nI_clamp (n := i) (by omega)))
        subst et_28
        refine lv_sipush (v := nI 255) hx hb dX2_setKey_29 (by decide) ?_
        refine lv_iand hx hb dX2_setKey_32 ?_
        refine lv_i2l (v := ((f i) &&& (nI 255)).toInt64) hx hb dX2_setKey_33 rfl ?_
        refine lv_bipush (v := nI 8) hx hb dX2_setKey_34 (by decide) ?_
        refine lv_iload_n hx hb dX2_setKey_36 rfl (lv_at hl 3 rfl) ?_
        refine lv_bipush (v := nI 8) hx hb dX2_setKey_37 (by decide) ?_
        refine lv_irem hx hb dX2_setKey_39 (by decide) ?_
        refine lv_topi (fun t_39 et_39 => ?_)
        have et_39 : t_39 = nI (i % 8) := et_39.trans (pk_rem (by omega) (by omega) (by omega))
        subst et_39
        refine lv_imul hx hb dX2_setKey_40 ?_
        refine lv_lshl (v := (((f i) &&& (nI 255)).toInt64) <<< (((nI 8) * (nI (i % 8))).toInt64 &&& 63)) hx hb dX2_setKey_41 rfl ?_
        refine lv_ladd hx hb dX2_setKey_42 ?_
        refine va_last hx hb hK hP hD hS 2 1 rfl rfl (vp_in_nI (n := (i / 8)) (N := 2) (by omega) (by omega)) dX2_setKey_43 (fun H locs hP hD hS => ?_)
        rw [nI_clamp (n := (i / 8)) (by omega)] at hP hD
        have eg_43 : vp_updL (lq (mk8 f) i) (i / 8) (((lq (mk8 f) i) (i / 8)) + ((((f i) &&& (nI 255)).toInt64) <<< (((nI 8) * (nI (i % 8))).toInt64 &&& 63))) = lq (mk8 f) (i + 1) := rfl
        rw [eg_43] at hP hD
        have hP : va_P (dC, dI) vwCl [(h0, .inr (2, [.int (nI 12), .null, .int eb])), (aa, .inl (da, 16, .inl f)), (ql, .inl (dl, 2, .inr (.inl (lq (mk8 f) (i + 1)))))] H := hP
        have hD : va_D A [(h0, .inr (2, [.int (nI 12), .null, .int eb])), (aa, .inl (da, 16, .inl f)), (ql, .inl (dl, 2, .inr (.inl (lq (mk8 f) (i + 1)))))] := hD
        refine lv_iinc (v := nI (i + 1)) (lv' := [(3, .int (nI (i + 1))), (0, .ref h0), (1, .ref aa), (2, .ref ql)]) hx hb dX2_setKey_44 hl (k := 3) rfl (nI_1 i) (by decide) rfl (fun ls hl => ?_)
        refine lv_goto (tgt := 13) hx hb dX2_setKey_47 (by decide) ?_
        exact ih ql dl (i + 1) (by omega) (by omega) (hK.sub [0, 1] rfl) _ _ (hP.sub (ws' := [(h0, .inr (2, [.int (nI 12), .null, .int eb])), (aa, .inl (da, 16, .inl f)), (ql, .inl (dl, 2, .inr (.inl (lq (mk8 f) (i + 1)))))]) [0, 1, 2] rfl) (hD.sub (ws' := [(h0, .inr (2, [.int (nI 12), .null, .int eb])), (aa, .inl (da, 16, .inl f)), (ql, .inl (dl, 2, .inr (.inl (lq (mk8 f) (i + 1)))))]) [0, 1, 2] (by decide) rfl) hS _ (lv_sub hl [1, 2, 3, 0] rfl)
  refine lv_aload_n hx hb dX2_setKey_0 rfl (lv_at hl 1 rfl) ?_
  refine va_alen (v := nI 16) hx hb hK hP 1 0 rfl rfl rfl dX2_setKey_1 ?_
  refine lv_bipush (v := nI 7) hx hb dX2_setKey_2 (by decide) ?_
  refine lv_iadd hx hb dX2_setKey_4 ?_
  refine lv_topi (fun t_4 et_4 => ?_)
  have et_4 : t_4 = nI 23 := et_4.trans (nI_add 16 7)
  subst et_4
  refine lv_bipush (v := nI 8) hx hb dX2_setKey_5 (by decide) ?_
  refine lv_idiv hx hb dX2_setKey_7 (by decide) ?_
  refine lv_topi (fun t_7 et_7 => ?_)
  have et_7 : t_7 = nI 2 := et_7.trans (by decide)
  subst et_7
  refine va_newa (atype := .long) (ty := .long) (N' := 2) (a0 := (2, .inr (.inl (fun _ => 0)))) hx hb (hts _ q223) rfl hK hP hD hS hA (fun _ => rfl) (nI_pos (n := 2) (by omega)) (nI_clamp (n := 2) (by omega)) (Nat.le_of_ble_eq_true rfl) (Nat.le_of_ble_eq_true rfl) (Nat.le_of_ble_eq_true rfl) dX2_setKey_8 (fun q_8 d_8 H hK hP hD hS => ?_)
  have hP : va_P (dC, dI) vwCl [(h0, .inr (2, [.int (nI 12), .null, .int eb])), (aa, .inl (da, 16, .inl f)), (q_8, .inl (d_8, 2, .inr (.inl (fun _ => 0))))] H := hP
  have hD : va_D A [(h0, .inr (2, [.int (nI 12), .null, .int eb])), (aa, .inl (da, 16, .inl f)), (q_8, .inl (d_8, 2, .inr (.inl (fun _ => 0))))] := hD
  have hK : va_K (dC, dI) vwCl [(da, .byte), (d_8, .long)] s := hK
  refine lv_astore_n (lv' := [(2, .ref q_8), (0, .ref h0), (1, .ref aa)]) hx hb dX2_setKey_10 rfl hl (by decide) rfl (fun ls hl => ?_)
  refine lv_iconst (v := nI 0) hx hb dX2_setKey_11 (by decide) ?_
  refine lv_istore_n (lv' := [(3, .int (nI 0)), (2, .ref q_8), (0, .ref h0), (1, .ref aa)]) hx hb dX2_setKey_12 rfl hl (by decide) rfl (fun ls hl => ?_)
  refine W.widen (k := 1) (n := 2) (Nat.le_of_ble_eq_true rfl) (Nat.le_of_ble_eq_true rfl) ?_
  exact l1 _ q_8 d_8 0 (Nat.lt_succ_self _) (by omega) (hK.sub [0, 1] rfl) _ _ (hP.sub (ws' := [(h0, .inr (2, [.int (nI 12), .null, .int eb])), (aa, .inl (da, 16, .inl f)), (q_8, .inl (d_8, 2, .inr (.inl (lq (mk8 f) 0))))]) [0, 1, 2] rfl) (hD.sub (ws' := [(h0, .inr (2, [.int (nI 12), .null, .int eb])), (aa, .inl (da, 16, .inl f)), (q_8, .inl (d_8, 2, .inr (.inl (lq (mk8 f) 0))))]) [0, 1, 2] (by decide) rfl) hS _ (lv_sub hl [2, 3, 1, 0] rfl)
end
section
abbrev wsX2_encryptBlock : List Cond := ws_ yX2_encryptBlock cX2_encryptBlock 10 (some .int)
abbrev BX2_encryptBlock (dC : Nat → ClassId) (dI : Nat → Nat → Nat) (A : Nat → Prop) (h0 : Nat) (az : Nat) (ab : Nat) (ao : Nat) (ds : ClassId) (db : ClassId) (dd : ClassId) (S : Nat → Int64) (fb : Nat → Int32) (fo : Nat → Int32) (eb : Int32) (u : Nat → Int32) (t : State) : Prop := va_P (dC, dI) vwCl [(h0, .inr (2, [.int (nI 12), .ref az, .int eb])), (az, .inl (ds, 26, .inr (.inl S))), (ab, .inl (db, 16, .inl fb)), (ao, .inl (dd, 16, .inl u))] t.heap ∧ va_K (dC, dI) vwCl [(ds, .long), (db, .byte), (dd, .byte)] t ∧ va_D A [(h0, .inr (2, [.int (nI 12), .ref az, .int eb])), (az, .inl (ds, 26, .inr (.inl S))), (ab, .inl (db, 16, .inl fb)), (ao, .inl (dd, 16, .inl u))]
set_option maxHeartbeats 4000000 in
set_option maxRecDepth 100000 in
/-- encryptBlock(in, 0, out, 0) -/
theorem metX2_encryptBlock (l : Launch) (dC : Nat → ClassId) (dI : Nat → Nat → Nat) (h0 : Nat) (az : Nat) (ab : Nat) (ao : Nat) (ds : ClassId) (db : ClassId) (dd : ClassId) (S : Nat → Int64) (fb : Nat → Int32) (fo : Nat → Int32) (eb : Int32) (sz : Nat) : Met l yX2_encryptBlock wsX2_encryptBlock ({ frames := 1, cells := 0, slots := 0, locals := 25 }) (va_Pc [.ref h0, .ref ab, .int (nI 0), .ref ao, .int (nI 0)] (fun U => U.heap.size = sz ∧ va_P (dC, dI) vwCl [(h0, .inr (2, [.int (nI 12), .ref az, .int eb])), (az, .inl (ds, 26, .inr (.inl S))), (ab, .inl (db, 16, .inl fb)), (ao, .inl (dd, 16, .inl fo))] U.heap ∧ va_K (dC, dI) vwCl [(ds, .long), (db, .byte), (dd, .byte)] U ∧ va_D (fun _ => True) [(h0, .inr (2, [.int (nI 12), .ref az, .int eb])), (az, .inl (ds, 26, .inr (.inl S))), (ab, .inl (db, 16, .inl fb)), (ao, .inl (dd, 16, .inl fo))])) (va_Qi (fun (r : Int32) (u : Nat → Int32) => mk8 u = encO S (mk8 fb) (mk8 fo)) (BX2_encryptBlock dC dI (va_A [(h0, .inr (2, [.int (nI 12), .ref az, .int eb])), (az, .inl (ds, 26, .inr (.inl S))), (ab, .inl (db, 16, .inl fb)), (ao, .inl (dd, 16, .inl fo))] sz) h0 az ab ao ds db dd S fb fo eb) (va_A [(h0, .inr (2, [.int (nI 12), .ref az, .int eb])), (az, .inl (ds, 26, .inr (.inl S))), (ab, .inl (db, 16, .inl fb)), (ao, .inl (dd, 16, .inl fo))] sz)) 0 0 (va_A [(h0, .inr (2, [.int (nI 12), .ref az, .int eb])), (az, .inl (ds, 26, .inr (.inl S))), (ab, .inl (db, 16, .inl fb)), (ao, .inl (dd, 16, .inl fo))] sz) := by
  refine Met.ofW (cc := cX2_encryptBlock) (maxL := 10) (ret := (some .int)) (by decide) rfl ?_
  intro p e s m args below meth c s₁ B hml hv
  obtain ⟨rfl, hsz, hP, hK, hD0⟩ := hv
  have hx := B.exec
  have hb := B.bytes
  have hr := B.returns
  have hts := atoms_spec (ws := wsX2_encryptBlock) B.pre
  have hts : ∀ w ∈ lw_all, w.before _ s = true := fun w h => hts w (List.mem_cons_of_mem _ h)
  have hown : s.vm.findClass RX2 = some m.cls := findClass_of_methodNamed B.named
  have hlocks := B.notSynchronized
  subst hsz
  have hD := hD0.self (sz := s.heap.size)
  generalize hAe : va_A [(h0, .inr (2, [.int (nI 12), .ref az, .int eb])), (az, .inl (ds, 26, .inr (.inl S))), (ab, .inl (db, 16, .inl fb)), (ao, .inl (dd, 16, .inl fo))] s.heap.size = A at hD ⊢
  have hA : ∀ q : Nat, s.heap.size ≤ q → A q := fun q h => by rw [← hAe]; exact Or.inr h
  have hS : va_S A s.heap s.heap [] := va_S.rf
  have hP : va_P (dC, dI) vwCl [(h0, .inr (2, [.int (nI 12), .ref az, .int eb])), (az, .inl (ds, 26, .inr (.inl S))), (ab, .inl (db, 16, .inl fb)), (ao, .inl (dd, 16, .inl fo))] s.heap := hP
  have hl := lv_entry ([.ref h0, .ref ab, .int (nI 0), .ref ao, .int (nI 0)]) (n := 10) (Nat.le_of_ble_eq_true rfl)
  rw [lg_entry_eq]
  generalize (lg_sl ([.ref h0, .ref ab, .int (nI 0), .ref ao, .int (nI 0)]) ++ List.replicate (10 - (lg_sl ([.ref h0, .ref ab, .int (nI 0), .ref ao, .int (nI 0)])).length) Slot.unset).toArray = ls at hl ⊢
  have hl : lv_has ls 10 [(0, .ref h0), (1, .ref ab), (2, .int (nI 0)), (3, .ref ao), (4, .int (nI 0))] := hl
  have lp : ∀ (fu : Nat), ∀ (k : Nat), (13 - k) < fu → k ≤ 12 → va_K (dC, dI) vwCl [(ds, .long), (db, .byte), (dd, .byte)] s → ∀ (H : Heap) (locs : List Loc), va_P (dC, dI) vwCl [(h0, .inr (2, [.int (nI 12), .ref az, .int eb])), (az, .inl (ds, 26, .inr (.inl S))), (ab, .inl (db, 16, .inl fb)), (ao, .inl (dd, 16, .inl fo))] H → va_D A [(h0, .inr (2, [.int (nI 12), .ref az, .int eb])), (az, .inl (ds, 26, .inr (.inl S))), (ab, .inl (db, 16, .inl fb)), (ao, .inl (dd, 16, .inl fo))] → va_S A s.heap H locs → ∀ (ls : Array Slot), lv_has ls 10 [(0, .ref h0), (1, .ref ab), (2, .int (nI 0)), (3, .ref ao), (4, .int (nI 0)), (5, .long ((en S (hw (mk8 fb) 0 8 + S 0) (hw (mk8 fb) 8 8 + S 1) k).1)), (7, .long ((en S (hw (mk8 fb) 0 8 + S 0) (hw (mk8 fb) 8 8 + S 1) k).2)), (9, .int (nI (k + 1)))] → W p l e (headSpec wsX2_encryptBlock ({ frames := 1, cells := 0, slots := 0, locals := 25 })).room s m ([.ref h0, .ref ab, .int (nI 0), .ref ao, .int (nI 0)] : List Value).toArray below meth c H locs (0) (0) (MQ below (va_Qi (fun (r : Int32) (u : Nat → Int32) => mk8 u = encO S (mk8 fb) (mk8 fo)) (BX2_encryptBlock dC dI A h0 az ab ao ds db dd S fb fo eb) A) ([.ref h0, .ref ab, .int (nI 0), .ref ao, .int (nI 0)] : List Value).toArray s 0 0 A) (F0 m 36 ls []) := by
    intro fu
    induction fu with
    | zero => intro k hme; exact absurd hme (Nat.not_lt_zero _)
    | succ fu ih =>
      intro k hme hk12 hK H locs hP hD hS ls hl
      refine lv_iload hx hb dX2_encryptBlock_36 (lv_at hl 7 rfl) ?_
      refine lv_aload_n hx hb dX2_encryptBlock_38 rfl (lv_at hl 0 rfl) ?_
      refine va_get (D := (dC, dI)) (ci := 2) (v := .int (nI 12)) (C := RX2) (T := TX2) (N := 3) hx hb hts in_X2 hown hK hP 0 rfl rfl 0 (by decide) (hts _ q68) (fun _ h9 => h9) rfl dX2_encryptBlock_39 ?_
      refine lv_icmp_gt (tgt := 99) hx hb dX2_encryptBlock_42 (by decide) (fun c_42 => ?_) (fun c_42 => ?_)
      · have hk2 : k = 12 := by
          rcases Nat.lt_or_ge k 12 with q | q
          · exact absurd c_42 (nI_nlt (by omega : k + 1 ≤ 12) (by omega))
          · omega
        subst hk2
        refine lv_aload_n hx hb dX2_encryptBlock_99 rfl (lv_at hl 0 rfl) ?_
        refine lv_lload hx hb dX2_encryptBlock_100 (lv_at hl 5 rfl) ?_
        refine lv_aload_n hx hb dX2_encryptBlock_102 rfl (lv_at hl 3 rfl) ?_
        refine lv_iload hx hb dX2_encryptBlock_103 (lv_at hl 4 rfl) ?_
        have hPc := hP.sub (ws' := [(ao, .inl (dd, 16, .inl fo))]) [3] rfl
        have hDc := hD.sub (ws' := [(ao, .inl (dd, 16, .inl fo))]) [3] (by decide) rfl
        have hKc := hK.sub (tys' := [(dd, .byte)]) [2] rfl
        have hFc := va_free (wc := [(ao, .inl (dd, 16, .inl fo))]) hD hS hA [3] rfl
        refine va_callv (va_runV (As := [.long ((en S (hw (mk8 fb) 0 8 + S 0) (hw (mk8 fb) 8 8 + S 1) 12).1), .ref ao, .int (nI 0)]) (rest := []) ⟨hx, hb, hml, hown, hts⟩ (metX2_wordToBytes l dC dI h0 ((en S (hw (mk8 fb) 0 8 + S 0) (hw (mk8 fb) 8 8 + S 1) 12).1) ao dd 16 0 fo H.size (by omega) (by omega)) (cwV 3 hts (lw_V q211 q213 qs6 q14 q214) rfl rfl rfl (by decide +kernel) ⟨Nat.le_of_ble_eq_true rfl, Nat.le_of_ble_eq_true rfl⟩) ⟨fun a U g mk q => by obtain ⟨q0, q1, qP, qK, qD⟩ := q; exact ⟨q0, q1, qP, va_K.moved (u := U) (U := U.calling g mk a) (Vm.Alike.refl U.vm) qK, qD⟩, va_recv hK hP (ci := 2) (q0 := 0) rfl rfl, fun U hU hW => ⟨rfl, by rw [hU], by rw [hU]; exact hPc, va_K.moved hW.alike hKc, hDc.weaken (fun _ _ _ _ => trivial)⟩⟩ rfl rfl hl.1 rfl (lv_room (Nat.le_of_ble_eq_true rfl)) dX2_encryptBlock_105 ⟨Nat.le_of_ble_eq_true rfl, Nat.le_of_ble_eq_true rfl⟩) hS (fun q _ h => hFc q h) hFc (fun u t H1 locs ht hvm hw_105 hB hz1 hk1 hS => ?_)
        obtain ⟨u_105, rfl⟩ : ∃ z, z = u := ⟨_, rfl⟩
        have hw_105 : mk8 u_105 = stn (mk8 fo) 0 (qb ((en S (hw (mk8 fb) 0 8 + S 0) (hw (mk8 fb) 8 8 + S 1) 12).1)) 8 := hw_105
        obtain ⟨hP1, hK1, hD1⟩ := hB
        rw [ht] at hP1
        have hK1 := va_K.moved hvm.symm hK1
        obtain ⟨hP, hD⟩ := va_join (wr := [(h0, .inr (2, [.int (nI 12), .ref az, .int eb])), (az, .inl (ds, 26, .inr (.inl S))), (ab, .inl (db, 16, .inl fb))]) (w1 := [(ao, .inl (dd, 16, .inl u_105))]) hP hD [3] [0, 1, 2] rfl rfl (by decide) (by decide) hk1 hFc hP1 hD1
        have hK := (hK.sub (tys' := [(ds, .long), (db, .byte)]) [0, 1] rfl).app hK1
        generalize H1 = H at hP hS ⊢
        have hP : va_P (dC, dI) vwCl [(h0, .inr (2, [.int (nI 12), .ref az, .int eb])), (az, .inl (ds, 26, .inr (.inl S))), (ab, .inl (db, 16, .inl fb)), (ao, .inl (dd, 16, .inl u_105))] H := hP
        have hD : va_D A [(h0, .inr (2, [.int (nI 12), .ref az, .int eb])), (az, .inl (ds, 26, .inr (.inl S))), (ab, .inl (db, 16, .inl fb)), (ao, .inl (dd, 16, .inl u_105))] := hD
        have hK : va_K (dC, dI) vwCl [(ds, .long), (db, .byte), (dd, .byte)] s := hK
        refine lv_aload_n hx hb dX2_encryptBlock_108 rfl (lv_at hl 0 rfl) ?_
        refine lv_lload hx hb dX2_encryptBlock_109 (lv_at hl 6 rfl) ?_
        refine lv_aload_n hx hb dX2_encryptBlock_111 rfl (lv_at hl 3 rfl) ?_
        refine lv_iload hx hb dX2_encryptBlock_112 (lv_at hl 4 rfl) ?_
        refine lv_bipush (v := nI 8) hx hb dX2_encryptBlock_114 (by decide) ?_
        refine lv_iadd hx hb dX2_encryptBlock_116 ?_
        refine lv_topi (fun t_116 et_116 => ?_)
        have et_116 : t_116 = nI 8 := et_116.trans (nI_add 0 8)
        subst et_116
        have hPc := hP.sub (ws' := [(ao, .inl (dd, 16, .inl u_105))]) [3] rfl
        have hDc := hD.sub (ws' := [(ao, .inl (dd, 16, .inl u_105))]) [3] (by decide) rfl
        have hKc := hK.sub (tys' := [(dd, .byte)]) [2] rfl
        have hFc := va_free (wc := [(ao, .inl (dd, 16, .inl u_105))]) hD hS hA [3] rfl
        refine va_callv (va_runV (As := [.long ((en S (hw (mk8 fb) 0 8 + S 0) (hw (mk8 fb) 8 8 + S 1) 12).2), .ref ao, .int (nI 8)]) (rest := []) ⟨hx, hb, hml, hown, hts⟩ (metX2_wordToBytes l dC dI h0 ((en S (hw (mk8 fb) 0 8 + S 0) (hw (mk8 fb) 8 8 + S 1) 12).2) ao dd 16 8 u_105 H.size (by omega) (by omega)) (cwV 3 hts (lw_V q211 q213 qs6 q14 q214) rfl rfl rfl (by decide +kernel) ⟨Nat.le_of_ble_eq_true rfl, Nat.le_of_ble_eq_true rfl⟩) ⟨fun a U g mk q => by obtain ⟨q0, q1, qP, qK, qD⟩ := q; exact ⟨q0, q1, qP, va_K.moved (u := U) (U := U.calling g mk a) (Vm.Alike.refl U.vm) qK, qD⟩, va_recv hK hP (ci := 2) (q0 := 0) rfl rfl, fun U hU hW => ⟨rfl, by rw [hU], by rw [hU]; exact hPc, va_K.moved hW.alike hKc, hDc.weaken (fun _ _ _ _ => trivial)⟩⟩ rfl rfl hl.1 rfl (lv_room (Nat.le_of_ble_eq_true rfl)) dX2_encryptBlock_117 ⟨Nat.le_of_ble_eq_true rfl, Nat.le_of_ble_eq_true rfl⟩) hS (fun q _ h => hFc q h) hFc (fun u t H1 locs ht hvm hw_117 hB hz1 hk1 hS => ?_)
        obtain ⟨u_117, rfl⟩ : ∃ z, z = u := ⟨_, rfl⟩
        have hw_117 : mk8 u_117 = stn (mk8 u_105) 8 (qb ((en S (hw (mk8 fb) 0 8 + S 0) (hw (mk8 fb) 8 8 + S 1) 12).2)) 8 := hw_117
        obtain ⟨hP1, hK1, hD1⟩ := hB
        rw [ht] at hP1
        have hK1 := va_K.moved hvm.symm hK1
        obtain ⟨hP, hD⟩ := va_join (wr := [(h0, .inr (2, [.int (nI 12), .ref az, .int eb])), (az, .inl (ds, 26, .inr (.inl S))), (ab, .inl (db, 16, .inl fb))]) (w1 := [(ao, .inl (dd, 16, .inl u_117))]) hP hD [3] [0, 1, 2] rfl rfl (by decide) (by decide) hk1 hFc hP1 hD1
        have hK := (hK.sub (tys' := [(ds, .long), (db, .byte)]) [0, 1] rfl).app hK1
        generalize H1 = H at hP hS ⊢
        have hP : va_P (dC, dI) vwCl [(h0, .inr (2, [.int (nI 12), .ref az, .int eb])), (az, .inl (ds, 26, .inr (.inl S))), (ab, .inl (db, 16, .inl fb)), (ao, .inl (dd, 16, .inl u_117))] H := hP
        have hD : va_D A [(h0, .inr (2, [.int (nI 12), .ref az, .int eb])), (az, .inl (ds, 26, .inr (.inl S))), (ab, .inl (db, 16, .inl fb)), (ao, .inl (dd, 16, .inl u_117))] := hD
        have hK : va_K (dC, dI) vwCl [(ds, .long), (db, .byte), (dd, .byte)] s := hK
        refine lv_bipush (v := nI 16) hx hb dX2_encryptBlock_120 (by decide) ?_
        refine W.widen (k := 0) (n := 0) (Nat.le_of_ble_eq_true rfl) (Nat.le_of_ble_eq_true rfl) ?_
        have hP9 := hP.sub (ws' := [(h0, .inr (2, [.int (nI 12), .ref az, .int eb])), (az, .inl (ds, 26, .inr (.inl S))), (ab, .inl (db, 16, .inl fb)), (ao, .inl (dd, 16, .inl u_117))]) [0, 1, 2, 3] rfl
        have hD9 := hD.sub (ws' := [(h0, .inr (2, [.int (nI 12), .ref az, .int eb])), (az, .inl (ds, 26, .inr (.inl S))), (ab, .inl (db, 16, .inl fb)), (ao, .inl (dd, 16, .inl u_117))]) [0, 1, 2, 3] (by decide) rfl
        have hK9 := hK.sub (tys' := [(ds, .long), (db, .byte), (dd, .byte)]) [0, 1, 2] rfl
        have hpost : mk8 u_117 = encO S (mk8 fb) (mk8 fo) := by rw [hw_117, hw_105]; rfl
        exact W.iret hx hb hr (fun t ht hW => ⟨⟨_, u_117, rfl, hpost, by rw [ht]; exact hP9, va_K.moved hW.alike hK9, hD9⟩, hS.F ht⟩) hS.2.2 dX2_encryptBlock_122
      · have hlt : k < 12 := by
          rcases Nat.lt_or_ge k 12 with q | q
          · exact q
          · exact absurd (nI_lt (by omega : 12 < k + 1) (by omega)) c_42
        refine lv_aload_n hx hb dX2_encryptBlock_45 rfl (lv_at hl 0 rfl) ?_
        refine lv_lload hx hb dX2_encryptBlock_46 (lv_at hl 5 rfl) ?_
        refine lv_lload hx hb dX2_encryptBlock_48 (lv_at hl 6 rfl) ?_
        refine lv_lxor hx hb dX2_encryptBlock_50 ?_
        refine lv_lload hx hb dX2_encryptBlock_51 (lv_at hl 6 rfl) ?_
        have hPc := hP.sub (ws' := []) [] rfl
        have hDc := hD.sub (ws' := []) [] (by decide) rfl
        have hKc := hK.sub (tys' := []) [] rfl
        have hFc := va_free (wc := []) hD hS hA [] rfl
        refine va_calll (va_runV (As := [.long (((en S (hw (mk8 fb) 0 8 + S 0) (hw (mk8 fb) 8 8 + S 1) k).1) ^^^ ((en S (hw (mk8 fb) 0 8 + S 0) (hw (mk8 fb) 8 8 + S 1) k).2)), .long ((en S (hw (mk8 fb) 0 8 + S 0) (hw (mk8 fb) 8 8 + S 1) k).2)]) (rest := []) ⟨hx, hb, hml, hown, hts⟩ (metX2_rotateLeft l dC dI h0 (((en S (hw (mk8 fb) 0 8 + S 0) (hw (mk8 fb) 8 8 + S 1) k).1) ^^^ ((en S (hw (mk8 fb) 0 8 + S 0) (hw (mk8 fb) 8 8 + S 1) k).2)) ((en S (hw (mk8 fb) 0 8 + S 0) (hw (mk8 fb) 8 8 + S 1) k).2) H.size) (cwV 2 hts (lw_V q188 q190 qs3 q14 q191) rfl rfl rfl (by decide +kernel) ⟨Nat.le_of_ble_eq_true rfl, Nat.le_of_ble_eq_true rfl⟩) ⟨fun a U g mk q => by obtain ⟨q0, q1, qP, qK, qD⟩ := q; exact ⟨q0, q1, qP, va_K.moved (u := U) (U := U.calling g mk a) (Vm.Alike.refl U.vm) qK, qD⟩, va_recv hK hP (ci := 2) (q0 := 0) rfl rfl, fun U hU hW => ⟨rfl, by rw [hU], by rw [hU]; exact hPc, va_K.moved hW.alike hKc, hDc.weaken (fun _ _ _ _ => trivial)⟩⟩ rfl rfl hl.1 rfl (lv_room (Nat.le_of_ble_eq_true rfl)) dX2_encryptBlock_53 ⟨Nat.le_of_ble_eq_true rfl, Nat.le_of_ble_eq_true rfl⟩) hS (fun q _ h => hFc q h) hFc (fun r_53 u t H1 locs ht hvm hw_53 hB hz1 hk1 hS => ?_)
        obtain ⟨u_53, rfl⟩ : ∃ z, z = u := ⟨_, rfl⟩
        have hw_53 : r_53 = rl (((en S (hw (mk8 fb) 0 8 + S 0) (hw (mk8 fb) 8 8 + S 1) k).1) ^^^ ((en S (hw (mk8 fb) 0 8 + S 0) (hw (mk8 fb) 8 8 + S 1) k).2)) ((en S (hw (mk8 fb) 0 8 + S 0) (hw (mk8 fb) 8 8 + S 1) k).2) := hw_53
        obtain ⟨hP1, hK1, hD1⟩ := hB
        have hw_53 := hw_53.symm
        subst hw_53
        rw [ht] at hP1
        have hK1 := va_K.moved hvm.symm hK1
        obtain ⟨hP, hD⟩ := va_join (wr := [(h0, .inr (2, [.int (nI 12), .ref az, .int eb])), (az, .inl (ds, 26, .inr (.inl S))), (ab, .inl (db, 16, .inl fb)), (ao, .inl (dd, 16, .inl fo))]) (w1 := []) hP hD [] [0, 1, 2, 3] rfl rfl (by decide) (by decide) hk1 hFc hP1 hD1
        have hK := (hK.sub (tys' := [(ds, .long), (db, .byte), (dd, .byte)]) [0, 1, 2] rfl).app hK1
        generalize H1 = H at hP hS ⊢
        have hP : va_P (dC, dI) vwCl [(h0, .inr (2, [.int (nI 12), .ref az, .int eb])), (az, .inl (ds, 26, .inr (.inl S))), (ab, .inl (db, 16, .inl fb)), (ao, .inl (dd, 16, .inl fo))] H := hP
        have hD : va_D A [(h0, .inr (2, [.int (nI 12), .ref az, .int eb])), (az, .inl (ds, 26, .inr (.inl S))), (ab, .inl (db, 16, .inl fb)), (ao, .inl (dd, 16, .inl fo))] := hD
        have hK : va_K (dC, dI) vwCl [(ds, .long), (db, .byte), (dd, .byte)] s := hK
        refine lv_aload_n hx hb dX2_encryptBlock_56 rfl (lv_at hl 0 rfl) ?_
        refine va_get (D := (dC, dI)) (ci := 2) (v := .ref az) (C := RX2) (T := TX2) (N := 3) hx hb hts in_X2 hown hK hP 0 rfl rfl 1 (by decide) (hts _ q69) (fun _ h9 => h9) rfl dX2_encryptBlock_57 ?_
        refine lv_iconst (v := nI 2) hx hb dX2_encryptBlock_60 (by decide) ?_
        refine lv_iload hx hb dX2_encryptBlock_61 (lv_at hl 7 rfl) ?_
        refine lv_imul hx hb dX2_encryptBlock_63 ?_
        refine lv_topi (fun t_63 et_63 => ?_)
        have et_63 : t_63 = nI (2 * (k + 1)) := et_63.trans (pk_mul 2 (k + 1))
        subst et_63
        refine va_lald hx hb hK hP 1 0 rfl rfl (vp_in_nI (n := (2 * (k + 1))) (N := 26) (by omega) (by omega)) dX2_encryptBlock_64 ?_
        refine lv_topl (fun t_64 et_64 => ?_)
        have et_64 : t_64 = S (2 * (k + 1)) := et_64.trans (congrArg S (nI_clamp (n := (2 * (k + 1))) (by omega)))
        subst et_64
        refine lv_ladd hx hb dX2_encryptBlock_65 ?_
        refine lv_topl (fun t_65 et_65 => ?_)
        have et_65 : t_65 = (en S (hw (mk8 fb) 0 8 + S 0) (hw (mk8 fb) 8 8 + S 1) (k + 1)).1 := et_65.trans (rfl)
        subst et_65
        refine lv_lstore (lv' := [(5, .long ((en S (hw (mk8 fb) 0 8 + S 0) (hw (mk8 fb) 8 8 + S 1) (k + 1)).1)), (0, .ref h0), (1, .ref ab), (2, .int (nI 0)), (3, .ref ao), (4, .int (nI 0)), (7, .long ((en S (hw (mk8 fb) 0 8 + S 0) (hw (mk8 fb) 8 8 + S 1) k).2)), (9, .int (nI (k + 1)))]) hx hb dX2_encryptBlock_66 hl (by decide) rfl (fun ls hl => ?_)
        refine lv_aload_n hx hb dX2_encryptBlock_68 rfl (lv_at hl 1 rfl) ?_
        refine lv_lload hx hb dX2_encryptBlock_69 (lv_at hl 6 rfl) ?_
        refine lv_lload hx hb dX2_encryptBlock_71 (lv_at hl 0 rfl) ?_
        refine lv_lxor hx hb dX2_encryptBlock_73 ?_
        refine lv_lload hx hb dX2_encryptBlock_74 (lv_at hl 0 rfl) ?_
        have hPc := hP.sub (ws' := []) [] rfl
        have hDc := hD.sub (ws' := []) [] (by decide) rfl
        have hKc := hK.sub (tys' := []) [] rfl
        have hFc := va_free (wc := []) hD hS hA [] rfl
        refine va_calll (va_runV (As := [.long (((en S (hw (mk8 fb) 0 8 + S 0) (hw (mk8 fb) 8 8 + S 1) k).2) ^^^ ((en S (hw (mk8 fb) 0 8 + S 0) (hw (mk8 fb) 8 8 + S 1) (k + 1)).1)), .long ((en S (hw (mk8 fb) 0 8 + S 0) (hw (mk8 fb) 8 8 + S 1) (k + 1)).1)]) (rest := []) ⟨hx, hb, hml, hown, hts⟩ (metX2_rotateLeft l dC dI h0 (((en S (hw (mk8 fb) 0 8 + S 0) (hw (mk8 fb) 8 8 + S 1) k).2) ^^^ ((en S (hw (mk8 fb) 0 8 + S 0) (hw (mk8 fb) 8 8 + S 1) (k + 1)).1)) ((en S (hw (mk8 fb) 0 8 + S 0) (hw (mk8 fb) 8 8 + S 1) (k + 1)).1) H.size) (cwV 2 hts (lw_V q188 q190 qs3 q14 q191) rfl rfl rfl (by decide +kernel) ⟨Nat.le_of_ble_eq_true rfl, Nat.le_of_ble_eq_true rfl⟩) ⟨fun a U g mk q => by obtain ⟨q0, q1, qP, qK, qD⟩ := q; exact ⟨q0, q1, qP, va_K.moved (u := U) (U := U.calling g mk a) (Vm.Alike.refl U.vm) qK, qD⟩, va_recv hK hP (ci := 2) (q0 := 0) rfl rfl, fun U hU hW => ⟨rfl, by rw [hU], by rw [hU]; exact hPc, va_K.moved hW.alike hKc, hDc.weaken (fun _ _ _ _ => trivial)⟩⟩ rfl rfl hl.1 rfl (lv_room (Nat.le_of_ble_eq_true rfl)) dX2_encryptBlock_76 ⟨Nat.le_of_ble_eq_true rfl, Nat.le_of_ble_eq_true rfl⟩) hS (fun q _ h => hFc q h) hFc (fun r_76 u t H1 locs ht hvm hw_76 hB hz1 hk1 hS => ?_)
        obtain ⟨u_76, rfl⟩ : ∃ z, z = u := ⟨_, rfl⟩
        have hw_76 : r_76 = rl (((en S (hw (mk8 fb) 0 8 + S 0) (hw (mk8 fb) 8 8 + S 1) k).2) ^^^ ((en S (hw (mk8 fb) 0 8 + S 0) (hw (mk8 fb) 8 8 + S 1) (k + 1)).1)) ((en S (hw (mk8 fb) 0 8 + S 0) (hw (mk8 fb) 8 8 + S 1) (k + 1)).1) := hw_76
        obtain ⟨hP1, hK1, hD1⟩ := hB
        have hw_76 := hw_76.symm
        subst hw_76
        rw [ht] at hP1
        have hK1 := va_K.moved hvm.symm hK1
        obtain ⟨hP, hD⟩ := va_join (wr := [(h0, .inr (2, [.int (nI 12), .ref az, .int eb])), (az, .inl (ds, 26, .inr (.inl S))), (ab, .inl (db, 16, .inl fb)), (ao, .inl (dd, 16, .inl fo))]) (w1 := []) hP hD [] [0, 1, 2, 3] rfl rfl (by decide) (by decide) hk1 hFc hP1 hD1
        have hK := (hK.sub (tys' := [(ds, .long), (db, .byte), (dd, .byte)]) [0, 1, 2] rfl).app hK1
        generalize H1 = H at hP hS ⊢
        have hP : va_P (dC, dI) vwCl [(h0, .inr (2, [.int (nI 12), .ref az, .int eb])), (az, .inl (ds, 26, .inr (.inl S))), (ab, .inl (db, 16, .inl fb)), (ao, .inl (dd, 16, .inl fo))] H := hP
        have hD : va_D A [(h0, .inr (2, [.int (nI 12), .ref az, .int eb])), (az, .inl (ds, 26, .inr (.inl S))), (ab, .inl (db, 16, .inl fb)), (ao, .inl (dd, 16, .inl fo))] := hD
        have hK : va_K (dC, dI) vwCl [(ds, .long), (db, .byte), (dd, .byte)] s := hK
        refine lv_aload_n hx hb dX2_encryptBlock_79 rfl (lv_at hl 1 rfl) ?_
        refine va_get (D := (dC, dI)) (ci := 2) (v := .ref az) (C := RX2) (T := TX2) (N := 3) hx hb hts in_X2 hown hK hP 0 rfl rfl 1 (by decide) (hts _ q69) (fun _ h9 => h9) rfl dX2_encryptBlock_80 ?_
        refine lv_iconst (v := nI 2) hx hb dX2_encryptBlock_83 (by decide) ?_
        refine lv_iload hx hb dX2_encryptBlock_84 (lv_at hl 7 rfl) ?_
        refine lv_imul hx hb dX2_encryptBlock_86 ?_
        refine lv_topi (fun t_86 et_86 => ?_)
        have et_86 : t_86 = nI (2 * (k + 1)) := et_86.trans (pk_mul 2 (k + 1))
        subst et_86
        refine lv_iconst (v := nI 1) hx hb dX2_encryptBlock_87 (by decide) ?_
        refine lv_iadd hx hb dX2_encryptBlock_88 ?_
        refine lv_topi (fun t_88 et_88 => ?_)
        have et_88 : t_88 = nI (2 * (k + 1) + 1) := et_88.trans (nI_add (2 * (k + 1)) 1)
        subst et_88
        refine va_lald hx hb hK hP 1 0 rfl rfl (vp_in_nI (n := (2 * (k + 1) + 1)) (N := 26) (by omega) (by omega)) dX2_encryptBlock_89 ?_
        refine lv_topl (fun t_89 et_89 => ?_)
        have et_89 : t_89 = S (2 * (k + 1) + 1) := et_89.trans (congrArg S (nI_clamp (n := (2 * (k + 1) + 1)) (by omega)))
        subst et_89
        refine lv_ladd hx hb dX2_encryptBlock_90 ?_
        refine lv_topl (fun t_90 et_90 => ?_)
        have et_90 : t_90 = (en S (hw (mk8 fb) 0 8 + S 0) (hw (mk8 fb) 8 8 + S 1) (k + 1)).2 := et_90.trans (rfl)
        subst et_90
        refine lv_lstore (lv' := [(7, .long ((en S (hw (mk8 fb) 0 8 + S 0) (hw (mk8 fb) 8 8 + S 1) (k + 1)).2)), (5, .long ((en S (hw (mk8 fb) 0 8 + S 0) (hw (mk8 fb) 8 8 + S 1) (k + 1)).1)), (0, .ref h0), (1, .ref ab), (2, .int (nI 0)), (3, .ref ao), (4, .int (nI 0)), (9, .int (nI (k + 1)))]) hx hb dX2_encryptBlock_91 hl (by decide) rfl (fun ls hl => ?_)
        refine lv_iinc (v := nI (k + 1 + 1)) (lv' := [(9, .int (nI (k + 1 + 1))), (7, .long ((en S (hw (mk8 fb) 0 8 + S 0) (hw (mk8 fb) 8 8 + S 1) (k + 1)).2)), (5, .long ((en S (hw (mk8 fb) 0 8 + S 0) (hw (mk8 fb) 8 8 + S 1) (k + 1)).1)), (0, .ref h0), (1, .ref ab), (2, .int (nI 0)), (3, .ref ao), (4, .int (nI 0))]) hx hb dX2_encryptBlock_93 hl (k := 7) rfl (nI_1 (k + 1)) (by decide) rfl (fun ls hl => ?_)
        refine lv_goto (tgt := 36) hx hb dX2_encryptBlock_96 (by decide) ?_
        refine W.widen (k := 0) (n := 0) (Nat.le_of_ble_eq_true rfl) (Nat.le_of_ble_eq_true rfl) ?_
        exact ih (k + 1) (by omega) (by omega) (hK.sub [0, 1, 2] rfl) _ _ (hP.sub (ws' := [(h0, .inr (2, [.int (nI 12), .ref az, .int eb])), (az, .inl (ds, 26, .inr (.inl S))), (ab, .inl (db, 16, .inl fb)), (ao, .inl (dd, 16, .inl fo))]) [0, 1, 2, 3] rfl) (hD.sub (ws' := [(h0, .inr (2, [.int (nI 12), .ref az, .int eb])), (az, .inl (ds, 26, .inr (.inl S))), (ab, .inl (db, 16, .inl fb)), (ao, .inl (dd, 16, .inl fo))]) [0, 1, 2, 3] (by decide) rfl) hS _ (lv_sub hl [3, 4, 5, 6, 7, 2, 1, 0] rfl)
  refine lv_aload_n hx hb dX2_encryptBlock_0 rfl (lv_at hl 0 rfl) ?_
  refine lv_aload_n hx hb dX2_encryptBlock_1 rfl (lv_at hl 1 rfl) ?_
  refine lv_iload_n hx hb dX2_encryptBlock_2 rfl (lv_at hl 2 rfl) ?_
  have hPc := hP.sub (ws' := [(ab, .inl (db, 16, .inl fb))]) [2] rfl
  have hDc := hD.sub (ws' := [(ab, .inl (db, 16, .inl fb))]) [2] (by decide) rfl
  have hKc := hK.sub (tys' := [(db, .byte)]) [1] rfl
  have hFc := va_free (wc := [(ab, .inl (db, 16, .inl fb))]) hD hS hA [2] rfl
  refine va_calll (va_runV (As := [.ref ab, .int (nI 0)]) (rest := []) ⟨hx, hb, hml, hown, hts⟩ (metX2_bytesToWord l dC dI h0 ab db 16 0 fb s.heap.size (by omega) (by omega)) (cwV 2 hts (lw_V q207 q209 qs5 q14 q210) rfl rfl rfl (by decide +kernel) ⟨Nat.le_of_ble_eq_true rfl, Nat.le_of_ble_eq_true rfl⟩) ⟨fun a U g mk q => by obtain ⟨q0, q1, qP, qK, qD⟩ := q; exact ⟨q0, q1, qP, va_K.moved (u := U) (U := U.calling g mk a) (Vm.Alike.refl U.vm) qK, qD⟩, va_recv hK hP (ci := 2) (q0 := 0) rfl rfl, fun U hU hW => ⟨rfl, by rw [hU], by rw [hU]; exact hPc, va_K.moved hW.alike hKc, hDc.weaken (fun _ _ _ _ => trivial)⟩⟩ rfl rfl hl.1 rfl (lv_room (Nat.le_of_ble_eq_true rfl)) dX2_encryptBlock_3 ⟨Nat.le_of_ble_eq_true rfl, Nat.le_of_ble_eq_true rfl⟩) hS (fun q _ h => hFc q h) hFc (fun r_3 u t H1 locs ht hvm hw_3 hB hz1 hk1 hS => ?_)
  obtain ⟨u_3, rfl⟩ : ∃ z, z = u := ⟨_, rfl⟩
  have hw_3 : r_3 = hw (mk8 fb) 0 8 := hw_3
  obtain ⟨hP1, hK1, hD1⟩ := hB
  have hw_3 := hw_3.symm
  subst hw_3
  rw [ht] at hP1
  have hK1 := va_K.moved hvm.symm hK1
  obtain ⟨hP, hD⟩ := va_join (wr := [(h0, .inr (2, [.int (nI 12), .ref az, .int eb])), (az, .inl (ds, 26, .inr (.inl S))), (ao, .inl (dd, 16, .inl fo))]) (w1 := [(ab, .inl (db, 16, .inl fb))]) hP hD [2] [0, 1, 3] rfl rfl (by decide) (by decide) hk1 hFc hP1 hD1
  have hK := (hK.sub (tys' := [(ds, .long), (dd, .byte)]) [0, 2] rfl).app hK1
  generalize H1 = H at hP hS ⊢
  have hP : va_P (dC, dI) vwCl [(h0, .inr (2, [.int (nI 12), .ref az, .int eb])), (az, .inl (ds, 26, .inr (.inl S))), (ao, .inl (dd, 16, .inl fo)), (ab, .inl (db, 16, .inl fb))] H := hP
  have hD : va_D A [(h0, .inr (2, [.int (nI 12), .ref az, .int eb])), (az, .inl (ds, 26, .inr (.inl S))), (ao, .inl (dd, 16, .inl fo)), (ab, .inl (db, 16, .inl fb))] := hD
  have hK : va_K (dC, dI) vwCl [(ds, .long), (dd, .byte), (db, .byte)] s := hK
  refine lv_aload_n hx hb dX2_encryptBlock_6 rfl (lv_at hl 0 rfl) ?_
  refine va_get (D := (dC, dI)) (ci := 2) (v := .ref az) (C := RX2) (T := TX2) (N := 3) hx hb hts in_X2 hown hK hP 0 rfl rfl 1 (by decide) (hts _ q69) (fun _ h9 => h9) rfl dX2_encryptBlock_7 ?_
  refine lv_iconst (v := nI 0) hx hb dX2_encryptBlock_10 (by decide) ?_
  refine va_lald hx hb hK hP 1 0 rfl rfl (vp_in_nI (n := 0) (N := 26) (by omega) (by omega)) dX2_encryptBlock_11 ?_
  refine lv_topl (fun t_11 et_11 => ?_)
  have et_11 : t_11 = S 0 := et_11.trans (congrArg S (nI_clamp (n := 0) (by omega)))
  subst et_11
  refine lv_ladd hx hb dX2_encryptBlock_12 ?_
  refine lv_lstore (lv' := [(5, .long ((hw (mk8 fb) 0 8) + (S 0))), (0, .ref h0), (1, .ref ab), (2, .int (nI 0)), (3, .ref ao), (4, .int (nI 0))]) hx hb dX2_encryptBlock_13 hl (by decide) rfl (fun ls hl => ?_)
  refine lv_aload_n hx hb dX2_encryptBlock_15 rfl (lv_at hl 1 rfl) ?_
  refine lv_aload_n hx hb dX2_encryptBlock_16 rfl (lv_at hl 2 rfl) ?_
  refine lv_iload_n hx hb dX2_encryptBlock_17 rfl (lv_at hl 3 rfl) ?_
  refine lv_bipush (v := nI 8) hx hb dX2_encryptBlock_18 (by decide) ?_
  refine lv_iadd hx hb dX2_encryptBlock_20 ?_
  refine lv_topi (fun t_20 et_20 => ?_)
  have et_20 : t_20 = nI 8 := et_20.trans (nI_add 0 8)
  subst et_20
  have hPc := hP.sub (ws' := [(ab, .inl (db, 16, .inl fb))]) [3] rfl
  have hDc := hD.sub (ws' := [(ab, .inl (db, 16, .inl fb))]) [3] (by decide) rfl
  have hKc := hK.sub (tys' := [(db, .byte)]) [2] rfl
  have hFc := va_free (wc := [(ab, .inl (db, 16, .inl fb))]) hD hS hA [3] rfl
  refine va_calll (va_runV (As := [.ref ab, .int (nI 8)]) (rest := []) ⟨hx, hb, hml, hown, hts⟩ (metX2_bytesToWord l dC dI h0 ab db 16 8 fb H.size (by omega) (by omega)) (cwV 2 hts (lw_V q207 q209 qs5 q14 q210) rfl rfl rfl (by decide +kernel) ⟨Nat.le_of_ble_eq_true rfl, Nat.le_of_ble_eq_true rfl⟩) ⟨fun a U g mk q => by obtain ⟨q0, q1, qP, qK, qD⟩ := q; exact ⟨q0, q1, qP, va_K.moved (u := U) (U := U.calling g mk a) (Vm.Alike.refl U.vm) qK, qD⟩, va_recv hK hP (ci := 2) (q0 := 0) rfl rfl, fun U hU hW => ⟨rfl, by rw [hU], by rw [hU]; exact hPc, va_K.moved hW.alike hKc, hDc.weaken (fun _ _ _ _ => trivial)⟩⟩ rfl rfl hl.1 rfl (lv_room (Nat.le_of_ble_eq_true rfl)) dX2_encryptBlock_21 ⟨Nat.le_of_ble_eq_true rfl, Nat.le_of_ble_eq_true rfl⟩) hS (fun q _ h => hFc q h) hFc (fun r_21 u t H1 locs ht hvm hw_21 hB hz1 hk1 hS => ?_)
  obtain ⟨u_21, rfl⟩ : ∃ z, z = u := ⟨_, rfl⟩
  have hw_21 : r_21 = hw (mk8 fb) 8 8 := hw_21
  obtain ⟨hP1, hK1, hD1⟩ := hB
  have hw_21 := hw_21.symm
  subst hw_21
  rw [ht] at hP1
  have hK1 := va_K.moved hvm.symm hK1
  obtain ⟨hP, hD⟩ := va_join (wr := [(h0, .inr (2, [.int (nI 12), .ref az, .int eb])), (az, .inl (ds, 26, .inr (.inl S))), (ao, .inl (dd, 16, .inl fo))]) (w1 := [(ab, .inl (db, 16, .inl fb))]) hP hD [3] [0, 1, 2] rfl rfl (by decide) (by decide) hk1 hFc hP1 hD1
  have hK := (hK.sub (tys' := [(ds, .long), (dd, .byte)]) [0, 1] rfl).app hK1
  generalize H1 = H at hP hS ⊢
  have hP : va_P (dC, dI) vwCl [(h0, .inr (2, [.int (nI 12), .ref az, .int eb])), (az, .inl (ds, 26, .inr (.inl S))), (ao, .inl (dd, 16, .inl fo)), (ab, .inl (db, 16, .inl fb))] H := hP
  have hD : va_D A [(h0, .inr (2, [.int (nI 12), .ref az, .int eb])), (az, .inl (ds, 26, .inr (.inl S))), (ao, .inl (dd, 16, .inl fo)), (ab, .inl (db, 16, .inl fb))] := hD
  have hK : va_K (dC, dI) vwCl [(ds, .long), (dd, .byte), (db, .byte)] s := hK
  refine lv_aload_n hx hb dX2_encryptBlock_24 rfl (lv_at hl 1 rfl) ?_
  refine va_get (D := (dC, dI)) (ci := 2) (v := .ref az) (C := RX2) (T := TX2) (N := 3) hx hb hts in_X2 hown hK hP 0 rfl rfl 1 (by decide) (hts _ q69) (fun _ h9 => h9) rfl dX2_encryptBlock_25 ?_
  refine lv_iconst (v := nI 1) hx hb dX2_encryptBlock_28 (by decide) ?_
  refine va_lald hx hb hK hP 1 0 rfl rfl (vp_in_nI (n := 1) (N := 26) (by omega) (by omega)) dX2_encryptBlock_29 ?_
  refine lv_topl (fun t_29 et_29 => ?_)
  have et_29 : t_29 = S 1 := et_29.trans (congrArg S (nI_clamp (n := 1) (by omega)))
  subst et_29
  refine lv_ladd hx hb dX2_encryptBlock_30 ?_
  refine lv_lstore (lv' := [(7, .long ((hw (mk8 fb) 8 8) + (S 1))), (5, .long ((hw (mk8 fb) 0 8) + (S 0))), (0, .ref h0), (1, .ref ab), (2, .int (nI 0)), (3, .ref ao), (4, .int (nI 0))]) hx hb dX2_encryptBlock_31 hl (by decide) rfl (fun ls hl => ?_)
  refine lv_iconst (v := nI 1) hx hb dX2_encryptBlock_33 (by decide) ?_
  refine lv_istore (lv' := [(9, .int (nI 1)), (7, .long ((hw (mk8 fb) 8 8) + (S 1))), (5, .long ((hw (mk8 fb) 0 8) + (S 0))), (0, .ref h0), (1, .ref ab), (2, .int (nI 0)), (3, .ref ao), (4, .int (nI 0))]) hx hb dX2_encryptBlock_34 hl (by decide) rfl (fun ls hl => ?_)
  refine W.widen (k := 0) (n := 0) (Nat.le_of_ble_eq_true rfl) (Nat.le_of_ble_eq_true rfl) ?_
  exact lp _ 0 (Nat.lt_succ_self _) (by omega) (hK.sub [0, 2, 1] rfl) _ _ (hP.sub (ws' := [(h0, .inr (2, [.int (nI 12), .ref az, .int eb])), (az, .inl (ds, 26, .inr (.inl S))), (ab, .inl (db, 16, .inl fb)), (ao, .inl (dd, 16, .inl fo))]) [0, 1, 3, 2] rfl) (hD.sub (ws' := [(h0, .inr (2, [.int (nI 12), .ref az, .int eb])), (az, .inl (ds, 26, .inr (.inl S))), (ab, .inl (db, 16, .inl fb)), (ao, .inl (dd, 16, .inl fo))]) [0, 1, 3, 2] (by decide) rfl) hS _ (lv_sub hl [3, 4, 5, 6, 7, 2, 1, 0] rfl)

abbrev wsX2_decryptBlock : List Cond := ws_ yX2_decryptBlock cX2_decryptBlock 10 (some .int)
abbrev BX2_decryptBlock (dC : Nat → ClassId) (dI : Nat → Nat → Nat) (A : Nat → Prop) (h0 : Nat) (az : Nat) (ab : Nat) (ao : Nat) (ds : ClassId) (db : ClassId) (dd : ClassId) (S : Nat → Int64) (fb : Nat → Int32) (fo : Nat → Int32) (eb : Int32) (u : Nat → Int32) (t : State) : Prop := va_P (dC, dI) vwCl [(h0, .inr (2, [.int (nI 12), .ref az, .int eb])), (az, .inl (ds, 26, .inr (.inl S))), (ab, .inl (db, 16, .inl fb)), (ao, .inl (dd, 16, .inl u))] t.heap ∧ va_K (dC, dI) vwCl [(ds, .long), (db, .byte), (dd, .byte)] t ∧ va_D A [(h0, .inr (2, [.int (nI 12), .ref az, .int eb])), (az, .inl (ds, 26, .inr (.inl S))), (ab, .inl (db, 16, .inl fb)), (ao, .inl (dd, 16, .inl u))]
set_option maxHeartbeats 4000000 in
set_option maxRecDepth 100000 in
/-- decryptBlock(in, 0, out, 0) -/
theorem metX2_decryptBlock (l : Launch) (dC : Nat → ClassId) (dI : Nat → Nat → Nat) (h0 : Nat) (az : Nat) (ab : Nat) (ao : Nat) (ds : ClassId) (db : ClassId) (dd : ClassId) (S : Nat → Int64) (fb : Nat → Int32) (fo : Nat → Int32) (eb : Int32) (sz : Nat) : Met l yX2_decryptBlock wsX2_decryptBlock ({ frames := 1, cells := 0, slots := 0, locals := 25 }) (va_Pc [.ref h0, .ref ab, .int (nI 0), .ref ao, .int (nI 0)] (fun U => U.heap.size = sz ∧ va_P (dC, dI) vwCl [(h0, .inr (2, [.int (nI 12), .ref az, .int eb])), (az, .inl (ds, 26, .inr (.inl S))), (ab, .inl (db, 16, .inl fb)), (ao, .inl (dd, 16, .inl fo))] U.heap ∧ va_K (dC, dI) vwCl [(ds, .long), (db, .byte), (dd, .byte)] U ∧ va_D (fun _ => True) [(h0, .inr (2, [.int (nI 12), .ref az, .int eb])), (az, .inl (ds, 26, .inr (.inl S))), (ab, .inl (db, 16, .inl fb)), (ao, .inl (dd, 16, .inl fo))])) (va_Qi (fun (r : Int32) (u : Nat → Int32) => mk8 u = decO S (mk8 fb) (mk8 fo)) (BX2_decryptBlock dC dI (va_A [(h0, .inr (2, [.int (nI 12), .ref az, .int eb])), (az, .inl (ds, 26, .inr (.inl S))), (ab, .inl (db, 16, .inl fb)), (ao, .inl (dd, 16, .inl fo))] sz) h0 az ab ao ds db dd S fb fo eb) (va_A [(h0, .inr (2, [.int (nI 12), .ref az, .int eb])), (az, .inl (ds, 26, .inr (.inl S))), (ab, .inl (db, 16, .inl fb)), (ao, .inl (dd, 16, .inl fo))] sz)) 0 0 (va_A [(h0, .inr (2, [.int (nI 12), .ref az, .int eb])), (az, .inl (ds, 26, .inr (.inl S))), (ab, .inl (db, 16, .inl fb)), (ao, .inl (dd, 16, .inl fo))] sz) := by
  refine Met.ofW (cc := cX2_decryptBlock) (maxL := 10) (ret := (some .int)) (by decide) rfl ?_
  intro p e s m args below meth c s₁ B hml hv
  obtain ⟨rfl, hsz, hP, hK, hD0⟩ := hv
  have hx := B.exec
  have hb := B.bytes
  have hr := B.returns
  have hts := atoms_spec (ws := wsX2_decryptBlock) B.pre
  have hts : ∀ w ∈ lw_all, w.before _ s = true := fun w h => hts w (List.mem_cons_of_mem _ h)
  have hown : s.vm.findClass RX2 = some m.cls := findClass_of_methodNamed B.named
  have hlocks := B.notSynchronized
  subst hsz
  have hD := hD0.self (sz := s.heap.size)
  generalize hAe : va_A [(h0, .inr (2, [.int (nI 12), .ref az, .int eb])), (az, .inl (ds, 26, .inr (.inl S))), (ab, .inl (db, 16, .inl fb)), (ao, .inl (dd, 16, .inl fo))] s.heap.size = A at hD ⊢
  have hA : ∀ q : Nat, s.heap.size ≤ q → A q := fun q h => by rw [← hAe]; exact Or.inr h
  have hS : va_S A s.heap s.heap [] := va_S.rf
  have hP : va_P (dC, dI) vwCl [(h0, .inr (2, [.int (nI 12), .ref az, .int eb])), (az, .inl (ds, 26, .inr (.inl S))), (ab, .inl (db, 16, .inl fb)), (ao, .inl (dd, 16, .inl fo))] s.heap := hP
  have hl := lv_entry ([.ref h0, .ref ab, .int (nI 0), .ref ao, .int (nI 0)]) (n := 10) (Nat.le_of_ble_eq_true rfl)
  rw [lg_entry_eq]
  generalize (lg_sl ([.ref h0, .ref ab, .int (nI 0), .ref ao, .int (nI 0)]) ++ List.replicate (10 - (lg_sl ([.ref h0, .ref ab, .int (nI 0), .ref ao, .int (nI 0)])).length) Slot.unset).toArray = ls at hl ⊢
  have hl : lv_has ls 10 [(0, .ref h0), (1, .ref ab), (2, .int (nI 0)), (3, .ref ao), (4, .int (nI 0))] := hl
  have lp : ∀ (fu : Nat), ∀ (n : Nat), (13 - n) < fu → n ≤ 12 → va_K (dC, dI) vwCl [(ds, .long), (db, .byte), (dd, .byte)] s → ∀ (H : Heap) (locs : List Loc), va_P (dC, dI) vwCl [(h0, .inr (2, [.int (nI 12), .ref az, .int eb])), (az, .inl (ds, 26, .inr (.inl S))), (ab, .inl (db, 16, .inl fb)), (ao, .inl (dd, 16, .inl fo))] H → va_D A [(h0, .inr (2, [.int (nI 12), .ref az, .int eb])), (az, .inl (ds, 26, .inr (.inl S))), (ab, .inl (db, 16, .inl fb)), (ao, .inl (dd, 16, .inl fo))] → va_S A s.heap H locs → ∀ (ls : Array Slot), lv_has ls 10 [(0, .ref h0), (1, .ref ab), (2, .int (nI 0)), (3, .ref ao), (4, .int (nI 0)), (5, .long ((de S (hw (mk8 fb) 0 8) (hw (mk8 fb) 8 8) n).1)), (7, .long ((de S (hw (mk8 fb) 0 8) (hw (mk8 fb) 8 8) n).2)), (9, .int (nI (12 - n)))] → W p l e (headSpec wsX2_decryptBlock ({ frames := 1, cells := 0, slots := 0, locals := 25 })).room s m ([.ref h0, .ref ab, .int (nI 0), .ref ao, .int (nI 0)] : List Value).toArray below meth c H locs (0) (0) (MQ below (va_Qi (fun (r : Int32) (u : Nat → Int32) => mk8 u = decO S (mk8 fb) (mk8 fo)) (BX2_decryptBlock dC dI A h0 az ab ao ds db dd S fb fo eb) A) ([.ref h0, .ref ab, .int (nI 0), .ref ao, .int (nI 0)] : List Value).toArray s 0 0 A) (F0 m 25 ls []) := by
    intro fu
    induction fu with
    | zero => intro n hme; exact absurd hme (Nat.not_lt_zero _)
    | succ fu ih =>
      intro n hme hn12 hK H locs hP hD hS ls hl
      refine lv_iload hx hb dX2_decryptBlock_25 (lv_at hl 7 rfl) ?_
      refine lv_iconst (v := nI 1) hx hb dX2_decryptBlock_27 (by decide) ?_
      refine lv_icmp_lt (tgt := 85) hx hb dX2_decryptBlock_28 (by decide) (fun c_28 => ?_) (fun c_28 => ?_)
      · have hk2 : n = 12 := by
          rcases Nat.lt_or_ge n 12 with q | q
          · exact absurd c_28 (nI_nlt (by omega : 1 ≤ 12 - n) (by omega))
          · omega
        subst hk2
        refine lv_aload_n hx hb dX2_decryptBlock_85 rfl (lv_at hl 0 rfl) ?_
        refine lv_lload hx hb dX2_decryptBlock_86 (lv_at hl 5 rfl) ?_
        refine lv_aload_n hx hb dX2_decryptBlock_88 rfl (lv_at hl 0 rfl) ?_
        refine va_get (D := (dC, dI)) (ci := 2) (v := .ref az) (C := RX2) (T := TX2) (N := 3) hx hb hts in_X2 hown hK hP 0 rfl rfl 1 (by decide) (hts _ q69) (fun _ h9 => h9) rfl dX2_decryptBlock_89 ?_
        refine lv_iconst (v := nI 0) hx hb dX2_decryptBlock_92 (by decide) ?_
        refine va_lald hx hb hK hP 1 0 rfl rfl (vp_in_nI (n := 0) (N := 26) (by omega) (by omega)) dX2_decryptBlock_93 ?_
        refine lv_topl (fun t_93 et_93 => ?_)
        have et_93 : t_93 = S 0 := et_93.trans (congrArg S (nI_clamp (n := 0) (by omega)))
        subst et_93
        refine lv_lsub hx hb dX2_decryptBlock_94 ?_
        refine lv_aload_n hx hb dX2_decryptBlock_95 rfl (lv_at hl 3 rfl) ?_
        refine lv_iload hx hb dX2_decryptBlock_96 (lv_at hl 4 rfl) ?_
        have hPc := hP.sub (ws' := [(ao, .inl (dd, 16, .inl fo))]) [3] rfl
        have hDc := hD.sub (ws' := [(ao, .inl (dd, 16, .inl fo))]) [3] (by decide) rfl
        have hKc := hK.sub (tys' := [(dd, .byte)]) [2] rfl
        have hFc := va_free (wc := [(ao, .inl (dd, 16, .inl fo))]) hD hS hA [3] rfl
        refine va_callv (va_runV (As := [.long (((de S (hw (mk8 fb) 0 8) (hw (mk8 fb) 8 8) 12).1) - (S 0)), .ref ao, .int (nI 0)]) (rest := []) ⟨hx, hb, hml, hown, hts⟩ (metX2_wordToBytes l dC dI h0 (((de S (hw (mk8 fb) 0 8) (hw (mk8 fb) 8 8) 12).1) - (S 0)) ao dd 16 0 fo H.size (by omega) (by omega)) (cwV 3 hts (lw_V q211 q213 qs6 q14 q214) rfl rfl rfl (by decide +kernel) ⟨Nat.le_of_ble_eq_true rfl, Nat.le_of_ble_eq_true rfl⟩) ⟨fun a U g mk q => by obtain ⟨q0, q1, qP, qK, qD⟩ := q; exact ⟨q0, q1, qP, va_K.moved (u := U) (U := U.calling g mk a) (Vm.Alike.refl U.vm) qK, qD⟩, va_recv hK hP (ci := 2) (q0 := 0) rfl rfl, fun U hU hW => ⟨rfl, by rw [hU], by rw [hU]; exact hPc, va_K.moved hW.alike hKc, hDc.weaken (fun _ _ _ _ => trivial)⟩⟩ rfl rfl hl.1 rfl (lv_room (Nat.le_of_ble_eq_true rfl)) dX2_decryptBlock_98 ⟨Nat.le_of_ble_eq_true rfl, Nat.le_of_ble_eq_true rfl⟩) hS (fun q _ h => hFc q h) hFc (fun u t H1 locs ht hvm hw_98 hB hz1 hk1 hS => ?_)
        obtain ⟨u_98, rfl⟩ : ∃ z, z = u := ⟨_, rfl⟩
        have hw_98 : mk8 u_98 = stn (mk8 fo) 0 (qb (((de S (hw (mk8 fb) 0 8) (hw (mk8 fb) 8 8) 12).1) - (S 0))) 8 := hw_98
        obtain ⟨hP1, hK1, hD1⟩ := hB
        rw [ht] at hP1
        have hK1 := va_K.moved hvm.symm hK1
        obtain ⟨hP, hD⟩ := va_join (wr := [(h0, .inr (2, [.int (nI 12), .ref az, .int eb])), (az, .inl (ds, 26, .inr (.inl S))), (ab, .inl (db, 16, .inl fb))]) (w1 := [(ao, .inl (dd, 16, .inl u_98))]) hP hD [3] [0, 1, 2] rfl rfl (by decide) (by decide) hk1 hFc hP1 hD1
        have hK := (hK.sub (tys' := [(ds, .long), (db, .byte)]) [0, 1] rfl).app hK1
        generalize H1 = H at hP hS ⊢
        have hP : va_P (dC, dI) vwCl [(h0, .inr (2, [.int (nI 12), .ref az, .int eb])), (az, .inl (ds, 26, .inr (.inl S))), (ab, .inl (db, 16, .inl fb)), (ao, .inl (dd, 16, .inl u_98))] H := hP
        have hD : va_D A [(h0, .inr (2, [.int (nI 12), .ref az, .int eb])), (az, .inl (ds, 26, .inr (.inl S))), (ab, .inl (db, 16, .inl fb)), (ao, .inl (dd, 16, .inl u_98))] := hD
        have hK : va_K (dC, dI) vwCl [(ds, .long), (db, .byte), (dd, .byte)] s := hK
        refine lv_aload_n hx hb dX2_decryptBlock_101 rfl (lv_at hl 0 rfl) ?_
        refine lv_lload hx hb dX2_decryptBlock_102 (lv_at hl 6 rfl) ?_
        refine lv_aload_n hx hb dX2_decryptBlock_104 rfl (lv_at hl 0 rfl) ?_
        refine va_get (D := (dC, dI)) (ci := 2) (v := .ref az) (C := RX2) (T := TX2) (N := 3) hx hb hts in_X2 hown hK hP 0 rfl rfl 1 (by decide) (hts _ q69) (fun _ h9 => h9) rfl dX2_decryptBlock_105 ?_
        refine lv_iconst (v := nI 1) hx hb dX2_decryptBlock_108 (by decide) ?_
        refine va_lald hx hb hK hP 1 0 rfl rfl (vp_in_nI (n := 1) (N := 26) (by omega) (by omega)) dX2_decryptBlock_109 ?_
        refine lv_topl (fun t_109 et_109 => ?_)
        have et_109 : t_109 = S 1 := et_109.trans (congrArg S (nI_clamp (n := 1) (by omega)))
        subst et_109
        refine lv_lsub hx hb dX2_decryptBlock_110 ?_
        refine lv_aload_n hx hb dX2_decryptBlock_111 rfl (lv_at hl 3 rfl) ?_
        refine lv_iload hx hb dX2_decryptBlock_112 (lv_at hl 4 rfl) ?_
        refine lv_bipush (v := nI 8) hx hb dX2_decryptBlock_114 (by decide) ?_
        refine lv_iadd hx hb dX2_decryptBlock_116 ?_
        refine lv_topi (fun t_116 et_116 => ?_)
        have et_116 : t_116 = nI 8 := et_116.trans (nI_add 0 8)
        subst et_116
        have hPc := hP.sub (ws' := [(ao, .inl (dd, 16, .inl u_98))]) [3] rfl
        have hDc := hD.sub (ws' := [(ao, .inl (dd, 16, .inl u_98))]) [3] (by decide) rfl
        have hKc := hK.sub (tys' := [(dd, .byte)]) [2] rfl
        have hFc := va_free (wc := [(ao, .inl (dd, 16, .inl u_98))]) hD hS hA [3] rfl
        refine va_callv (va_runV (As := [.long (((de S (hw (mk8 fb) 0 8) (hw (mk8 fb) 8 8) 12).2) - (S 1)), .ref ao, .int (nI 8)]) (rest := []) ⟨hx, hb, hml, hown, hts⟩ (metX2_wordToBytes l dC dI h0 (((de S (hw (mk8 fb) 0 8) (hw (mk8 fb) 8 8) 12).2) - (S 1)) ao dd 16 8 u_98 H.size (by omega) (by omega)) (cwV 3 hts (lw_V q211 q213 qs6 q14 q214) rfl rfl rfl (by decide +kernel) ⟨Nat.le_of_ble_eq_true rfl, Nat.le_of_ble_eq_true rfl⟩) ⟨fun a U g mk q => by obtain ⟨q0, q1, qP, qK, qD⟩ := q; exact ⟨q0, q1, qP, va_K.moved (u := U) (U := U.calling g mk a) (Vm.Alike.refl U.vm) qK, qD⟩, va_recv hK hP (ci := 2) (q0 := 0) rfl rfl, fun U hU hW => ⟨rfl, by rw [hU], by rw [hU]; exact hPc, va_K.moved hW.alike hKc, hDc.weaken (fun _ _ _ _ => trivial)⟩⟩ rfl rfl hl.1 rfl (lv_room (Nat.le_of_ble_eq_true rfl)) dX2_decryptBlock_117 ⟨Nat.le_of_ble_eq_true rfl, Nat.le_of_ble_eq_true rfl⟩) hS (fun q _ h => hFc q h) hFc (fun u t H1 locs ht hvm hw_117 hB hz1 hk1 hS => ?_)
        obtain ⟨u_117, rfl⟩ : ∃ z, z = u := ⟨_, rfl⟩
        have hw_117 : mk8 u_117 = stn (mk8 u_98) 8 (qb (((de S (hw (mk8 fb) 0 8) (hw (mk8 fb) 8 8) 12).2) - (S 1))) 8 := hw_117
        obtain ⟨hP1, hK1, hD1⟩ := hB
        rw [ht] at hP1
        have hK1 := va_K.moved hvm.symm hK1
        obtain ⟨hP, hD⟩ := va_join (wr := [(h0, .inr (2, [.int (nI 12), .ref az, .int eb])), (az, .inl (ds, 26, .inr (.inl S))), (ab, .inl (db, 16, .inl fb))]) (w1 := [(ao, .inl (dd, 16, .inl u_117))]) hP hD [3] [0, 1, 2] rfl rfl (by decide) (by decide) hk1 hFc hP1 hD1
        have hK := (hK.sub (tys' := [(ds, .long), (db, .byte)]) [0, 1] rfl).app hK1
        generalize H1 = H at hP hS ⊢
        have hP : va_P (dC, dI) vwCl [(h0, .inr (2, [.int (nI 12), .ref az, .int eb])), (az, .inl (ds, 26, .inr (.inl S))), (ab, .inl (db, 16, .inl fb)), (ao, .inl (dd, 16, .inl u_117))] H := hP
        have hD : va_D A [(h0, .inr (2, [.int (nI 12), .ref az, .int eb])), (az, .inl (ds, 26, .inr (.inl S))), (ab, .inl (db, 16, .inl fb)), (ao, .inl (dd, 16, .inl u_117))] := hD
        have hK : va_K (dC, dI) vwCl [(ds, .long), (db, .byte), (dd, .byte)] s := hK
        refine lv_bipush (v := nI 16) hx hb dX2_decryptBlock_120 (by decide) ?_
        refine W.widen (k := 0) (n := 0) (Nat.le_of_ble_eq_true rfl) (Nat.le_of_ble_eq_true rfl) ?_
        have hP9 := hP.sub (ws' := [(h0, .inr (2, [.int (nI 12), .ref az, .int eb])), (az, .inl (ds, 26, .inr (.inl S))), (ab, .inl (db, 16, .inl fb)), (ao, .inl (dd, 16, .inl u_117))]) [0, 1, 2, 3] rfl
        have hD9 := hD.sub (ws' := [(h0, .inr (2, [.int (nI 12), .ref az, .int eb])), (az, .inl (ds, 26, .inr (.inl S))), (ab, .inl (db, 16, .inl fb)), (ao, .inl (dd, 16, .inl u_117))]) [0, 1, 2, 3] (by decide) rfl
        have hK9 := hK.sub (tys' := [(ds, .long), (db, .byte), (dd, .byte)]) [0, 1, 2] rfl
        have hpost : mk8 u_117 = decO S (mk8 fb) (mk8 fo) := by rw [hw_117, hw_98]; rfl
        exact W.iret hx hb hr (fun t ht hW => ⟨⟨_, u_117, rfl, hpost, by rw [ht]; exact hP9, va_K.moved hW.alike hK9, hD9⟩, hS.F ht⟩) hS.2.2 dX2_decryptBlock_122
      · have hlt : n < 12 := by
          rcases Nat.lt_or_ge n 12 with q | q
          · exact q
          · exact absurd (nI_lt (by omega : 12 - n < 1) (by omega)) c_28
        refine lv_aload_n hx hb dX2_decryptBlock_31 rfl (lv_at hl 0 rfl) ?_
        refine lv_lload hx hb dX2_decryptBlock_32 (lv_at hl 6 rfl) ?_
        refine lv_aload_n hx hb dX2_decryptBlock_34 rfl (lv_at hl 0 rfl) ?_
        refine va_get (D := (dC, dI)) (ci := 2) (v := .ref az) (C := RX2) (T := TX2) (N := 3) hx hb hts in_X2 hown hK hP 0 rfl rfl 1 (by decide) (hts _ q69) (fun _ h9 => h9) rfl dX2_decryptBlock_35 ?_
        refine lv_iconst (v := nI 2) hx hb dX2_decryptBlock_38 (by decide) ?_
        refine lv_iload hx hb dX2_decryptBlock_39 (lv_at hl 7 rfl) ?_
        refine lv_imul hx hb dX2_decryptBlock_41 ?_
        refine lv_topi (fun t_41 et_41 => ?_)
        have et_41 : t_41 = nI (2 * (12 - n)) := et_41.trans (pk_mul 2 (12 - n))
        subst et_41
        refine lv_iconst (v := nI 1) hx hb dX2_decryptBlock_42 (by decide) ?_
        refine lv_iadd hx hb dX2_decryptBlock_43 ?_
        refine lv_topi (fun t_43 et_43 => ?_)
        have et_43 : t_43 = nI (2 * (12 - n) + 1) := et_43.trans (nI_add (2 * (12 - n)) 1)
        subst et_43
        refine va_lald hx hb hK hP 1 0 rfl rfl (vp_in_nI (n := (2 * (12 - n) + 1)) (N := 26) (by omega) (by omega)) dX2_decryptBlock_44 ?_
        refine lv_topl (fun t_44 et_44 => ?_)
        have et_44 : t_44 = S (2 * (12 - n) + 1) := et_44.trans (congrArg S (nI_clamp (n := (2 * (12 - n) + 1)) (by omega)))
        subst et_44
        refine lv_lsub hx hb dX2_decryptBlock_45 ?_
        refine lv_lload hx hb dX2_decryptBlock_46 (lv_at hl 5 rfl) ?_
        have hPc := hP.sub (ws' := []) [] rfl
        have hDc := hD.sub (ws' := []) [] (by decide) rfl
        have hKc := hK.sub (tys' := []) [] rfl
        have hFc := va_free (wc := []) hD hS hA [] rfl
        refine va_calll (va_runV (As := [.long (((de S (hw (mk8 fb) 0 8) (hw (mk8 fb) 8 8) n).2) - (S (2 * (12 - n) + 1))), .long ((de S (hw (mk8 fb) 0 8) (hw (mk8 fb) 8 8) n).1)]) (rest := []) ⟨hx, hb, hml, hown, hts⟩ (metX2_rotateRight l dC dI h0 (((de S (hw (mk8 fb) 0 8) (hw (mk8 fb) 8 8) n).2) - (S (2 * (12 - n) + 1))) ((de S (hw (mk8 fb) 0 8) (hw (mk8 fb) 8 8) n).1) H.size) (cwV 2 hts (lw_V q219 q221 qs8 q14 q222) rfl rfl rfl (by decide +kernel) ⟨Nat.le_of_ble_eq_true rfl, Nat.le_of_ble_eq_true rfl⟩) ⟨fun a U g mk q => by obtain ⟨q0, q1, qP, qK, qD⟩ := q; exact ⟨q0, q1, qP, va_K.moved (u := U) (U := U.calling g mk a) (Vm.Alike.refl U.vm) qK, qD⟩, va_recv hK hP (ci := 2) (q0 := 0) rfl rfl, fun U hU hW => ⟨rfl, by rw [hU], by rw [hU]; exact hPc, va_K.moved hW.alike hKc, hDc.weaken (fun _ _ _ _ => trivial)⟩⟩ rfl rfl hl.1 rfl (lv_room (Nat.le_of_ble_eq_true rfl)) dX2_decryptBlock_48 ⟨Nat.le_of_ble_eq_true rfl, Nat.le_of_ble_eq_true rfl⟩) hS (fun q _ h => hFc q h) hFc (fun r_48 u t H1 locs ht hvm hw_48 hB hz1 hk1 hS => ?_)
        obtain ⟨u_48, rfl⟩ : ∃ z, z = u := ⟨_, rfl⟩
        have hw_48 : r_48 = rr (((de S (hw (mk8 fb) 0 8) (hw (mk8 fb) 8 8) n).2) - (S (2 * (12 - n) + 1))) ((de S (hw (mk8 fb) 0 8) (hw (mk8 fb) 8 8) n).1) := hw_48
        obtain ⟨hP1, hK1, hD1⟩ := hB
        have hw_48 := hw_48.symm
        subst hw_48
        rw [ht] at hP1
        have hK1 := va_K.moved hvm.symm hK1
        obtain ⟨hP, hD⟩ := va_join (wr := [(h0, .inr (2, [.int (nI 12), .ref az, .int eb])), (az, .inl (ds, 26, .inr (.inl S))), (ab, .inl (db, 16, .inl fb)), (ao, .inl (dd, 16, .inl fo))]) (w1 := []) hP hD [] [0, 1, 2, 3] rfl rfl (by decide) (by decide) hk1 hFc hP1 hD1
        have hK := (hK.sub (tys' := [(ds, .long), (db, .byte), (dd, .byte)]) [0, 1, 2] rfl).app hK1
        generalize H1 = H at hP hS ⊢
        have hP : va_P (dC, dI) vwCl [(h0, .inr (2, [.int (nI 12), .ref az, .int eb])), (az, .inl (ds, 26, .inr (.inl S))), (ab, .inl (db, 16, .inl fb)), (ao, .inl (dd, 16, .inl fo))] H := hP
        have hD : va_D A [(h0, .inr (2, [.int (nI 12), .ref az, .int eb])), (az, .inl (ds, 26, .inr (.inl S))), (ab, .inl (db, 16, .inl fb)), (ao, .inl (dd, 16, .inl fo))] := hD
        have hK : va_K (dC, dI) vwCl [(ds, .long), (db, .byte), (dd, .byte)] s := hK
        refine lv_lload hx hb dX2_decryptBlock_51 (lv_at hl 5 rfl) ?_
        refine lv_lxor hx hb dX2_decryptBlock_53 ?_
        refine lv_topl (fun t_53 et_53 => ?_)
        have et_53 : t_53 = (de S (hw (mk8 fb) 0 8) (hw (mk8 fb) 8 8) (n + 1)).2 := et_53.trans (rfl)
        subst et_53
        refine lv_lstore (lv' := [(7, .long ((de S (hw (mk8 fb) 0 8) (hw (mk8 fb) 8 8) (n + 1)).2)), (0, .ref h0), (1, .ref ab), (2, .int (nI 0)), (3, .ref ao), (4, .int (nI 0)), (5, .long ((de S (hw (mk8 fb) 0 8) (hw (mk8 fb) 8 8) n).1)), (9, .int (nI (12 - n)))]) hx hb dX2_decryptBlock_54 hl (by decide) rfl (fun ls hl => ?_)
        refine lv_aload_n hx hb dX2_decryptBlock_56 rfl (lv_at hl 1 rfl) ?_
        refine lv_lload hx hb dX2_decryptBlock_57 (lv_at hl 6 rfl) ?_
        refine lv_aload_n hx hb dX2_decryptBlock_59 rfl (lv_at hl 1 rfl) ?_
        refine va_get (D := (dC, dI)) (ci := 2) (v := .ref az) (C := RX2) (T := TX2) (N := 3) hx hb hts in_X2 hown hK hP 0 rfl rfl 1 (by decide) (hts _ q69) (fun _ h9 => h9) rfl dX2_decryptBlock_60 ?_
        refine lv_iconst (v := nI 2) hx hb dX2_decryptBlock_63 (by decide) ?_
        refine lv_iload hx hb dX2_decryptBlock_64 (lv_at hl 7 rfl) ?_
        refine lv_imul hx hb dX2_decryptBlock_66 ?_
        refine lv_topi (fun t_66 et_66 => ?_)
        have et_66 : t_66 = nI (2 * (12 - n)) := et_66.trans (pk_mul 2 (12 - n))
        subst et_66
        refine va_lald hx hb hK hP 1 0 rfl rfl (vp_in_nI (n := (2 * (12 - n))) (N := 26) (by omega) (by omega)) dX2_decryptBlock_67 ?_
        refine lv_topl (fun t_67 et_67 => ?_)
        have et_67 : t_67 = S (2 * (12 - n)) := et_67.trans (congrArg S (nI_clamp (n := (2 * (12 - n))) (by omega)))
        subst et_67
        refine lv_lsub hx hb dX2_decryptBlock_68 ?_
        refine lv_lload hx hb dX2_decryptBlock_69 (lv_at hl 0 rfl) ?_
        have hPc := hP.sub (ws' := []) [] rfl
        have hDc := hD.sub (ws' := []) [] (by decide) rfl
        have hKc := hK.sub (tys' := []) [] rfl
        have hFc := va_free (wc := []) hD hS hA [] rfl
        refine va_calll (va_runV (As := [.long (((de S (hw (mk8 fb) 0 8) (hw (mk8 fb) 8 8) n).1) - (S (2 * (12 - n)))), .long ((de S (hw (mk8 fb) 0 8) (hw (mk8 fb) 8 8) (n + 1)).2)]) (rest := []) ⟨hx, hb, hml, hown, hts⟩ (metX2_rotateRight l dC dI h0 (((de S (hw (mk8 fb) 0 8) (hw (mk8 fb) 8 8) n).1) - (S (2 * (12 - n)))) ((de S (hw (mk8 fb) 0 8) (hw (mk8 fb) 8 8) (n + 1)).2) H.size) (cwV 2 hts (lw_V q219 q221 qs8 q14 q222) rfl rfl rfl (by decide +kernel) ⟨Nat.le_of_ble_eq_true rfl, Nat.le_of_ble_eq_true rfl⟩) ⟨fun a U g mk q => by obtain ⟨q0, q1, qP, qK, qD⟩ := q; exact ⟨q0, q1, qP, va_K.moved (u := U) (U := U.calling g mk a) (Vm.Alike.refl U.vm) qK, qD⟩, va_recv hK hP (ci := 2) (q0 := 0) rfl rfl, fun U hU hW => ⟨rfl, by rw [hU], by rw [hU]; exact hPc, va_K.moved hW.alike hKc, hDc.weaken (fun _ _ _ _ => trivial)⟩⟩ rfl rfl hl.1 rfl (lv_room (Nat.le_of_ble_eq_true rfl)) dX2_decryptBlock_71 ⟨Nat.le_of_ble_eq_true rfl, Nat.le_of_ble_eq_true rfl⟩) hS (fun q _ h => hFc q h) hFc (fun r_71 u t H1 locs ht hvm hw_71 hB hz1 hk1 hS => ?_)
        obtain ⟨u_71, rfl⟩ : ∃ z, z = u := ⟨_, rfl⟩
        have hw_71 : r_71 = rr (((de S (hw (mk8 fb) 0 8) (hw (mk8 fb) 8 8) n).1) - (S (2 * (12 - n)))) ((de S (hw (mk8 fb) 0 8) (hw (mk8 fb) 8 8) (n + 1)).2) := hw_71
        obtain ⟨hP1, hK1, hD1⟩ := hB
        have hw_71 := hw_71.symm
        subst hw_71
        rw [ht] at hP1
        have hK1 := va_K.moved hvm.symm hK1
        obtain ⟨hP, hD⟩ := va_join (wr := [(h0, .inr (2, [.int (nI 12), .ref az, .int eb])), (az, .inl (ds, 26, .inr (.inl S))), (ab, .inl (db, 16, .inl fb)), (ao, .inl (dd, 16, .inl fo))]) (w1 := []) hP hD [] [0, 1, 2, 3] rfl rfl (by decide) (by decide) hk1 hFc hP1 hD1
        have hK := (hK.sub (tys' := [(ds, .long), (db, .byte), (dd, .byte)]) [0, 1, 2] rfl).app hK1
        generalize H1 = H at hP hS ⊢
        have hP : va_P (dC, dI) vwCl [(h0, .inr (2, [.int (nI 12), .ref az, .int eb])), (az, .inl (ds, 26, .inr (.inl S))), (ab, .inl (db, 16, .inl fb)), (ao, .inl (dd, 16, .inl fo))] H := hP
        have hD : va_D A [(h0, .inr (2, [.int (nI 12), .ref az, .int eb])), (az, .inl (ds, 26, .inr (.inl S))), (ab, .inl (db, 16, .inl fb)), (ao, .inl (dd, 16, .inl fo))] := hD
        have hK : va_K (dC, dI) vwCl [(ds, .long), (db, .byte), (dd, .byte)] s := hK
        refine lv_lload hx hb dX2_decryptBlock_74 (lv_at hl 0 rfl) ?_
        refine lv_lxor hx hb dX2_decryptBlock_76 ?_
        refine lv_topl (fun t_76 et_76 => ?_)
        have et_76 : t_76 = (de S (hw (mk8 fb) 0 8) (hw (mk8 fb) 8 8) (n + 1)).1 := et_76.trans (rfl)
        subst et_76
        refine lv_lstore (lv' := [(5, .long ((de S (hw (mk8 fb) 0 8) (hw (mk8 fb) 8 8) (n + 1)).1)), (7, .long ((de S (hw (mk8 fb) 0 8) (hw (mk8 fb) 8 8) (n + 1)).2)), (0, .ref h0), (1, .ref ab), (2, .int (nI 0)), (3, .ref ao), (4, .int (nI 0)), (9, .int (nI (12 - n)))]) hx hb dX2_decryptBlock_77 hl (by decide) rfl (fun ls hl => ?_)
        refine lv_iinc (v := nI (12 - (n + 1))) (lv' := [(9, .int (nI (12 - (n + 1)))), (5, .long ((de S (hw (mk8 fb) 0 8) (hw (mk8 fb) 8 8) (n + 1)).1)), (7, .long ((de S (hw (mk8 fb) 0 8) (hw (mk8 fb) 8 8) (n + 1)).2)), (0, .ref h0), (1, .ref ab), (2, .int (nI 0)), (3, .ref ao), (4, .int (nI 0))]) hx hb dX2_decryptBlock_79 hl (k := 7) rfl (cd_12 n hlt) (by decide) rfl (fun ls hl => ?_)
        refine lv_goto (tgt := 25) hx hb dX2_decryptBlock_82 (by decide) ?_
        refine W.widen (k := 0) (n := 0) (Nat.le_of_ble_eq_true rfl) (Nat.le_of_ble_eq_true rfl) ?_
        exact ih (n + 1) (by omega) (by omega) (hK.sub [0, 1, 2] rfl) _ _ (hP.sub (ws' := [(h0, .inr (2, [.int (nI 12), .ref az, .int eb])), (az, .inl (ds, 26, .inr (.inl S))), (ab, .inl (db, 16, .inl fb)), (ao, .inl (dd, 16, .inl fo))]) [0, 1, 2, 3] rfl) (hD.sub (ws' := [(h0, .inr (2, [.int (nI 12), .ref az, .int eb])), (az, .inl (ds, 26, .inr (.inl S))), (ab, .inl (db, 16, .inl fb)), (ao, .inl (dd, 16, .inl fo))]) [0, 1, 2, 3] (by decide) rfl) hS _ (lv_sub hl [3, 4, 5, 6, 7, 1, 2, 0] rfl)
  refine lv_aload_n hx hb dX2_decryptBlock_0 rfl (lv_at hl 0 rfl) ?_
  refine lv_aload_n hx hb dX2_decryptBlock_1 rfl (lv_at hl 1 rfl) ?_
  refine lv_iload_n hx hb dX2_decryptBlock_2 rfl (lv_at hl 2 rfl) ?_
  have hPc := hP.sub (ws' := [(ab, .inl (db, 16, .inl fb))]) [2] rfl
  have hDc := hD.sub (ws' := [(ab, .inl (db, 16, .inl fb))]) [2] (by decide) rfl
  have hKc := hK.sub (tys' := [(db, .byte)]) [1] rfl
  have hFc := va_free (wc := [(ab, .inl (db, 16, .inl fb))]) hD hS hA [2] rfl
  refine va_calll (va_runV (As := [.ref ab, .int (nI 0)]) (rest := []) ⟨hx, hb, hml, hown, hts⟩ (metX2_bytesToWord l dC dI h0 ab db 16 0 fb s.heap.size (by omega) (by omega)) (cwV 2 hts (lw_V q207 q209 qs5 q14 q210) rfl rfl rfl (by decide +kernel) ⟨Nat.le_of_ble_eq_true rfl, Nat.le_of_ble_eq_true rfl⟩) ⟨fun a U g mk q => by obtain ⟨q0, q1, qP, qK, qD⟩ := q; exact ⟨q0, q1, qP, va_K.moved (u := U) (U := U.calling g mk a) (Vm.Alike.refl U.vm) qK, qD⟩, va_recv hK hP (ci := 2) (q0 := 0) rfl rfl, fun U hU hW => ⟨rfl, by rw [hU], by rw [hU]; exact hPc, va_K.moved hW.alike hKc, hDc.weaken (fun _ _ _ _ => trivial)⟩⟩ rfl rfl hl.1 rfl (lv_room (Nat.le_of_ble_eq_true rfl)) dX2_decryptBlock_3 ⟨Nat.le_of_ble_eq_true rfl, Nat.le_of_ble_eq_true rfl⟩) hS (fun q _ h => hFc q h) hFc (fun r_3 u t H1 locs ht hvm hw_3 hB hz1 hk1 hS => ?_)
  obtain ⟨u_3, rfl⟩ : ∃ z, z = u := ⟨_, rfl⟩
  have hw_3 : r_3 = hw (mk8 fb) 0 8 := hw_3
  obtain ⟨hP1, hK1, hD1⟩ := hB
  have hw_3 := hw_3.symm
  subst hw_3
  rw [ht] at hP1
  have hK1 := va_K.moved hvm.symm hK1
  obtain ⟨hP, hD⟩ := va_join (wr := [(h0, .inr (2, [.int (nI 12), .ref az, .int eb])), (az, .inl (ds, 26, .inr (.inl S))), (ao, .inl (dd, 16, .inl fo))]) (w1 := [(ab, .inl (db, 16, .inl fb))]) hP hD [2] [0, 1, 3] rfl rfl (by decide) (by decide) hk1 hFc hP1 hD1
  have hK := (hK.sub (tys' := [(ds, .long), (dd, .byte)]) [0, 2] rfl).app hK1
  generalize H1 = H at hP hS ⊢
  have hP : va_P (dC, dI) vwCl [(h0, .inr (2, [.int (nI 12), .ref az, .int eb])), (az, .inl (ds, 26, .inr (.inl S))), (ao, .inl (dd, 16, .inl fo)), (ab, .inl (db, 16, .inl fb))] H := hP
  have hD : va_D A [(h0, .inr (2, [.int (nI 12), .ref az, .int eb])), (az, .inl (ds, 26, .inr (.inl S))), (ao, .inl (dd, 16, .inl fo)), (ab, .inl (db, 16, .inl fb))] := hD
  have hK : va_K (dC, dI) vwCl [(ds, .long), (dd, .byte), (db, .byte)] s := hK
  refine lv_lstore (lv' := [(5, .long (hw (mk8 fb) 0 8)), (0, .ref h0), (1, .ref ab), (2, .int (nI 0)), (3, .ref ao), (4, .int (nI 0))]) hx hb dX2_decryptBlock_6 hl (by decide) rfl (fun ls hl => ?_)
  refine lv_aload_n hx hb dX2_decryptBlock_8 rfl (lv_at hl 1 rfl) ?_
  refine lv_aload_n hx hb dX2_decryptBlock_9 rfl (lv_at hl 2 rfl) ?_
  refine lv_iload_n hx hb dX2_decryptBlock_10 rfl (lv_at hl 3 rfl) ?_
  refine lv_bipush (v := nI 8) hx hb dX2_decryptBlock_11 (by decide) ?_
  refine lv_iadd hx hb dX2_decryptBlock_13 ?_
  refine lv_topi (fun t_13 et_13 => ?_)
  have et_13 : t_13 = nI 8 := et_13.trans (nI_add 0 8)
  subst et_13
  have hPc := hP.sub (ws' := [(ab, .inl (db, 16, .inl fb))]) [3] rfl
  have hDc := hD.sub (ws' := [(ab, .inl (db, 16, .inl fb))]) [3] (by decide) rfl
  have hKc := hK.sub (tys' := [(db, .byte)]) [2] rfl
  have hFc := va_free (wc := [(ab, .inl (db, 16, .inl fb))]) hD hS hA [3] rfl
  refine va_calll (va_runV (As := [.ref ab, .int (nI 8)]) (rest := []) ⟨hx, hb, hml, hown, hts⟩ (metX2_bytesToWord l dC dI h0 ab db 16 8 fb H.size (by omega) (by omega)) (cwV 2 hts (lw_V q207 q209 qs5 q14 q210) rfl rfl rfl (by decide +kernel) ⟨Nat.le_of_ble_eq_true rfl, Nat.le_of_ble_eq_true rfl⟩) ⟨fun a U g mk q => by obtain ⟨q0, q1, qP, qK, qD⟩ := q; exact ⟨q0, q1, qP, va_K.moved (u := U) (U := U.calling g mk a) (Vm.Alike.refl U.vm) qK, qD⟩, va_recv hK hP (ci := 2) (q0 := 0) rfl rfl, fun U hU hW => ⟨rfl, by rw [hU], by rw [hU]; exact hPc, va_K.moved hW.alike hKc, hDc.weaken (fun _ _ _ _ => trivial)⟩⟩ rfl rfl hl.1 rfl (lv_room (Nat.le_of_ble_eq_true rfl)) dX2_decryptBlock_14 ⟨Nat.le_of_ble_eq_true rfl, Nat.le_of_ble_eq_true rfl⟩) hS (fun q _ h => hFc q h) hFc (fun r_14 u t H1 locs ht hvm hw_14 hB hz1 hk1 hS => ?_)
  obtain ⟨u_14, rfl⟩ : ∃ z, z = u := ⟨_, rfl⟩
  have hw_14 : r_14 = hw (mk8 fb) 8 8 := hw_14
  obtain ⟨hP1, hK1, hD1⟩ := hB
  have hw_14 := hw_14.symm
  subst hw_14
  rw [ht] at hP1
  have hK1 := va_K.moved hvm.symm hK1
  obtain ⟨hP, hD⟩ := va_join (wr := [(h0, .inr (2, [.int (nI 12), .ref az, .int eb])), (az, .inl (ds, 26, .inr (.inl S))), (ao, .inl (dd, 16, .inl fo))]) (w1 := [(ab, .inl (db, 16, .inl fb))]) hP hD [3] [0, 1, 2] rfl rfl (by decide) (by decide) hk1 hFc hP1 hD1
  have hK := (hK.sub (tys' := [(ds, .long), (dd, .byte)]) [0, 1] rfl).app hK1
  generalize H1 = H at hP hS ⊢
  have hP : va_P (dC, dI) vwCl [(h0, .inr (2, [.int (nI 12), .ref az, .int eb])), (az, .inl (ds, 26, .inr (.inl S))), (ao, .inl (dd, 16, .inl fo)), (ab, .inl (db, 16, .inl fb))] H := hP
  have hD : va_D A [(h0, .inr (2, [.int (nI 12), .ref az, .int eb])), (az, .inl (ds, 26, .inr (.inl S))), (ao, .inl (dd, 16, .inl fo)), (ab, .inl (db, 16, .inl fb))] := hD
  have hK : va_K (dC, dI) vwCl [(ds, .long), (dd, .byte), (db, .byte)] s := hK
  refine lv_lstore (lv' := [(7, .long (hw (mk8 fb) 8 8)), (5, .long (hw (mk8 fb) 0 8)), (0, .ref h0), (1, .ref ab), (2, .int (nI 0)), (3, .ref ao), (4, .int (nI 0))]) hx hb dX2_decryptBlock_17 hl (by decide) rfl (fun ls hl => ?_)
  refine lv_aload_n hx hb dX2_decryptBlock_19 rfl (lv_at hl 2 rfl) ?_
  refine va_get (D := (dC, dI)) (ci := 2) (v := .int (nI 12)) (C := RX2) (T := TX2) (N := 3) hx hb hts in_X2 hown hK hP 0 rfl rfl 0 (by decide) (hts _ q68) (fun _ h9 => h9) rfl dX2_decryptBlock_20 ?_
  refine lv_istore (lv' := [(9, .int (nI 12)), (7, .long (hw (mk8 fb) 8 8)), (5, .long (hw (mk8 fb) 0 8)), (0, .ref h0), (1, .ref ab), (2, .int (nI 0)), (3, .ref ao), (4, .int (nI 0))]) hx hb dX2_decryptBlock_23 hl (by decide) rfl (fun ls hl => ?_)
  refine W.widen (k := 0) (n := 0) (Nat.le_of_ble_eq_true rfl) (Nat.le_of_ble_eq_true rfl) ?_
  exact lp _ 0 (Nat.lt_succ_self _) (by omega) (hK.sub [0, 2, 1] rfl) _ _ (hP.sub (ws' := [(h0, .inr (2, [.int (nI 12), .ref az, .int eb])), (az, .inl (ds, 26, .inr (.inl S))), (ab, .inl (db, 16, .inl fb)), (ao, .inl (dd, 16, .inl fo))]) [0, 1, 3, 2] rfl) (hD.sub (ws' := [(h0, .inr (2, [.int (nI 12), .ref az, .int eb])), (az, .inl (ds, 26, .inr (.inl S))), (ab, .inl (db, 16, .inl fb)), (ao, .inl (dd, 16, .inl fo))]) [0, 1, 3, 2] (by decide) rfl) hS _ (lv_sub hl [3, 4, 5, 6, 7, 2, 1, 0] rfl)

abbrev wsX2_processBlock : List Cond := ws_ yX2_processBlock cX2_processBlock 5 (some .int)
abbrev BX2_processBlock (dC : Nat → ClassId) (dI : Nat → Nat → Nat) (A : Nat → Prop) (h0 : Nat) (az : Nat) (ab : Nat) (ao : Nat) (ds : ClassId) (db : ClassId) (dd : ClassId) (S : Nat → Int64) (fb : Nat → Int32) (fo : Nat → Int32) (eb : Int32) (u : Nat → Int32) (t : State) : Prop := va_P (dC, dI) vwCl [(h0, .inr (2, [.int (nI 12), .ref az, .int eb])), (az, .inl (ds, 26, .inr (.inl S))), (ab, .inl (db, 16, .inl fb)), (ao, .inl (dd, 16, .inl u))] t.heap ∧ va_K (dC, dI) vwCl [(ds, .long), (db, .byte), (dd, .byte)] t ∧ va_D A [(h0, .inr (2, [.int (nI 12), .ref az, .int eb])), (az, .inl (ds, 26, .inr (.inl S))), (ab, .inl (db, 16, .inl fb)), (ao, .inl (dd, 16, .inl u))]
set_option maxHeartbeats 4000000 in
set_option maxRecDepth 100000 in
/-- processBlock(in, 0, out, 0) -/
theorem metX2_processBlock (l : Launch) (dC : Nat → ClassId) (dI : Nat → Nat → Nat) (h0 : Nat) (az : Nat) (ab : Nat) (ao : Nat) (ds : ClassId) (db : ClassId) (dd : ClassId) (S : Nat → Int64) (fb : Nat → Int32) (fo : Nat → Int32) (eb : Int32) (sz : Nat) : Met l yX2_processBlock wsX2_processBlock ({ frames := 2, cells := 0, slots := 0, locals := 54 }) (va_Pc [.ref h0, .ref ab, .int (nI 0), .ref ao, .int (nI 0)] (fun U => U.heap.size = sz ∧ va_P (dC, dI) vwCl [(h0, .inr (2, [.int (nI 12), .ref az, .int eb])), (az, .inl (ds, 26, .inr (.inl S))), (ab, .inl (db, 16, .inl fb)), (ao, .inl (dd, 16, .inl fo))] U.heap ∧ va_K (dC, dI) vwCl [(ds, .long), (db, .byte), (dd, .byte)] U ∧ va_D (fun _ => True) [(h0, .inr (2, [.int (nI 12), .ref az, .int eb])), (az, .inl (ds, 26, .inr (.inl S))), (ab, .inl (db, 16, .inl fb)), (ao, .inl (dd, 16, .inl fo))])) (va_Qi (fun (r : Int32) (u : Nat → Int32) => mk8 u = if eb = 0 then decO S (mk8 fb) (mk8 fo) else encO S (mk8 fb) (mk8 fo)) (BX2_processBlock dC dI (va_A [(h0, .inr (2, [.int (nI 12), .ref az, .int eb])), (az, .inl (ds, 26, .inr (.inl S))), (ab, .inl (db, 16, .inl fb)), (ao, .inl (dd, 16, .inl fo))] sz) h0 az ab ao ds db dd S fb fo eb) (va_A [(h0, .inr (2, [.int (nI 12), .ref az, .int eb])), (az, .inl (ds, 26, .inr (.inl S))), (ab, .inl (db, 16, .inl fb)), (ao, .inl (dd, 16, .inl fo))] sz)) 0 0 (va_A [(h0, .inr (2, [.int (nI 12), .ref az, .int eb])), (az, .inl (ds, 26, .inr (.inl S))), (ab, .inl (db, 16, .inl fb)), (ao, .inl (dd, 16, .inl fo))] sz) := by
  refine Met.ofW (cc := cX2_processBlock) (maxL := 5) (ret := (some .int)) (by decide) rfl ?_
  intro p e s m args below meth c s₁ B hml hv
  obtain ⟨rfl, hsz, hP, hK, hD0⟩ := hv
  have hx := B.exec
  have hb := B.bytes
  have hr := B.returns
  have hts := atoms_spec (ws := wsX2_processBlock) B.pre
  have hts : ∀ w ∈ lw_all, w.before _ s = true := fun w h => hts w (List.mem_cons_of_mem _ h)
  have hown : s.vm.findClass RX2 = some m.cls := findClass_of_methodNamed B.named
  have hlocks := B.notSynchronized
  subst hsz
  have hD := hD0.self (sz := s.heap.size)
  generalize hAe : va_A [(h0, .inr (2, [.int (nI 12), .ref az, .int eb])), (az, .inl (ds, 26, .inr (.inl S))), (ab, .inl (db, 16, .inl fb)), (ao, .inl (dd, 16, .inl fo))] s.heap.size = A at hD ⊢
  have hA : ∀ q : Nat, s.heap.size ≤ q → A q := fun q h => by rw [← hAe]; exact Or.inr h
  have hS : va_S A s.heap s.heap [] := va_S.rf
  have hP : va_P (dC, dI) vwCl [(h0, .inr (2, [.int (nI 12), .ref az, .int eb])), (az, .inl (ds, 26, .inr (.inl S))), (ab, .inl (db, 16, .inl fb)), (ao, .inl (dd, 16, .inl fo))] s.heap := hP
  have hl := lv_entry ([.ref h0, .ref ab, .int (nI 0), .ref ao, .int (nI 0)]) (n := 5) (Nat.le_of_ble_eq_true rfl)
  rw [lg_entry_eq]
  generalize (lg_sl ([.ref h0, .ref ab, .int (nI 0), .ref ao, .int (nI 0)]) ++ List.replicate (5 - (lg_sl ([.ref h0, .ref ab, .int (nI 0), .ref ao, .int (nI 0)])).length) Slot.unset).toArray = ls at hl ⊢
  have hl : lv_has ls 5 [(0, .ref h0), (1, .ref ab), (2, .int (nI 0)), (3, .ref ao), (4, .int (nI 0))] := hl
  refine lv_aload_n hx hb dX2_processBlock_0 rfl (lv_at hl 0 rfl) ?_
  refine va_get (D := (dC, dI)) (ci := 2) (v := .int eb) (C := RX2) (T := TX2) (N := 3) hx hb hts in_X2 hown hK hP 0 rfl rfl 2 (by decide) (hts _ q70) (fun _ h9 => h9) rfl dX2_processBlock_1 ?_
  refine lv_if_eq (tgt := 19) hx hb dX2_processBlock_4 (by decide) (fun c_4 => ?_) (fun c_4 => ?_)
  · refine lv_aload_n hx hb dX2_processBlock_19 rfl (lv_at hl 0 rfl) ?_
    refine lv_aload_n hx hb dX2_processBlock_20 rfl (lv_at hl 1 rfl) ?_
    refine lv_iload_n hx hb dX2_processBlock_21 rfl (lv_at hl 2 rfl) ?_
    refine lv_aload_n hx hb dX2_processBlock_22 rfl (lv_at hl 3 rfl) ?_
    refine lv_iload hx hb dX2_processBlock_23 (lv_at hl 4 rfl) ?_
    have hPc := hP.sub (ws' := [(h0, .inr (2, [.int (nI 12), .ref az, .int eb])), (az, .inl (ds, 26, .inr (.inl S))), (ab, .inl (db, 16, .inl fb)), (ao, .inl (dd, 16, .inl fo))]) [0, 1, 2, 3] rfl
    have hDc := hD.sub (ws' := [(h0, .inr (2, [.int (nI 12), .ref az, .int eb])), (az, .inl (ds, 26, .inr (.inl S))), (ab, .inl (db, 16, .inl fb)), (ao, .inl (dd, 16, .inl fo))]) [0, 1, 2, 3] (by decide) rfl
    have hKc := hK.sub (tys' := [(ds, .long), (db, .byte), (dd, .byte)]) [0, 1, 2] rfl
    have hFc := va_free (wc := [(h0, .inr (2, [.int (nI 12), .ref az, .int eb])), (az, .inl (ds, 26, .inr (.inl S))), (ab, .inl (db, 16, .inl fb)), (ao, .inl (dd, 16, .inl fo))]) hD hS hA [0, 1, 2, 3] rfl
    refine va_calli (va_runV (As := [.ref ab, .int (nI 0), .ref ao, .int (nI 0)]) (rest := []) ⟨hx, hb, hml, hown, hts⟩ (metX2_decryptBlock l dC dI h0 az ab ao ds db dd S fb fo eb s.heap.size) (cwV 4 hts (lw_V q215 q217 qs7 q14 q218) rfl rfl rfl (by decide +kernel) ⟨Nat.le_of_ble_eq_true rfl, Nat.le_of_ble_eq_true rfl⟩) ⟨fun a U g mk q => by obtain ⟨q0, q1, qP, qK, qD⟩ := q; exact ⟨q0, q1, qP, va_K.moved (u := U) (U := U.calling g mk a) (Vm.Alike.refl U.vm) qK, qD⟩, va_recv hK hP (ci := 2) (q0 := 0) rfl rfl, fun U hU hW => ⟨rfl, by rw [hU], by rw [hU]; exact hPc, va_K.moved hW.alike hKc, hDc.weaken (fun _ _ _ _ => trivial)⟩⟩ rfl rfl hl.1 rfl (lv_room (Nat.le_of_ble_eq_true rfl)) dX2_processBlock_25 ⟨Nat.le_of_ble_eq_true rfl, Nat.le_of_ble_eq_true rfl⟩) hS (fun q _ h => hFc q h) hFc (fun r_25 u t H1 locs ht hvm hw_25 hB hz1 hk1 hS => ?_)
    obtain ⟨u_25, rfl⟩ : ∃ z, z = u := ⟨_, rfl⟩
    have hw_25 : mk8 u_25 = decO S (mk8 fb) (mk8 fo) := hw_25
    obtain ⟨hP1, hK1, hD1⟩ := hB
    rw [ht] at hP1
    have hK1 := va_K.moved hvm.symm hK1
    obtain ⟨hP, hD⟩ := va_join (wr := []) (w1 := [(h0, .inr (2, [.int (nI 12), .ref az, .int eb])), (az, .inl (ds, 26, .inr (.inl S))), (ab, .inl (db, 16, .inl fb)), (ao, .inl (dd, 16, .inl u_25))]) hP hD [0, 1, 2, 3] [] rfl rfl (by decide) (by decide) hk1 hFc hP1 hD1
    have hK := (hK.sub (tys' := []) [] rfl).app hK1
    generalize H1 = H at hP hS ⊢
    have hP : va_P (dC, dI) vwCl [(h0, .inr (2, [.int (nI 12), .ref az, .int eb])), (az, .inl (ds, 26, .inr (.inl S))), (ab, .inl (db, 16, .inl fb)), (ao, .inl (dd, 16, .inl u_25))] H := hP
    have hD : va_D A [(h0, .inr (2, [.int (nI 12), .ref az, .int eb])), (az, .inl (ds, 26, .inr (.inl S))), (ab, .inl (db, 16, .inl fb)), (ao, .inl (dd, 16, .inl u_25))] := hD
    have hK : va_K (dC, dI) vwCl [(ds, .long), (db, .byte), (dd, .byte)] s := hK
    refine W.widen (k := 0) (n := 0) (Nat.le_of_ble_eq_true rfl) (Nat.le_of_ble_eq_true rfl) ?_
    have hP9 := hP.sub (ws' := [(h0, .inr (2, [.int (nI 12), .ref az, .int eb])), (az, .inl (ds, 26, .inr (.inl S))), (ab, .inl (db, 16, .inl fb)), (ao, .inl (dd, 16, .inl u_25))]) [0, 1, 2, 3] rfl
    have hD9 := hD.sub (ws' := [(h0, .inr (2, [.int (nI 12), .ref az, .int eb])), (az, .inl (ds, 26, .inr (.inl S))), (ab, .inl (db, 16, .inl fb)), (ao, .inl (dd, 16, .inl u_25))]) [0, 1, 2, 3] (by decide) rfl
    have hK9 := hK.sub (tys' := [(ds, .long), (db, .byte), (dd, .byte)]) [0, 1, 2] rfl
    have hpost : mk8 u_25 = if eb = 0 then decO S (mk8 fb) (mk8 fo) else encO S (mk8 fb) (mk8 fo) := by rw [if_pos c_4]; exact hw_25
    exact W.iret hx hb hr (fun t ht hW => ⟨⟨_, u_25, rfl, hpost, by rw [ht]; exact hP9, va_K.moved hW.alike hK9, hD9⟩, hS.F ht⟩) hS.2.2 dX2_processBlock_28
  · refine lv_aload_n hx hb dX2_processBlock_7 rfl (lv_at hl 0 rfl) ?_
    refine lv_aload_n hx hb dX2_processBlock_8 rfl (lv_at hl 1 rfl) ?_
    refine lv_iload_n hx hb dX2_processBlock_9 rfl (lv_at hl 2 rfl) ?_
    refine lv_aload_n hx hb dX2_processBlock_10 rfl (lv_at hl 3 rfl) ?_
    refine lv_iload hx hb dX2_processBlock_11 (lv_at hl 4 rfl) ?_
    have hPc := hP.sub (ws' := [(h0, .inr (2, [.int (nI 12), .ref az, .int eb])), (az, .inl (ds, 26, .inr (.inl S))), (ab, .inl (db, 16, .inl fb)), (ao, .inl (dd, 16, .inl fo))]) [0, 1, 2, 3] rfl
    have hDc := hD.sub (ws' := [(h0, .inr (2, [.int (nI 12), .ref az, .int eb])), (az, .inl (ds, 26, .inr (.inl S))), (ab, .inl (db, 16, .inl fb)), (ao, .inl (dd, 16, .inl fo))]) [0, 1, 2, 3] (by decide) rfl
    have hKc := hK.sub (tys' := [(ds, .long), (db, .byte), (dd, .byte)]) [0, 1, 2] rfl
    have hFc := va_free (wc := [(h0, .inr (2, [.int (nI 12), .ref az, .int eb])), (az, .inl (ds, 26, .inr (.inl S))), (ab, .inl (db, 16, .inl fb)), (ao, .inl (dd, 16, .inl fo))]) hD hS hA [0, 1, 2, 3] rfl
    refine va_calli (va_runV (As := [.ref ab, .int (nI 0), .ref ao, .int (nI 0)]) (rest := []) ⟨hx, hb, hml, hown, hts⟩ (metX2_encryptBlock l dC dI h0 az ab ao ds db dd S fb fo eb s.heap.size) (cwV 4 hts (lw_V q203 q205 qs4 q14 q206) rfl rfl rfl (by decide +kernel) ⟨Nat.le_of_ble_eq_true rfl, Nat.le_of_ble_eq_true rfl⟩) ⟨fun a U g mk q => by obtain ⟨q0, q1, qP, qK, qD⟩ := q; exact ⟨q0, q1, qP, va_K.moved (u := U) (U := U.calling g mk a) (Vm.Alike.refl U.vm) qK, qD⟩, va_recv hK hP (ci := 2) (q0 := 0) rfl rfl, fun U hU hW => ⟨rfl, by rw [hU], by rw [hU]; exact hPc, va_K.moved hW.alike hKc, hDc.weaken (fun _ _ _ _ => trivial)⟩⟩ rfl rfl hl.1 rfl (lv_room (Nat.le_of_ble_eq_true rfl)) dX2_processBlock_13 ⟨Nat.le_of_ble_eq_true rfl, Nat.le_of_ble_eq_true rfl⟩) hS (fun q _ h => hFc q h) hFc (fun r_13 u t H1 locs ht hvm hw_13 hB hz1 hk1 hS => ?_)
    obtain ⟨u_13, rfl⟩ : ∃ z, z = u := ⟨_, rfl⟩
    have hw_13 : mk8 u_13 = encO S (mk8 fb) (mk8 fo) := hw_13
    obtain ⟨hP1, hK1, hD1⟩ := hB
    rw [ht] at hP1
    have hK1 := va_K.moved hvm.symm hK1
    obtain ⟨hP, hD⟩ := va_join (wr := []) (w1 := [(h0, .inr (2, [.int (nI 12), .ref az, .int eb])), (az, .inl (ds, 26, .inr (.inl S))), (ab, .inl (db, 16, .inl fb)), (ao, .inl (dd, 16, .inl u_13))]) hP hD [0, 1, 2, 3] [] rfl rfl (by decide) (by decide) hk1 hFc hP1 hD1
    have hK := (hK.sub (tys' := []) [] rfl).app hK1
    generalize H1 = H at hP hS ⊢
    have hP : va_P (dC, dI) vwCl [(h0, .inr (2, [.int (nI 12), .ref az, .int eb])), (az, .inl (ds, 26, .inr (.inl S))), (ab, .inl (db, 16, .inl fb)), (ao, .inl (dd, 16, .inl u_13))] H := hP
    have hD : va_D A [(h0, .inr (2, [.int (nI 12), .ref az, .int eb])), (az, .inl (ds, 26, .inr (.inl S))), (ab, .inl (db, 16, .inl fb)), (ao, .inl (dd, 16, .inl u_13))] := hD
    have hK : va_K (dC, dI) vwCl [(ds, .long), (db, .byte), (dd, .byte)] s := hK
    refine lv_goto (tgt := 28) hx hb dX2_processBlock_16 (by decide) ?_
    refine W.widen (k := 0) (n := 0) (Nat.le_of_ble_eq_true rfl) (Nat.le_of_ble_eq_true rfl) ?_
    have hP9 := hP.sub (ws' := [(h0, .inr (2, [.int (nI 12), .ref az, .int eb])), (az, .inl (ds, 26, .inr (.inl S))), (ab, .inl (db, 16, .inl fb)), (ao, .inl (dd, 16, .inl u_13))]) [0, 1, 2, 3] rfl
    have hD9 := hD.sub (ws' := [(h0, .inr (2, [.int (nI 12), .ref az, .int eb])), (az, .inl (ds, 26, .inr (.inl S))), (ab, .inl (db, 16, .inl fb)), (ao, .inl (dd, 16, .inl u_13))]) [0, 1, 2, 3] (by decide) rfl
    have hK9 := hK.sub (tys' := [(ds, .long), (db, .byte), (dd, .byte)]) [0, 1, 2] rfl
    have hpost : mk8 u_13 = if eb = 0 then decO S (mk8 fb) (mk8 fo) else encO S (mk8 fb) (mk8 fo) := by rw [if_neg c_4]; exact hw_13
    exact W.iret hx hb hr (fun t ht hW => ⟨⟨_, u_13, rfl, hpost, by rw [ht]; exact hP9, va_K.moved hW.alike hK9, hD9⟩, hS.F ht⟩) hS.2.2 dX2_processBlock_28
end
section
abbrev wsX2_init_2 : List Cond := ws_ yX2_init_2 cX2_init_2 5 none
abbrev BX2_init_2 (dC : Nat → ClassId) (dI : Nat → Nat → Nat) (A : Nat → Prop) (h0 : Nat) (ap : Nat) (ak : Nat) (dk : ClassId) (f : Nat → Int32) (eb : Int32) (u : Unit) (t : State) : Prop := ∃ (az : Nat), ∃ (ds : ClassId), va_P (dC, dI) vwCl [(h0, .inr (2, [.int (nI 12), .ref az, .int eb])), (ap, .inr (3, [.ref ak, .int (nI 12)])), (ak, .inl (dk, 16, .inl f)), (az, .inl (ds, 26, .inr (.inl (sch (mk8 f)))))] t.heap ∧ va_K (dC, dI) vwCl [(dk, .byte), (ds, .long)] t ∧ va_D A [(h0, .inr (2, [.int (nI 12), .ref az, .int eb])), (ap, .inr (3, [.ref ak, .int (nI 12)])), (ak, .inl (dk, 16, .inl f)), (az, .inl (ds, 26, .inr (.inl (sch (mk8 f)))))]
set_option maxHeartbeats 4000000 in
set_option maxRecDepth 100000 in
/-- init(forEncryption, params) -/
theorem metX2_init_2 (l : Launch) (dC : Nat → ClassId) (dI : Nat → Nat → Nat) (h0 : Nat) (ap : Nat) (ak : Nat) (dk : ClassId) (f : Nat → Int32) (eb : Int32) (sz : Nat) (hne : narrow .boolean (.int eb) = .int eb) (hfe : fits .boolean (.int eb) = true) : Met l yX2_init_2 wsX2_init_2 ({ frames := 2, cells := 2, slots := 28, locals := 54 }) (va_Pc [.ref h0, .int eb, .ref ap] (fun U => U.heap.size = sz ∧ va_P (dC, dI) vwCl [(h0, .inr (2, [.int (nI 12), .null, .int (nI 0)])), (ap, .inr (3, [.ref ak, .int (nI 12)])), (ak, .inl (dk, 16, .inl f))] U.heap ∧ va_K (dC, dI) vwCl [(dk, .byte)] U ∧ va_D (fun _ => True) [(h0, .inr (2, [.int (nI 12), .null, .int (nI 0)])), (ap, .inr (3, [.ref ak, .int (nI 12)])), (ak, .inl (dk, 16, .inl f))])) (va_Qv (fun (u : Unit) => True) (BX2_init_2 dC dI (va_A [(h0, .inr (2, [.int (nI 12), .null, .int (nI 0)])), (ap, .inr (3, [.ref ak, .int (nI 12)])), (ak, .inl (dk, 16, .inl f))] sz) h0 ap ak dk f eb) (va_A [(h0, .inr (2, [.int (nI 12), .null, .int (nI 0)])), (ap, .inr (3, [.ref ak, .int (nI 12)])), (ak, .inl (dk, 16, .inl f))] sz)) 2 28 (va_A [(h0, .inr (2, [.int (nI 12), .null, .int (nI 0)])), (ap, .inr (3, [.ref ak, .int (nI 12)])), (ak, .inl (dk, 16, .inl f))] sz) := by
  refine Met.ofW (cc := cX2_init_2) (maxL := 5) (ret := none) (by decide) rfl ?_
  intro p e s m args below meth c s₁ B hml hv
  obtain ⟨rfl, hsz, hP, hK, hD0⟩ := hv
  have hx := B.exec
  have hb := B.bytes
  have hr := B.returns
  have hts := atoms_spec (ws := wsX2_init_2) B.pre
  have hts : ∀ w ∈ lw_all, w.before _ s = true := fun w h => hts w (List.mem_cons_of_mem _ h)
  have hown : s.vm.findClass RX2 = some m.cls := findClass_of_methodNamed B.named
  have hlocks := B.notSynchronized
  subst hsz
  have hD := hD0.self (sz := s.heap.size)
  generalize hAe : va_A [(h0, .inr (2, [.int (nI 12), .null, .int (nI 0)])), (ap, .inr (3, [.ref ak, .int (nI 12)])), (ak, .inl (dk, 16, .inl f))] s.heap.size = A at hD ⊢
  have hA : ∀ q : Nat, s.heap.size ≤ q → A q := fun q h => by rw [← hAe]; exact Or.inr h
  have hS : va_S A s.heap s.heap [] := va_S.rf
  have hP : va_P (dC, dI) vwCl [(h0, .inr (2, [.int (nI 12), .null, .int (nI 0)])), (ap, .inr (3, [.ref ak, .int (nI 12)])), (ak, .inl (dk, 16, .inl f))] s.heap := hP
  have hl := lv_entry ([.ref h0, .int eb, .ref ap]) (n := 5) (Nat.le_of_ble_eq_true rfl)
  rw [lg_entry_eq]
  generalize (lg_sl ([.ref h0, .int eb, .ref ap]) ++ List.replicate (5 - (lg_sl ([.ref h0, .int eb, .ref ap])).length) Slot.unset).toArray = ls at hl ⊢
  have hl : lv_has ls 5 [(0, .ref h0), (1, .int eb), (2, .ref ap)] := hl
  refine lv_aload_n hx hb dX2_init_2_0 rfl (lv_at hl 2 rfl) ?_
  refine va_instS hx hb hown (hts _ q169) (hK.1 3 _ rfl).2 (va_recv hK hP (ci := 3) (q0 := 1) rfl rfl) dX2_init_2_1 ?_
  refine lv_if_ne (tgt := 17) hx hb dX2_init_2_4 (by decide) (fun c_4 => ?_) (fun c_4 => ?_)
  · refine lv_aload_n hx hb dX2_init_2_17 rfl (lv_at hl 2 rfl) ?_
    refine va_castS hx hb hown (hts _ q169) (hK.1 3 _ rfl).2 (va_recv hK hP (ci := 3) (q0 := 1) rfl rfl) dX2_init_2_18 ?_
    refine lv_astore_n (lv' := [(3, .ref ap), (0, .ref h0), (1, .int eb), (2, .ref ap)]) hx hb dX2_init_2_21 rfl hl (by decide) rfl (fun ls hl => ?_)
    refine lv_aload_n hx hb dX2_init_2_22 rfl (lv_at hl 1 rfl) ?_
    refine lv_iload_n hx hb dX2_init_2_23 rfl (lv_at hl 2 rfl) ?_
    refine va_put (D := (dC, dI)) (ci := 2) (v := .int eb) (ty := .boolean) (C := RX2) (T := TX2) (N := 3) hx hb hts in_X2 tyX2 tyX2_ok nmX2 hown hK hP hD hS 0 rfl rfl 2 (by decide) (hts _ q70) (fun _ h9 => h9) rfl (by decide +kernel) hne hfe (Nat.le_of_ble_eq_true rfl) dX2_init_2_24 (fun H locs hP hD hS => ?_)
    have hP : va_P (dC, dI) vwCl [(h0, .inr (2, [.int (nI 12), .null, .int eb])), (ap, .inr (3, [.ref ak, .int (nI 12)])), (ak, .inl (dk, 16, .inl f))] H := hP
    have hD : va_D A [(h0, .inr (2, [.int (nI 12), .null, .int eb])), (ap, .inr (3, [.ref ak, .int (nI 12)])), (ak, .inl (dk, 16, .inl f))] := hD
    refine lv_aload_n hx hb dX2_init_2_27 rfl (lv_at hl 1 rfl) ?_
    refine lv_aload_n hx hb dX2_init_2_28 rfl (lv_at hl 0 rfl) ?_
    have hPc := hP.sub (ws' := [(ap, .inr (3, [.ref ak, .int (nI 12)]))]) [1] rfl
    have hDc := hD.sub (ws' := [(ap, .inr (3, [.ref ak, .int (nI 12)]))]) [1] (by decide) rfl
    have hKc := hK.sub (tys' := []) [] rfl
    have hFc := va_free (wc := [(ap, .inr (3, [.ref ak, .int (nI 12)]))]) hD hS hA [1] rfl
    refine va_calli (va_runV (As := []) (rest := [.ref h0]) ⟨hx, hb, hml, hown, hts⟩ (metX3_getRounds l dC dI ap ak (nI 12) H.size) (cwV 0 hts (lw_V q173 q174 q175 q15 q176) rfl rfl rfl (by decide +kernel) ⟨Nat.le_of_ble_eq_true rfl, Nat.le_of_ble_eq_true rfl⟩) ⟨fun a U g mk q => by obtain ⟨q0, q1, qP, qK, qD⟩ := q; exact ⟨q0, q1, qP, va_K.moved (u := U) (U := U.calling g mk a) (Vm.Alike.refl U.vm) qK, qD⟩, va_recv hK hP (ci := 3) (q0 := 1) rfl rfl, fun U hU hW => ⟨rfl, by rw [hU], by rw [hU]; exact hPc, va_K.moved hW.alike hKc, hDc.weaken (fun _ _ _ _ => trivial)⟩⟩ rfl rfl hl.1 rfl (lv_room (Nat.le_of_ble_eq_true rfl)) dX2_init_2_29 ⟨Nat.le_of_ble_eq_true rfl, Nat.le_of_ble_eq_true rfl⟩) hS (fun q _ h => hFc q h) hFc (fun r_29 u t H1 locs ht hvm hw_29 hB hz1 hk1 hS => ?_)
    obtain ⟨u_29, rfl⟩ : ∃ z, z = u := ⟨_, rfl⟩
    have hw_29 : r_29 = (nI 12) := hw_29
    obtain ⟨hP1, hK1, hD1⟩ := hB
    have hw_29 := hw_29.symm
    subst hw_29
    rw [ht] at hP1
    have hK1 := va_K.moved hvm.symm hK1
    obtain ⟨hP, hD⟩ := va_join (wr := [(h0, .inr (2, [.int (nI 12), .null, .int eb])), (ak, .inl (dk, 16, .inl f))]) (w1 := [(ap, .inr (3, [.ref ak, .int (nI 12)]))]) hP hD [1] [0, 2] rfl rfl (by decide) (by decide) hk1 hFc hP1 hD1
    have hK := (hK.sub (tys' := [(dk, .byte)]) [0] rfl).app hK1
    generalize H1 = H at hP hS ⊢
    have hP : va_P (dC, dI) vwCl [(h0, .inr (2, [.int (nI 12), .null, .int eb])), (ak, .inl (dk, 16, .inl f)), (ap, .inr (3, [.ref ak, .int (nI 12)]))] H := hP
    have hD : va_D A [(h0, .inr (2, [.int (nI 12), .null, .int eb])), (ak, .inl (dk, 16, .inl f)), (ap, .inr (3, [.ref ak, .int (nI 12)]))] := hD
    have hK : va_K (dC, dI) vwCl [(dk, .byte)] s := hK
    refine va_put (D := (dC, dI)) (ci := 2) (v := .int ((nI 12))) (ty := .int) (C := RX2) (T := TX2) (N := 3) hx hb hts in_X2 tyX2 tyX2_ok nmX2 hown hK hP hD hS 0 rfl rfl 0 (by decide) (hts _ q68) (fun _ h9 => h9) rfl (by decide +kernel) rfl rfl (Nat.le_of_ble_eq_true rfl) dX2_init_2_32 (fun H locs hP hD hS => ?_)
    have hP : va_P (dC, dI) vwCl [(h0, .inr (2, [.int ((nI 12)), .null, .int eb])), (ak, .inl (dk, 16, .inl f)), (ap, .inr (3, [.ref ak, .int (nI 12)]))] H := hP
    have hD : va_D A [(h0, .inr (2, [.int ((nI 12)), .null, .int eb])), (ak, .inl (dk, 16, .inl f)), (ap, .inr (3, [.ref ak, .int (nI 12)]))] := hD
    refine lv_aload_n hx hb dX2_init_2_35 rfl (lv_at hl 0 rfl) ?_
    have hPc := hP.sub (ws' := [(ap, .inr (3, [.ref ak, .int (nI 12)]))]) [2] rfl
    have hDc := hD.sub (ws' := [(ap, .inr (3, [.ref ak, .int (nI 12)]))]) [2] (by decide) rfl
    have hKc := hK.sub (tys' := []) [] rfl
    have hFc := va_free (wc := [(ap, .inr (3, [.ref ak, .int (nI 12)]))]) hD hS hA [2] rfl
    refine va_callr (va_runV (As := []) (rest := []) ⟨hx, hb, hml, hown, hts⟩ (metX3_getKey l dC dI ap ak (nI 12) H.size) (cwV 0 hts (lw_V q177 q178 q179 q15 q180) rfl rfl rfl (by decide +kernel) ⟨Nat.le_of_ble_eq_true rfl, Nat.le_of_ble_eq_true rfl⟩) ⟨fun a U g mk q => by obtain ⟨q0, q1, qP, qK, qD⟩ := q; exact ⟨q0, q1, qP, va_K.moved (u := U) (U := U.calling g mk a) (Vm.Alike.refl U.vm) qK, qD⟩, va_recv hK hP (ci := 3) (q0 := 2) rfl rfl, fun U hU hW => ⟨rfl, by rw [hU], by rw [hU]; exact hPc, va_K.moved hW.alike hKc, hDc.weaken (fun _ _ _ _ => trivial)⟩⟩ rfl rfl hl.1 rfl (lv_room (Nat.le_of_ble_eq_true rfl)) dX2_init_2_36 ⟨Nat.le_of_ble_eq_true rfl, Nat.le_of_ble_eq_true rfl⟩) hS (fun q _ h => hFc q h) hFc (fun u ra t H1 locs ht hvm hw_36 hB hz1 hk1 hS => ?_)
    obtain ⟨u_36, rfl⟩ : ∃ z, z = u := ⟨_, rfl⟩
    obtain ⟨hra, hP1, hK1, hD1⟩ := hB
    have hra := hra.symm
    subst hra
    rw [ht] at hP1
    have hK1 := va_K.moved hvm.symm hK1
    obtain ⟨hP, hD⟩ := va_join (wr := [(h0, .inr (2, [.int ((nI 12)), .null, .int eb])), (ak, .inl (dk, 16, .inl f))]) (w1 := [(ap, .inr (3, [.ref ak, .int (nI 12)]))]) hP hD [2] [0, 1] rfl rfl (by decide) (by decide) hk1 hFc hP1 hD1
    have hK := (hK.sub (tys' := [(dk, .byte)]) [0] rfl).app hK1
    generalize H1 = H at hP hS ⊢
    have hP : va_P (dC, dI) vwCl [(h0, .inr (2, [.int ((nI 12)), .null, .int eb])), (ak, .inl (dk, 16, .inl f)), (ap, .inr (3, [.ref ak, .int (nI 12)]))] H := hP
    have hD : va_D A [(h0, .inr (2, [.int ((nI 12)), .null, .int eb])), (ak, .inl (dk, 16, .inl f)), (ap, .inr (3, [.ref ak, .int (nI 12)]))] := hD
    have hK : va_K (dC, dI) vwCl [(dk, .byte)] s := hK
    refine lv_astore (lv' := [(4, .ref ak), (3, .ref ap), (0, .ref h0), (1, .int eb), (2, .ref ap)]) hx hb dX2_init_2_39 hl (by decide) rfl (fun ls hl => ?_)
    refine lv_aload_n hx hb dX2_init_2_41 rfl (lv_at hl 2 rfl) ?_
    refine lv_aload hx hb dX2_init_2_42 (lv_at hl 0 rfl) ?_
    have hPc := hP.sub (ws' := [(h0, .inr (2, [.int ((nI 12)), .null, .int eb])), (ak, .inl (dk, 16, .inl f))]) [0, 1] rfl
    have hDc := hD.sub (ws' := [(h0, .inr (2, [.int ((nI 12)), .null, .int eb])), (ak, .inl (dk, 16, .inl f))]) [0, 1] (by decide) rfl
    have hKc := hK.sub (tys' := [(dk, .byte)]) [0] rfl
    have hFc := va_free (wc := [(h0, .inr (2, [.int ((nI 12)), .null, .int eb])), (ak, .inl (dk, 16, .inl f))]) hD hS hA [0, 1] rfl
    refine va_callv (va_runV (As := [.ref ak]) (rest := []) ⟨hx, hb, hml, hown, hts⟩ (metX2_setKey l dC dI h0 ak dk f eb H.size) (cwV 1 hts (lw_V q181 q183 qs2 q14 q184) rfl rfl rfl (by decide +kernel) ⟨Nat.le_of_ble_eq_true rfl, Nat.le_of_ble_eq_true rfl⟩) ⟨fun a U g mk q => by obtain ⟨q0, q1, qP, qK, qD⟩ := q; exact ⟨q0, q1, qP, va_K.moved (u := U) (U := U.calling g mk a) (Vm.Alike.refl U.vm) qK, qD⟩, va_recv hK hP (ci := 2) (q0 := 0) rfl rfl, fun U hU hW => ⟨rfl, by rw [hU], by rw [hU]; exact hPc, va_K.moved hW.alike hKc, hDc.weaken (fun _ _ _ _ => trivial)⟩⟩ rfl rfl hl.1 rfl (lv_room (Nat.le_of_ble_eq_true rfl)) dX2_init_2_44 ⟨Nat.le_of_ble_eq_true rfl, Nat.le_of_ble_eq_true rfl⟩) hS (fun q _ h => hFc q h) hFc (fun u t H1 locs ht hvm hw_44 hB hz1 hk1 hS => ?_)
    obtain ⟨u_44, rfl⟩ : ∃ z, z = u := ⟨_, rfl⟩
    obtain ⟨az_44, ds_44, hP1, hK1, hD1⟩ := hB
    rw [ht] at hP1
    have hK1 := va_K.moved hvm.symm hK1
    obtain ⟨hP, hD⟩ := va_join (wr := [(ap, .inr (3, [.ref ak, .int (nI 12)]))]) (w1 := [(h0, .inr (2, [.int (nI 12), .ref az_44, .int eb])), (ak, .inl (dk, 16, .inl f)), (az_44, .inl (ds_44, 26, .inr (.inl (sch (mk8 f)))))]) hP hD [0, 1] [2] rfl rfl (by decide) (by decide) hk1 hFc hP1 hD1
    have hK := (hK.sub (tys' := []) [] rfl).app hK1
    generalize H1 = H at hP hS ⊢
    have hP : va_P (dC, dI) vwCl [(ap, .inr (3, [.ref ak, .int (nI 12)])), (h0, .inr (2, [.int (nI 12), .ref az_44, .int eb])), (ak, .inl (dk, 16, .inl f)), (az_44, .inl (ds_44, 26, .inr (.inl (sch (mk8 f)))))] H := hP
    have hD : va_D A [(ap, .inr (3, [.ref ak, .int (nI 12)])), (h0, .inr (2, [.int (nI 12), .ref az_44, .int eb])), (ak, .inl (dk, 16, .inl f)), (az_44, .inl (ds_44, 26, .inr (.inl (sch (mk8 f)))))] := hD
    have hK : va_K (dC, dI) vwCl [(dk, .byte), (ds_44, .long)] s := hK
    refine W.widen (k := 2) (n := 28) (Nat.le_of_ble_eq_true rfl) (Nat.le_of_ble_eq_true rfl) ?_
    have hP9 := hP.sub (ws' := [(h0, .inr (2, [.int (nI 12), .ref az_44, .int eb])), (ap, .inr (3, [.ref ak, .int (nI 12)])), (ak, .inl (dk, 16, .inl f)), (az_44, .inl (ds_44, 26, .inr (.inl (sch (mk8 f)))))]) [1, 0, 2, 3] rfl
    have hD9 := hD.sub (ws' := [(h0, .inr (2, [.int (nI 12), .ref az_44, .int eb])), (ap, .inr (3, [.ref ak, .int (nI 12)])), (ak, .inl (dk, 16, .inl f)), (az_44, .inl (ds_44, 26, .inr (.inl (sch (mk8 f)))))]) [1, 0, 2, 3] (by decide) rfl
    have hK9 := hK.sub (tys' := [(dk, .byte), (ds_44, .long)]) [0, 1] rfl
    exact W.vret hx hb hr (fun t ht hW => ⟨⟨(), rfl, trivial, az_44, ds_44, by rw [ht]; exact hP9, va_K.moved hW.alike hK9, hD9⟩, hS.F ht⟩) hS.2.2 dX2_init_2_47
  · exact absurd c_4 (by decide)
end
section
def xInit : MethodName := ⟨"BlockCipher", "init", "(ZLCipherParameters;)V"⟩
def xProc : MethodName := ⟨"BlockCipher", "processBlock", "([BI[BI)I"⟩
theorem lwF_init : GoodIn lw_all (va_wsF "RcWideDesk" 35 "RC564Engine" xInit yX2_init_2 wsX2_init_2) := by
  refine lw_app ?_ (lw_meth q168)
  intro w hw
  simp only [List.mem_cons, List.not_mem_nil, or_false] at hw
  rcases hw with e | e | e | e
  · rw [e]; exact q160
  · rw [e]; exact q164
  · rw [e]; exact q166
  · rw [e]; exact q14
theorem lwF_proc : GoodIn lw_all (va_wsF "RcWideDesk" 41 "RC564Engine" xProc yX2_processBlock wsX2_processBlock) := by
  refine lw_app ?_ (lw_meth q202)
  intro w hw
  simp only [List.mem_cons, List.not_mem_nil, or_false] at hw
  rcases hw with e | e | e | e
  · rw [e]; exact q195
  · rw [e]; exact q198
  · rw [e]; exact q200
  · rw [e]; exact q14
theorem fit_k (f : Nat → Int32) (i : Nat) (hi : i < 16) : fits .byte (.int (stn (fun _ => 0) 0 (fun j => vp_nar .byte (f j)) 16 i)) = true := by
  unfold stn
  rw [if_pos (by omega)]
  exact fitb _
theorem key_k (f g : Nat → Int32) (h : mk8 g = t16 (mk8 (stn (fun _ => 0) 0 (fun j => vp_nar .byte (f j)) 16))) : sch (mk8 g) = sch (mk8 f) := by
  have h2 : mk8 (stn (fun _ => 0) 0 (fun j => vp_nar .byte (f j)) 16) = t16 (mk8 f) := by
    rw [mk8_stn, mk8_vnb, show mk8 (fun _ => 0) = (fun _ => 0) from funext fun _ => show (0 : Int32) &&& 255 = 0 by decide]
    rfl
  rw [h, h2, t16_t16, sch_t16]

abbrev wsX0_run : List Cond := ws_ yX0_run cX0_run 6 none
abbrev BX0_run (dC : Nat → ClassId) (dI : Nat → Nat → Nat) (A : Nat → Prop) (h0 : Nat) (ak : Nat) (ab : Nat) (ao : Nat) (dk : ClassId) (db : ClassId) (dd : ClassId) (fk : Nat → Int32) (fb : Nat → Int32) (fo : Nat → Int32) (eb : Int32) (x : Int32) (u : Nat → Int32) (t : State) : Prop := va_P (dC, dI) vwCl [(h0, .inr (0, [.ref ak, .ref ab, .ref ao])), (ak, .inl (dk, 32, .inl fk)), (ab, .inl (db, 16, .inl fb)), (ao, .inl (dd, 16, .inl u))] t.heap ∧ va_K (dC, dI) vwCl [(dk, .byte), (db, .byte), (dd, .byte)] t ∧ va_D A [(h0, .inr (0, [.ref ak, .ref ab, .ref ao])), (ak, .inl (dk, 32, .inl fk)), (ab, .inl (db, 16, .inl fb)), (ao, .inl (dd, 16, .inl u))]
set_option maxHeartbeats 4000000 in
set_option maxRecDepth 100000 in
/-- run(lock, kind) -/
theorem metX0_run (l : Launch) (dC : Nat → ClassId) (dI : Nat → Nat → Nat) (h0 : Nat) (ak : Nat) (ab : Nat) (ao : Nat) (dk : ClassId) (db : ClassId) (dd : ClassId) (fk : Nat → Int32) (fb : Nat → Int32) (fo : Nat → Int32) (eb : Int32) (x : Int32) (sz : Nat) (hne : narrow .boolean (.int eb) = .int eb) (hfe : fits .boolean (.int eb) = true) : Met l yX0_run wsX0_run ({ frames := 3, cells := 6, slots := 65, locals := 78 }) (va_Pc [.ref h0, .int eb, .int x] (fun U => U.heap.size = sz ∧ va_P (dC, dI) vwCl [(h0, .inr (0, [.ref ak, .ref ab, .ref ao])), (ak, .inl (dk, 32, .inl fk)), (ab, .inl (db, 16, .inl fb)), (ao, .inl (dd, 16, .inl fo))] U.heap ∧ va_K (dC, dI) vwCl [(dk, .byte), (db, .byte), (dd, .byte)] U ∧ va_D (fun _ => True) [(h0, .inr (0, [.ref ak, .ref ab, .ref ao])), (ak, .inl (dk, 32, .inl fk)), (ab, .inl (db, 16, .inl fb)), (ao, .inl (dd, 16, .inl fo))] ∧ va_Fw "RC564Engine" xInit yX2_init_2 U ∧ va_Fw "RC564Engine" xProc yX2_processBlock U)) (va_Qv (fun (u : Nat → Int32) => mk8 u = if eb = 0 then decO (sch (mk8 fk)) (mk8 fb) (mk8 fo) else encO (sch (mk8 fk)) (mk8 fb) (mk8 fo)) (BX0_run dC dI (va_A [(h0, .inr (0, [.ref ak, .ref ab, .ref ao])), (ak, .inl (dk, 32, .inl fk)), (ab, .inl (db, 16, .inl fb)), (ao, .inl (dd, 16, .inl fo))] sz) h0 ak ab ao dk db dd fk fb fo eb x) (va_A [(h0, .inr (0, [.ref ak, .ref ab, .ref ao])), (ak, .inl (dk, 32, .inl fk)), (ab, .inl (db, 16, .inl fb)), (ao, .inl (dd, 16, .inl fo))] sz)) 6 65 (va_A [(h0, .inr (0, [.ref ak, .ref ab, .ref ao])), (ak, .inl (dk, 32, .inl fk)), (ab, .inl (db, 16, .inl fb)), (ao, .inl (dd, 16, .inl fo))] sz) := by
  refine Met.ofW (cc := cX0_run) (maxL := 6) (ret := none) (by decide) rfl ?_
  intro p e s m args below meth c s₁ B hml hv
  obtain ⟨rfl, hsz, hP, hK, hD0, hf1, hf2⟩ := hv
  have hx := B.exec
  have hb := B.bytes
  have hr := B.returns
  have hts := atoms_spec (ws := wsX0_run) B.pre
  have hts : ∀ w ∈ lw_all, w.before _ s = true := fun w h => hts w (List.mem_cons_of_mem _ h)
  have hown : s.vm.findClass RX0 = some m.cls := findClass_of_methodNamed B.named
  have hlocks := B.notSynchronized
  subst hsz
  have hD := hD0.self (sz := s.heap.size)
  generalize hAe : va_A [(h0, .inr (0, [.ref ak, .ref ab, .ref ao])), (ak, .inl (dk, 32, .inl fk)), (ab, .inl (db, 16, .inl fb)), (ao, .inl (dd, 16, .inl fo))] s.heap.size = A at hD ⊢
  have hA : ∀ q : Nat, s.heap.size ≤ q → A q := fun q h => by rw [← hAe]; exact Or.inr h
  have hS : va_S A s.heap s.heap [] := va_S.rf
  have hP : va_P (dC, dI) vwCl [(h0, .inr (0, [.ref ak, .ref ab, .ref ao])), (ak, .inl (dk, 32, .inl fk)), (ab, .inl (db, 16, .inl fb)), (ao, .inl (dd, 16, .inl fo))] s.heap := hP
  have hl := lv_entry ([.ref h0, .int eb, .int x]) (n := 6) (Nat.le_of_ble_eq_true rfl)
  rw [lg_entry_eq]
  generalize (lg_sl ([.ref h0, .int eb, .int x]) ++ List.replicate (6 - (lg_sl ([.ref h0, .int eb, .int x])).length) Slot.unset).toArray = ls at hl ⊢
  have hl : lv_has ls 6 [(0, .ref h0), (1, .int eb), (2, .int x)] := hl
  have b1 : ∀ (q : Nat) (dq : ClassId), va_K (dC, dI) vwCl [(dk, .byte), (db, .byte), (dd, .byte), (dq, .byte)] s → ∀ (H : Heap) (locs : List Loc), va_P (dC, dI) vwCl [(h0, .inr (0, [.ref ak, .ref ab, .ref ao])), (ak, .inl (dk, 32, .inl fk)), (ab, .inl (db, 16, .inl fb)), (ao, .inl (dd, 16, .inl fo)), (q, .inl (dq, 16, .inl (stn (fun _ => 0) 0 (fun j => vp_nar .byte (fk j)) 16)))] H → va_D A [(h0, .inr (0, [.ref ak, .ref ab, .ref ao])), (ak, .inl (dk, 32, .inl fk)), (ab, .inl (db, 16, .inl fb)), (ao, .inl (dd, 16, .inl fo)), (q, .inl (dq, 16, .inl (stn (fun _ => 0) 0 (fun j => vp_nar .byte (fk j)) 16)))] → va_S A s.heap H locs → ∀ (ls : Array Slot), lv_has ls 6 [(0, .ref h0), (1, .int eb), (2, .int x), (4, .ref q)] → W p l e (headSpec wsX0_run ({ frames := 3, cells := 6, slots := 65, locals := 78 })).room s m ([.ref h0, .int eb, .int x] : List Value).toArray below meth c H locs (1) (16) (MQ below (va_Qv (fun (u : Nat → Int32) => mk8 u = if eb = 0 then decO (sch (mk8 fk)) (mk8 fb) (mk8 fo) else encO (sch (mk8 fk)) (mk8 fb) (mk8 fo)) (BX0_run dC dI A h0 ak ab ao dk db dd fk fb fo eb x) A) ([.ref h0, .int eb, .int x] : List Value).toArray s 6 65 A) (F0 m 39 ls []) := by
    intro q dq  hK H locs hP hD hS ls hl
    refine va_new (ci := 2) (fs := [.int (nI 0), .null, .int (nI 0)]) (C := RX2) (T := TX2) (N := 3) hx hb hts in_X2 tyX2 tyX2_ok hown (hts _ q62) (hts _ q63) (hts _ q14) hK hP hD hS hA rfl (fun j hj => by rcases (show j = 0 ∨ j = 1 ∨ j = 2 by omega) with rfl | rfl | rfl <;> rfl) (Nat.le_of_ble_eq_true rfl) (Nat.le_of_ble_eq_true rfl) dX0_run_39 (fun q_39 H hP hD hS => ?_)
    have hP : va_P (dC, dI) vwCl [(h0, .inr (0, [.ref ak, .ref ab, .ref ao])), (ak, .inl (dk, 32, .inl fk)), (ab, .inl (db, 16, .inl fb)), (ao, .inl (dd, 16, .inl fo)), (q, .inl (dq, 16, .inl (stn (fun _ => 0) 0 (fun j => vp_nar .byte (fk j)) 16))), (q_39, .inr (2, [.int (nI 0), .null, .int (nI 0)]))] H := hP
    have hD : va_D A [(h0, .inr (0, [.ref ak, .ref ab, .ref ao])), (ak, .inl (dk, 32, .inl fk)), (ab, .inl (db, 16, .inl fb)), (ao, .inl (dd, 16, .inl fo)), (q, .inl (dq, 16, .inl (stn (fun _ => 0) 0 (fun j => vp_nar .byte (fk j)) 16))), (q_39, .inr (2, [.int (nI 0), .null, .int (nI 0)]))] := hD
    refine lv_dup hx hb dX0_run_42 rfl ?_
    have hPc := hP.sub (ws' := [(q_39, .inr (2, [.int (nI 0), .null, .int (nI 0)]))]) [5] rfl
    have hDc := hD.sub (ws' := [(q_39, .inr (2, [.int (nI 0), .null, .int (nI 0)]))]) [5] (by decide) rfl
    have hKc := hK.sub (tys' := []) [] rfl
    have hFc := va_free (wc := [(q_39, .inr (2, [.int (nI 0), .null, .int (nI 0)]))]) hD hS hA [5] rfl
    refine va_callv (va_runI (As := []) (rest := [.ref q_39]) ⟨hx, hb, hml, hown, hts⟩ (metX2_init l dC dI q_39 H.size) (cwI 0 hts (lw_meth q66) rfl rfl rfl (hts _ q14) (hts _ q64) (hts _ q65) rfl (by decide +kernel) ⟨Nat.le_of_ble_eq_true rfl, Nat.le_of_ble_eq_true rfl⟩) ⟨fun a U g mk q => by obtain ⟨q0, q1, qP, qK, qD⟩ := q; exact ⟨q0, q1, qP, va_K.moved (u := U) (U := U.calling g mk a) (Vm.Alike.refl U.vm) qK, qD⟩, fun U hU hW => ⟨rfl, by rw [hU], by rw [hU]; exact hPc, va_K.moved hW.alike hKc, hDc.weaken (fun _ _ _ _ => trivial)⟩⟩ rfl rfl hl.1 rfl (lv_room (Nat.le_of_ble_eq_true rfl)) dX0_run_43 ⟨Nat.le_of_ble_eq_true rfl, Nat.le_of_ble_eq_true rfl⟩) hS (fun q _ h => hFc q h) hFc (fun u t H1 locs ht hvm hw_43 hB hz1 hk1 hS => ?_)
    obtain ⟨u_43, rfl⟩ : ∃ z, z = u := ⟨_, rfl⟩
    obtain ⟨hP1, hK1, hD1⟩ := hB
    rw [ht] at hP1
    have hK1 := va_K.moved hvm.symm hK1
    obtain ⟨hP, hD⟩ := va_join (wr := [(h0, .inr (0, [.ref ak, .ref ab, .ref ao])), (ak, .inl (dk, 32, .inl fk)), (ab, .inl (db, 16, .inl fb)), (ao, .inl (dd, 16, .inl fo)), (q, .inl (dq, 16, .inl (stn (fun _ => 0) 0 (fun j => vp_nar .byte (fk j)) 16)))]) (w1 := [(q_39, .inr (2, [.int (nI 12), .null, .int (nI 0)]))]) hP hD [5] [0, 1, 2, 3, 4] rfl rfl (by decide) (by decide) hk1 hFc hP1 hD1
    have hK := (hK.sub (tys' := [(dk, .byte), (db, .byte), (dd, .byte), (dq, .byte)]) [0, 1, 2, 3] rfl).app hK1
    generalize H1 = H at hP hS ⊢
    have hP : va_P (dC, dI) vwCl [(h0, .inr (0, [.ref ak, .ref ab, .ref ao])), (ak, .inl (dk, 32, .inl fk)), (ab, .inl (db, 16, .inl fb)), (ao, .inl (dd, 16, .inl fo)), (q, .inl (dq, 16, .inl (stn (fun _ => 0) 0 (fun j => vp_nar .byte (fk j)) 16))), (q_39, .inr (2, [.int (nI 12), .null, .int (nI 0)]))] H := hP
    have hD : va_D A [(h0, .inr (0, [.ref ak, .ref ab, .ref ao])), (ak, .inl (dk, 32, .inl fk)), (ab, .inl (db, 16, .inl fb)), (ao, .inl (dd, 16, .inl fo)), (q, .inl (dq, 16, .inl (stn (fun _ => 0) 0 (fun j => vp_nar .byte (fk j)) 16))), (q_39, .inr (2, [.int (nI 12), .null, .int (nI 0)]))] := hD
    have hK : va_K (dC, dI) vwCl [(dk, .byte), (db, .byte), (dd, .byte), (dq, .byte)] s := hK
    refine lv_astore (lv' := [(5, .ref q_39), (0, .ref h0), (1, .int eb), (2, .int x), (4, .ref q)]) hx hb dX0_run_46 hl (by decide) rfl (fun ls hl => ?_)
    refine lv_aload hx hb dX0_run_48 (lv_at hl 0 rfl) ?_
    refine lv_iload_n hx hb dX0_run_50 rfl (lv_at hl 2 rfl) ?_
    refine va_new (ci := 3) (fs := [.null, .int (nI 0)]) (C := RX3) (T := TX3) (N := 2) hx hb hts in_X3 tyX3 tyX3_ok hown (hts _ q78) (hts _ q79) (hts _ q15) hK hP hD hS hA rfl (fun j hj => by rcases (show j = 0 ∨ j = 1 by omega) with rfl | rfl <;> rfl) (Nat.le_of_ble_eq_true rfl) (Nat.le_of_ble_eq_true rfl) dX0_run_51 (fun q_51 H hP hD hS => ?_)
    have hP : va_P (dC, dI) vwCl [(h0, .inr (0, [.ref ak, .ref ab, .ref ao])), (ak, .inl (dk, 32, .inl fk)), (ab, .inl (db, 16, .inl fb)), (ao, .inl (dd, 16, .inl fo)), (q, .inl (dq, 16, .inl (stn (fun _ => 0) 0 (fun j => vp_nar .byte (fk j)) 16))), (q_39, .inr (2, [.int (nI 12), .null, .int (nI 0)])), (q_51, .inr (3, [.null, .int (nI 0)]))] H := hP
    have hD : va_D A [(h0, .inr (0, [.ref ak, .ref ab, .ref ao])), (ak, .inl (dk, 32, .inl fk)), (ab, .inl (db, 16, .inl fb)), (ao, .inl (dd, 16, .inl fo)), (q, .inl (dq, 16, .inl (stn (fun _ => 0) 0 (fun j => vp_nar .byte (fk j)) 16))), (q_39, .inr (2, [.int (nI 12), .null, .int (nI 0)])), (q_51, .inr (3, [.null, .int (nI 0)]))] := hD
    refine lv_dup hx hb dX0_run_54 rfl ?_
    refine lv_aload hx hb dX0_run_55 (lv_at hl 4 rfl) ?_
    refine lv_bipush (v := nI 12) hx hb dX0_run_57 (by decide) ?_
    have hPc := hP.sub (ws' := [(q_51, .inr (3, [.null, .int (nI 0)])), (q, .inl (dq, 16, .inl (stn (fun _ => 0) 0 (fun j => vp_nar .byte (fk j)) 16)))]) [6, 4] rfl
    have hDc := hD.sub (ws' := [(q_51, .inr (3, [.null, .int (nI 0)])), (q, .inl (dq, 16, .inl (stn (fun _ => 0) 0 (fun j => vp_nar .byte (fk j)) 16)))]) [6, 4] (by decide) rfl
    have hKc := hK.sub (tys' := [(dq, .byte)]) [3] rfl
    have hFc := va_free (wc := [(q_51, .inr (3, [.null, .int (nI 0)])), (q, .inl (dq, 16, .inl (stn (fun _ => 0) 0 (fun j => vp_nar .byte (fk j)) 16)))]) hD hS hA [6, 4] rfl
    refine va_callv (va_runI (As := [.ref q, .int (nI 12)]) (rest := [.ref q_51, .int eb, .ref q_39]) ⟨hx, hb, hml, hown, hts⟩ (metX3_init l dC dI q_51 q dq (stn (fun _ => 0) 0 (fun j => vp_nar .byte (fk j)) 16) (nI 12) H.size (fun i hi => fit_k fk i hi)) (cwI 2 hts (lw_meth q82) rfl rfl rfl (hts _ q15) (hts _ q80) (hts _ q81) rfl (by decide +kernel) ⟨Nat.le_of_ble_eq_true rfl, Nat.le_of_ble_eq_true rfl⟩) ⟨fun a U g mk q => by obtain ⟨q0, q1, qP, qK, qD⟩ := q; exact ⟨q0, q1, qP, va_K.moved (u := U) (U := U.calling g mk a) (Vm.Alike.refl U.vm) qK, qD⟩, fun U hU hW => ⟨rfl, by rw [hU], by rw [hU]; exact hPc, va_K.moved hW.alike hKc, hDc.weaken (fun _ _ _ _ => trivial)⟩⟩ rfl rfl hl.1 rfl (lv_room (Nat.le_of_ble_eq_true rfl)) dX0_run_59 ⟨Nat.le_of_ble_eq_true rfl, Nat.le_of_ble_eq_true rfl⟩) hS (fun q _ h => hFc q h) hFc (fun u t H1 locs ht hvm hw_59 hB hz1 hk1 hS => ?_)
    obtain ⟨u_59, rfl⟩ : ∃ z, z = u := ⟨_, rfl⟩
    have hw_59 : mk8 u_59 = t16 (mk8 (stn (fun _ => 0) 0 (fun j => vp_nar .byte (fk j)) 16)) := hw_59
    obtain ⟨ak_59, dk_59, hP1, hK1, hD1⟩ := hB
    rw [ht] at hP1
    have hK1 := va_K.moved hvm.symm hK1
    obtain ⟨hP, hD⟩ := va_join (wr := [(h0, .inr (0, [.ref ak, .ref ab, .ref ao])), (ak, .inl (dk, 32, .inl fk)), (ab, .inl (db, 16, .inl fb)), (ao, .inl (dd, 16, .inl fo)), (q_39, .inr (2, [.int (nI 12), .null, .int (nI 0)]))]) (w1 := [(q_51, .inr (3, [.ref ak_59, .int (nI 12)])), (q, .inl (dq, 16, .inl (stn (fun _ => 0) 0 (fun j => vp_nar .byte (fk j)) 16))), (ak_59, .inl (dk_59, 16, .inl u_59))]) hP hD [6, 4] [0, 1, 2, 3, 5] rfl rfl (by decide) (by decide) hk1 hFc hP1 hD1
    have hK := (hK.sub (tys' := [(dk, .byte), (db, .byte), (dd, .byte)]) [0, 1, 2] rfl).app hK1
    generalize H1 = H at hP hS ⊢
    have hP : va_P (dC, dI) vwCl [(h0, .inr (0, [.ref ak, .ref ab, .ref ao])), (ak, .inl (dk, 32, .inl fk)), (ab, .inl (db, 16, .inl fb)), (ao, .inl (dd, 16, .inl fo)), (q_39, .inr (2, [.int (nI 12), .null, .int (nI 0)])), (q_51, .inr (3, [.ref ak_59, .int (nI 12)])), (q, .inl (dq, 16, .inl (stn (fun _ => 0) 0 (fun j => vp_nar .byte (fk j)) 16))), (ak_59, .inl (dk_59, 16, .inl u_59))] H := hP
    have hD : va_D A [(h0, .inr (0, [.ref ak, .ref ab, .ref ao])), (ak, .inl (dk, 32, .inl fk)), (ab, .inl (db, 16, .inl fb)), (ao, .inl (dd, 16, .inl fo)), (q_39, .inr (2, [.int (nI 12), .null, .int (nI 0)])), (q_51, .inr (3, [.ref ak_59, .int (nI 12)])), (q, .inl (dq, 16, .inl (stn (fun _ => 0) 0 (fun j => vp_nar .byte (fk j)) 16))), (ak_59, .inl (dk_59, 16, .inl u_59))] := hD
    have hK : va_K (dC, dI) vwCl [(dk, .byte), (db, .byte), (dd, .byte), (dq, .byte), (dk_59, .byte)] s := hK
    have hPc := hP.sub (ws' := [(q_39, .inr (2, [.int (nI 12), .null, .int (nI 0)])), (q_51, .inr (3, [.ref ak_59, .int (nI 12)])), (ak_59, .inl (dk_59, 16, .inl u_59))]) [4, 5, 7] rfl
    have hDc := hD.sub (ws' := [(q_39, .inr (2, [.int (nI 12), .null, .int (nI 0)])), (q_51, .inr (3, [.ref ak_59, .int (nI 12)])), (ak_59, .inl (dk_59, 16, .inl u_59))]) [4, 5, 7] (by decide) rfl
    have hKc := hK.sub (tys' := [(dk_59, .byte)]) [4] rfl
    have hFc := va_free (wc := [(q_39, .inr (2, [.int (nI 12), .null, .int (nI 0)])), (q_51, .inr (3, [.ref ak_59, .int (nI 12)])), (ak_59, .inl (dk_59, 16, .inl u_59))]) hD hS hA [4, 5, 7] rfl
    refine va_callFv (va_runF (As := [.int eb, .ref q_51]) (rest := []) (hK.1 2 _ rfl).2 ⟨hx, hb, hml, hown, hts⟩ (metX2_init_2 l dC dI q_39 q_51 ak_59 dk_59 u_59 eb H.size hne hfe) (va_cwF 2 hts lwF_init rfl rfl rfl hf1 (by decide +kernel) ⟨Nat.le_of_ble_eq_true rfl, Nat.le_of_ble_eq_true rfl⟩) ⟨fun a U g mk q => by obtain ⟨q0, q1, qP, qK, qD⟩ := q; exact ⟨q0, q1, qP, va_K.moved (u := U) (U := U.calling g mk a) (Vm.Alike.refl U.vm) qK, qD⟩, va_recv hK hP (ci := 2) (q0 := 4) rfl rfl, fun U hU hW => ⟨rfl, by rw [hU], by rw [hU]; exact hPc, va_K.moved hW.alike hKc, hDc.weaken (fun _ _ _ _ => trivial)⟩⟩ rfl rfl hl.1 rfl (lv_room (Nat.le_of_ble_eq_true rfl)) dX0_run_62 ⟨Nat.le_of_ble_eq_true rfl, Nat.le_of_ble_eq_true rfl⟩) hS (fun q _ h => hFc q h) hFc (fun u t H1 locs ht hvm hw_62 hB hz1 hk1 hS => ?_)
    obtain ⟨u_62, rfl⟩ : ∃ z, z = u := ⟨_, rfl⟩
    obtain ⟨az_62, ds_62, hP1, hK1, hD1⟩ := hB
    rw [ht] at hP1
    have hK1 := va_K.moved hvm.symm hK1
    obtain ⟨hP, hD⟩ := va_join (wr := [(h0, .inr (0, [.ref ak, .ref ab, .ref ao])), (ak, .inl (dk, 32, .inl fk)), (ab, .inl (db, 16, .inl fb)), (ao, .inl (dd, 16, .inl fo)), (q, .inl (dq, 16, .inl (stn (fun _ => 0) 0 (fun j => vp_nar .byte (fk j)) 16)))]) (w1 := [(q_39, .inr (2, [.int (nI 12), .ref az_62, .int eb])), (q_51, .inr (3, [.ref ak_59, .int (nI 12)])), (ak_59, .inl (dk_59, 16, .inl u_59)), (az_62, .inl (ds_62, 26, .inr (.inl (sch (mk8 u_59)))))]) hP hD [4, 5, 7] [0, 1, 2, 3, 6] rfl rfl (by decide) (by decide) hk1 hFc hP1 hD1
    have hK := (hK.sub (tys' := [(dk, .byte), (db, .byte), (dd, .byte), (dq, .byte)]) [0, 1, 2, 3] rfl).app hK1
    generalize H1 = H at hP hS ⊢
    have hP : va_P (dC, dI) vwCl [(h0, .inr (0, [.ref ak, .ref ab, .ref ao])), (ak, .inl (dk, 32, .inl fk)), (ab, .inl (db, 16, .inl fb)), (ao, .inl (dd, 16, .inl fo)), (q, .inl (dq, 16, .inl (stn (fun _ => 0) 0 (fun j => vp_nar .byte (fk j)) 16))), (q_39, .inr (2, [.int (nI 12), .ref az_62, .int eb])), (q_51, .inr (3, [.ref ak_59, .int (nI 12)])), (ak_59, .inl (dk_59, 16, .inl u_59)), (az_62, .inl (ds_62, 26, .inr (.inl (sch (mk8 u_59)))))] H := hP
    have hD : va_D A [(h0, .inr (0, [.ref ak, .ref ab, .ref ao])), (ak, .inl (dk, 32, .inl fk)), (ab, .inl (db, 16, .inl fb)), (ao, .inl (dd, 16, .inl fo)), (q, .inl (dq, 16, .inl (stn (fun _ => 0) 0 (fun j => vp_nar .byte (fk j)) 16))), (q_39, .inr (2, [.int (nI 12), .ref az_62, .int eb])), (q_51, .inr (3, [.ref ak_59, .int (nI 12)])), (ak_59, .inl (dk_59, 16, .inl u_59)), (az_62, .inl (ds_62, 26, .inr (.inl (sch (mk8 u_59)))))] := hD
    have hK : va_K (dC, dI) vwCl [(dk, .byte), (db, .byte), (dd, .byte), (dq, .byte), (dk_59, .byte), (ds_62, .long)] s := hK
    refine lv_aload hx hb dX0_run_67 (lv_at hl 0 rfl) ?_
    refine lv_aload_n hx hb dX0_run_69 rfl (lv_at hl 1 rfl) ?_
    refine va_get (D := (dC, dI)) (ci := 0) (v := .ref ab) (C := RX0) (T := TX0) (N := 3) hx hb hts in_X0 hown hK hP 0 rfl rfl 1 (by decide) (hts _ q30) (fun _ h9 => h9) rfl dX0_run_70 ?_
    refine lv_iconst (v := nI 0) hx hb dX0_run_73 (by decide) ?_
    refine lv_aload_n hx hb dX0_run_74 rfl (lv_at hl 1 rfl) ?_
    refine va_get (D := (dC, dI)) (ci := 0) (v := .ref ao) (C := RX0) (T := TX0) (N := 3) hx hb hts in_X0 hown hK hP 0 rfl rfl 2 (by decide) (hts _ q31) (fun _ h9 => h9) rfl dX0_run_75 ?_
    refine lv_iconst (v := nI 0) hx hb dX0_run_78 (by decide) ?_
    have hPc := hP.sub (ws' := [(q_39, .inr (2, [.int (nI 12), .ref az_62, .int eb])), (az_62, .inl (ds_62, 26, .inr (.inl (sch (mk8 u_59))))), (ab, .inl (db, 16, .inl fb)), (ao, .inl (dd, 16, .inl fo))]) [5, 8, 2, 3] rfl
    have hDc := hD.sub (ws' := [(q_39, .inr (2, [.int (nI 12), .ref az_62, .int eb])), (az_62, .inl (ds_62, 26, .inr (.inl (sch (mk8 u_59))))), (ab, .inl (db, 16, .inl fb)), (ao, .inl (dd, 16, .inl fo))]) [5, 8, 2, 3] (by decide) rfl
    have hKc := hK.sub (tys' := [(ds_62, .long), (db, .byte), (dd, .byte)]) [5, 1, 2] rfl
    have hFc := va_free (wc := [(q_39, .inr (2, [.int (nI 12), .ref az_62, .int eb])), (az_62, .inl (ds_62, 26, .inr (.inl (sch (mk8 u_59))))), (ab, .inl (db, 16, .inl fb)), (ao, .inl (dd, 16, .inl fo))]) hD hS hA [5, 8, 2, 3] rfl
    refine va_callFi (va_runF (As := [.ref ab, .int (nI 0), .ref ao, .int (nI 0)]) (rest := []) (hK.1 2 _ rfl).2 ⟨hx, hb, hml, hown, hts⟩ (metX2_processBlock l dC dI q_39 az_62 ab ao ds_62 db dd (sch (mk8 u_59)) fb fo eb H.size) (va_cwF 4 hts lwF_proc rfl rfl rfl hf2 (by decide +kernel) ⟨Nat.le_of_ble_eq_true rfl, Nat.le_of_ble_eq_true rfl⟩) ⟨fun a U g mk q => by obtain ⟨q0, q1, qP, qK, qD⟩ := q; exact ⟨q0, q1, qP, va_K.moved (u := U) (U := U.calling g mk a) (Vm.Alike.refl U.vm) qK, qD⟩, va_recv hK hP (ci := 2) (q0 := 5) rfl rfl, fun U hU hW => ⟨rfl, by rw [hU], by rw [hU]; exact hPc, va_K.moved hW.alike hKc, hDc.weaken (fun _ _ _ _ => trivial)⟩⟩ rfl rfl hl.1 rfl (lv_room (Nat.le_of_ble_eq_true rfl)) dX0_run_79 ⟨Nat.le_of_ble_eq_true rfl, Nat.le_of_ble_eq_true rfl⟩) hS (fun q _ h => hFc q h) hFc (fun r_79 u t H1 locs ht hvm hw_79 hB hz1 hk1 hS => ?_)
    obtain ⟨u_79, rfl⟩ : ∃ z, z = u := ⟨_, rfl⟩
    have hw_79 : mk8 u_79 = if eb = 0 then decO (sch (mk8 u_59)) (mk8 fb) (mk8 fo) else encO (sch (mk8 u_59)) (mk8 fb) (mk8 fo) := hw_79
    obtain ⟨hP1, hK1, hD1⟩ := hB
    rw [ht] at hP1
    have hK1 := va_K.moved hvm.symm hK1
    obtain ⟨hP, hD⟩ := va_join (wr := [(h0, .inr (0, [.ref ak, .ref ab, .ref ao])), (ak, .inl (dk, 32, .inl fk)), (q, .inl (dq, 16, .inl (stn (fun _ => 0) 0 (fun j => vp_nar .byte (fk j)) 16))), (q_51, .inr (3, [.ref ak_59, .int (nI 12)])), (ak_59, .inl (dk_59, 16, .inl u_59))]) (w1 := [(q_39, .inr (2, [.int (nI 12), .ref az_62, .int eb])), (az_62, .inl (ds_62, 26, .inr (.inl (sch (mk8 u_59))))), (ab, .inl (db, 16, .inl fb)), (ao, .inl (dd, 16, .inl u_79))]) hP hD [5, 8, 2, 3] [0, 1, 4, 6, 7] rfl rfl (by decide) (by decide) hk1 hFc hP1 hD1
    have hK := (hK.sub (tys' := [(dk, .byte), (dq, .byte), (dk_59, .byte)]) [0, 3, 4] rfl).app hK1
    generalize H1 = H at hP hS ⊢
    have hP : va_P (dC, dI) vwCl [(h0, .inr (0, [.ref ak, .ref ab, .ref ao])), (ak, .inl (dk, 32, .inl fk)), (q, .inl (dq, 16, .inl (stn (fun _ => 0) 0 (fun j => vp_nar .byte (fk j)) 16))), (q_51, .inr (3, [.ref ak_59, .int (nI 12)])), (ak_59, .inl (dk_59, 16, .inl u_59)), (q_39, .inr (2, [.int (nI 12), .ref az_62, .int eb])), (az_62, .inl (ds_62, 26, .inr (.inl (sch (mk8 u_59))))), (ab, .inl (db, 16, .inl fb)), (ao, .inl (dd, 16, .inl u_79))] H := hP
    have hD : va_D A [(h0, .inr (0, [.ref ak, .ref ab, .ref ao])), (ak, .inl (dk, 32, .inl fk)), (q, .inl (dq, 16, .inl (stn (fun _ => 0) 0 (fun j => vp_nar .byte (fk j)) 16))), (q_51, .inr (3, [.ref ak_59, .int (nI 12)])), (ak_59, .inl (dk_59, 16, .inl u_59)), (q_39, .inr (2, [.int (nI 12), .ref az_62, .int eb])), (az_62, .inl (ds_62, 26, .inr (.inl (sch (mk8 u_59))))), (ab, .inl (db, 16, .inl fb)), (ao, .inl (dd, 16, .inl u_79))] := hD
    have hK : va_K (dC, dI) vwCl [(dk, .byte), (dq, .byte), (dk_59, .byte), (ds_62, .long), (db, .byte), (dd, .byte)] s := hK
    refine lv_pop hx hb dX0_run_84 rfl ?_
    refine W.widen (k := 6) (n := 65) (Nat.le_of_ble_eq_true rfl) (Nat.le_of_ble_eq_true rfl) ?_
    have hP9 := hP.sub (ws' := [(h0, .inr (0, [.ref ak, .ref ab, .ref ao])), (ak, .inl (dk, 32, .inl fk)), (ab, .inl (db, 16, .inl fb)), (ao, .inl (dd, 16, .inl u_79))]) [0, 1, 7, 8] rfl
    have hD9 := hD.sub (ws' := [(h0, .inr (0, [.ref ak, .ref ab, .ref ao])), (ak, .inl (dk, 32, .inl fk)), (ab, .inl (db, 16, .inl fb)), (ao, .inl (dd, 16, .inl u_79))]) [0, 1, 7, 8] (by decide) rfl
    have hK9 := hK.sub (tys' := [(dk, .byte), (db, .byte), (dd, .byte)]) [0, 4, 5] rfl
    have hpost : mk8 u_79 = if eb = 0 then decO (sch (mk8 fk)) (mk8 fb) (mk8 fo) else encO (sch (mk8 fk)) (mk8 fb) (mk8 fo) := by rw [hw_79, key_k fk u_59 hw_59]
    exact W.vret hx hb hr (fun t ht hW => ⟨⟨u_79, rfl, hpost, by rw [ht]; exact hP9, va_K.moved hW.alike hK9, hD9⟩, hS.F ht⟩) hS.2.2 dX0_run_85
  have lp : ∀ (fu : Nat), ∀ (q : Nat) (dq : ClassId) (i : Nat), (17 - i) < fu → i ≤ 16 → va_K (dC, dI) vwCl [(dk, .byte), (db, .byte), (dd, .byte), (dq, .byte)] s → ∀ (H : Heap) (locs : List Loc), va_P (dC, dI) vwCl [(h0, .inr (0, [.ref ak, .ref ab, .ref ao])), (ak, .inl (dk, 32, .inl fk)), (ab, .inl (db, 16, .inl fb)), (ao, .inl (dd, 16, .inl fo)), (q, .inl (dq, 16, .inl (stn (fun _ => 0) 0 (fun j => vp_nar .byte (fk j)) i)))] H → va_D A [(h0, .inr (0, [.ref ak, .ref ab, .ref ao])), (ak, .inl (dk, 32, .inl fk)), (ab, .inl (db, 16, .inl fb)), (ao, .inl (dd, 16, .inl fo)), (q, .inl (dq, 16, .inl (stn (fun _ => 0) 0 (fun j => vp_nar .byte (fk j)) i)))] → va_S A s.heap H locs → ∀ (ls : Array Slot), lv_has ls 6 [(0, .ref h0), (1, .int eb), (2, .int x), (3, .int (nI 16)), (4, .ref q), (5, .int (nI i))] → W p l e (headSpec wsX0_run ({ frames := 3, cells := 6, slots := 65, locals := 78 })).room s m ([.ref h0, .int eb, .int x] : List Value).toArray below meth c H locs (1) (16) (MQ below (va_Qv (fun (u : Nat → Int32) => mk8 u = if eb = 0 then decO (sch (mk8 fk)) (mk8 fb) (mk8 fo) else encO (sch (mk8 fk)) (mk8 fb) (mk8 fo)) (BX0_run dC dI A h0 ak ab ao dk db dd fk fb fo eb x) A) ([.ref h0, .int eb, .int x] : List Value).toArray s 6 65 A) (F0 m 15 ls []) := by
    intro fu
    induction fu with
    | zero => intro q dq i hme; exact absurd hme (Nat.not_lt_zero _)
    | succ fu ih =>
      intro q dq i hme hi16 hK H locs hP hD hS ls hl
      refine lv_iload hx hb dX0_run_15 (lv_at hl 5 rfl) ?_
      refine lv_iload_n hx hb dX0_run_17 rfl (lv_at hl 3 rfl) ?_
      refine lv_icmp_ge (tgt := 39) hx hb dX0_run_18 (by decide) (fun c_18 => ?_) (fun c_18 => ?_)
      · have hk2 : i = 16 := by
          rcases Nat.lt_or_ge i 16 with q | q
          · exact absurd c_18 (nI_ge q (by omega))
          · omega
        subst hk2
        exact b1 q dq (hK.sub [0, 1, 2, 3] rfl) _ _ (hP.sub (ws' := [(h0, .inr (0, [.ref ak, .ref ab, .ref ao])), (ak, .inl (dk, 32, .inl fk)), (ab, .inl (db, 16, .inl fb)), (ao, .inl (dd, 16, .inl fo)), (q, .inl (dq, 16, .inl (stn (fun _ => 0) 0 (fun j => vp_nar .byte (fk j)) 16)))]) [0, 1, 2, 3, 4] rfl) (hD.sub (ws' := [(h0, .inr (0, [.ref ak, .ref ab, .ref ao])), (ak, .inl (dk, 32, .inl fk)), (ab, .inl (db, 16, .inl fb)), (ao, .inl (dd, 16, .inl fo)), (q, .inl (dq, 16, .inl (stn (fun _ => 0) 0 (fun j => vp_nar .byte (fk j)) 16)))]) [0, 1, 2, 3, 4] (by decide) rfl) hS _ (lv_sub hl [0, 1, 2, 4] rfl)
      · have hlt : i < 16 := by
          rcases Nat.lt_or_ge i 16 with q | q
          · exact q
          · exact absurd (nI_le q (by omega)) c_18
        refine lv_aload hx hb dX0_run_21 (lv_at hl 4 rfl) ?_
        refine lv_iload hx hb dX0_run_23 (lv_at hl 5 rfl) ?_
        refine lv_aload_n hx hb dX0_run_25 rfl (lv_at hl 0 rfl) ?_
        refine va_get (D := (dC, dI)) (ci := 0) (v := .ref ak) (C := RX0) (T := TX0) (N := 3) hx hb hts in_X0 hown hK hP 0 rfl rfl 0 (by decide) (hts _ q29) (fun _ h9 => h9) rfl dX0_run_26 ?_
        refine lv_iload hx hb dX0_run_29 (lv_at hl 5 rfl) ?_
        refine va_bald hx hb hK hP 1 0 rfl rfl (vp_in_nI (n := i) (N := 32) (by omega) (by omega)) dX0_run_31 ?_
        refine lv_topi (fun t_31 et_31 => ?_)
        have et_31 : t_31 = fk i := et_31.trans (congrArg fk (nI_clamp (n := i) (by omega)))
        subst et_31
        refine va_bast hx hb hK hP hD hS 4 3 rfl rfl (vp_in_nI (n := i) (N := 16) (by omega) (by omega)) dX0_run_32 (fun H locs hP hD hS => ?_)
        rw [nI_clamp (n := i) (by omega)] at hP hD
        have eg_32 : upd (stn (fun _ => 0) 0 (fun j => vp_nar .byte (fk j)) i) i (vp_nar .byte (fk i)) = stn (fun _ => 0) 0 (fun j => vp_nar .byte (fk j)) (i + 1) := stn_z _ _ i
        rw [eg_32] at hP hD
        have hP : va_P (dC, dI) vwCl [(h0, .inr (0, [.ref ak, .ref ab, .ref ao])), (ak, .inl (dk, 32, .inl fk)), (ab, .inl (db, 16, .inl fb)), (ao, .inl (dd, 16, .inl fo)), (q, .inl (dq, 16, .inl (stn (fun _ => 0) 0 (fun j => vp_nar .byte (fk j)) (i + 1))))] H := hP
        have hD : va_D A [(h0, .inr (0, [.ref ak, .ref ab, .ref ao])), (ak, .inl (dk, 32, .inl fk)), (ab, .inl (db, 16, .inl fb)), (ao, .inl (dd, 16, .inl fo)), (q, .inl (dq, 16, .inl (stn (fun _ => 0) 0 (fun j => vp_nar .byte (fk j)) (i + 1))))] := hD
        refine lv_iinc (v := nI (i + 1)) (lv' := [(5, .int (nI (i + 1))), (0, .ref h0), (1, .int eb), (2, .int x), (3, .int (nI 16)), (4, .ref q)]) hx hb dX0_run_33 hl (k := 5) rfl (nI_1 i) (by decide) rfl (fun ls hl => ?_)
        refine lv_goto (tgt := 15) hx hb dX0_run_36 (by decide) ?_
        exact ih q dq (i + 1) (by omega) (by omega) (hK.sub [0, 1, 2, 3] rfl) _ _ (hP.sub (ws' := [(h0, .inr (0, [.ref ak, .ref ab, .ref ao])), (ak, .inl (dk, 32, .inl fk)), (ab, .inl (db, 16, .inl fb)), (ao, .inl (dd, 16, .inl fo)), (q, .inl (dq, 16, .inl (stn (fun _ => 0) 0 (fun j => vp_nar .byte (fk j)) (i + 1))))]) [0, 1, 2, 3, 4] rfl) (hD.sub (ws' := [(h0, .inr (0, [.ref ak, .ref ab, .ref ao])), (ak, .inl (dk, 32, .inl fk)), (ab, .inl (db, 16, .inl fb)), (ao, .inl (dd, 16, .inl fo)), (q, .inl (dq, 16, .inl (stn (fun _ => 0) 0 (fun j => vp_nar .byte (fk j)) (i + 1))))]) [0, 1, 2, 3, 4] (by decide) rfl) hS _ (lv_sub hl [1, 2, 3, 4, 5, 0] rfl)
  refine lv_iload_n hx hb dX0_run_0 rfl (lv_at hl 2 rfl) ?_
  refine lv_iconst (v := nI 3) hx hb dX0_run_1 (by decide) ?_
  refine lv_iand hx hb dX0_run_2 ?_
  have hPc := hP.sub (ws' := []) [] rfl
  have hDc := hD.sub (ws' := []) [] (by decide) rfl
  have hKc := hK.sub (tys' := []) [] rfl
  have hFc := va_free (wc := []) hD hS hA [] rfl
  refine va_calli (va_runS (As := [.int (x &&& (nI 3))]) (rest := []) ⟨hx, hb, hml, hown, hts⟩ (metX0_size l dC dI (x &&& (nI 3)) s.heap.size) (va_cwS 1 hts (lw_S q59 q60 q12 q61) rfl rfl rfl (by decide +kernel) ⟨Nat.le_of_ble_eq_true rfl, Nat.le_of_ble_eq_true rfl⟩) ⟨fun a U g mk q => by obtain ⟨q0, q1, qP, qK, qD⟩ := q; exact ⟨q0, q1, qP, va_K.moved (u := U) (U := U.calling g mk a) (Vm.Alike.refl U.vm) qK, qD⟩, fun U hU hW => ⟨rfl, by rw [hU], by rw [hU]; exact hPc, va_K.moved hW.alike hKc, hDc.weaken (fun _ _ _ _ => trivial)⟩⟩ rfl rfl hl.1 rfl (lv_room (Nat.le_of_ble_eq_true rfl)) dX0_run_3 ⟨Nat.le_of_ble_eq_true rfl, Nat.le_of_ble_eq_true rfl⟩) hS (fun q _ h => hFc q h) hFc (fun r_3 u t H1 locs ht hvm hw_3 hB hz1 hk1 hS => ?_)
  obtain ⟨u_3, rfl⟩ : ∃ z, z = u := ⟨_, rfl⟩
  have hw_3 : r_3 = nI 16 := hw_3
  obtain ⟨hP1, hK1, hD1⟩ := hB
  have hw_3 := hw_3.symm
  subst hw_3
  rw [ht] at hP1
  have hK1 := va_K.moved hvm.symm hK1
  obtain ⟨hP, hD⟩ := va_join (wr := [(h0, .inr (0, [.ref ak, .ref ab, .ref ao])), (ak, .inl (dk, 32, .inl fk)), (ab, .inl (db, 16, .inl fb)), (ao, .inl (dd, 16, .inl fo))]) (w1 := []) hP hD [] [0, 1, 2, 3] rfl rfl (by decide) (by decide) hk1 hFc hP1 hD1
  have hK := (hK.sub (tys' := [(dk, .byte), (db, .byte), (dd, .byte)]) [0, 1, 2] rfl).app hK1
  generalize H1 = H at hP hS ⊢
  have hP : va_P (dC, dI) vwCl [(h0, .inr (0, [.ref ak, .ref ab, .ref ao])), (ak, .inl (dk, 32, .inl fk)), (ab, .inl (db, 16, .inl fb)), (ao, .inl (dd, 16, .inl fo))] H := hP
  have hD : va_D A [(h0, .inr (0, [.ref ak, .ref ab, .ref ao])), (ak, .inl (dk, 32, .inl fk)), (ab, .inl (db, 16, .inl fb)), (ao, .inl (dd, 16, .inl fo))] := hD
  have hK : va_K (dC, dI) vwCl [(dk, .byte), (db, .byte), (dd, .byte)] s := hK
  refine lv_istore_n (lv' := [(3, .int (nI 16)), (0, .ref h0), (1, .int eb), (2, .int x)]) hx hb dX0_run_6 rfl hl (by decide) rfl (fun ls hl => ?_)
  refine lv_iload_n hx hb dX0_run_7 rfl (lv_at hl 0 rfl) ?_
  refine va_newa (atype := .byte) (ty := .byte) (N' := 16) (a0 := (16, .inl (fun _ => 0))) hx hb (hts _ q39) rfl hK hP hD hS hA (fun _ => rfl) (nI_pos (n := 16) (by omega)) (nI_clamp (n := 16) (by omega)) (Nat.le_of_ble_eq_true rfl) (Nat.le_of_ble_eq_true rfl) (Nat.le_of_ble_eq_true rfl) dX0_run_8 (fun q_8 d_8 H hK hP hD hS => ?_)
  have hP : va_P (dC, dI) vwCl [(h0, .inr (0, [.ref ak, .ref ab, .ref ao])), (ak, .inl (dk, 32, .inl fk)), (ab, .inl (db, 16, .inl fb)), (ao, .inl (dd, 16, .inl fo)), (q_8, .inl (d_8, 16, .inl (fun _ => 0)))] H := hP
  have hD : va_D A [(h0, .inr (0, [.ref ak, .ref ab, .ref ao])), (ak, .inl (dk, 32, .inl fk)), (ab, .inl (db, 16, .inl fb)), (ao, .inl (dd, 16, .inl fo)), (q_8, .inl (d_8, 16, .inl (fun _ => 0)))] := hD
  have hK : va_K (dC, dI) vwCl [(dk, .byte), (db, .byte), (dd, .byte), (d_8, .byte)] s := hK
  refine lv_astore (lv' := [(4, .ref q_8), (3, .int (nI 16)), (0, .ref h0), (1, .int eb), (2, .int x)]) hx hb dX0_run_10 hl (by decide) rfl (fun ls hl => ?_)
  refine lv_iconst (v := nI 0) hx hb dX0_run_12 (by decide) ?_
  refine lv_istore (lv' := [(5, .int (nI 0)), (4, .ref q_8), (3, .int (nI 16)), (0, .ref h0), (1, .int eb), (2, .int x)]) hx hb dX0_run_13 hl (by decide) rfl (fun ls hl => ?_)
  have hz : stn (fun _ => 0) 0 (fun j => vp_nar .byte (fk j)) 0 = (fun _ => 0) := stn_0 _ _ _
  rw [← hz] at hP hD
  refine W.widen (k := 1) (n := 16) (Nat.le_of_ble_eq_true rfl) (Nat.le_of_ble_eq_true rfl) ?_
  exact lp _ q_8 d_8 0 (Nat.lt_succ_self _) (by omega) (hK.sub [0, 1, 2, 3] rfl) _ _ (hP.sub (ws' := [(h0, .inr (0, [.ref ak, .ref ab, .ref ao])), (ak, .inl (dk, 32, .inl fk)), (ab, .inl (db, 16, .inl fb)), (ao, .inl (dd, 16, .inl fo)), (q_8, .inl (d_8, 16, .inl (stn (fun _ => 0) 0 (fun j => vp_nar .byte (fk j)) 0)))]) [0, 1, 2, 3, 4] rfl) (hD.sub (ws' := [(h0, .inr (0, [.ref ak, .ref ab, .ref ao])), (ak, .inl (dk, 32, .inl fk)), (ab, .inl (db, 16, .inl fb)), (ao, .inl (dd, 16, .inl fo)), (q_8, .inl (d_8, 16, .inl (stn (fun _ => 0) 0 (fun j => vp_nar .byte (fk j)) 0)))]) [0, 1, 2, 3, 4] (by decide) rfl) hS _ (lv_sub hl [3, 4, 5, 2, 1, 0] rfl)

abbrev wsX0_lock : List Cond := ws_ yX0_lock cX0_lock 2 none
abbrev BX0_lock (dC : Nat → ClassId) (dI : Nat → Nat → Nat) (A : Nat → Prop) (h0 : Nat) (ak : Nat) (ab : Nat) (ao : Nat) (dk : ClassId) (db : ClassId) (dd : ClassId) (fk : Nat → Int32) (fb : Nat → Int32) (fo : Nat → Int32) (x : Int32) (u : Nat → Int32) (t : State) : Prop := va_P (dC, dI) vwCl [(h0, .inr (0, [.ref ak, .ref ab, .ref ao])), (ak, .inl (dk, 32, .inl fk)), (ab, .inl (db, 16, .inl fb)), (ao, .inl (dd, 16, .inl u))] t.heap ∧ va_K (dC, dI) vwCl [(dk, .byte), (db, .byte), (dd, .byte)] t ∧ va_D A [(h0, .inr (0, [.ref ak, .ref ab, .ref ao])), (ak, .inl (dk, 32, .inl fk)), (ab, .inl (db, 16, .inl fb)), (ao, .inl (dd, 16, .inl u))]
set_option maxHeartbeats 4000000 in
set_option maxRecDepth 100000 in
/-- lock(kind) -/
theorem metX0_lock (l : Launch) (dC : Nat → ClassId) (dI : Nat → Nat → Nat) (h0 : Nat) (ak : Nat) (ab : Nat) (ao : Nat) (dk : ClassId) (db : ClassId) (dd : ClassId) (fk : Nat → Int32) (fb : Nat → Int32) (fo : Nat → Int32) (x : Int32) (sz : Nat) : Met l yX0_lock wsX0_lock ({ frames := 4, cells := 6, slots := 65, locals := 103 }) (va_Pc [.ref h0, .int x] (fun U => U.heap.size = sz ∧ va_P (dC, dI) vwCl [(h0, .inr (0, [.ref ak, .ref ab, .ref ao])), (ak, .inl (dk, 32, .inl fk)), (ab, .inl (db, 16, .inl fb)), (ao, .inl (dd, 16, .inl fo))] U.heap ∧ va_K (dC, dI) vwCl [(dk, .byte), (db, .byte), (dd, .byte)] U ∧ va_D (fun _ => True) [(h0, .inr (0, [.ref ak, .ref ab, .ref ao])), (ak, .inl (dk, 32, .inl fk)), (ab, .inl (db, 16, .inl fb)), (ao, .inl (dd, 16, .inl fo))] ∧ va_Fw "RC564Engine" xInit yX2_init_2 U ∧ va_Fw "RC564Engine" xProc yX2_processBlock U)) (va_Qv (fun (u : Nat → Int32) => mk8 u = encO (sch (mk8 fk)) (mk8 fb) (mk8 fo)) (BX0_lock dC dI (va_A [(h0, .inr (0, [.ref ak, .ref ab, .ref ao])), (ak, .inl (dk, 32, .inl fk)), (ab, .inl (db, 16, .inl fb)), (ao, .inl (dd, 16, .inl fo))] sz) h0 ak ab ao dk db dd fk fb fo x) (va_A [(h0, .inr (0, [.ref ak, .ref ab, .ref ao])), (ak, .inl (dk, 32, .inl fk)), (ab, .inl (db, 16, .inl fb)), (ao, .inl (dd, 16, .inl fo))] sz)) 6 65 (va_A [(h0, .inr (0, [.ref ak, .ref ab, .ref ao])), (ak, .inl (dk, 32, .inl fk)), (ab, .inl (db, 16, .inl fb)), (ao, .inl (dd, 16, .inl fo))] sz) := by
  refine Met.ofW (cc := cX0_lock) (maxL := 2) (ret := none) (by decide) rfl ?_
  intro p e s m args below meth c s₁ B hml hv
  obtain ⟨rfl, hsz, hP, hK, hD0, hf1, hf2⟩ := hv
  have hx := B.exec
  have hb := B.bytes
  have hr := B.returns
  have hts := atoms_spec (ws := wsX0_lock) B.pre
  have hts : ∀ w ∈ lw_all, w.before _ s = true := fun w h => hts w (List.mem_cons_of_mem _ h)
  have hown : s.vm.findClass RX0 = some m.cls := findClass_of_methodNamed B.named
  have hlocks := B.notSynchronized
  subst hsz
  have hD := hD0.self (sz := s.heap.size)
  generalize hAe : va_A [(h0, .inr (0, [.ref ak, .ref ab, .ref ao])), (ak, .inl (dk, 32, .inl fk)), (ab, .inl (db, 16, .inl fb)), (ao, .inl (dd, 16, .inl fo))] s.heap.size = A at hD ⊢
  have hA : ∀ q : Nat, s.heap.size ≤ q → A q := fun q h => by rw [← hAe]; exact Or.inr h
  have hS : va_S A s.heap s.heap [] := va_S.rf
  have hP : va_P (dC, dI) vwCl [(h0, .inr (0, [.ref ak, .ref ab, .ref ao])), (ak, .inl (dk, 32, .inl fk)), (ab, .inl (db, 16, .inl fb)), (ao, .inl (dd, 16, .inl fo))] s.heap := hP
  have hl := lv_entry ([.ref h0, .int x]) (n := 2) (Nat.le_of_ble_eq_true rfl)
  rw [lg_entry_eq]
  generalize (lg_sl ([.ref h0, .int x]) ++ List.replicate (2 - (lg_sl ([.ref h0, .int x])).length) Slot.unset).toArray = ls at hl ⊢
  have hl : lv_has ls 2 [(0, .ref h0), (1, .int x)] := hl
  refine lv_aload_n hx hb dX0_lock_0 rfl (lv_at hl 0 rfl) ?_
  refine lv_iconst (v := nI 1) hx hb dX0_lock_1 (by decide) ?_
  refine lv_iload_n hx hb dX0_lock_2 rfl (lv_at hl 1 rfl) ?_
  have hPc := hP.sub (ws' := [(h0, .inr (0, [.ref ak, .ref ab, .ref ao])), (ak, .inl (dk, 32, .inl fk)), (ab, .inl (db, 16, .inl fb)), (ao, .inl (dd, 16, .inl fo))]) [0, 1, 2, 3] rfl
  have hDc := hD.sub (ws' := [(h0, .inr (0, [.ref ak, .ref ab, .ref ao])), (ak, .inl (dk, 32, .inl fk)), (ab, .inl (db, 16, .inl fb)), (ao, .inl (dd, 16, .inl fo))]) [0, 1, 2, 3] (by decide) rfl
  have hKc := hK.sub (tys' := [(dk, .byte), (db, .byte), (dd, .byte)]) [0, 1, 2] rfl
  have hFc := va_free (wc := [(h0, .inr (0, [.ref ak, .ref ab, .ref ao])), (ak, .inl (dk, 32, .inl fk)), (ab, .inl (db, 16, .inl fb)), (ao, .inl (dd, 16, .inl fo))]) hD hS hA [0, 1, 2, 3] rfl
  refine va_callv (va_runV (As := [.int (nI 1), .int x]) (rest := []) ⟨hx, hb, hml, hown, hts⟩ (metX0_run l dC dI h0 ak ab ao dk db dd fk fb fo (nI 1) x s.heap.size rfl rfl) (cwV 2 hts (lw_V q55 q57 qs0 q12 q58) rfl rfl rfl (by decide +kernel) ⟨Nat.le_of_ble_eq_true rfl, Nat.le_of_ble_eq_true rfl⟩) ⟨fun a U g mk q => by obtain ⟨q0, q1, qP, qK, qD, f0, f1⟩ := q; exact ⟨q0, q1, qP, va_K.moved (u := U) (U := U.calling g mk a) (Vm.Alike.refl U.vm) qK, qD, va_Fw.moved (by decide) (Vm.Alike.refl U.vm) f0, va_Fw.moved (by decide) (Vm.Alike.refl U.vm) f1⟩, va_recv hK hP (ci := 0) (q0 := 0) rfl rfl, fun U hU hW => ⟨rfl, by rw [hU], by rw [hU]; exact hPc, va_K.moved hW.alike hKc, hDc.weaken (fun _ _ _ _ => trivial), va_Fw.moved (by decide) hW.alike hf1, va_Fw.moved (by decide) hW.alike hf2⟩⟩ rfl rfl hl.1 rfl (lv_room (Nat.le_of_ble_eq_true rfl)) dX0_lock_3 ⟨Nat.le_of_ble_eq_true rfl, Nat.le_of_ble_eq_true rfl⟩) hS (fun q _ h => hFc q h) hFc (fun u t H1 locs ht hvm hw_3 hB hz1 hk1 hS => ?_)
  obtain ⟨u_3, rfl⟩ : ∃ z, z = u := ⟨_, rfl⟩
  have hw_3 : mk8 u_3 = if (nI 1) = 0 then decO (sch (mk8 fk)) (mk8 fb) (mk8 fo) else encO (sch (mk8 fk)) (mk8 fb) (mk8 fo) := hw_3
  obtain ⟨hP1, hK1, hD1⟩ := hB
  rw [ht] at hP1
  have hK1 := va_K.moved hvm.symm hK1
  obtain ⟨hP, hD⟩ := va_join (wr := []) (w1 := [(h0, .inr (0, [.ref ak, .ref ab, .ref ao])), (ak, .inl (dk, 32, .inl fk)), (ab, .inl (db, 16, .inl fb)), (ao, .inl (dd, 16, .inl u_3))]) hP hD [0, 1, 2, 3] [] rfl rfl (by decide) (by decide) hk1 hFc hP1 hD1
  have hK := (hK.sub (tys' := []) [] rfl).app hK1
  generalize H1 = H at hP hS ⊢
  have hP : va_P (dC, dI) vwCl [(h0, .inr (0, [.ref ak, .ref ab, .ref ao])), (ak, .inl (dk, 32, .inl fk)), (ab, .inl (db, 16, .inl fb)), (ao, .inl (dd, 16, .inl u_3))] H := hP
  have hD : va_D A [(h0, .inr (0, [.ref ak, .ref ab, .ref ao])), (ak, .inl (dk, 32, .inl fk)), (ab, .inl (db, 16, .inl fb)), (ao, .inl (dd, 16, .inl u_3))] := hD
  have hK : va_K (dC, dI) vwCl [(dk, .byte), (db, .byte), (dd, .byte)] s := hK
  refine W.widen (k := 6) (n := 65) (Nat.le_of_ble_eq_true rfl) (Nat.le_of_ble_eq_true rfl) ?_
  have hP9 := hP.sub (ws' := [(h0, .inr (0, [.ref ak, .ref ab, .ref ao])), (ak, .inl (dk, 32, .inl fk)), (ab, .inl (db, 16, .inl fb)), (ao, .inl (dd, 16, .inl u_3))]) [0, 1, 2, 3] rfl
  have hD9 := hD.sub (ws' := [(h0, .inr (0, [.ref ak, .ref ab, .ref ao])), (ak, .inl (dk, 32, .inl fk)), (ab, .inl (db, 16, .inl fb)), (ao, .inl (dd, 16, .inl u_3))]) [0, 1, 2, 3] (by decide) rfl
  have hK9 := hK.sub (tys' := [(dk, .byte), (db, .byte), (dd, .byte)]) [0, 1, 2] rfl
  have hpost : mk8 u_3 = encO (sch (mk8 fk)) (mk8 fb) (mk8 fo) := by rw [hw_3, if_neg (by decide)]
  exact W.vret hx hb hr (fun t ht hW => ⟨⟨u_3, rfl, hpost, by rw [ht]; exact hP9, va_K.moved hW.alike hK9, hD9⟩, hS.F ht⟩) hS.2.2 dX0_lock_6

abbrev wsX0_open : List Cond := ws_ yX0_open cX0_open 2 none
abbrev BX0_open (dC : Nat → ClassId) (dI : Nat → Nat → Nat) (A : Nat → Prop) (h0 : Nat) (ak : Nat) (ab : Nat) (ao : Nat) (dk : ClassId) (db : ClassId) (dd : ClassId) (fk : Nat → Int32) (fb : Nat → Int32) (fo : Nat → Int32) (x : Int32) (u : Nat → Int32) (t : State) : Prop := va_P (dC, dI) vwCl [(h0, .inr (0, [.ref ak, .ref ab, .ref ao])), (ak, .inl (dk, 32, .inl fk)), (ab, .inl (db, 16, .inl fb)), (ao, .inl (dd, 16, .inl u))] t.heap ∧ va_K (dC, dI) vwCl [(dk, .byte), (db, .byte), (dd, .byte)] t ∧ va_D A [(h0, .inr (0, [.ref ak, .ref ab, .ref ao])), (ak, .inl (dk, 32, .inl fk)), (ab, .inl (db, 16, .inl fb)), (ao, .inl (dd, 16, .inl u))]
set_option maxHeartbeats 4000000 in
set_option maxRecDepth 100000 in
/-- open(kind) -/
theorem metX0_open (l : Launch) (dC : Nat → ClassId) (dI : Nat → Nat → Nat) (h0 : Nat) (ak : Nat) (ab : Nat) (ao : Nat) (dk : ClassId) (db : ClassId) (dd : ClassId) (fk : Nat → Int32) (fb : Nat → Int32) (fo : Nat → Int32) (x : Int32) (sz : Nat) : Met l yX0_open wsX0_open ({ frames := 4, cells := 6, slots := 65, locals := 103 }) (va_Pc [.ref h0, .int x] (fun U => U.heap.size = sz ∧ va_P (dC, dI) vwCl [(h0, .inr (0, [.ref ak, .ref ab, .ref ao])), (ak, .inl (dk, 32, .inl fk)), (ab, .inl (db, 16, .inl fb)), (ao, .inl (dd, 16, .inl fo))] U.heap ∧ va_K (dC, dI) vwCl [(dk, .byte), (db, .byte), (dd, .byte)] U ∧ va_D (fun _ => True) [(h0, .inr (0, [.ref ak, .ref ab, .ref ao])), (ak, .inl (dk, 32, .inl fk)), (ab, .inl (db, 16, .inl fb)), (ao, .inl (dd, 16, .inl fo))] ∧ va_Fw "RC564Engine" xInit yX2_init_2 U ∧ va_Fw "RC564Engine" xProc yX2_processBlock U)) (va_Qv (fun (u : Nat → Int32) => mk8 u = decO (sch (mk8 fk)) (mk8 fb) (mk8 fo)) (BX0_open dC dI (va_A [(h0, .inr (0, [.ref ak, .ref ab, .ref ao])), (ak, .inl (dk, 32, .inl fk)), (ab, .inl (db, 16, .inl fb)), (ao, .inl (dd, 16, .inl fo))] sz) h0 ak ab ao dk db dd fk fb fo x) (va_A [(h0, .inr (0, [.ref ak, .ref ab, .ref ao])), (ak, .inl (dk, 32, .inl fk)), (ab, .inl (db, 16, .inl fb)), (ao, .inl (dd, 16, .inl fo))] sz)) 6 65 (va_A [(h0, .inr (0, [.ref ak, .ref ab, .ref ao])), (ak, .inl (dk, 32, .inl fk)), (ab, .inl (db, 16, .inl fb)), (ao, .inl (dd, 16, .inl fo))] sz) := by
  refine Met.ofW (cc := cX0_open) (maxL := 2) (ret := none) (by decide) rfl ?_
  intro p e s m args below meth c s₁ B hml hv
  obtain ⟨rfl, hsz, hP, hK, hD0, hf1, hf2⟩ := hv
  have hx := B.exec
  have hb := B.bytes
  have hr := B.returns
  have hts := atoms_spec (ws := wsX0_open) B.pre
  have hts : ∀ w ∈ lw_all, w.before _ s = true := fun w h => hts w (List.mem_cons_of_mem _ h)
  have hown : s.vm.findClass RX0 = some m.cls := findClass_of_methodNamed B.named
  have hlocks := B.notSynchronized
  subst hsz
  have hD := hD0.self (sz := s.heap.size)
  generalize hAe : va_A [(h0, .inr (0, [.ref ak, .ref ab, .ref ao])), (ak, .inl (dk, 32, .inl fk)), (ab, .inl (db, 16, .inl fb)), (ao, .inl (dd, 16, .inl fo))] s.heap.size = A at hD ⊢
  have hA : ∀ q : Nat, s.heap.size ≤ q → A q := fun q h => by rw [← hAe]; exact Or.inr h
  have hS : va_S A s.heap s.heap [] := va_S.rf
  have hP : va_P (dC, dI) vwCl [(h0, .inr (0, [.ref ak, .ref ab, .ref ao])), (ak, .inl (dk, 32, .inl fk)), (ab, .inl (db, 16, .inl fb)), (ao, .inl (dd, 16, .inl fo))] s.heap := hP
  have hl := lv_entry ([.ref h0, .int x]) (n := 2) (Nat.le_of_ble_eq_true rfl)
  rw [lg_entry_eq]
  generalize (lg_sl ([.ref h0, .int x]) ++ List.replicate (2 - (lg_sl ([.ref h0, .int x])).length) Slot.unset).toArray = ls at hl ⊢
  have hl : lv_has ls 2 [(0, .ref h0), (1, .int x)] := hl
  refine lv_aload_n hx hb dX0_open_0 rfl (lv_at hl 0 rfl) ?_
  refine lv_iconst (v := nI 0) hx hb dX0_open_1 (by decide) ?_
  refine lv_iload_n hx hb dX0_open_2 rfl (lv_at hl 1 rfl) ?_
  have hPc := hP.sub (ws' := [(h0, .inr (0, [.ref ak, .ref ab, .ref ao])), (ak, .inl (dk, 32, .inl fk)), (ab, .inl (db, 16, .inl fb)), (ao, .inl (dd, 16, .inl fo))]) [0, 1, 2, 3] rfl
  have hDc := hD.sub (ws' := [(h0, .inr (0, [.ref ak, .ref ab, .ref ao])), (ak, .inl (dk, 32, .inl fk)), (ab, .inl (db, 16, .inl fb)), (ao, .inl (dd, 16, .inl fo))]) [0, 1, 2, 3] (by decide) rfl
  have hKc := hK.sub (tys' := [(dk, .byte), (db, .byte), (dd, .byte)]) [0, 1, 2] rfl
  have hFc := va_free (wc := [(h0, .inr (0, [.ref ak, .ref ab, .ref ao])), (ak, .inl (dk, 32, .inl fk)), (ab, .inl (db, 16, .inl fb)), (ao, .inl (dd, 16, .inl fo))]) hD hS hA [0, 1, 2, 3] rfl
  refine va_callv (va_runV (As := [.int (nI 0), .int x]) (rest := []) ⟨hx, hb, hml, hown, hts⟩ (metX0_run l dC dI h0 ak ab ao dk db dd fk fb fo (nI 0) x s.heap.size rfl rfl) (cwV 2 hts (lw_V q55 q57 qs0 q12 q58) rfl rfl rfl (by decide +kernel) ⟨Nat.le_of_ble_eq_true rfl, Nat.le_of_ble_eq_true rfl⟩) ⟨fun a U g mk q => by obtain ⟨q0, q1, qP, qK, qD, f0, f1⟩ := q; exact ⟨q0, q1, qP, va_K.moved (u := U) (U := U.calling g mk a) (Vm.Alike.refl U.vm) qK, qD, va_Fw.moved (by decide) (Vm.Alike.refl U.vm) f0, va_Fw.moved (by decide) (Vm.Alike.refl U.vm) f1⟩, va_recv hK hP (ci := 0) (q0 := 0) rfl rfl, fun U hU hW => ⟨rfl, by rw [hU], by rw [hU]; exact hPc, va_K.moved hW.alike hKc, hDc.weaken (fun _ _ _ _ => trivial), va_Fw.moved (by decide) hW.alike hf1, va_Fw.moved (by decide) hW.alike hf2⟩⟩ rfl rfl hl.1 rfl (lv_room (Nat.le_of_ble_eq_true rfl)) dX0_open_3 ⟨Nat.le_of_ble_eq_true rfl, Nat.le_of_ble_eq_true rfl⟩) hS (fun q _ h => hFc q h) hFc (fun u t H1 locs ht hvm hw_3 hB hz1 hk1 hS => ?_)
  obtain ⟨u_3, rfl⟩ : ∃ z, z = u := ⟨_, rfl⟩
  have hw_3 : mk8 u_3 = if (nI 0) = 0 then decO (sch (mk8 fk)) (mk8 fb) (mk8 fo) else encO (sch (mk8 fk)) (mk8 fb) (mk8 fo) := hw_3
  obtain ⟨hP1, hK1, hD1⟩ := hB
  rw [ht] at hP1
  have hK1 := va_K.moved hvm.symm hK1
  obtain ⟨hP, hD⟩ := va_join (wr := []) (w1 := [(h0, .inr (0, [.ref ak, .ref ab, .ref ao])), (ak, .inl (dk, 32, .inl fk)), (ab, .inl (db, 16, .inl fb)), (ao, .inl (dd, 16, .inl u_3))]) hP hD [0, 1, 2, 3] [] rfl rfl (by decide) (by decide) hk1 hFc hP1 hD1
  have hK := (hK.sub (tys' := []) [] rfl).app hK1
  generalize H1 = H at hP hS ⊢
  have hP : va_P (dC, dI) vwCl [(h0, .inr (0, [.ref ak, .ref ab, .ref ao])), (ak, .inl (dk, 32, .inl fk)), (ab, .inl (db, 16, .inl fb)), (ao, .inl (dd, 16, .inl u_3))] H := hP
  have hD : va_D A [(h0, .inr (0, [.ref ak, .ref ab, .ref ao])), (ak, .inl (dk, 32, .inl fk)), (ab, .inl (db, 16, .inl fb)), (ao, .inl (dd, 16, .inl u_3))] := hD
  have hK : va_K (dC, dI) vwCl [(dk, .byte), (db, .byte), (dd, .byte)] s := hK
  refine W.widen (k := 6) (n := 65) (Nat.le_of_ble_eq_true rfl) (Nat.le_of_ble_eq_true rfl) ?_
  have hP9 := hP.sub (ws' := [(h0, .inr (0, [.ref ak, .ref ab, .ref ao])), (ak, .inl (dk, 32, .inl fk)), (ab, .inl (db, 16, .inl fb)), (ao, .inl (dd, 16, .inl u_3))]) [0, 1, 2, 3] rfl
  have hD9 := hD.sub (ws' := [(h0, .inr (0, [.ref ak, .ref ab, .ref ao])), (ak, .inl (dk, 32, .inl fk)), (ab, .inl (db, 16, .inl fb)), (ao, .inl (dd, 16, .inl u_3))]) [0, 1, 2, 3] (by decide) rfl
  have hK9 := hK.sub (tys' := [(dk, .byte), (db, .byte), (dd, .byte)]) [0, 1, 2] rfl
  have hpost : mk8 u_3 = decO (sch (mk8 fk)) (mk8 fb) (mk8 fo) := by rw [hw_3, if_pos (by decide)]
  exact W.vret hx hb hr (fun t ht hW => ⟨⟨u_3, rfl, hpost, by rw [ht]; exact hP9, va_K.moved hW.alike hK9, hD9⟩, hS.F ht⟩) hS.2.2 dX0_open_6
end
section
/-! THE CLAIM OUT OF ONE WALK OF THE LAW'S BODY. Your part is whole_start (and what it stands on); all else here is the same for every law, but numbers. -/
def R_law : String := "RcWideDeskLaw"
def lw_P (b : Addr) (xs : List Int32) (args : Array Value) (s : State) : Prop := args = #[.ref b] ∧ s.IntsAt b xs ∧ xs.length ≤ 288 ∧ (Jvm.Cond.and given_1 narrow_1).before args s = true
def lw_Q (_ : Array Value) (s : State) (o : Outcome) (t : State) : Prop := o = .returned (some (.int 1)) ∧ Framed s o t [] 1200096 5501386
def lw_Z (below : List Frame) (a : Array Value) (s : State) : State → Prop := fun t => ∃ o, t.status = .running ∧ Ended t below o ∧ lw_Q a s o t
/-- the law's own end, with 1 on the stack, nothing written that was there before, its room as the claim has it -/
theorem lw_ret {p : Program} {l : Launch} {e : Env} {s : State} {m : MethodId} {below : List Frame} {meth : Method} {c : Code} {b : Nat} (hx : p.tables.exec = Jvm.exec) (hb : c.code = code) (hr : meth.sig.returnType = ret) (hlocks : meth.locks = false) {pc : Nat} {H : Heap} {ls : Array Slot} (hdg : decode code pc = .ok (.ireturn, 1)) : W p l e room_1 s m #[Value.ref b] below meth c H [] 1200096 5501386 (lw_Z below #[Value.ref b] s) (F0 m pc ls [.int 1]) := by
  intro T hT X
  obtain ⟨fs, hret, hrun, hended, hW, hframe⟩ := X.leave (v := some (.int 1)) (hlocks := hlocks) (fun h => by rw [hr] at h; cases h)
  have hmeth' : T.vm.method? m = some meth := X.method'
  refine ⟨T.setFrames fs, ?_, .returned (some (.int 1)), hrun, hended, rfl, ⟨_, rfl⟩, hW, hframe⟩
  jvm_step X.here [X.here.top, hx, hb, hdg, hmeth', hr, ret, narrow_b1]
  (try refine ⟨rfl, ?_⟩); (try refine ⟨rfl, ?_⟩)
  first | (intro acts; rw [hret _ acts rfl rfl rfl]) | rw [hret _ _ rfl rfl rfl]
  exact Steps.refl _
/-- what holds at the law's entry: the machine, the code, the tables' words (any of lw_tbl by 'hts w (by decide +kernel)'), the script of L ints xs at the cell b, what the Statement gives of the start (any of its parts by flat_of_before) -/
def lw_At (p : Program) (s : State) (m : MethodId) (meth : Method) (c : Code) (b L : Nat) (xs : Nat → Int32) : Prop :=
  p.tables.exec = Jvm.exec ∧ c.code = code ∧ meth.sig.returnType = ret ∧ c.maxLocals = 4 ∧ s.vm.findClass R_law = some m.cls ∧ (∀ w ∈ lw_tbl, w.before #[Value.ref b] s = true) ∧ va_X b L xs s s.heap ∧ b < s.heap.size ∧ meth.locks = false ∧ (Jvm.Cond.and given_1 narrow_1).before #[Value.ref b] s = true
end
section
theorem mk8_z : (fun _ => 0 : Nat → Int32) = mk8 (fun _ => 0) := funext fun _ => show (0 : Int32) = (0 : Int32) &&& 255 by decide
theorem law_head {L t : Nat} (hL : L ≤ 288) (h : 6 * t ≤ L) (c : ¬ nI L - nI 6 < nI (6 * t)) : 6 * t + 6 ≤ L := by
  rcases Nat.lt_or_ge L (6 * t + 6) with q | q
  · refine absurd ?_ c
    rw [Int32.lt_iff_toInt_lt, pk_sub_toInt (by omega) (by omega), nI_toInt (by omega)]
    omega
  · exact q

set_option maxHeartbeats 8000000 in
set_option maxRecDepth 100000 in
/-- THE LAW, from its entry -/
theorem whole_start {p : Program} {e : Env} {s : State} {m : MethodId} {below : List Frame} {meth : Method} {c : Code} (l : Launch) (hflags : l.flags = flags0) {b L : Nat} {xs : Nat → Int32} (hL : L ≤ 288) (C0 : lw_At p s m meth c b L xs) : W p l e room_1 s m #[Value.ref b] below meth c s.heap [] 0 0 (lw_Z below #[Value.ref b] s) (entryFrame m ([Value.ref b] : List Value).toArray 4) := by
  obtain ⟨hx, hb, hr, hml, hown, hts0, hX, hbl, hlocks, hgv⟩ := id C0
  have hts : ∀ w ∈ lw_all, w.before #[Value.ref b] s = true := fun w h => hts0 w (lw_all_tbl h)
  have hA : ∀ q : Nat, s.heap.size ≤ q → (fun q : Nat => s.heap.size ≤ q) q := fun _ h => h
  have hbA : ¬ (fun q : Nat => s.heap.size ≤ q) b := Nat.not_le.mpr hbl
  have hf1 : va_Fw "RC564Engine" xInit yX2_init_2 s := va_Fw.of (hts0 _ q162) (hts0 _ q161) (hts0 _ q167) (hts0 _ q165) (hts0 _ q163)
  have hf2 : va_Fw "RC564Engine" xProc yX2_processBlock s := va_Fw.of (hts0 _ q197) (hts0 _ q196) (hts0 _ q201) (hts0 _ q199) (hts0 _ q163)
  obtain ⟨c0_, iS0, hKn0⟩ := u_known (C := RX0) (T := TX0) (N := 3) (n := 3) hts0 (fun w h => lw_all_tbl (in_X0 w h)) (hts0 _ (lw_all_tbl q22))
  obtain ⟨c1_, iS1, hKn1⟩ := u_known (C := RX1) (T := TX1) (N := 3) (n := 3) hts0 (fun w h => lw_all_tbl (in_X1 w h)) (hts0 _ (lw_all_tbl q237))
  obtain ⟨c2_, iS2, hKn2⟩ := u_known (C := RX2) (T := TX2) (N := 3) (n := 3) hts0 (fun w h => lw_all_tbl (in_X2 w h)) (hts0 _ (lw_all_tbl q63))
  obtain ⟨c3_, iS3, hKn3⟩ := u_known (C := RX3) (T := TX3) (N := 2) (n := 2) hts0 (fun w h => lw_all_tbl (in_X3 w h)) (hts0 _ (lw_all_tbl q79))
  obtain ⟨dC, dI, hKc⟩ : ∃ (dC : Nat → ClassId) (dI : Nat → Nat → Nat), ∀ (k : Nat) (q : vw_C), vwCl[k]? = some q → u_Kn s q.1 q.2.1 q.2.2 (dC k) (dI k) := by
    refine ⟨fun k => if k = 0 then c0_ else if k = 1 then c1_ else if k = 2 then c2_ else c3_, fun k => if k = 0 then iS0 else if k = 1 then iS1 else if k = 2 then iS2 else iS3, ?_⟩
    intro k q hq
    match k, hq with
    | 0, hq => cases hq; exact hKn0
    | 1, hq => cases hq; exact hKn1
    | 2, hq => cases hq; exact hKn2
    | 3, hq => cases hq; exact hKn3
    | k + 4, hq => simp [vwCl] at hq
  have hS : va_S (fun q : Nat => s.heap.size ≤ q) s.heap s.heap [] := va_S.rf
  have hK : va_K (dC, dI) vwCl [] s := ⟨hKc, fun k q h => by simp at h⟩
  have hP : va_P (dC, dI) vwCl [] s.heap := fun k q h => by simp at h
  have hD : va_D (fun q : Nat => s.heap.size ≤ q) [] := ⟨fun i j p q h => by simp at h, fun k q h => by simp at h⟩
  have hl := lv_entry ([.ref b]) (n := 4) (Nat.le_of_ble_eq_true rfl)
  rw [lg_entry_eq]
  generalize (lg_sl ([.ref b]) ++ List.replicate (4 - (lg_sl ([.ref b])).length) Slot.unset).toArray = ls at hl ⊢
  have hl : lv_has ls 4 [(0, .ref b)] := hl
  have lp : ∀ (fu : Nat), ∀ (a0 : Nat) (ak : Nat) (ab : Nat) (ao : Nat) (dk : ClassId) (db : ClassId) (dd : ClassId) (m0 : Nat) (nk : Nat) (nb : Nat) (no : Nat) (ck : ClassId) (cb : ClassId) (cd : ClassId) (it : Nat) (fk : Nat → Int32) (fb : Nat → Int32) (fo : Nat → Int32) (gk : Nat → Int32) (gb : Nat → Int32) (go : Nat → Int32), (L + 1 - 6 * it) < fu → 6 * it ≤ L → gk = mk8 fk → gb = mk8 fb → go = mk8 fo → va_K (dC, dI) vwCl [(dk, .byte), (db, .byte), (dd, .byte), (ck, .int), (cb, .int), (cd, .int)] s → ∀ (H : Heap) (locs : List Loc), va_P (dC, dI) vwCl [(a0, .inr (0, [.ref ak, .ref ab, .ref ao])), (ak, .inl (dk, 32, .inl fk)), (ab, .inl (db, 16, .inl fb)), (ao, .inl (dd, 16, .inl fo)), (m0, .inr (1, [.ref nk, .ref nb, .ref no])), (nk, .inl (ck, 32, .inl gk)), (nb, .inl (cb, 16, .inl gb)), (no, .inl (cd, 16, .inl go))] H → va_D (fun q : Nat => s.heap.size ≤ q) [(a0, .inr (0, [.ref ak, .ref ab, .ref ao])), (ak, .inl (dk, 32, .inl fk)), (ab, .inl (db, 16, .inl fb)), (ao, .inl (dd, 16, .inl fo)), (m0, .inr (1, [.ref nk, .ref nb, .ref no])), (nk, .inl (ck, 32, .inl gk)), (nb, .inl (cb, 16, .inl gb)), (no, .inl (cd, 16, .inl go))] → va_S (fun q : Nat => s.heap.size ≤ q) s.heap H locs → ∀ (ls : Array Slot), lv_has ls 4 [(0, .ref b), (1, .ref a0), (2, .ref m0), (3, .int (nI (6 * it)))] → W p l e room_1 s m #[Value.ref b] below meth c H locs (8 + 8 * it) (134 + 93 * it) (lw_Z below #[Value.ref b] s) (F0 m 18 ls []) := by
    intro fu
    induction fu with
    | zero => intro a0 ak ab ao dk db dd m0 nk nb no ck cb cd it fk fb fo gk gb go hme; exact absurd hme (Nat.not_lt_zero _)
    | succ fu ih =>
      intro a0 ak ab ao dk db dd m0 nk nb no ck cb cd it fk fb fo gk gb go hme ht6 hgk hgb hgo hK H locs hP hD hS ls hl
      subst hgk
      subst hgb
      subst hgo
      refine lv_iload_n hx hb dL_law_18 rfl (lv_at hl 3 rfl) ?_
      refine lv_aload_n hx hb dL_law_19 rfl (lv_at hl 0 rfl) ?_
      refine va_slen hx hb hX hbl hbA hS dL_law_20 ?_
      refine W.eq (g2 := F0 m 21 ls [.int (nI L), .int (nI (6 * it))]) rfl ?_
      refine lv_bipush (v := nI 6) hx hb dL_law_21 (by decide) ?_
      refine lv_isub hx hb dL_law_23 ?_
      refine lv_icmp_gt (tgt := 266) hx hb dL_law_24 (by decide) (fun c_24 => ?_) (fun c_24 => ?_)
      · refine lv_iconst (v := nI 1) hx hb dL_law_266 (by decide) ?_
        refine W.eq (g2 := F0 m 267 ls [.int 1]) rfl ?_
        refine va_forget (fun q hq => hS.2.2 q hq) ?_
        refine W.widen (k := 1200096) (n := 5501386) (by omega) (by omega) ?_
        exact lw_ret hx hb hr hlocks dL_law_267
      · have hle : 6 * it + 6 ≤ L := law_head hL ht6 c_24
        refine lv_aload_n hx hb dL_law_27 rfl (lv_at hl 0 rfl) ?_
        refine lv_iload_n hx hb dL_law_28 rfl (lv_at hl 3 rfl) ?_
        refine va_sld hx hb hX hbl hbA hS (vp_in_nI (n := (6 * it)) (N := L) (by omega) (by omega)) dL_law_29 ?_
        refine lv_topi (fun t_29 et_29 => ?_)
        have et_29 : t_29 = xs (6 * it) := et_29.trans (congrArg xs (nI_clamp (n := (6 * it)) (by omega)))
        subst et_29
        refine lv_bipush (v := nI 7) hx hb dL_law_30 (by decide) ?_
        refine lv_iand hx hb dL_law_32 ?_
        obtain ⟨j, hj, ej⟩ := pk_andE (xs (6 * it)) (m := nI 7) 3 (by decide)
        rw [ej]
        have hj8 : j = 0 ∨ j = 1 ∨ j = 2 ∨ j = 3 ∨ j = 4 ∨ j = 5 ∨ j = 6 ∨ j = 7 := by omega
        rcases hj8 with rfl | rfl | rfl | rfl | rfl | rfl | rfl | rfl
        · refine lv_tableIn (off := 39) (tgt := 72) hx hb dL_law_33 (by decide) (by decide) (by decide) (by decide) ?_
          refine lv_aload_n hx hb dL_law_72 rfl (lv_at hl 1 rfl) ?_
          refine lv_aload_n hx hb dL_law_73 rfl (lv_at hl 0 rfl) ?_
          refine lv_iload_n hx hb dL_law_74 rfl (lv_at hl 3 rfl) ?_
          refine lv_iconst (v := nI 1) hx hb dL_law_75 (by decide) ?_
          refine lv_iadd hx hb dL_law_76 ?_
          refine lv_topi (fun t_76 et_76 => ?_)
          have et_76 : t_76 = nI (6 * it + 1) := et_76.trans (nI_add (6 * it) 1)
          subst et_76
          refine va_sld hx hb hX hbl hbA hS (vp_in_nI (n := (6 * it + 1)) (N := L) (by omega) (by omega)) dL_law_77 ?_
          refine lv_topi (fun t_77 et_77 => ?_)
          have et_77 : t_77 = xs (6 * it + 1) := et_77.trans (congrArg xs (nI_clamp (n := (6 * it + 1)) (by omega)))
          subst et_77
          refine lv_aload_n hx hb dL_law_78 rfl (lv_at hl 0 rfl) ?_
          refine lv_iload_n hx hb dL_law_79 rfl (lv_at hl 3 rfl) ?_
          refine lv_iconst (v := nI 2) hx hb dL_law_80 (by decide) ?_
          refine lv_iadd hx hb dL_law_81 ?_
          refine lv_topi (fun t_81 et_81 => ?_)
          have et_81 : t_81 = nI (6 * it + 2) := et_81.trans (nI_add (6 * it) 2)
          subst et_81
          refine va_sld hx hb hX hbl hbA hS (vp_in_nI (n := (6 * it + 2)) (N := L) (by omega) (by omega)) dL_law_82 ?_
          refine lv_topi (fun t_82 et_82 => ?_)
          have et_82 : t_82 = xs (6 * it + 2) := et_82.trans (congrArg xs (nI_clamp (n := (6 * it + 2)) (by omega)))
          subst et_82
          refine lv_aload_n hx hb dL_law_83 rfl (lv_at hl 0 rfl) ?_
          refine lv_iload_n hx hb dL_law_84 rfl (lv_at hl 3 rfl) ?_
          refine lv_iconst (v := nI 3) hx hb dL_law_85 (by decide) ?_
          refine lv_iadd hx hb dL_law_86 ?_
          refine lv_topi (fun t_86 et_86 => ?_)
          have et_86 : t_86 = nI (6 * it + 3) := et_86.trans (nI_add (6 * it) 3)
          subst et_86
          refine va_sld hx hb hX hbl hbA hS (vp_in_nI (n := (6 * it + 3)) (N := L) (by omega) (by omega)) dL_law_87 ?_
          refine lv_topi (fun t_87 et_87 => ?_)
          have et_87 : t_87 = xs (6 * it + 3) := et_87.trans (congrArg xs (nI_clamp (n := (6 * it + 3)) (by omega)))
          subst et_87
          refine lv_aload_n hx hb dL_law_88 rfl (lv_at hl 0 rfl) ?_
          refine lv_iload_n hx hb dL_law_89 rfl (lv_at hl 3 rfl) ?_
          refine lv_iconst (v := nI 4) hx hb dL_law_90 (by decide) ?_
          refine lv_iadd hx hb dL_law_91 ?_
          refine lv_topi (fun t_91 et_91 => ?_)
          have et_91 : t_91 = nI (6 * it + 4) := et_91.trans (nI_add (6 * it) 4)
          subst et_91
          refine va_sld hx hb hX hbl hbA hS (vp_in_nI (n := (6 * it + 4)) (N := L) (by omega) (by omega)) dL_law_92 ?_
          refine lv_topi (fun t_92 et_92 => ?_)
          have et_92 : t_92 = xs (6 * it + 4) := et_92.trans (congrArg xs (nI_clamp (n := (6 * it + 4)) (by omega)))
          subst et_92
          refine lv_aload_n hx hb dL_law_93 rfl (lv_at hl 0 rfl) ?_
          refine lv_iload_n hx hb dL_law_94 rfl (lv_at hl 3 rfl) ?_
          refine lv_iconst (v := nI 5) hx hb dL_law_95 (by decide) ?_
          refine lv_iadd hx hb dL_law_96 ?_
          refine lv_topi (fun t_96 et_96 => ?_)
          have et_96 : t_96 = nI (6 * it + 5) := et_96.trans (nI_add (6 * it) 5)
          subst et_96
          refine va_sld hx hb hX hbl hbA hS (vp_in_nI (n := (6 * it + 5)) (N := L) (by omega) (by omega)) dL_law_97 ?_
          refine lv_topi (fun t_97 et_97 => ?_)
          have et_97 : t_97 = xs (6 * it + 5) := et_97.trans (congrArg xs (nI_clamp (n := (6 * it + 5)) (by omega)))
          subst et_97
          have hPc := hP.sub (ws' := [(a0, .inr (0, [.ref ak, .ref ab, .ref ao])), (ak, .inl (dk, 32, .inl fk))]) [0, 1] rfl
          have hDc := hD.sub (ws' := [(a0, .inr (0, [.ref ak, .ref ab, .ref ao])), (ak, .inl (dk, 32, .inl fk))]) [0, 1] (by decide) rfl
          have hKc := hK.sub (tys' := [(dk, .byte)]) [0] rfl
          have hFc := va_free (wc := [(a0, .inr (0, [.ref ak, .ref ab, .ref ao])), (ak, .inl (dk, 32, .inl fk))]) hD hS hA [0, 1] rfl
          refine va_callv (va_runV (As := [.int (xs (6 * it + 1)), .int (xs (6 * it + 2)), .int (xs (6 * it + 3)), .int (xs (6 * it + 4)), .int (xs (6 * it + 5))]) (rest := []) ⟨hx, hb, hml, hown, hts⟩ (metX0_key l dC dI a0 ak ab ao dk fk (xs (6 * it + 1)) (xs (6 * it + 2)) (xs (6 * it + 3)) (xs (6 * it + 4)) (xs (6 * it + 5)) H.size) (cwV 5 hts (lw_V q40 q41 q42 q12 q43) rfl rfl rfl (by decide +kernel) ⟨Nat.le_of_ble_eq_true rfl, Nat.le_of_ble_eq_true rfl⟩) ⟨fun a U g mk q => by obtain ⟨q0, q1, qP, qK, qD⟩ := q; exact ⟨q0, q1, qP, va_K.moved (u := U) (U := U.calling g mk a) (Vm.Alike.refl U.vm) qK, qD⟩, va_recv hK hP (ci := 0) (q0 := 0) rfl rfl, fun U hU hW => ⟨rfl, by rw [hU], by rw [hU]; exact hPc, va_K.moved hW.alike hKc, hDc.weaken (fun _ _ _ _ => trivial)⟩⟩ rfl rfl hl.1 rfl (lv_room (Nat.le_of_ble_eq_true rfl)) dL_law_98 ⟨by show _ ≤ 1200096; omega, by show _ ≤ 5501386; omega⟩) hS (fun q _ h => hFc q h) hFc (fun u t H1 locs ht hvm hw_98 hB hz1 hk1 hS => ?_)
          obtain ⟨u_98, rfl⟩ : ∃ z, z = u := ⟨_, rfl⟩
          have hw_98 : mk8 u_98 = st16 (mk8 fk) (16 * half (xs (6 * it + 1))) (xs (6 * it + 2)) (xs (6 * it + 3)) (xs (6 * it + 4)) (xs (6 * it + 5)) := hw_98
          obtain ⟨hP1, hK1, hD1⟩ := hB
          rw [ht] at hP1
          have hK1 := va_K.moved hvm.symm hK1
          obtain ⟨hP, hD⟩ := va_join (wr := [(ab, .inl (db, 16, .inl fb)), (ao, .inl (dd, 16, .inl fo)), (m0, .inr (1, [.ref nk, .ref nb, .ref no])), (nk, .inl (ck, 32, .inl (mk8 fk))), (nb, .inl (cb, 16, .inl (mk8 fb))), (no, .inl (cd, 16, .inl (mk8 fo)))]) (w1 := [(a0, .inr (0, [.ref ak, .ref ab, .ref ao])), (ak, .inl (dk, 32, .inl u_98))]) hP hD [0, 1] [2, 3, 4, 5, 6, 7] rfl rfl (by decide) (by decide) hk1 hFc hP1 hD1
          have hK := (hK.sub (tys' := [(db, .byte), (dd, .byte), (ck, .int), (cb, .int), (cd, .int)]) [1, 2, 3, 4, 5] rfl).app hK1
          generalize H1 = H at hP hS ⊢
          have hP : va_P (dC, dI) vwCl [(ab, .inl (db, 16, .inl fb)), (ao, .inl (dd, 16, .inl fo)), (m0, .inr (1, [.ref nk, .ref nb, .ref no])), (nk, .inl (ck, 32, .inl (mk8 fk))), (nb, .inl (cb, 16, .inl (mk8 fb))), (no, .inl (cd, 16, .inl (mk8 fo))), (a0, .inr (0, [.ref ak, .ref ab, .ref ao])), (ak, .inl (dk, 32, .inl u_98))] H := hP
          have hD : va_D (fun q : Nat => s.heap.size ≤ q) [(ab, .inl (db, 16, .inl fb)), (ao, .inl (dd, 16, .inl fo)), (m0, .inr (1, [.ref nk, .ref nb, .ref no])), (nk, .inl (ck, 32, .inl (mk8 fk))), (nb, .inl (cb, 16, .inl (mk8 fb))), (no, .inl (cd, 16, .inl (mk8 fo))), (a0, .inr (0, [.ref ak, .ref ab, .ref ao])), (ak, .inl (dk, 32, .inl u_98))] := hD
          have hK : va_K (dC, dI) vwCl [(db, .byte), (dd, .byte), (ck, .int), (cb, .int), (cd, .int), (dk, .byte)] s := hK
          refine lv_aload_n hx hb dL_law_101 rfl (lv_at hl 2 rfl) ?_
          refine lv_aload_n hx hb dL_law_102 rfl (lv_at hl 0 rfl) ?_
          refine lv_iload_n hx hb dL_law_103 rfl (lv_at hl 3 rfl) ?_
          refine lv_iconst (v := nI 1) hx hb dL_law_104 (by decide) ?_
          refine lv_iadd hx hb dL_law_105 ?_
          refine lv_topi (fun t_105 et_105 => ?_)
          have et_105 : t_105 = nI (6 * it + 1) := et_105.trans (nI_add (6 * it) 1)
          subst et_105
          refine va_sld hx hb hX hbl hbA hS (vp_in_nI (n := (6 * it + 1)) (N := L) (by omega) (by omega)) dL_law_106 ?_
          refine lv_topi (fun t_106 et_106 => ?_)
          have et_106 : t_106 = xs (6 * it + 1) := et_106.trans (congrArg xs (nI_clamp (n := (6 * it + 1)) (by omega)))
          subst et_106
          refine lv_aload_n hx hb dL_law_107 rfl (lv_at hl 0 rfl) ?_
          refine lv_iload_n hx hb dL_law_108 rfl (lv_at hl 3 rfl) ?_
          refine lv_iconst (v := nI 2) hx hb dL_law_109 (by decide) ?_
          refine lv_iadd hx hb dL_law_110 ?_
          refine lv_topi (fun t_110 et_110 => ?_)
          have et_110 : t_110 = nI (6 * it + 2) := et_110.trans (nI_add (6 * it) 2)
          subst et_110
          refine va_sld hx hb hX hbl hbA hS (vp_in_nI (n := (6 * it + 2)) (N := L) (by omega) (by omega)) dL_law_111 ?_
          refine lv_topi (fun t_111 et_111 => ?_)
          have et_111 : t_111 = xs (6 * it + 2) := et_111.trans (congrArg xs (nI_clamp (n := (6 * it + 2)) (by omega)))
          subst et_111
          refine lv_aload_n hx hb dL_law_112 rfl (lv_at hl 0 rfl) ?_
          refine lv_iload_n hx hb dL_law_113 rfl (lv_at hl 3 rfl) ?_
          refine lv_iconst (v := nI 3) hx hb dL_law_114 (by decide) ?_
          refine lv_iadd hx hb dL_law_115 ?_
          refine lv_topi (fun t_115 et_115 => ?_)
          have et_115 : t_115 = nI (6 * it + 3) := et_115.trans (nI_add (6 * it) 3)
          subst et_115
          refine va_sld hx hb hX hbl hbA hS (vp_in_nI (n := (6 * it + 3)) (N := L) (by omega) (by omega)) dL_law_116 ?_
          refine lv_topi (fun t_116 et_116 => ?_)
          have et_116 : t_116 = xs (6 * it + 3) := et_116.trans (congrArg xs (nI_clamp (n := (6 * it + 3)) (by omega)))
          subst et_116
          refine lv_aload_n hx hb dL_law_117 rfl (lv_at hl 0 rfl) ?_
          refine lv_iload_n hx hb dL_law_118 rfl (lv_at hl 3 rfl) ?_
          refine lv_iconst (v := nI 4) hx hb dL_law_119 (by decide) ?_
          refine lv_iadd hx hb dL_law_120 ?_
          refine lv_topi (fun t_120 et_120 => ?_)
          have et_120 : t_120 = nI (6 * it + 4) := et_120.trans (nI_add (6 * it) 4)
          subst et_120
          refine va_sld hx hb hX hbl hbA hS (vp_in_nI (n := (6 * it + 4)) (N := L) (by omega) (by omega)) dL_law_121 ?_
          refine lv_topi (fun t_121 et_121 => ?_)
          have et_121 : t_121 = xs (6 * it + 4) := et_121.trans (congrArg xs (nI_clamp (n := (6 * it + 4)) (by omega)))
          subst et_121
          refine lv_aload_n hx hb dL_law_122 rfl (lv_at hl 0 rfl) ?_
          refine lv_iload_n hx hb dL_law_123 rfl (lv_at hl 3 rfl) ?_
          refine lv_iconst (v := nI 5) hx hb dL_law_124 (by decide) ?_
          refine lv_iadd hx hb dL_law_125 ?_
          refine lv_topi (fun t_125 et_125 => ?_)
          have et_125 : t_125 = nI (6 * it + 5) := et_125.trans (nI_add (6 * it) 5)
          subst et_125
          refine va_sld hx hb hX hbl hbA hS (vp_in_nI (n := (6 * it + 5)) (N := L) (by omega) (by omega)) dL_law_126 ?_
          refine lv_topi (fun t_126 et_126 => ?_)
          have et_126 : t_126 = xs (6 * it + 5) := et_126.trans (congrArg xs (nI_clamp (n := (6 * it + 5)) (by omega)))
          subst et_126
          have hPc := hP.sub (ws' := [(m0, .inr (1, [.ref nk, .ref nb, .ref no])), (nk, .inl (ck, 32, .inl (mk8 fk)))]) [2, 3] rfl
          have hDc := hD.sub (ws' := [(m0, .inr (1, [.ref nk, .ref nb, .ref no])), (nk, .inl (ck, 32, .inl (mk8 fk)))]) [2, 3] (by decide) rfl
          have hKc := hK.sub (tys' := [(ck, .int)]) [2] rfl
          have hFc := va_free (wc := [(m0, .inr (1, [.ref nk, .ref nb, .ref no])), (nk, .inl (ck, 32, .inl (mk8 fk)))]) hD hS hA [2, 3] rfl
          refine va_callv (va_runV (As := [.int (xs (6 * it + 1)), .int (xs (6 * it + 2)), .int (xs (6 * it + 3)), .int (xs (6 * it + 4)), .int (xs (6 * it + 5))]) (rest := []) ⟨hx, hb, hml, hown, hts⟩ (metX1_key l dC dI m0 nk nb no ck (mk8 fk) (xs (6 * it + 1)) (xs (6 * it + 2)) (xs (6 * it + 3)) (xs (6 * it + 4)) (xs (6 * it + 5)) H.size) (cwV 5 hts (lw_V q253 q254 q255 q13 q256) rfl rfl rfl (by decide +kernel) ⟨Nat.le_of_ble_eq_true rfl, Nat.le_of_ble_eq_true rfl⟩) ⟨fun a U g mk q => by obtain ⟨q0, q1, qP, qK, qD⟩ := q; exact ⟨q0, q1, qP, va_K.moved (u := U) (U := U.calling g mk a) (Vm.Alike.refl U.vm) qK, qD⟩, va_recv hK hP (ci := 1) (q0 := 2) rfl rfl, fun U hU hW => ⟨rfl, by rw [hU], by rw [hU]; exact hPc, va_K.moved hW.alike hKc, hDc.weaken (fun _ _ _ _ => trivial)⟩⟩ rfl rfl hl.1 rfl (lv_room (Nat.le_of_ble_eq_true rfl)) dL_law_127 ⟨by show _ ≤ 1200096; omega, by show _ ≤ 5501386; omega⟩) hS (fun q _ h => hFc q h) hFc (fun u t H1 locs ht hvm hw_127 hB hz1 hk1 hS => ?_)
          obtain ⟨u_127, rfl⟩ : ∃ z, z = u := ⟨_, rfl⟩
          have hw_127 : u_127 = st16 (mk8 fk) (16 * half (xs (6 * it + 1))) (xs (6 * it + 2)) (xs (6 * it + 3)) (xs (6 * it + 4)) (xs (6 * it + 5)) := hw_127
          obtain ⟨hP1, hK1, hD1⟩ := hB
          have hw_127 := hw_127.symm
          subst hw_127
          rw [ht] at hP1
          have hK1 := va_K.moved hvm.symm hK1
          obtain ⟨hP, hD⟩ := va_join (wr := [(ab, .inl (db, 16, .inl fb)), (ao, .inl (dd, 16, .inl fo)), (nb, .inl (cb, 16, .inl (mk8 fb))), (no, .inl (cd, 16, .inl (mk8 fo))), (a0, .inr (0, [.ref ak, .ref ab, .ref ao])), (ak, .inl (dk, 32, .inl u_98))]) (w1 := [(m0, .inr (1, [.ref nk, .ref nb, .ref no])), (nk, .inl (ck, 32, .inl (st16 (mk8 fk) (16 * half (xs (6 * it + 1))) (xs (6 * it + 2)) (xs (6 * it + 3)) (xs (6 * it + 4)) (xs (6 * it + 5)))))]) hP hD [2, 3] [0, 1, 4, 5, 6, 7] rfl rfl (by decide) (by decide) hk1 hFc hP1 hD1
          have hK := (hK.sub (tys' := [(db, .byte), (dd, .byte), (cb, .int), (cd, .int), (dk, .byte)]) [0, 1, 3, 4, 5] rfl).app hK1
          generalize H1 = H at hP hS ⊢
          have hP : va_P (dC, dI) vwCl [(ab, .inl (db, 16, .inl fb)), (ao, .inl (dd, 16, .inl fo)), (nb, .inl (cb, 16, .inl (mk8 fb))), (no, .inl (cd, 16, .inl (mk8 fo))), (a0, .inr (0, [.ref ak, .ref ab, .ref ao])), (ak, .inl (dk, 32, .inl u_98)), (m0, .inr (1, [.ref nk, .ref nb, .ref no])), (nk, .inl (ck, 32, .inl (st16 (mk8 fk) (16 * half (xs (6 * it + 1))) (xs (6 * it + 2)) (xs (6 * it + 3)) (xs (6 * it + 4)) (xs (6 * it + 5)))))] H := hP
          have hD : va_D (fun q : Nat => s.heap.size ≤ q) [(ab, .inl (db, 16, .inl fb)), (ao, .inl (dd, 16, .inl fo)), (nb, .inl (cb, 16, .inl (mk8 fb))), (no, .inl (cd, 16, .inl (mk8 fo))), (a0, .inr (0, [.ref ak, .ref ab, .ref ao])), (ak, .inl (dk, 32, .inl u_98)), (m0, .inr (1, [.ref nk, .ref nb, .ref no])), (nk, .inl (ck, 32, .inl (st16 (mk8 fk) (16 * half (xs (6 * it + 1))) (xs (6 * it + 2)) (xs (6 * it + 3)) (xs (6 * it + 4)) (xs (6 * it + 5)))))] := hD
          have hK : va_K (dC, dI) vwCl [(db, .byte), (dd, .byte), (cb, .int), (cd, .int), (dk, .byte), (ck, .int)] s := hK
          refine lv_goto (tgt := 260) hx hb dL_law_130 (by decide) ?_
          refine lv_iinc (v := nI (6 * (it + 1))) (lv' := [(3, .int (nI (6 * (it + 1)))), (0, .ref b), (1, .ref a0), (2, .ref m0)]) hx hb dL_law_260 hl (k := 3) rfl (nI_add (6 * it) 6) (by decide) rfl (fun ls hl => ?_)
          refine lv_goto (tgt := 18) hx hb dL_law_263 (by decide) ?_
          refine W.widen (k := 8 + 8 * (it + 1)) (n := 134 + 93 * (it + 1)) (by omega) (by omega) ?_
          exact ih a0 ak ab ao dk db dd m0 nk nb no ck cb cd (it + 1) u_98 fb fo (st16 (mk8 fk) (16 * half (xs (6 * it + 1))) (xs (6 * it + 2)) (xs (6 * it + 3)) (xs (6 * it + 4)) (xs (6 * it + 5))) (mk8 fb) (mk8 fo) (by omega) (by omega) (hw_98.symm) rfl rfl (hK.sub [4, 0, 1, 5, 2, 3] rfl) _ _ (hP.sub (ws' := [(a0, .inr (0, [.ref ak, .ref ab, .ref ao])), (ak, .inl (dk, 32, .inl u_98)), (ab, .inl (db, 16, .inl fb)), (ao, .inl (dd, 16, .inl fo)), (m0, .inr (1, [.ref nk, .ref nb, .ref no])), (nk, .inl (ck, 32, .inl (st16 (mk8 fk) (16 * half (xs (6 * it + 1))) (xs (6 * it + 2)) (xs (6 * it + 3)) (xs (6 * it + 4)) (xs (6 * it + 5))))), (nb, .inl (cb, 16, .inl (mk8 fb))), (no, .inl (cd, 16, .inl (mk8 fo)))]) [4, 5, 0, 1, 6, 7, 2, 3] rfl) (hD.sub (ws' := [(a0, .inr (0, [.ref ak, .ref ab, .ref ao])), (ak, .inl (dk, 32, .inl u_98)), (ab, .inl (db, 16, .inl fb)), (ao, .inl (dd, 16, .inl fo)), (m0, .inr (1, [.ref nk, .ref nb, .ref no])), (nk, .inl (ck, 32, .inl (st16 (mk8 fk) (16 * half (xs (6 * it + 1))) (xs (6 * it + 2)) (xs (6 * it + 3)) (xs (6 * it + 4)) (xs (6 * it + 5))))), (nb, .inl (cb, 16, .inl (mk8 fb))), (no, .inl (cd, 16, .inl (mk8 fo)))]) [4, 5, 0, 1, 6, 7, 2, 3] (by decide) rfl) hS _ (lv_sub hl [1, 2, 3, 0] rfl)
        · refine lv_tableIn (off := 100) (tgt := 133) hx hb dL_law_33 (by decide) (by decide) (by decide) (by decide) ?_
          refine lv_aload_n hx hb dL_law_133 rfl (lv_at hl 1 rfl) ?_
          refine lv_aload_n hx hb dL_law_134 rfl (lv_at hl 0 rfl) ?_
          refine lv_iload_n hx hb dL_law_135 rfl (lv_at hl 3 rfl) ?_
          refine lv_iconst (v := nI 1) hx hb dL_law_136 (by decide) ?_
          refine lv_iadd hx hb dL_law_137 ?_
          refine lv_topi (fun t_137 et_137 => ?_)
          have et_137 : t_137 = nI (6 * it + 1) := et_137.trans (nI_add (6 * it) 1)
          subst et_137
          refine va_sld hx hb hX hbl hbA hS (vp_in_nI (n := (6 * it + 1)) (N := L) (by omega) (by omega)) dL_law_138 ?_
          refine lv_topi (fun t_138 et_138 => ?_)
          have et_138 : t_138 = xs (6 * it + 1) := et_138.trans (congrArg xs (nI_clamp (n := (6 * it + 1)) (by omega)))
          subst et_138
          refine lv_aload_n hx hb dL_law_139 rfl (lv_at hl 0 rfl) ?_
          refine lv_iload_n hx hb dL_law_140 rfl (lv_at hl 3 rfl) ?_
          refine lv_iconst (v := nI 2) hx hb dL_law_141 (by decide) ?_
          refine lv_iadd hx hb dL_law_142 ?_
          refine lv_topi (fun t_142 et_142 => ?_)
          have et_142 : t_142 = nI (6 * it + 2) := et_142.trans (nI_add (6 * it) 2)
          subst et_142
          refine va_sld hx hb hX hbl hbA hS (vp_in_nI (n := (6 * it + 2)) (N := L) (by omega) (by omega)) dL_law_143 ?_
          refine lv_topi (fun t_143 et_143 => ?_)
          have et_143 : t_143 = xs (6 * it + 2) := et_143.trans (congrArg xs (nI_clamp (n := (6 * it + 2)) (by omega)))
          subst et_143
          refine lv_aload_n hx hb dL_law_144 rfl (lv_at hl 0 rfl) ?_
          refine lv_iload_n hx hb dL_law_145 rfl (lv_at hl 3 rfl) ?_
          refine lv_iconst (v := nI 3) hx hb dL_law_146 (by decide) ?_
          refine lv_iadd hx hb dL_law_147 ?_
          refine lv_topi (fun t_147 et_147 => ?_)
          have et_147 : t_147 = nI (6 * it + 3) := et_147.trans (nI_add (6 * it) 3)
          subst et_147
          refine va_sld hx hb hX hbl hbA hS (vp_in_nI (n := (6 * it + 3)) (N := L) (by omega) (by omega)) dL_law_148 ?_
          refine lv_topi (fun t_148 et_148 => ?_)
          have et_148 : t_148 = xs (6 * it + 3) := et_148.trans (congrArg xs (nI_clamp (n := (6 * it + 3)) (by omega)))
          subst et_148
          refine lv_aload_n hx hb dL_law_149 rfl (lv_at hl 0 rfl) ?_
          refine lv_iload_n hx hb dL_law_150 rfl (lv_at hl 3 rfl) ?_
          refine lv_iconst (v := nI 4) hx hb dL_law_151 (by decide) ?_
          refine lv_iadd hx hb dL_law_152 ?_
          refine lv_topi (fun t_152 et_152 => ?_)
          have et_152 : t_152 = nI (6 * it + 4) := et_152.trans (nI_add (6 * it) 4)
          subst et_152
          refine va_sld hx hb hX hbl hbA hS (vp_in_nI (n := (6 * it + 4)) (N := L) (by omega) (by omega)) dL_law_153 ?_
          refine lv_topi (fun t_153 et_153 => ?_)
          have et_153 : t_153 = xs (6 * it + 4) := et_153.trans (congrArg xs (nI_clamp (n := (6 * it + 4)) (by omega)))
          subst et_153
          have hPc := hP.sub (ws' := [(a0, .inr (0, [.ref ak, .ref ab, .ref ao])), (ab, .inl (db, 16, .inl fb))]) [0, 2] rfl
          have hDc := hD.sub (ws' := [(a0, .inr (0, [.ref ak, .ref ab, .ref ao])), (ab, .inl (db, 16, .inl fb))]) [0, 2] (by decide) rfl
          have hKc := hK.sub (tys' := [(db, .byte)]) [1] rfl
          have hFc := va_free (wc := [(a0, .inr (0, [.ref ak, .ref ab, .ref ao])), (ab, .inl (db, 16, .inl fb))]) hD hS hA [0, 2] rfl
          refine va_callv (va_runV (As := [.int (xs (6 * it + 1)), .int (xs (6 * it + 2)), .int (xs (6 * it + 3)), .int (xs (6 * it + 4))]) (rest := []) ⟨hx, hb, hml, hown, hts⟩ (metX0_block l dC dI a0 ak ab ao db fb (xs (6 * it + 1)) (xs (6 * it + 2)) (xs (6 * it + 3)) (xs (6 * it + 4)) H.size) (cwV 4 hts (lw_V q47 q48 q49 q12 q50) rfl rfl rfl (by decide +kernel) ⟨Nat.le_of_ble_eq_true rfl, Nat.le_of_ble_eq_true rfl⟩) ⟨fun a U g mk q => by obtain ⟨q0, q1, qP, qK, qD⟩ := q; exact ⟨q0, q1, qP, va_K.moved (u := U) (U := U.calling g mk a) (Vm.Alike.refl U.vm) qK, qD⟩, va_recv hK hP (ci := 0) (q0 := 0) rfl rfl, fun U hU hW => ⟨rfl, by rw [hU], by rw [hU]; exact hPc, va_K.moved hW.alike hKc, hDc.weaken (fun _ _ _ _ => trivial)⟩⟩ rfl rfl hl.1 rfl (lv_room (Nat.le_of_ble_eq_true rfl)) dL_law_154 ⟨by show _ ≤ 1200096; omega, by show _ ≤ 5501386; omega⟩) hS (fun q _ h => hFc q h) hFc (fun u t H1 locs ht hvm hw_154 hB hz1 hk1 hS => ?_)
          obtain ⟨u_154, rfl⟩ : ∃ z, z = u := ⟨_, rfl⟩
          have hw_154 : mk8 u_154 = st16 (mk8 fb) 0 (xs (6 * it + 1)) (xs (6 * it + 2)) (xs (6 * it + 3)) (xs (6 * it + 4)) := hw_154
          obtain ⟨hP1, hK1, hD1⟩ := hB
          rw [ht] at hP1
          have hK1 := va_K.moved hvm.symm hK1
          obtain ⟨hP, hD⟩ := va_join (wr := [(ak, .inl (dk, 32, .inl fk)), (ao, .inl (dd, 16, .inl fo)), (m0, .inr (1, [.ref nk, .ref nb, .ref no])), (nk, .inl (ck, 32, .inl (mk8 fk))), (nb, .inl (cb, 16, .inl (mk8 fb))), (no, .inl (cd, 16, .inl (mk8 fo)))]) (w1 := [(a0, .inr (0, [.ref ak, .ref ab, .ref ao])), (ab, .inl (db, 16, .inl u_154))]) hP hD [0, 2] [1, 3, 4, 5, 6, 7] rfl rfl (by decide) (by decide) hk1 hFc hP1 hD1
          have hK := (hK.sub (tys' := [(dk, .byte), (dd, .byte), (ck, .int), (cb, .int), (cd, .int)]) [0, 2, 3, 4, 5] rfl).app hK1
          generalize H1 = H at hP hS ⊢
          have hP : va_P (dC, dI) vwCl [(ak, .inl (dk, 32, .inl fk)), (ao, .inl (dd, 16, .inl fo)), (m0, .inr (1, [.ref nk, .ref nb, .ref no])), (nk, .inl (ck, 32, .inl (mk8 fk))), (nb, .inl (cb, 16, .inl (mk8 fb))), (no, .inl (cd, 16, .inl (mk8 fo))), (a0, .inr (0, [.ref ak, .ref ab, .ref ao])), (ab, .inl (db, 16, .inl u_154))] H := hP
          have hD : va_D (fun q : Nat => s.heap.size ≤ q) [(ak, .inl (dk, 32, .inl fk)), (ao, .inl (dd, 16, .inl fo)), (m0, .inr (1, [.ref nk, .ref nb, .ref no])), (nk, .inl (ck, 32, .inl (mk8 fk))), (nb, .inl (cb, 16, .inl (mk8 fb))), (no, .inl (cd, 16, .inl (mk8 fo))), (a0, .inr (0, [.ref ak, .ref ab, .ref ao])), (ab, .inl (db, 16, .inl u_154))] := hD
          have hK : va_K (dC, dI) vwCl [(dk, .byte), (dd, .byte), (ck, .int), (cb, .int), (cd, .int), (db, .byte)] s := hK
          refine lv_aload_n hx hb dL_law_157 rfl (lv_at hl 2 rfl) ?_
          refine lv_aload_n hx hb dL_law_158 rfl (lv_at hl 0 rfl) ?_
          refine lv_iload_n hx hb dL_law_159 rfl (lv_at hl 3 rfl) ?_
          refine lv_iconst (v := nI 1) hx hb dL_law_160 (by decide) ?_
          refine lv_iadd hx hb dL_law_161 ?_
          refine lv_topi (fun t_161 et_161 => ?_)
          have et_161 : t_161 = nI (6 * it + 1) := et_161.trans (nI_add (6 * it) 1)
          subst et_161
          refine va_sld hx hb hX hbl hbA hS (vp_in_nI (n := (6 * it + 1)) (N := L) (by omega) (by omega)) dL_law_162 ?_
          refine lv_topi (fun t_162 et_162 => ?_)
          have et_162 : t_162 = xs (6 * it + 1) := et_162.trans (congrArg xs (nI_clamp (n := (6 * it + 1)) (by omega)))
          subst et_162
          refine lv_aload_n hx hb dL_law_163 rfl (lv_at hl 0 rfl) ?_
          refine lv_iload_n hx hb dL_law_164 rfl (lv_at hl 3 rfl) ?_
          refine lv_iconst (v := nI 2) hx hb dL_law_165 (by decide) ?_
          refine lv_iadd hx hb dL_law_166 ?_
          refine lv_topi (fun t_166 et_166 => ?_)
          have et_166 : t_166 = nI (6 * it + 2) := et_166.trans (nI_add (6 * it) 2)
          subst et_166
          refine va_sld hx hb hX hbl hbA hS (vp_in_nI (n := (6 * it + 2)) (N := L) (by omega) (by omega)) dL_law_167 ?_
          refine lv_topi (fun t_167 et_167 => ?_)
          have et_167 : t_167 = xs (6 * it + 2) := et_167.trans (congrArg xs (nI_clamp (n := (6 * it + 2)) (by omega)))
          subst et_167
          refine lv_aload_n hx hb dL_law_168 rfl (lv_at hl 0 rfl) ?_
          refine lv_iload_n hx hb dL_law_169 rfl (lv_at hl 3 rfl) ?_
          refine lv_iconst (v := nI 3) hx hb dL_law_170 (by decide) ?_
          refine lv_iadd hx hb dL_law_171 ?_
          refine lv_topi (fun t_171 et_171 => ?_)
          have et_171 : t_171 = nI (6 * it + 3) := et_171.trans (nI_add (6 * it) 3)
          subst et_171
          refine va_sld hx hb hX hbl hbA hS (vp_in_nI (n := (6 * it + 3)) (N := L) (by omega) (by omega)) dL_law_172 ?_
          refine lv_topi (fun t_172 et_172 => ?_)
          have et_172 : t_172 = xs (6 * it + 3) := et_172.trans (congrArg xs (nI_clamp (n := (6 * it + 3)) (by omega)))
          subst et_172
          refine lv_aload_n hx hb dL_law_173 rfl (lv_at hl 0 rfl) ?_
          refine lv_iload_n hx hb dL_law_174 rfl (lv_at hl 3 rfl) ?_
          refine lv_iconst (v := nI 4) hx hb dL_law_175 (by decide) ?_
          refine lv_iadd hx hb dL_law_176 ?_
          refine lv_topi (fun t_176 et_176 => ?_)
          have et_176 : t_176 = nI (6 * it + 4) := et_176.trans (nI_add (6 * it) 4)
          subst et_176
          refine va_sld hx hb hX hbl hbA hS (vp_in_nI (n := (6 * it + 4)) (N := L) (by omega) (by omega)) dL_law_177 ?_
          refine lv_topi (fun t_177 et_177 => ?_)
          have et_177 : t_177 = xs (6 * it + 4) := et_177.trans (congrArg xs (nI_clamp (n := (6 * it + 4)) (by omega)))
          subst et_177
          have hPc := hP.sub (ws' := [(m0, .inr (1, [.ref nk, .ref nb, .ref no])), (nb, .inl (cb, 16, .inl (mk8 fb)))]) [2, 4] rfl
          have hDc := hD.sub (ws' := [(m0, .inr (1, [.ref nk, .ref nb, .ref no])), (nb, .inl (cb, 16, .inl (mk8 fb)))]) [2, 4] (by decide) rfl
          have hKc := hK.sub (tys' := [(cb, .int)]) [3] rfl
          have hFc := va_free (wc := [(m0, .inr (1, [.ref nk, .ref nb, .ref no])), (nb, .inl (cb, 16, .inl (mk8 fb)))]) hD hS hA [2, 4] rfl
          refine va_callv (va_runV (As := [.int (xs (6 * it + 1)), .int (xs (6 * it + 2)), .int (xs (6 * it + 3)), .int (xs (6 * it + 4))]) (rest := []) ⟨hx, hb, hml, hown, hts⟩ (metX1_block l dC dI m0 nk nb no cb (mk8 fb) (xs (6 * it + 1)) (xs (6 * it + 2)) (xs (6 * it + 3)) (xs (6 * it + 4)) H.size) (cwV 4 hts (lw_V q263 q264 q265 q13 q266) rfl rfl rfl (by decide +kernel) ⟨Nat.le_of_ble_eq_true rfl, Nat.le_of_ble_eq_true rfl⟩) ⟨fun a U g mk q => by obtain ⟨q0, q1, qP, qK, qD⟩ := q; exact ⟨q0, q1, qP, va_K.moved (u := U) (U := U.calling g mk a) (Vm.Alike.refl U.vm) qK, qD⟩, va_recv hK hP (ci := 1) (q0 := 2) rfl rfl, fun U hU hW => ⟨rfl, by rw [hU], by rw [hU]; exact hPc, va_K.moved hW.alike hKc, hDc.weaken (fun _ _ _ _ => trivial)⟩⟩ rfl rfl hl.1 rfl (lv_room (Nat.le_of_ble_eq_true rfl)) dL_law_178 ⟨by show _ ≤ 1200096; omega, by show _ ≤ 5501386; omega⟩) hS (fun q _ h => hFc q h) hFc (fun u t H1 locs ht hvm hw_178 hB hz1 hk1 hS => ?_)
          obtain ⟨u_178, rfl⟩ : ∃ z, z = u := ⟨_, rfl⟩
          have hw_178 : u_178 = st16 (mk8 fb) 0 (xs (6 * it + 1)) (xs (6 * it + 2)) (xs (6 * it + 3)) (xs (6 * it + 4)) := hw_178
          obtain ⟨hP1, hK1, hD1⟩ := hB
          have hw_178 := hw_178.symm
          subst hw_178
          rw [ht] at hP1
          have hK1 := va_K.moved hvm.symm hK1
          obtain ⟨hP, hD⟩ := va_join (wr := [(ak, .inl (dk, 32, .inl fk)), (ao, .inl (dd, 16, .inl fo)), (nk, .inl (ck, 32, .inl (mk8 fk))), (no, .inl (cd, 16, .inl (mk8 fo))), (a0, .inr (0, [.ref ak, .ref ab, .ref ao])), (ab, .inl (db, 16, .inl u_154))]) (w1 := [(m0, .inr (1, [.ref nk, .ref nb, .ref no])), (nb, .inl (cb, 16, .inl (st16 (mk8 fb) 0 (xs (6 * it + 1)) (xs (6 * it + 2)) (xs (6 * it + 3)) (xs (6 * it + 4)))))]) hP hD [2, 4] [0, 1, 3, 5, 6, 7] rfl rfl (by decide) (by decide) hk1 hFc hP1 hD1
          have hK := (hK.sub (tys' := [(dk, .byte), (dd, .byte), (ck, .int), (cd, .int), (db, .byte)]) [0, 1, 2, 4, 5] rfl).app hK1
          generalize H1 = H at hP hS ⊢
          have hP : va_P (dC, dI) vwCl [(ak, .inl (dk, 32, .inl fk)), (ao, .inl (dd, 16, .inl fo)), (nk, .inl (ck, 32, .inl (mk8 fk))), (no, .inl (cd, 16, .inl (mk8 fo))), (a0, .inr (0, [.ref ak, .ref ab, .ref ao])), (ab, .inl (db, 16, .inl u_154)), (m0, .inr (1, [.ref nk, .ref nb, .ref no])), (nb, .inl (cb, 16, .inl (st16 (mk8 fb) 0 (xs (6 * it + 1)) (xs (6 * it + 2)) (xs (6 * it + 3)) (xs (6 * it + 4)))))] H := hP
          have hD : va_D (fun q : Nat => s.heap.size ≤ q) [(ak, .inl (dk, 32, .inl fk)), (ao, .inl (dd, 16, .inl fo)), (nk, .inl (ck, 32, .inl (mk8 fk))), (no, .inl (cd, 16, .inl (mk8 fo))), (a0, .inr (0, [.ref ak, .ref ab, .ref ao])), (ab, .inl (db, 16, .inl u_154)), (m0, .inr (1, [.ref nk, .ref nb, .ref no])), (nb, .inl (cb, 16, .inl (st16 (mk8 fb) 0 (xs (6 * it + 1)) (xs (6 * it + 2)) (xs (6 * it + 3)) (xs (6 * it + 4)))))] := hD
          have hK : va_K (dC, dI) vwCl [(dk, .byte), (dd, .byte), (ck, .int), (cd, .int), (db, .byte), (cb, .int)] s := hK
          refine lv_goto (tgt := 260) hx hb dL_law_181 (by decide) ?_
          refine lv_iinc (v := nI (6 * (it + 1))) (lv' := [(3, .int (nI (6 * (it + 1)))), (0, .ref b), (1, .ref a0), (2, .ref m0)]) hx hb dL_law_260 hl (k := 3) rfl (nI_add (6 * it) 6) (by decide) rfl (fun ls hl => ?_)
          refine lv_goto (tgt := 18) hx hb dL_law_263 (by decide) ?_
          refine W.widen (k := 8 + 8 * (it + 1)) (n := 134 + 93 * (it + 1)) (by omega) (by omega) ?_
          exact ih a0 ak ab ao dk db dd m0 nk nb no ck cb cd (it + 1) fk u_154 fo (mk8 fk) (st16 (mk8 fb) 0 (xs (6 * it + 1)) (xs (6 * it + 2)) (xs (6 * it + 3)) (xs (6 * it + 4))) (mk8 fo) (by omega) (by omega) rfl (hw_154.symm) rfl (hK.sub [0, 4, 1, 2, 5, 3] rfl) _ _ (hP.sub (ws' := [(a0, .inr (0, [.ref ak, .ref ab, .ref ao])), (ak, .inl (dk, 32, .inl fk)), (ab, .inl (db, 16, .inl u_154)), (ao, .inl (dd, 16, .inl fo)), (m0, .inr (1, [.ref nk, .ref nb, .ref no])), (nk, .inl (ck, 32, .inl (mk8 fk))), (nb, .inl (cb, 16, .inl (st16 (mk8 fb) 0 (xs (6 * it + 1)) (xs (6 * it + 2)) (xs (6 * it + 3)) (xs (6 * it + 4))))), (no, .inl (cd, 16, .inl (mk8 fo)))]) [4, 0, 5, 1, 6, 2, 7, 3] rfl) (hD.sub (ws' := [(a0, .inr (0, [.ref ak, .ref ab, .ref ao])), (ak, .inl (dk, 32, .inl fk)), (ab, .inl (db, 16, .inl u_154)), (ao, .inl (dd, 16, .inl fo)), (m0, .inr (1, [.ref nk, .ref nb, .ref no])), (nk, .inl (ck, 32, .inl (mk8 fk))), (nb, .inl (cb, 16, .inl (st16 (mk8 fb) 0 (xs (6 * it + 1)) (xs (6 * it + 2)) (xs (6 * it + 3)) (xs (6 * it + 4))))), (no, .inl (cd, 16, .inl (mk8 fo)))]) [4, 0, 5, 1, 6, 2, 7, 3] (by decide) rfl) hS _ (lv_sub hl [1, 2, 3, 0] rfl)
        · refine lv_tableIn (off := 151) (tgt := 184) hx hb dL_law_33 (by decide) (by decide) (by decide) (by decide) ?_
          refine lv_aload_n hx hb dL_law_184 rfl (lv_at hl 1 rfl) ?_
          refine lv_aload_n hx hb dL_law_185 rfl (lv_at hl 0 rfl) ?_
          refine lv_iload_n hx hb dL_law_186 rfl (lv_at hl 3 rfl) ?_
          refine lv_iconst (v := nI 1) hx hb dL_law_187 (by decide) ?_
          refine lv_iadd hx hb dL_law_188 ?_
          refine lv_topi (fun t_188 et_188 => ?_)
          have et_188 : t_188 = nI (6 * it + 1) := et_188.trans (nI_add (6 * it) 1)
          subst et_188
          refine va_sld hx hb hX hbl hbA hS (vp_in_nI (n := (6 * it + 1)) (N := L) (by omega) (by omega)) dL_law_189 ?_
          refine lv_topi (fun t_189 et_189 => ?_)
          have et_189 : t_189 = xs (6 * it + 1) := et_189.trans (congrArg xs (nI_clamp (n := (6 * it + 1)) (by omega)))
          subst et_189
          have hPc := hP.sub (ws' := [(a0, .inr (0, [.ref ak, .ref ab, .ref ao])), (ak, .inl (dk, 32, .inl fk)), (ab, .inl (db, 16, .inl fb)), (ao, .inl (dd, 16, .inl fo))]) [0, 1, 2, 3] rfl
          have hDc := hD.sub (ws' := [(a0, .inr (0, [.ref ak, .ref ab, .ref ao])), (ak, .inl (dk, 32, .inl fk)), (ab, .inl (db, 16, .inl fb)), (ao, .inl (dd, 16, .inl fo))]) [0, 1, 2, 3] (by decide) rfl
          have hKc := hK.sub (tys' := [(dk, .byte), (db, .byte), (dd, .byte)]) [0, 1, 2] rfl
          have hFc := va_free (wc := [(a0, .inr (0, [.ref ak, .ref ab, .ref ao])), (ak, .inl (dk, 32, .inl fk)), (ab, .inl (db, 16, .inl fb)), (ao, .inl (dd, 16, .inl fo))]) hD hS hA [0, 1, 2, 3] rfl
          refine va_callv (va_runV (As := [.int (xs (6 * it + 1))]) (rest := []) ⟨hx, hb, hml, hown, hts⟩ (metX0_lock l dC dI a0 ak ab ao dk db dd fk fb fo (xs (6 * it + 1)) H.size) (cwV 1 hts (lw_V q51 q52 q53 q12 q54) rfl rfl rfl (by decide +kernel) ⟨Nat.le_of_ble_eq_true rfl, Nat.le_of_ble_eq_true rfl⟩) ⟨fun a U g mk q => by obtain ⟨q0, q1, qP, qK, qD, f0, f1⟩ := q; exact ⟨q0, q1, qP, va_K.moved (u := U) (U := U.calling g mk a) (Vm.Alike.refl U.vm) qK, qD, va_Fw.moved (by decide) (Vm.Alike.refl U.vm) f0, va_Fw.moved (by decide) (Vm.Alike.refl U.vm) f1⟩, va_recv hK hP (ci := 0) (q0 := 0) rfl rfl, fun U hU hW => ⟨rfl, by rw [hU], by rw [hU]; exact hPc, va_K.moved hW.alike hKc, hDc.weaken (fun _ _ _ _ => trivial), va_Fw.moved (by decide) hW.alike hf1, va_Fw.moved (by decide) hW.alike hf2⟩⟩ rfl rfl hl.1 rfl (lv_room (Nat.le_of_ble_eq_true rfl)) dL_law_190 ⟨by show _ ≤ 1200096; omega, by show _ ≤ 5501386; omega⟩) hS (fun q _ h => hFc q h) hFc (fun u t H1 locs ht hvm hw_190 hB hz1 hk1 hS => ?_)
          obtain ⟨u_190, rfl⟩ : ∃ z, z = u := ⟨_, rfl⟩
          have hw_190 : mk8 u_190 = encO (sch (mk8 fk)) (mk8 fb) (mk8 fo) := hw_190
          obtain ⟨hP1, hK1, hD1⟩ := hB
          rw [ht] at hP1
          have hK1 := va_K.moved hvm.symm hK1
          obtain ⟨hP, hD⟩ := va_join (wr := [(m0, .inr (1, [.ref nk, .ref nb, .ref no])), (nk, .inl (ck, 32, .inl (mk8 fk))), (nb, .inl (cb, 16, .inl (mk8 fb))), (no, .inl (cd, 16, .inl (mk8 fo)))]) (w1 := [(a0, .inr (0, [.ref ak, .ref ab, .ref ao])), (ak, .inl (dk, 32, .inl fk)), (ab, .inl (db, 16, .inl fb)), (ao, .inl (dd, 16, .inl u_190))]) hP hD [0, 1, 2, 3] [4, 5, 6, 7] rfl rfl (by decide) (by decide) hk1 hFc hP1 hD1
          have hK := (hK.sub (tys' := [(ck, .int), (cb, .int), (cd, .int)]) [3, 4, 5] rfl).app hK1
          generalize H1 = H at hP hS ⊢
          have hP : va_P (dC, dI) vwCl [(m0, .inr (1, [.ref nk, .ref nb, .ref no])), (nk, .inl (ck, 32, .inl (mk8 fk))), (nb, .inl (cb, 16, .inl (mk8 fb))), (no, .inl (cd, 16, .inl (mk8 fo))), (a0, .inr (0, [.ref ak, .ref ab, .ref ao])), (ak, .inl (dk, 32, .inl fk)), (ab, .inl (db, 16, .inl fb)), (ao, .inl (dd, 16, .inl u_190))] H := hP
          have hD : va_D (fun q : Nat => s.heap.size ≤ q) [(m0, .inr (1, [.ref nk, .ref nb, .ref no])), (nk, .inl (ck, 32, .inl (mk8 fk))), (nb, .inl (cb, 16, .inl (mk8 fb))), (no, .inl (cd, 16, .inl (mk8 fo))), (a0, .inr (0, [.ref ak, .ref ab, .ref ao])), (ak, .inl (dk, 32, .inl fk)), (ab, .inl (db, 16, .inl fb)), (ao, .inl (dd, 16, .inl u_190))] := hD
          have hK : va_K (dC, dI) vwCl [(ck, .int), (cb, .int), (cd, .int), (dk, .byte), (db, .byte), (dd, .byte)] s := hK
          refine lv_aload_n hx hb dL_law_193 rfl (lv_at hl 2 rfl) ?_
          refine lv_aload_n hx hb dL_law_194 rfl (lv_at hl 0 rfl) ?_
          refine lv_iload_n hx hb dL_law_195 rfl (lv_at hl 3 rfl) ?_
          refine lv_iconst (v := nI 1) hx hb dL_law_196 (by decide) ?_
          refine lv_iadd hx hb dL_law_197 ?_
          refine lv_topi (fun t_197 et_197 => ?_)
          have et_197 : t_197 = nI (6 * it + 1) := et_197.trans (nI_add (6 * it) 1)
          subst et_197
          refine va_sld hx hb hX hbl hbA hS (vp_in_nI (n := (6 * it + 1)) (N := L) (by omega) (by omega)) dL_law_198 ?_
          refine lv_topi (fun t_198 et_198 => ?_)
          have et_198 : t_198 = xs (6 * it + 1) := et_198.trans (congrArg xs (nI_clamp (n := (6 * it + 1)) (by omega)))
          subst et_198
          have hPc := hP.sub (ws' := [(m0, .inr (1, [.ref nk, .ref nb, .ref no])), (nk, .inl (ck, 32, .inl (mk8 fk))), (nb, .inl (cb, 16, .inl (mk8 fb))), (no, .inl (cd, 16, .inl (mk8 fo)))]) [0, 1, 2, 3] rfl
          have hDc := hD.sub (ws' := [(m0, .inr (1, [.ref nk, .ref nb, .ref no])), (nk, .inl (ck, 32, .inl (mk8 fk))), (nb, .inl (cb, 16, .inl (mk8 fb))), (no, .inl (cd, 16, .inl (mk8 fo)))]) [0, 1, 2, 3] (by decide) rfl
          have hKc := hK.sub (tys' := [(ck, .int), (cb, .int), (cd, .int)]) [0, 1, 2] rfl
          have hFc := va_free (wc := [(m0, .inr (1, [.ref nk, .ref nb, .ref no])), (nk, .inl (ck, 32, .inl (mk8 fk))), (nb, .inl (cb, 16, .inl (mk8 fb))), (no, .inl (cd, 16, .inl (mk8 fo)))]) hD hS hA [0, 1, 2, 3] rfl
          refine va_callv (va_runV (As := [.int (xs (6 * it + 1))]) (rest := []) ⟨hx, hb, hml, hown, hts⟩ (metX1_lock l dC dI m0 nk nb no ck cb cd (mk8 fk) (mk8 fb) (mk8 fo) (xs (6 * it + 1)) H.size (mk8_mk8 fk) (mk8_mk8 fb)) (cwV 1 hts (lw_V q275 q276 q277 q13 q278) rfl rfl rfl (by decide +kernel) ⟨Nat.le_of_ble_eq_true rfl, Nat.le_of_ble_eq_true rfl⟩) ⟨fun a U g mk q => by obtain ⟨q0, q1, qP, qK, qD⟩ := q; exact ⟨q0, q1, qP, va_K.moved (u := U) (U := U.calling g mk a) (Vm.Alike.refl U.vm) qK, qD⟩, va_recv hK hP (ci := 1) (q0 := 0) rfl rfl, fun U hU hW => ⟨rfl, by rw [hU], by rw [hU]; exact hPc, va_K.moved hW.alike hKc, hDc.weaken (fun _ _ _ _ => trivial)⟩⟩ rfl rfl hl.1 rfl (lv_room (Nat.le_of_ble_eq_true rfl)) dL_law_199 ⟨by show _ ≤ 1200096; omega, by show _ ≤ 5501386; omega⟩) hS (fun q _ h => hFc q h) hFc (fun u t H1 locs ht hvm hw_199 hB hz1 hk1 hS => ?_)
          obtain ⟨u_199, rfl⟩ : ∃ z, z = u := ⟨_, rfl⟩
          have hw_199 : u_199 = encO (sch (mk8 fk)) (mk8 fb) (mk8 fo) := hw_199
          obtain ⟨hP1, hK1, hD1⟩ := hB
          have hw_199 := hw_199.symm
          subst hw_199
          rw [ht] at hP1
          have hK1 := va_K.moved hvm.symm hK1
          obtain ⟨hP, hD⟩ := va_join (wr := [(a0, .inr (0, [.ref ak, .ref ab, .ref ao])), (ak, .inl (dk, 32, .inl fk)), (ab, .inl (db, 16, .inl fb)), (ao, .inl (dd, 16, .inl u_190))]) (w1 := [(m0, .inr (1, [.ref nk, .ref nb, .ref no])), (nk, .inl (ck, 32, .inl (mk8 fk))), (nb, .inl (cb, 16, .inl (mk8 fb))), (no, .inl (cd, 16, .inl (encO (sch (mk8 fk)) (mk8 fb) (mk8 fo))))]) hP hD [0, 1, 2, 3] [4, 5, 6, 7] rfl rfl (by decide) (by decide) hk1 hFc hP1 hD1
          have hK := (hK.sub (tys' := [(dk, .byte), (db, .byte), (dd, .byte)]) [3, 4, 5] rfl).app hK1
          generalize H1 = H at hP hS ⊢
          have hP : va_P (dC, dI) vwCl [(a0, .inr (0, [.ref ak, .ref ab, .ref ao])), (ak, .inl (dk, 32, .inl fk)), (ab, .inl (db, 16, .inl fb)), (ao, .inl (dd, 16, .inl u_190)), (m0, .inr (1, [.ref nk, .ref nb, .ref no])), (nk, .inl (ck, 32, .inl (mk8 fk))), (nb, .inl (cb, 16, .inl (mk8 fb))), (no, .inl (cd, 16, .inl (encO (sch (mk8 fk)) (mk8 fb) (mk8 fo))))] H := hP
          have hD : va_D (fun q : Nat => s.heap.size ≤ q) [(a0, .inr (0, [.ref ak, .ref ab, .ref ao])), (ak, .inl (dk, 32, .inl fk)), (ab, .inl (db, 16, .inl fb)), (ao, .inl (dd, 16, .inl u_190)), (m0, .inr (1, [.ref nk, .ref nb, .ref no])), (nk, .inl (ck, 32, .inl (mk8 fk))), (nb, .inl (cb, 16, .inl (mk8 fb))), (no, .inl (cd, 16, .inl (encO (sch (mk8 fk)) (mk8 fb) (mk8 fo))))] := hD
          have hK : va_K (dC, dI) vwCl [(dk, .byte), (db, .byte), (dd, .byte), (ck, .int), (cb, .int), (cd, .int)] s := hK
          refine lv_goto (tgt := 260) hx hb dL_law_202 (by decide) ?_
          refine lv_iinc (v := nI (6 * (it + 1))) (lv' := [(3, .int (nI (6 * (it + 1)))), (0, .ref b), (1, .ref a0), (2, .ref m0)]) hx hb dL_law_260 hl (k := 3) rfl (nI_add (6 * it) 6) (by decide) rfl (fun ls hl => ?_)
          refine lv_goto (tgt := 18) hx hb dL_law_263 (by decide) ?_
          refine W.widen (k := 8 + 8 * (it + 1)) (n := 134 + 93 * (it + 1)) (by omega) (by omega) ?_
          exact ih a0 ak ab ao dk db dd m0 nk nb no ck cb cd (it + 1) fk fb u_190 (mk8 fk) (mk8 fb) (encO (sch (mk8 fk)) (mk8 fb) (mk8 fo)) (by omega) (by omega) rfl rfl (hw_190.symm) (hK.sub [0, 1, 2, 3, 4, 5] rfl) _ _ (hP.sub (ws' := [(a0, .inr (0, [.ref ak, .ref ab, .ref ao])), (ak, .inl (dk, 32, .inl fk)), (ab, .inl (db, 16, .inl fb)), (ao, .inl (dd, 16, .inl u_190)), (m0, .inr (1, [.ref nk, .ref nb, .ref no])), (nk, .inl (ck, 32, .inl (mk8 fk))), (nb, .inl (cb, 16, .inl (mk8 fb))), (no, .inl (cd, 16, .inl (encO (sch (mk8 fk)) (mk8 fb) (mk8 fo))))]) [0, 1, 2, 3, 4, 5, 6, 7] rfl) (hD.sub (ws' := [(a0, .inr (0, [.ref ak, .ref ab, .ref ao])), (ak, .inl (dk, 32, .inl fk)), (ab, .inl (db, 16, .inl fb)), (ao, .inl (dd, 16, .inl u_190)), (m0, .inr (1, [.ref nk, .ref nb, .ref no])), (nk, .inl (ck, 32, .inl (mk8 fk))), (nb, .inl (cb, 16, .inl (mk8 fb))), (no, .inl (cd, 16, .inl (encO (sch (mk8 fk)) (mk8 fb) (mk8 fo))))]) [0, 1, 2, 3, 4, 5, 6, 7] (by decide) rfl) hS _ (lv_sub hl [1, 2, 3, 0] rfl)
        · refine lv_tableIn (off := 172) (tgt := 205) hx hb dL_law_33 (by decide) (by decide) (by decide) (by decide) ?_
          refine lv_aload_n hx hb dL_law_205 rfl (lv_at hl 1 rfl) ?_
          refine lv_aload_n hx hb dL_law_206 rfl (lv_at hl 0 rfl) ?_
          refine lv_iload_n hx hb dL_law_207 rfl (lv_at hl 3 rfl) ?_
          refine lv_iconst (v := nI 1) hx hb dL_law_208 (by decide) ?_
          refine lv_iadd hx hb dL_law_209 ?_
          refine lv_topi (fun t_209 et_209 => ?_)
          have et_209 : t_209 = nI (6 * it + 1) := et_209.trans (nI_add (6 * it) 1)
          subst et_209
          refine va_sld hx hb hX hbl hbA hS (vp_in_nI (n := (6 * it + 1)) (N := L) (by omega) (by omega)) dL_law_210 ?_
          refine lv_topi (fun t_210 et_210 => ?_)
          have et_210 : t_210 = xs (6 * it + 1) := et_210.trans (congrArg xs (nI_clamp (n := (6 * it + 1)) (by omega)))
          subst et_210
          have hPc := hP.sub (ws' := [(a0, .inr (0, [.ref ak, .ref ab, .ref ao])), (ak, .inl (dk, 32, .inl fk)), (ab, .inl (db, 16, .inl fb)), (ao, .inl (dd, 16, .inl fo))]) [0, 1, 2, 3] rfl
          have hDc := hD.sub (ws' := [(a0, .inr (0, [.ref ak, .ref ab, .ref ao])), (ak, .inl (dk, 32, .inl fk)), (ab, .inl (db, 16, .inl fb)), (ao, .inl (dd, 16, .inl fo))]) [0, 1, 2, 3] (by decide) rfl
          have hKc := hK.sub (tys' := [(dk, .byte), (db, .byte), (dd, .byte)]) [0, 1, 2] rfl
          have hFc := va_free (wc := [(a0, .inr (0, [.ref ak, .ref ab, .ref ao])), (ak, .inl (dk, 32, .inl fk)), (ab, .inl (db, 16, .inl fb)), (ao, .inl (dd, 16, .inl fo))]) hD hS hA [0, 1, 2, 3] rfl
          refine va_callv (va_runV (As := [.int (xs (6 * it + 1))]) (rest := []) ⟨hx, hb, hml, hown, hts⟩ (metX0_open l dC dI a0 ak ab ao dk db dd fk fb fo (xs (6 * it + 1)) H.size) (cwV 1 hts (lw_V q224 q225 q226 q12 q227) rfl rfl rfl (by decide +kernel) ⟨Nat.le_of_ble_eq_true rfl, Nat.le_of_ble_eq_true rfl⟩) ⟨fun a U g mk q => by obtain ⟨q0, q1, qP, qK, qD, f0, f1⟩ := q; exact ⟨q0, q1, qP, va_K.moved (u := U) (U := U.calling g mk a) (Vm.Alike.refl U.vm) qK, qD, va_Fw.moved (by decide) (Vm.Alike.refl U.vm) f0, va_Fw.moved (by decide) (Vm.Alike.refl U.vm) f1⟩, va_recv hK hP (ci := 0) (q0 := 0) rfl rfl, fun U hU hW => ⟨rfl, by rw [hU], by rw [hU]; exact hPc, va_K.moved hW.alike hKc, hDc.weaken (fun _ _ _ _ => trivial), va_Fw.moved (by decide) hW.alike hf1, va_Fw.moved (by decide) hW.alike hf2⟩⟩ rfl rfl hl.1 rfl (lv_room (Nat.le_of_ble_eq_true rfl)) dL_law_211 ⟨by show _ ≤ 1200096; omega, by show _ ≤ 5501386; omega⟩) hS (fun q _ h => hFc q h) hFc (fun u t H1 locs ht hvm hw_211 hB hz1 hk1 hS => ?_)
          obtain ⟨u_211, rfl⟩ : ∃ z, z = u := ⟨_, rfl⟩
          have hw_211 : mk8 u_211 = decO (sch (mk8 fk)) (mk8 fb) (mk8 fo) := hw_211
          obtain ⟨hP1, hK1, hD1⟩ := hB
          rw [ht] at hP1
          have hK1 := va_K.moved hvm.symm hK1
          obtain ⟨hP, hD⟩ := va_join (wr := [(m0, .inr (1, [.ref nk, .ref nb, .ref no])), (nk, .inl (ck, 32, .inl (mk8 fk))), (nb, .inl (cb, 16, .inl (mk8 fb))), (no, .inl (cd, 16, .inl (mk8 fo)))]) (w1 := [(a0, .inr (0, [.ref ak, .ref ab, .ref ao])), (ak, .inl (dk, 32, .inl fk)), (ab, .inl (db, 16, .inl fb)), (ao, .inl (dd, 16, .inl u_211))]) hP hD [0, 1, 2, 3] [4, 5, 6, 7] rfl rfl (by decide) (by decide) hk1 hFc hP1 hD1
          have hK := (hK.sub (tys' := [(ck, .int), (cb, .int), (cd, .int)]) [3, 4, 5] rfl).app hK1
          generalize H1 = H at hP hS ⊢
          have hP : va_P (dC, dI) vwCl [(m0, .inr (1, [.ref nk, .ref nb, .ref no])), (nk, .inl (ck, 32, .inl (mk8 fk))), (nb, .inl (cb, 16, .inl (mk8 fb))), (no, .inl (cd, 16, .inl (mk8 fo))), (a0, .inr (0, [.ref ak, .ref ab, .ref ao])), (ak, .inl (dk, 32, .inl fk)), (ab, .inl (db, 16, .inl fb)), (ao, .inl (dd, 16, .inl u_211))] H := hP
          have hD : va_D (fun q : Nat => s.heap.size ≤ q) [(m0, .inr (1, [.ref nk, .ref nb, .ref no])), (nk, .inl (ck, 32, .inl (mk8 fk))), (nb, .inl (cb, 16, .inl (mk8 fb))), (no, .inl (cd, 16, .inl (mk8 fo))), (a0, .inr (0, [.ref ak, .ref ab, .ref ao])), (ak, .inl (dk, 32, .inl fk)), (ab, .inl (db, 16, .inl fb)), (ao, .inl (dd, 16, .inl u_211))] := hD
          have hK : va_K (dC, dI) vwCl [(ck, .int), (cb, .int), (cd, .int), (dk, .byte), (db, .byte), (dd, .byte)] s := hK
          refine lv_aload_n hx hb dL_law_214 rfl (lv_at hl 2 rfl) ?_
          refine lv_aload_n hx hb dL_law_215 rfl (lv_at hl 0 rfl) ?_
          refine lv_iload_n hx hb dL_law_216 rfl (lv_at hl 3 rfl) ?_
          refine lv_iconst (v := nI 1) hx hb dL_law_217 (by decide) ?_
          refine lv_iadd hx hb dL_law_218 ?_
          refine lv_topi (fun t_218 et_218 => ?_)
          have et_218 : t_218 = nI (6 * it + 1) := et_218.trans (nI_add (6 * it) 1)
          subst et_218
          refine va_sld hx hb hX hbl hbA hS (vp_in_nI (n := (6 * it + 1)) (N := L) (by omega) (by omega)) dL_law_219 ?_
          refine lv_topi (fun t_219 et_219 => ?_)
          have et_219 : t_219 = xs (6 * it + 1) := et_219.trans (congrArg xs (nI_clamp (n := (6 * it + 1)) (by omega)))
          subst et_219
          have hPc := hP.sub (ws' := [(m0, .inr (1, [.ref nk, .ref nb, .ref no])), (nk, .inl (ck, 32, .inl (mk8 fk))), (nb, .inl (cb, 16, .inl (mk8 fb))), (no, .inl (cd, 16, .inl (mk8 fo)))]) [0, 1, 2, 3] rfl
          have hDc := hD.sub (ws' := [(m0, .inr (1, [.ref nk, .ref nb, .ref no])), (nk, .inl (ck, 32, .inl (mk8 fk))), (nb, .inl (cb, 16, .inl (mk8 fb))), (no, .inl (cd, 16, .inl (mk8 fo)))]) [0, 1, 2, 3] (by decide) rfl
          have hKc := hK.sub (tys' := [(ck, .int), (cb, .int), (cd, .int)]) [0, 1, 2] rfl
          have hFc := va_free (wc := [(m0, .inr (1, [.ref nk, .ref nb, .ref no])), (nk, .inl (ck, 32, .inl (mk8 fk))), (nb, .inl (cb, 16, .inl (mk8 fb))), (no, .inl (cd, 16, .inl (mk8 fo)))]) hD hS hA [0, 1, 2, 3] rfl
          refine va_callv (va_runV (As := [.int (xs (6 * it + 1))]) (rest := []) ⟨hx, hb, hml, hown, hts⟩ (metX1_open l dC dI m0 nk nb no ck cb cd (mk8 fk) (mk8 fb) (mk8 fo) (xs (6 * it + 1)) H.size (mk8_mk8 fk) (mk8_mk8 fb)) (cwV 1 hts (lw_V q298 q299 q300 q13 q301) rfl rfl rfl (by decide +kernel) ⟨Nat.le_of_ble_eq_true rfl, Nat.le_of_ble_eq_true rfl⟩) ⟨fun a U g mk q => by obtain ⟨q0, q1, qP, qK, qD⟩ := q; exact ⟨q0, q1, qP, va_K.moved (u := U) (U := U.calling g mk a) (Vm.Alike.refl U.vm) qK, qD⟩, va_recv hK hP (ci := 1) (q0 := 0) rfl rfl, fun U hU hW => ⟨rfl, by rw [hU], by rw [hU]; exact hPc, va_K.moved hW.alike hKc, hDc.weaken (fun _ _ _ _ => trivial)⟩⟩ rfl rfl hl.1 rfl (lv_room (Nat.le_of_ble_eq_true rfl)) dL_law_220 ⟨by show _ ≤ 1200096; omega, by show _ ≤ 5501386; omega⟩) hS (fun q _ h => hFc q h) hFc (fun u t H1 locs ht hvm hw_220 hB hz1 hk1 hS => ?_)
          obtain ⟨u_220, rfl⟩ : ∃ z, z = u := ⟨_, rfl⟩
          have hw_220 : u_220 = decO (sch (mk8 fk)) (mk8 fb) (mk8 fo) := hw_220
          obtain ⟨hP1, hK1, hD1⟩ := hB
          have hw_220 := hw_220.symm
          subst hw_220
          rw [ht] at hP1
          have hK1 := va_K.moved hvm.symm hK1
          obtain ⟨hP, hD⟩ := va_join (wr := [(a0, .inr (0, [.ref ak, .ref ab, .ref ao])), (ak, .inl (dk, 32, .inl fk)), (ab, .inl (db, 16, .inl fb)), (ao, .inl (dd, 16, .inl u_211))]) (w1 := [(m0, .inr (1, [.ref nk, .ref nb, .ref no])), (nk, .inl (ck, 32, .inl (mk8 fk))), (nb, .inl (cb, 16, .inl (mk8 fb))), (no, .inl (cd, 16, .inl (decO (sch (mk8 fk)) (mk8 fb) (mk8 fo))))]) hP hD [0, 1, 2, 3] [4, 5, 6, 7] rfl rfl (by decide) (by decide) hk1 hFc hP1 hD1
          have hK := (hK.sub (tys' := [(dk, .byte), (db, .byte), (dd, .byte)]) [3, 4, 5] rfl).app hK1
          generalize H1 = H at hP hS ⊢
          have hP : va_P (dC, dI) vwCl [(a0, .inr (0, [.ref ak, .ref ab, .ref ao])), (ak, .inl (dk, 32, .inl fk)), (ab, .inl (db, 16, .inl fb)), (ao, .inl (dd, 16, .inl u_211)), (m0, .inr (1, [.ref nk, .ref nb, .ref no])), (nk, .inl (ck, 32, .inl (mk8 fk))), (nb, .inl (cb, 16, .inl (mk8 fb))), (no, .inl (cd, 16, .inl (decO (sch (mk8 fk)) (mk8 fb) (mk8 fo))))] H := hP
          have hD : va_D (fun q : Nat => s.heap.size ≤ q) [(a0, .inr (0, [.ref ak, .ref ab, .ref ao])), (ak, .inl (dk, 32, .inl fk)), (ab, .inl (db, 16, .inl fb)), (ao, .inl (dd, 16, .inl u_211)), (m0, .inr (1, [.ref nk, .ref nb, .ref no])), (nk, .inl (ck, 32, .inl (mk8 fk))), (nb, .inl (cb, 16, .inl (mk8 fb))), (no, .inl (cd, 16, .inl (decO (sch (mk8 fk)) (mk8 fb) (mk8 fo))))] := hD
          have hK : va_K (dC, dI) vwCl [(dk, .byte), (db, .byte), (dd, .byte), (ck, .int), (cb, .int), (cd, .int)] s := hK
          refine lv_goto (tgt := 260) hx hb dL_law_223 (by decide) ?_
          refine lv_iinc (v := nI (6 * (it + 1))) (lv' := [(3, .int (nI (6 * (it + 1)))), (0, .ref b), (1, .ref a0), (2, .ref m0)]) hx hb dL_law_260 hl (k := 3) rfl (nI_add (6 * it) 6) (by decide) rfl (fun ls hl => ?_)
          refine lv_goto (tgt := 18) hx hb dL_law_263 (by decide) ?_
          refine W.widen (k := 8 + 8 * (it + 1)) (n := 134 + 93 * (it + 1)) (by omega) (by omega) ?_
          exact ih a0 ak ab ao dk db dd m0 nk nb no ck cb cd (it + 1) fk fb u_211 (mk8 fk) (mk8 fb) (decO (sch (mk8 fk)) (mk8 fb) (mk8 fo)) (by omega) (by omega) rfl rfl (hw_211.symm) (hK.sub [0, 1, 2, 3, 4, 5] rfl) _ _ (hP.sub (ws' := [(a0, .inr (0, [.ref ak, .ref ab, .ref ao])), (ak, .inl (dk, 32, .inl fk)), (ab, .inl (db, 16, .inl fb)), (ao, .inl (dd, 16, .inl u_211)), (m0, .inr (1, [.ref nk, .ref nb, .ref no])), (nk, .inl (ck, 32, .inl (mk8 fk))), (nb, .inl (cb, 16, .inl (mk8 fb))), (no, .inl (cd, 16, .inl (decO (sch (mk8 fk)) (mk8 fb) (mk8 fo))))]) [0, 1, 2, 3, 4, 5, 6, 7] rfl) (hD.sub (ws' := [(a0, .inr (0, [.ref ak, .ref ab, .ref ao])), (ak, .inl (dk, 32, .inl fk)), (ab, .inl (db, 16, .inl fb)), (ao, .inl (dd, 16, .inl u_211)), (m0, .inr (1, [.ref nk, .ref nb, .ref no])), (nk, .inl (ck, 32, .inl (mk8 fk))), (nb, .inl (cb, 16, .inl (mk8 fb))), (no, .inl (cd, 16, .inl (decO (sch (mk8 fk)) (mk8 fb) (mk8 fo))))]) [0, 1, 2, 3, 4, 5, 6, 7] (by decide) rfl) hS _ (lv_sub hl [1, 2, 3, 0] rfl)
        · refine lv_tableIn (off := 193) (tgt := 226) hx hb dL_law_33 (by decide) (by decide) (by decide) (by decide) ?_
          refine lv_aload_n hx hb dL_law_226 rfl (lv_at hl 1 rfl) ?_
          have hPc := hP.sub (ws' := [(a0, .inr (0, [.ref ak, .ref ab, .ref ao])), (ab, .inl (db, 16, .inl fb)), (ao, .inl (dd, 16, .inl fo))]) [0, 2, 3] rfl
          have hDc := hD.sub (ws' := [(a0, .inr (0, [.ref ak, .ref ab, .ref ao])), (ab, .inl (db, 16, .inl fb)), (ao, .inl (dd, 16, .inl fo))]) [0, 2, 3] (by decide) rfl
          have hKc := hK.sub (tys' := [(db, .byte), (dd, .byte)]) [1, 2] rfl
          have hFc := va_free (wc := [(a0, .inr (0, [.ref ak, .ref ab, .ref ao])), (ab, .inl (db, 16, .inl fb)), (ao, .inl (dd, 16, .inl fo))]) hD hS hA [0, 2, 3] rfl
          refine va_callv (va_runV (As := []) (rest := []) ⟨hx, hb, hml, hown, hts⟩ (metX0_again l dC dI a0 ak ab ao db dd fb fo H.size) (cwV 0 hts (lw_V q228 q229 q230 q12 q231) rfl rfl rfl (by decide +kernel) ⟨Nat.le_of_ble_eq_true rfl, Nat.le_of_ble_eq_true rfl⟩) ⟨fun a U g mk q => by obtain ⟨q0, q1, qP, qK, qD⟩ := q; exact ⟨q0, q1, qP, va_K.moved (u := U) (U := U.calling g mk a) (Vm.Alike.refl U.vm) qK, qD⟩, va_recv hK hP (ci := 0) (q0 := 0) rfl rfl, fun U hU hW => ⟨rfl, by rw [hU], by rw [hU]; exact hPc, va_K.moved hW.alike hKc, hDc.weaken (fun _ _ _ _ => trivial)⟩⟩ rfl rfl hl.1 rfl (lv_room (Nat.le_of_ble_eq_true rfl)) dL_law_227 ⟨by show _ ≤ 1200096; omega, by show _ ≤ 5501386; omega⟩) hS (fun q _ h => hFc q h) hFc (fun u t H1 locs ht hvm hw_227 hB hz1 hk1 hS => ?_)
          obtain ⟨u_227, rfl⟩ : ∃ z, z = u := ⟨_, rfl⟩
          have hw_227 : mk8 u_227 = stn (mk8 fb) 0 (mk8 fo) 16 := hw_227
          obtain ⟨hP1, hK1, hD1⟩ := hB
          rw [ht] at hP1
          have hK1 := va_K.moved hvm.symm hK1
          obtain ⟨hP, hD⟩ := va_join (wr := [(ak, .inl (dk, 32, .inl fk)), (m0, .inr (1, [.ref nk, .ref nb, .ref no])), (nk, .inl (ck, 32, .inl (mk8 fk))), (nb, .inl (cb, 16, .inl (mk8 fb))), (no, .inl (cd, 16, .inl (mk8 fo)))]) (w1 := [(a0, .inr (0, [.ref ak, .ref ab, .ref ao])), (ab, .inl (db, 16, .inl u_227)), (ao, .inl (dd, 16, .inl fo))]) hP hD [0, 2, 3] [1, 4, 5, 6, 7] rfl rfl (by decide) (by decide) hk1 hFc hP1 hD1
          have hK := (hK.sub (tys' := [(dk, .byte), (ck, .int), (cb, .int), (cd, .int)]) [0, 3, 4, 5] rfl).app hK1
          generalize H1 = H at hP hS ⊢
          have hP : va_P (dC, dI) vwCl [(ak, .inl (dk, 32, .inl fk)), (m0, .inr (1, [.ref nk, .ref nb, .ref no])), (nk, .inl (ck, 32, .inl (mk8 fk))), (nb, .inl (cb, 16, .inl (mk8 fb))), (no, .inl (cd, 16, .inl (mk8 fo))), (a0, .inr (0, [.ref ak, .ref ab, .ref ao])), (ab, .inl (db, 16, .inl u_227)), (ao, .inl (dd, 16, .inl fo))] H := hP
          have hD : va_D (fun q : Nat => s.heap.size ≤ q) [(ak, .inl (dk, 32, .inl fk)), (m0, .inr (1, [.ref nk, .ref nb, .ref no])), (nk, .inl (ck, 32, .inl (mk8 fk))), (nb, .inl (cb, 16, .inl (mk8 fb))), (no, .inl (cd, 16, .inl (mk8 fo))), (a0, .inr (0, [.ref ak, .ref ab, .ref ao])), (ab, .inl (db, 16, .inl u_227)), (ao, .inl (dd, 16, .inl fo))] := hD
          have hK : va_K (dC, dI) vwCl [(dk, .byte), (ck, .int), (cb, .int), (cd, .int), (db, .byte), (dd, .byte)] s := hK
          refine lv_aload_n hx hb dL_law_230 rfl (lv_at hl 2 rfl) ?_
          have hPc := hP.sub (ws' := [(m0, .inr (1, [.ref nk, .ref nb, .ref no])), (nb, .inl (cb, 16, .inl (mk8 fb))), (no, .inl (cd, 16, .inl (mk8 fo)))]) [1, 3, 4] rfl
          have hDc := hD.sub (ws' := [(m0, .inr (1, [.ref nk, .ref nb, .ref no])), (nb, .inl (cb, 16, .inl (mk8 fb))), (no, .inl (cd, 16, .inl (mk8 fo)))]) [1, 3, 4] (by decide) rfl
          have hKc := hK.sub (tys' := [(cb, .int), (cd, .int)]) [2, 3] rfl
          have hFc := va_free (wc := [(m0, .inr (1, [.ref nk, .ref nb, .ref no])), (nb, .inl (cb, 16, .inl (mk8 fb))), (no, .inl (cd, 16, .inl (mk8 fo)))]) hD hS hA [1, 3, 4] rfl
          refine va_callv (va_runV (As := []) (rest := []) ⟨hx, hb, hml, hown, hts⟩ (metX1_again l dC dI m0 nk nb no cb cd (mk8 fb) (mk8 fo) H.size) (cwV 0 hts (lw_V q267 q268 q269 q13 q270) rfl rfl rfl (by decide +kernel) ⟨Nat.le_of_ble_eq_true rfl, Nat.le_of_ble_eq_true rfl⟩) ⟨fun a U g mk q => by obtain ⟨q0, q1, qP, qK, qD⟩ := q; exact ⟨q0, q1, qP, va_K.moved (u := U) (U := U.calling g mk a) (Vm.Alike.refl U.vm) qK, qD⟩, va_recv hK hP (ci := 1) (q0 := 1) rfl rfl, fun U hU hW => ⟨rfl, by rw [hU], by rw [hU]; exact hPc, va_K.moved hW.alike hKc, hDc.weaken (fun _ _ _ _ => trivial)⟩⟩ rfl rfl hl.1 rfl (lv_room (Nat.le_of_ble_eq_true rfl)) dL_law_231 ⟨by show _ ≤ 1200096; omega, by show _ ≤ 5501386; omega⟩) hS (fun q _ h => hFc q h) hFc (fun u t H1 locs ht hvm hw_231 hB hz1 hk1 hS => ?_)
          obtain ⟨u_231, rfl⟩ : ∃ z, z = u := ⟨_, rfl⟩
          have hw_231 : u_231 = stn (mk8 fb) 0 (mk8 fo) 16 := hw_231
          obtain ⟨hP1, hK1, hD1⟩ := hB
          have hw_231 := hw_231.symm
          subst hw_231
          rw [ht] at hP1
          have hK1 := va_K.moved hvm.symm hK1
          obtain ⟨hP, hD⟩ := va_join (wr := [(ak, .inl (dk, 32, .inl fk)), (nk, .inl (ck, 32, .inl (mk8 fk))), (a0, .inr (0, [.ref ak, .ref ab, .ref ao])), (ab, .inl (db, 16, .inl u_227)), (ao, .inl (dd, 16, .inl fo))]) (w1 := [(m0, .inr (1, [.ref nk, .ref nb, .ref no])), (nb, .inl (cb, 16, .inl (stn (mk8 fb) 0 (mk8 fo) 16))), (no, .inl (cd, 16, .inl (mk8 fo)))]) hP hD [1, 3, 4] [0, 2, 5, 6, 7] rfl rfl (by decide) (by decide) hk1 hFc hP1 hD1
          have hK := (hK.sub (tys' := [(dk, .byte), (ck, .int), (db, .byte), (dd, .byte)]) [0, 1, 4, 5] rfl).app hK1
          generalize H1 = H at hP hS ⊢
          have hP : va_P (dC, dI) vwCl [(ak, .inl (dk, 32, .inl fk)), (nk, .inl (ck, 32, .inl (mk8 fk))), (a0, .inr (0, [.ref ak, .ref ab, .ref ao])), (ab, .inl (db, 16, .inl u_227)), (ao, .inl (dd, 16, .inl fo)), (m0, .inr (1, [.ref nk, .ref nb, .ref no])), (nb, .inl (cb, 16, .inl (stn (mk8 fb) 0 (mk8 fo) 16))), (no, .inl (cd, 16, .inl (mk8 fo)))] H := hP
          have hD : va_D (fun q : Nat => s.heap.size ≤ q) [(ak, .inl (dk, 32, .inl fk)), (nk, .inl (ck, 32, .inl (mk8 fk))), (a0, .inr (0, [.ref ak, .ref ab, .ref ao])), (ab, .inl (db, 16, .inl u_227)), (ao, .inl (dd, 16, .inl fo)), (m0, .inr (1, [.ref nk, .ref nb, .ref no])), (nb, .inl (cb, 16, .inl (stn (mk8 fb) 0 (mk8 fo) 16))), (no, .inl (cd, 16, .inl (mk8 fo)))] := hD
          have hK : va_K (dC, dI) vwCl [(dk, .byte), (ck, .int), (db, .byte), (dd, .byte), (cb, .int), (cd, .int)] s := hK
          refine lv_goto (tgt := 260) hx hb dL_law_234 (by decide) ?_
          refine lv_iinc (v := nI (6 * (it + 1))) (lv' := [(3, .int (nI (6 * (it + 1)))), (0, .ref b), (1, .ref a0), (2, .ref m0)]) hx hb dL_law_260 hl (k := 3) rfl (nI_add (6 * it) 6) (by decide) rfl (fun ls hl => ?_)
          refine lv_goto (tgt := 18) hx hb dL_law_263 (by decide) ?_
          refine W.widen (k := 8 + 8 * (it + 1)) (n := 134 + 93 * (it + 1)) (by omega) (by omega) ?_
          exact ih a0 ak ab ao dk db dd m0 nk nb no ck cb cd (it + 1) fk u_227 fo (mk8 fk) (stn (mk8 fb) 0 (mk8 fo) 16) (mk8 fo) (by omega) (by omega) rfl (hw_227.symm) rfl (hK.sub [0, 2, 3, 1, 4, 5] rfl) _ _ (hP.sub (ws' := [(a0, .inr (0, [.ref ak, .ref ab, .ref ao])), (ak, .inl (dk, 32, .inl fk)), (ab, .inl (db, 16, .inl u_227)), (ao, .inl (dd, 16, .inl fo)), (m0, .inr (1, [.ref nk, .ref nb, .ref no])), (nk, .inl (ck, 32, .inl (mk8 fk))), (nb, .inl (cb, 16, .inl (stn (mk8 fb) 0 (mk8 fo) 16))), (no, .inl (cd, 16, .inl (mk8 fo)))]) [2, 0, 3, 4, 5, 1, 6, 7] rfl) (hD.sub (ws' := [(a0, .inr (0, [.ref ak, .ref ab, .ref ao])), (ak, .inl (dk, 32, .inl fk)), (ab, .inl (db, 16, .inl u_227)), (ao, .inl (dd, 16, .inl fo)), (m0, .inr (1, [.ref nk, .ref nb, .ref no])), (nk, .inl (ck, 32, .inl (mk8 fk))), (nb, .inl (cb, 16, .inl (stn (mk8 fb) 0 (mk8 fo) 16))), (no, .inl (cd, 16, .inl (mk8 fo)))]) [2, 0, 3, 4, 5, 1, 6, 7] (by decide) rfl) hS _ (lv_sub hl [1, 2, 3, 0] rfl)
        · refine lv_tableIn (off := 204) (tgt := 237) hx hb dL_law_33 (by decide) (by decide) (by decide) (by decide) ?_
          refine lv_aload_n hx hb dL_law_237 rfl (lv_at hl 1 rfl) ?_
          refine lv_aload_n hx hb dL_law_238 rfl (lv_at hl 0 rfl) ?_
          refine lv_iload_n hx hb dL_law_239 rfl (lv_at hl 3 rfl) ?_
          refine lv_iconst (v := nI 1) hx hb dL_law_240 (by decide) ?_
          refine lv_iadd hx hb dL_law_241 ?_
          refine lv_topi (fun t_241 et_241 => ?_)
          have et_241 : t_241 = nI (6 * it + 1) := et_241.trans (nI_add (6 * it) 1)
          subst et_241
          refine va_sld hx hb hX hbl hbA hS (vp_in_nI (n := (6 * it + 1)) (N := L) (by omega) (by omega)) dL_law_242 ?_
          refine lv_topi (fun t_242 et_242 => ?_)
          have et_242 : t_242 = xs (6 * it + 1) := et_242.trans (congrArg xs (nI_clamp (n := (6 * it + 1)) (by omega)))
          subst et_242
          have hPc := hP.sub (ws' := [(a0, .inr (0, [.ref ak, .ref ab, .ref ao])), (ao, .inl (dd, 16, .inl fo))]) [0, 3] rfl
          have hDc := hD.sub (ws' := [(a0, .inr (0, [.ref ak, .ref ab, .ref ao])), (ao, .inl (dd, 16, .inl fo))]) [0, 3] (by decide) rfl
          have hKc := hK.sub (tys' := [(dd, .byte)]) [2] rfl
          have hFc := va_free (wc := [(a0, .inr (0, [.ref ak, .ref ab, .ref ao])), (ao, .inl (dd, 16, .inl fo))]) hD hS hA [0, 3] rfl
          refine va_calli (va_runV (As := [.int (xs (6 * it + 1))]) (rest := []) ⟨hx, hb, hml, hown, hts⟩ (metX0_out l dC dI a0 ak ab ao dd fo (xs (6 * it + 1)) H.size) (cwV 1 hts (lw_V q232 q233 q234 q12 q235) rfl rfl rfl (by decide +kernel) ⟨Nat.le_of_ble_eq_true rfl, Nat.le_of_ble_eq_true rfl⟩) ⟨fun a U g mk q => by obtain ⟨q0, q1, qP, qK, qD⟩ := q; exact ⟨q0, q1, qP, va_K.moved (u := U) (U := U.calling g mk a) (Vm.Alike.refl U.vm) qK, qD⟩, va_recv hK hP (ci := 0) (q0 := 0) rfl rfl, fun U hU hW => ⟨rfl, by rw [hU], by rw [hU]; exact hPc, va_K.moved hW.alike hKc, hDc.weaken (fun _ _ _ _ => trivial)⟩⟩ rfl rfl hl.1 rfl (lv_room (Nat.le_of_ble_eq_true rfl)) dL_law_243 ⟨by show _ ≤ 1200096; omega, by show _ ≤ 5501386; omega⟩) hS (fun q _ h => hFc q h) hFc (fun r_243 u t H1 locs ht hvm hw_243 hB hz1 hk1 hS => ?_)
          obtain ⟨u_243, rfl⟩ : ∃ z, z = u := ⟨_, rfl⟩
          have hw_243 : r_243 = mk8 fo (nib (xs (6 * it + 1))) := hw_243
          obtain ⟨hP1, hK1, hD1⟩ := hB
          have hw_243 := hw_243.symm
          subst hw_243
          rw [ht] at hP1
          have hK1 := va_K.moved hvm.symm hK1
          obtain ⟨hP, hD⟩ := va_join (wr := [(ak, .inl (dk, 32, .inl fk)), (ab, .inl (db, 16, .inl fb)), (m0, .inr (1, [.ref nk, .ref nb, .ref no])), (nk, .inl (ck, 32, .inl (mk8 fk))), (nb, .inl (cb, 16, .inl (mk8 fb))), (no, .inl (cd, 16, .inl (mk8 fo)))]) (w1 := [(a0, .inr (0, [.ref ak, .ref ab, .ref ao])), (ao, .inl (dd, 16, .inl fo))]) hP hD [0, 3] [1, 2, 4, 5, 6, 7] rfl rfl (by decide) (by decide) hk1 hFc hP1 hD1
          have hK := (hK.sub (tys' := [(dk, .byte), (db, .byte), (ck, .int), (cb, .int), (cd, .int)]) [0, 1, 3, 4, 5] rfl).app hK1
          generalize H1 = H at hP hS ⊢
          have hP : va_P (dC, dI) vwCl [(ak, .inl (dk, 32, .inl fk)), (ab, .inl (db, 16, .inl fb)), (m0, .inr (1, [.ref nk, .ref nb, .ref no])), (nk, .inl (ck, 32, .inl (mk8 fk))), (nb, .inl (cb, 16, .inl (mk8 fb))), (no, .inl (cd, 16, .inl (mk8 fo))), (a0, .inr (0, [.ref ak, .ref ab, .ref ao])), (ao, .inl (dd, 16, .inl fo))] H := hP
          have hD : va_D (fun q : Nat => s.heap.size ≤ q) [(ak, .inl (dk, 32, .inl fk)), (ab, .inl (db, 16, .inl fb)), (m0, .inr (1, [.ref nk, .ref nb, .ref no])), (nk, .inl (ck, 32, .inl (mk8 fk))), (nb, .inl (cb, 16, .inl (mk8 fb))), (no, .inl (cd, 16, .inl (mk8 fo))), (a0, .inr (0, [.ref ak, .ref ab, .ref ao])), (ao, .inl (dd, 16, .inl fo))] := hD
          have hK : va_K (dC, dI) vwCl [(dk, .byte), (db, .byte), (ck, .int), (cb, .int), (cd, .int), (dd, .byte)] s := hK
          refine lv_aload_n hx hb dL_law_246 rfl (lv_at hl 2 rfl) ?_
          refine lv_aload_n hx hb dL_law_247 rfl (lv_at hl 0 rfl) ?_
          refine lv_iload_n hx hb dL_law_248 rfl (lv_at hl 3 rfl) ?_
          refine lv_iconst (v := nI 1) hx hb dL_law_249 (by decide) ?_
          refine lv_iadd hx hb dL_law_250 ?_
          refine lv_topi (fun t_250 et_250 => ?_)
          have et_250 : t_250 = nI (6 * it + 1) := et_250.trans (nI_add (6 * it) 1)
          subst et_250
          refine va_sld hx hb hX hbl hbA hS (vp_in_nI (n := (6 * it + 1)) (N := L) (by omega) (by omega)) dL_law_251 ?_
          refine lv_topi (fun t_251 et_251 => ?_)
          have et_251 : t_251 = xs (6 * it + 1) := et_251.trans (congrArg xs (nI_clamp (n := (6 * it + 1)) (by omega)))
          subst et_251
          have hPc := hP.sub (ws' := [(m0, .inr (1, [.ref nk, .ref nb, .ref no])), (no, .inl (cd, 16, .inl (mk8 fo)))]) [2, 5] rfl
          have hDc := hD.sub (ws' := [(m0, .inr (1, [.ref nk, .ref nb, .ref no])), (no, .inl (cd, 16, .inl (mk8 fo)))]) [2, 5] (by decide) rfl
          have hKc := hK.sub (tys' := [(cd, .int)]) [4] rfl
          have hFc := va_free (wc := [(m0, .inr (1, [.ref nk, .ref nb, .ref no])), (no, .inl (cd, 16, .inl (mk8 fo)))]) hD hS hA [2, 5] rfl
          refine va_calli (va_runV (As := [.int (xs (6 * it + 1))]) (rest := [.int (mk8 fo (nib (xs (6 * it + 1))))]) ⟨hx, hb, hml, hown, hts⟩ (metX1_out l dC dI m0 nk nb no cd (mk8 fo) (xs (6 * it + 1)) H.size) (cwV 1 hts (lw_V q271 q272 q273 q13 q274) rfl rfl rfl (by decide +kernel) ⟨Nat.le_of_ble_eq_true rfl, Nat.le_of_ble_eq_true rfl⟩) ⟨fun a U g mk q => by obtain ⟨q0, q1, qP, qK, qD⟩ := q; exact ⟨q0, q1, qP, va_K.moved (u := U) (U := U.calling g mk a) (Vm.Alike.refl U.vm) qK, qD⟩, va_recv hK hP (ci := 1) (q0 := 2) rfl rfl, fun U hU hW => ⟨rfl, by rw [hU], by rw [hU]; exact hPc, va_K.moved hW.alike hKc, hDc.weaken (fun _ _ _ _ => trivial)⟩⟩ rfl rfl hl.1 rfl (lv_room (Nat.le_of_ble_eq_true rfl)) dL_law_252 ⟨by show _ ≤ 1200096; omega, by show _ ≤ 5501386; omega⟩) hS (fun q _ h => hFc q h) hFc (fun r_252 u t H1 locs ht hvm hw_252 hB hz1 hk1 hS => ?_)
          obtain ⟨u_252, rfl⟩ : ∃ z, z = u := ⟨_, rfl⟩
          have hw_252 : r_252 = (mk8 fo) (nib (xs (6 * it + 1))) := hw_252
          obtain ⟨hP1, hK1, hD1⟩ := hB
          have hw_252 := hw_252.symm
          subst hw_252
          rw [ht] at hP1
          have hK1 := va_K.moved hvm.symm hK1
          obtain ⟨hP, hD⟩ := va_join (wr := [(ak, .inl (dk, 32, .inl fk)), (ab, .inl (db, 16, .inl fb)), (nk, .inl (ck, 32, .inl (mk8 fk))), (nb, .inl (cb, 16, .inl (mk8 fb))), (a0, .inr (0, [.ref ak, .ref ab, .ref ao])), (ao, .inl (dd, 16, .inl fo))]) (w1 := [(m0, .inr (1, [.ref nk, .ref nb, .ref no])), (no, .inl (cd, 16, .inl (mk8 fo)))]) hP hD [2, 5] [0, 1, 3, 4, 6, 7] rfl rfl (by decide) (by decide) hk1 hFc hP1 hD1
          have hK := (hK.sub (tys' := [(dk, .byte), (db, .byte), (ck, .int), (cb, .int), (dd, .byte)]) [0, 1, 2, 3, 5] rfl).app hK1
          generalize H1 = H at hP hS ⊢
          have hP : va_P (dC, dI) vwCl [(ak, .inl (dk, 32, .inl fk)), (ab, .inl (db, 16, .inl fb)), (nk, .inl (ck, 32, .inl (mk8 fk))), (nb, .inl (cb, 16, .inl (mk8 fb))), (a0, .inr (0, [.ref ak, .ref ab, .ref ao])), (ao, .inl (dd, 16, .inl fo)), (m0, .inr (1, [.ref nk, .ref nb, .ref no])), (no, .inl (cd, 16, .inl (mk8 fo)))] H := hP
          have hD : va_D (fun q : Nat => s.heap.size ≤ q) [(ak, .inl (dk, 32, .inl fk)), (ab, .inl (db, 16, .inl fb)), (nk, .inl (ck, 32, .inl (mk8 fk))), (nb, .inl (cb, 16, .inl (mk8 fb))), (a0, .inr (0, [.ref ak, .ref ab, .ref ao])), (ao, .inl (dd, 16, .inl fo)), (m0, .inr (1, [.ref nk, .ref nb, .ref no])), (no, .inl (cd, 16, .inl (mk8 fo)))] := hD
          have hK : va_K (dC, dI) vwCl [(dk, .byte), (db, .byte), (ck, .int), (cb, .int), (dd, .byte), (cd, .int)] s := hK
          refine lv_icmp_eq (tgt := 260) hx hb dL_law_255 (by decide) (fun c_255 => ?_) (fun c_255 => ?_)
          · refine lv_iinc (v := nI (6 * (it + 1))) (lv' := [(3, .int (nI (6 * (it + 1)))), (0, .ref b), (1, .ref a0), (2, .ref m0)]) hx hb dL_law_260 hl (k := 3) rfl (nI_add (6 * it) 6) (by decide) rfl (fun ls hl => ?_)
            refine lv_goto (tgt := 18) hx hb dL_law_263 (by decide) ?_
            refine W.widen (k := 8 + 8 * (it + 1)) (n := 134 + 93 * (it + 1)) (by omega) (by omega) ?_
            exact ih a0 ak ab ao dk db dd m0 nk nb no ck cb cd (it + 1) fk fb fo (mk8 fk) (mk8 fb) (mk8 fo) (by omega) (by omega) rfl rfl rfl (hK.sub [0, 1, 4, 2, 3, 5] rfl) _ _ (hP.sub (ws' := [(a0, .inr (0, [.ref ak, .ref ab, .ref ao])), (ak, .inl (dk, 32, .inl fk)), (ab, .inl (db, 16, .inl fb)), (ao, .inl (dd, 16, .inl fo)), (m0, .inr (1, [.ref nk, .ref nb, .ref no])), (nk, .inl (ck, 32, .inl (mk8 fk))), (nb, .inl (cb, 16, .inl (mk8 fb))), (no, .inl (cd, 16, .inl (mk8 fo)))]) [4, 0, 1, 5, 6, 2, 3, 7] rfl) (hD.sub (ws' := [(a0, .inr (0, [.ref ak, .ref ab, .ref ao])), (ak, .inl (dk, 32, .inl fk)), (ab, .inl (db, 16, .inl fb)), (ao, .inl (dd, 16, .inl fo)), (m0, .inr (1, [.ref nk, .ref nb, .ref no])), (nk, .inl (ck, 32, .inl (mk8 fk))), (nb, .inl (cb, 16, .inl (mk8 fb))), (no, .inl (cd, 16, .inl (mk8 fo)))]) [4, 0, 1, 5, 6, 2, 3, 7] (by decide) rfl) hS _ (lv_sub hl [1, 2, 3, 0] rfl)
          · exact absurd rfl c_255
        · refine lv_tableOut (tgt := 260) hx hb dL_law_33 (Or.inr (by decide)) (by decide) ?_
          refine lv_iinc (v := nI (6 * (it + 1))) (lv' := [(3, .int (nI (6 * (it + 1)))), (0, .ref b), (1, .ref a0), (2, .ref m0)]) hx hb dL_law_260 hl (k := 3) rfl (nI_add (6 * it) 6) (by decide) rfl (fun ls hl => ?_)
          refine lv_goto (tgt := 18) hx hb dL_law_263 (by decide) ?_
          refine W.widen (k := 8 + 8 * (it + 1)) (n := 134 + 93 * (it + 1)) (by omega) (by omega) ?_
          exact ih a0 ak ab ao dk db dd m0 nk nb no ck cb cd (it + 1) fk fb fo (mk8 fk) (mk8 fb) (mk8 fo) (by omega) (by omega) rfl rfl rfl (hK.sub [0, 1, 2, 3, 4, 5] rfl) _ _ (hP.sub (ws' := [(a0, .inr (0, [.ref ak, .ref ab, .ref ao])), (ak, .inl (dk, 32, .inl fk)), (ab, .inl (db, 16, .inl fb)), (ao, .inl (dd, 16, .inl fo)), (m0, .inr (1, [.ref nk, .ref nb, .ref no])), (nk, .inl (ck, 32, .inl (mk8 fk))), (nb, .inl (cb, 16, .inl (mk8 fb))), (no, .inl (cd, 16, .inl (mk8 fo)))]) [0, 1, 2, 3, 4, 5, 6, 7] rfl) (hD.sub (ws' := [(a0, .inr (0, [.ref ak, .ref ab, .ref ao])), (ak, .inl (dk, 32, .inl fk)), (ab, .inl (db, 16, .inl fb)), (ao, .inl (dd, 16, .inl fo)), (m0, .inr (1, [.ref nk, .ref nb, .ref no])), (nk, .inl (ck, 32, .inl (mk8 fk))), (nb, .inl (cb, 16, .inl (mk8 fb))), (no, .inl (cd, 16, .inl (mk8 fo)))]) [0, 1, 2, 3, 4, 5, 6, 7] (by decide) rfl) hS _ (lv_sub hl [1, 2, 3, 0] rfl)
        · refine lv_tableOut (tgt := 260) hx hb dL_law_33 (Or.inr (by decide)) (by decide) ?_
          refine lv_iinc (v := nI (6 * (it + 1))) (lv' := [(3, .int (nI (6 * (it + 1)))), (0, .ref b), (1, .ref a0), (2, .ref m0)]) hx hb dL_law_260 hl (k := 3) rfl (nI_add (6 * it) 6) (by decide) rfl (fun ls hl => ?_)
          refine lv_goto (tgt := 18) hx hb dL_law_263 (by decide) ?_
          refine W.widen (k := 8 + 8 * (it + 1)) (n := 134 + 93 * (it + 1)) (by omega) (by omega) ?_
          exact ih a0 ak ab ao dk db dd m0 nk nb no ck cb cd (it + 1) fk fb fo (mk8 fk) (mk8 fb) (mk8 fo) (by omega) (by omega) rfl rfl rfl (hK.sub [0, 1, 2, 3, 4, 5] rfl) _ _ (hP.sub (ws' := [(a0, .inr (0, [.ref ak, .ref ab, .ref ao])), (ak, .inl (dk, 32, .inl fk)), (ab, .inl (db, 16, .inl fb)), (ao, .inl (dd, 16, .inl fo)), (m0, .inr (1, [.ref nk, .ref nb, .ref no])), (nk, .inl (ck, 32, .inl (mk8 fk))), (nb, .inl (cb, 16, .inl (mk8 fb))), (no, .inl (cd, 16, .inl (mk8 fo)))]) [0, 1, 2, 3, 4, 5, 6, 7] rfl) (hD.sub (ws' := [(a0, .inr (0, [.ref ak, .ref ab, .ref ao])), (ak, .inl (dk, 32, .inl fk)), (ab, .inl (db, 16, .inl fb)), (ao, .inl (dd, 16, .inl fo)), (m0, .inr (1, [.ref nk, .ref nb, .ref no])), (nk, .inl (ck, 32, .inl (mk8 fk))), (nb, .inl (cb, 16, .inl (mk8 fb))), (no, .inl (cd, 16, .inl (mk8 fo)))]) [0, 1, 2, 3, 4, 5, 6, 7] (by decide) rfl) hS _ (lv_sub hl [1, 2, 3, 0] rfl)
  refine va_new (ci := 0) (fs := [.null, .null, .null]) (C := RX0) (T := TX0) (N := 3) hx hb hts in_X0 tyX0 tyX0_ok hown (hts _ q21) (hts _ q22) (hts _ q12) hK hP hD hS hA rfl (fun j hj => by rcases (show j = 0 ∨ j = 1 ∨ j = 2 by omega) with rfl | rfl | rfl <;> rfl) (Nat.le_of_ble_eq_true rfl) (Nat.le_of_ble_eq_true rfl) dL_law_0 (fun q_0 H hP hD hS => ?_)
  have hP : va_P (dC, dI) vwCl [(q_0, .inr (0, [.null, .null, .null]))] H := hP
  have hD : va_D (fun q : Nat => s.heap.size ≤ q) [(q_0, .inr (0, [.null, .null, .null]))] := hD
  refine lv_dup hx hb dL_law_3 rfl ?_
  have hPc := hP.sub (ws' := [(q_0, .inr (0, [.null, .null, .null]))]) [0] rfl
  have hDc := hD.sub (ws' := [(q_0, .inr (0, [.null, .null, .null]))]) [0] (by decide) rfl
  have hKc := hK.sub (tys' := []) [] rfl
  have hFc := va_free (wc := [(q_0, .inr (0, [.null, .null, .null]))]) hD hS hA [0] rfl
  refine va_callv (va_runI (As := []) (rest := [.ref q_0]) ⟨hx, hb, hml, hown, hts⟩ (metX0_init l dC dI q_0 H.size) (cwI 0 hts (lw_meth q25) rfl rfl rfl (hts _ q12) (hts _ q23) (hts _ q24) rfl (by decide +kernel) ⟨Nat.le_of_ble_eq_true rfl, Nat.le_of_ble_eq_true rfl⟩) ⟨fun a U g mk q => by obtain ⟨q0, q1, qP, qK, qD⟩ := q; exact ⟨q0, q1, qP, va_K.moved (u := U) (U := U.calling g mk a) (Vm.Alike.refl U.vm) qK, qD⟩, fun U hU hW => ⟨rfl, by rw [hU], by rw [hU]; exact hPc, va_K.moved hW.alike hKc, hDc.weaken (fun _ _ _ _ => trivial)⟩⟩ rfl rfl hl.1 rfl (lv_room (Nat.le_of_ble_eq_true rfl)) dL_law_4 ⟨Nat.le_of_ble_eq_true rfl, Nat.le_of_ble_eq_true rfl⟩) hS (fun q _ h => hFc q h) hFc (fun u t H1 locs ht hvm hw_4 hB hz1 hk1 hS => ?_)
  obtain ⟨u_4, rfl⟩ : ∃ z, z = u := ⟨_, rfl⟩
  obtain ⟨ak_4, ab_4, ao_4, dk_4, db_4, dd_4, hP1, hK1, hD1⟩ := hB
  rw [ht] at hP1
  have hK1 := va_K.moved hvm.symm hK1
  obtain ⟨hP, hD⟩ := va_join (wr := []) (w1 := [(q_0, .inr (0, [.ref ak_4, .ref ab_4, .ref ao_4])), (ak_4, .inl (dk_4, 32, .inl (fun _ => 0))), (ab_4, .inl (db_4, 16, .inl (fun _ => 0))), (ao_4, .inl (dd_4, 16, .inl (fun _ => 0)))]) hP hD [0] [] rfl rfl (by decide) (by decide) hk1 hFc hP1 hD1
  have hK := (hK.sub (tys' := []) [] rfl).app hK1
  generalize H1 = H at hP hS ⊢
  have hP : va_P (dC, dI) vwCl [(q_0, .inr (0, [.ref ak_4, .ref ab_4, .ref ao_4])), (ak_4, .inl (dk_4, 32, .inl (fun _ => 0))), (ab_4, .inl (db_4, 16, .inl (fun _ => 0))), (ao_4, .inl (dd_4, 16, .inl (fun _ => 0)))] H := hP
  have hD : va_D (fun q : Nat => s.heap.size ≤ q) [(q_0, .inr (0, [.ref ak_4, .ref ab_4, .ref ao_4])), (ak_4, .inl (dk_4, 32, .inl (fun _ => 0))), (ab_4, .inl (db_4, 16, .inl (fun _ => 0))), (ao_4, .inl (dd_4, 16, .inl (fun _ => 0)))] := hD
  have hK : va_K (dC, dI) vwCl [(dk_4, .byte), (db_4, .byte), (dd_4, .byte)] s := hK
  refine lv_astore_n (lv' := [(1, .ref q_0), (0, .ref b)]) hx hb dL_law_7 rfl hl (by decide) rfl (fun ls hl => ?_)
  refine va_new (ci := 1) (fs := [.null, .null, .null]) (C := RX1) (T := TX1) (N := 3) hx hb hts in_X1 tyX1 tyX1_ok hown (hts _ q236) (hts _ q237) (hts _ q13) hK hP hD hS hA rfl (fun j hj => by rcases (show j = 0 ∨ j = 1 ∨ j = 2 by omega) with rfl | rfl | rfl <;> rfl) (Nat.le_of_ble_eq_true rfl) (Nat.le_of_ble_eq_true rfl) dL_law_8 (fun q_8 H hP hD hS => ?_)
  have hP : va_P (dC, dI) vwCl [(q_0, .inr (0, [.ref ak_4, .ref ab_4, .ref ao_4])), (ak_4, .inl (dk_4, 32, .inl (fun _ => 0))), (ab_4, .inl (db_4, 16, .inl (fun _ => 0))), (ao_4, .inl (dd_4, 16, .inl (fun _ => 0))), (q_8, .inr (1, [.null, .null, .null]))] H := hP
  have hD : va_D (fun q : Nat => s.heap.size ≤ q) [(q_0, .inr (0, [.ref ak_4, .ref ab_4, .ref ao_4])), (ak_4, .inl (dk_4, 32, .inl (fun _ => 0))), (ab_4, .inl (db_4, 16, .inl (fun _ => 0))), (ao_4, .inl (dd_4, 16, .inl (fun _ => 0))), (q_8, .inr (1, [.null, .null, .null]))] := hD
  refine lv_dup hx hb dL_law_11 rfl ?_
  have hPc := hP.sub (ws' := [(q_8, .inr (1, [.null, .null, .null]))]) [4] rfl
  have hDc := hD.sub (ws' := [(q_8, .inr (1, [.null, .null, .null]))]) [4] (by decide) rfl
  have hKc := hK.sub (tys' := []) [] rfl
  have hFc := va_free (wc := [(q_8, .inr (1, [.null, .null, .null]))]) hD hS hA [4] rfl
  refine va_callv (va_runI (As := []) (rest := [.ref q_8]) ⟨hx, hb, hml, hown, hts⟩ (metX1_init l dC dI q_8 H.size) (cwI 0 hts (lw_meth q240) rfl rfl rfl (hts _ q13) (hts _ q238) (hts _ q239) rfl (by decide +kernel) ⟨Nat.le_of_ble_eq_true rfl, Nat.le_of_ble_eq_true rfl⟩) ⟨fun a U g mk q => by obtain ⟨q0, q1, qP, qK, qD⟩ := q; exact ⟨q0, q1, qP, va_K.moved (u := U) (U := U.calling g mk a) (Vm.Alike.refl U.vm) qK, qD⟩, fun U hU hW => ⟨rfl, by rw [hU], by rw [hU]; exact hPc, va_K.moved hW.alike hKc, hDc.weaken (fun _ _ _ _ => trivial)⟩⟩ rfl rfl hl.1 rfl (lv_room (Nat.le_of_ble_eq_true rfl)) dL_law_12 ⟨Nat.le_of_ble_eq_true rfl, Nat.le_of_ble_eq_true rfl⟩) hS (fun q _ h => hFc q h) hFc (fun u t H1 locs ht hvm hw_12 hB hz1 hk1 hS => ?_)
  obtain ⟨u_12, rfl⟩ : ∃ z, z = u := ⟨_, rfl⟩
  obtain ⟨ak_12, ab_12, ao_12, dk_12, db_12, dd_12, hP1, hK1, hD1⟩ := hB
  rw [ht] at hP1
  have hK1 := va_K.moved hvm.symm hK1
  obtain ⟨hP, hD⟩ := va_join (wr := [(q_0, .inr (0, [.ref ak_4, .ref ab_4, .ref ao_4])), (ak_4, .inl (dk_4, 32, .inl (fun _ => 0))), (ab_4, .inl (db_4, 16, .inl (fun _ => 0))), (ao_4, .inl (dd_4, 16, .inl (fun _ => 0)))]) (w1 := [(q_8, .inr (1, [.ref ak_12, .ref ab_12, .ref ao_12])), (ak_12, .inl (dk_12, 32, .inl (fun _ => 0))), (ab_12, .inl (db_12, 16, .inl (fun _ => 0))), (ao_12, .inl (dd_12, 16, .inl (fun _ => 0)))]) hP hD [4] [0, 1, 2, 3] rfl rfl (by decide) (by decide) hk1 hFc hP1 hD1
  have hK := (hK.sub (tys' := [(dk_4, .byte), (db_4, .byte), (dd_4, .byte)]) [0, 1, 2] rfl).app hK1
  generalize H1 = H at hP hS ⊢
  have hP : va_P (dC, dI) vwCl [(q_0, .inr (0, [.ref ak_4, .ref ab_4, .ref ao_4])), (ak_4, .inl (dk_4, 32, .inl (fun _ => 0))), (ab_4, .inl (db_4, 16, .inl (fun _ => 0))), (ao_4, .inl (dd_4, 16, .inl (fun _ => 0))), (q_8, .inr (1, [.ref ak_12, .ref ab_12, .ref ao_12])), (ak_12, .inl (dk_12, 32, .inl (fun _ => 0))), (ab_12, .inl (db_12, 16, .inl (fun _ => 0))), (ao_12, .inl (dd_12, 16, .inl (fun _ => 0)))] H := hP
  have hD : va_D (fun q : Nat => s.heap.size ≤ q) [(q_0, .inr (0, [.ref ak_4, .ref ab_4, .ref ao_4])), (ak_4, .inl (dk_4, 32, .inl (fun _ => 0))), (ab_4, .inl (db_4, 16, .inl (fun _ => 0))), (ao_4, .inl (dd_4, 16, .inl (fun _ => 0))), (q_8, .inr (1, [.ref ak_12, .ref ab_12, .ref ao_12])), (ak_12, .inl (dk_12, 32, .inl (fun _ => 0))), (ab_12, .inl (db_12, 16, .inl (fun _ => 0))), (ao_12, .inl (dd_12, 16, .inl (fun _ => 0)))] := hD
  have hK : va_K (dC, dI) vwCl [(dk_4, .byte), (db_4, .byte), (dd_4, .byte), (dk_12, .int), (db_12, .int), (dd_12, .int)] s := hK
  refine lv_astore_n (lv' := [(2, .ref q_8), (1, .ref q_0), (0, .ref b)]) hx hb dL_law_15 rfl hl (by decide) rfl (fun ls hl => ?_)
  refine lv_iconst (v := nI 0) hx hb dL_law_16 (by decide) ?_
  refine lv_istore_n (lv' := [(3, .int (nI 0)), (2, .ref q_8), (1, .ref q_0), (0, .ref b)]) hx hb dL_law_17 rfl hl (by decide) rfl (fun ls hl => ?_)
  refine W.widen (k := 8 + 8 * 0) (n := 134 + 93 * 0) (by omega) (by omega) ?_
  exact lp _ q_0 ak_4 ab_4 ao_4 dk_4 db_4 dd_4 q_8 ak_12 ab_12 ao_12 dk_12 db_12 dd_12 0 ((fun _ => 0)) ((fun _ => 0)) ((fun _ => 0)) ((fun _ => 0)) ((fun _ => 0)) ((fun _ => 0)) (Nat.lt_succ_self _) (by omega) mk8_z mk8_z mk8_z (hK.sub [0, 1, 2, 3, 4, 5] rfl) _ _ (hP.sub (ws' := [(q_0, .inr (0, [.ref ak_4, .ref ab_4, .ref ao_4])), (ak_4, .inl (dk_4, 32, .inl ((fun _ => 0)))), (ab_4, .inl (db_4, 16, .inl ((fun _ => 0)))), (ao_4, .inl (dd_4, 16, .inl ((fun _ => 0)))), (q_8, .inr (1, [.ref ak_12, .ref ab_12, .ref ao_12])), (ak_12, .inl (dk_12, 32, .inl ((fun _ => 0)))), (ab_12, .inl (db_12, 16, .inl ((fun _ => 0)))), (ao_12, .inl (dd_12, 16, .inl ((fun _ => 0))))]) [0, 1, 2, 3, 4, 5, 6, 7] rfl) (hD.sub (ws' := [(q_0, .inr (0, [.ref ak_4, .ref ab_4, .ref ao_4])), (ak_4, .inl (dk_4, 32, .inl ((fun _ => 0)))), (ab_4, .inl (db_4, 16, .inl ((fun _ => 0)))), (ao_4, .inl (dd_4, 16, .inl ((fun _ => 0)))), (q_8, .inr (1, [.ref ak_12, .ref ab_12, .ref ao_12])), (ak_12, .inl (dk_12, 32, .inl ((fun _ => 0)))), (ab_12, .inl (db_12, 16, .inl ((fun _ => 0)))), (ao_12, .inl (dd_12, 16, .inl ((fun _ => 0))))]) [0, 1, 2, 3, 4, 5, 6, 7] (by decide) rfl) hS _ (lv_sub hl [3, 2, 1, 0] rfl)
end
section
-- ===== YOUR PART ENDS =====
set_option maxHeartbeats 4000000 in
theorem lw_walk (l : Launch) (hflags : l.flags = flags0) (b : Addr) (xs : List Int32) : MetFree l x (headSpec (Jvm.Cond.code x code maxLocals ret :: tables_1) room_1) (lw_P b xs) (fun _ _ _ _ _ => True) lw_Q := by
  refine MetFree.of_bodyS (code := code) (maxLocals := maxLocals) (ret := ret) (by decide) ?_ ?_
  · intro args s m h hn
    obtain ⟨meth, c, h1, h2, h3, h4, h5, h6, -, -⟩ := Cond.code_spec hn (atoms_spec (ws := Jvm.Cond.code x code maxLocals ret :: tables_1) h _ List.mem_cons_self)
    exact ⟨meth, c, h1, h2, h3, h4, h5, h6⟩
  · intro p e s m args below meth c s₁ B hml0 hP _
    obtain ⟨rfl, hx, hbd, hgv⟩ := hP
    obtain ⟨scr, harrAt, hlist, hof, hsmall⟩ := hx
    obtain ⟨hcb, hkn, -, -⟩ := State.arrayAt?_spec harrAt
    have hown : s.vm.findClass R_law = some m.cls := findClass_of_methodNamed B.named
    have hts0 : ∀ c ∈ (Jvm.Cond.code x code maxLocals ret :: tables_1), c.before #[Value.ref b] s = true := atoms_spec (ws := Jvm.Cond.code x code maxLocals ret :: tables_1) B.pre
    have hts : ∀ w ∈ lw_tbl, w.before #[Value.ref b] s = true := k2_hts_sels lw_privs (fun w hw => hts0 w (List.mem_cons_of_mem _ hw)) lw_privs_ok
    have hml : c.maxLocals = 4 := B.maxLocals_eq (hts0 _ List.mem_cons_self)
    have X₀ : Stand p l e room_1 s m #[Value.ref b] below meth c s₁ [] 0 0 := Stand.of_body B
    have hh0 : s₁.heap = s.heap := by rw [B.state]; rfl
    have hsz : scr.slots.size = xs.length := by rw [← Array.length_toList, hlist, List.length_map]
    have hval : ∀ j : Nat, j < xs.length → scr.slots[j]? = some (.int (xs.getD j 0)) := fun j hj => by
      rw [← Array.getElem?_toList, hlist]
      simp [hj]
    have hbl : b < s.heap.size := (Array.getElem?_eq_some_iff.mp hcb).1
    have hX : va_X b xs.length (fun j => xs.getD j 0) s s.heap := ⟨scr, hcb, hof, hkn, hsz, hval⟩
    have K : W p l e room_1 s m #[Value.ref b] below meth c s₁.heap [] 0 0 (lw_Z below #[Value.ref b] s) (entryFrame m ([Value.ref b] : List Value).toArray 4) := by
      rw [hh0]
      exact whole_start l hflags hbd ⟨B.exec, B.bytes, B.returns, hml, hown, hts, hX, hbl, B.notSynchronized, hgv⟩
    obtain ⟨t, a1, o, b1, b2, b3⟩ := K s₁ rfl X₀
    exact ⟨t, o, a1, b1, b2, b3⟩
theorem lw_pre_spec {args : Array Value} {s : State} (h : (Jvm.Cond.and given_1 narrow_1).before args s = true) (hr : rest_1_c.before args s = true) : ∃ (b : Addr) (xs : List Int32), lw_P b xs args s := by
  have hs := flat_of_before _ h
  have hq := flat_of_before _ hr
  have hc : (Cond.count 1).before args s = true := hs _ (by decide +kernel)
  have harr : (Cond.arrayOf (.arg 0) .int).before args s = true := hs _ (by decide +kernel)
  have hle : (Cond.le (.length (.arg 0)) (.int 288)).before args s = true := hs _ (by decide +kernel)
  have hlen : (Cond.isInt (.length (.arg 0))).before args s = true := hq _ (by decide +kernel)
  have hall : (Cond.all (.arg 0) (.isInt (.elem (.arg 0) (.index 0)))).before args s = true := hq _ (by decide +kernel)
  obtain ⟨b, xs, hb, hx⟩ := State.ints_of_pre rfl harr hlen hall
  have hsm : xs.length < 2 ^ 31 := hx.choose_spec.2.2.2
  have hev : (Term.length (.arg 0)).eval args s none [] s = some (.int xs.length.toInt32) := hx.length_eval hb
  have hv := Cond.le_ints hev (show (Term.int 288).eval args s none [] s = some (.int 288) from rfl)
  have hd : xs.length.toInt32 ≤ 288 := by
    simpa [Cond.before, Cond.holds, hv] using hle
  have hN : xs.length ≤ 288 := (Int32.ofNat_le_ofNat hsm (by decide)).mp (show Int32.ofNat xs.length ≤ Int32.ofNat 288 from hd)
  exact ⟨b, xs, Cond.one_arg hc (show args[0]? = some (.ref b) from hb), hx, hN, h⟩
theorem lw_comes (l : Launch) (hflags : l.flags = flags0) : Comes l x (Jvm.Cond.code x code maxLocals ret :: tables_1) room_1 (fun tb e args s => Calls_1 tb e args s ∧ rest_1 tb e args s ∧ Pre_1 tb e args s)
    (fun _ _ args s o t => lw_Q args s o t) := by
  intro p e ha hc hk s m args below hf hfit hheap happ hpre
  obtain ⟨b, xs, hP⟩ := lw_pre_spec hpre.2.2 hpre.2.1
  obtain ⟨k, o, h1, h2, h3, hQ⟩ := lw_walk l hflags b xs p e ha hc hk s m args below hf ((Spec.applies_iff_loose hf).mp happ).1 hP trivial
  exact ⟨k, o, h1, h2, h3, hQ⟩
theorem lw_frame {s t : State} {o : Outcome} {args : Array Value} (h : Framed s o t [] 1200096 5501386) :
    Framed s o t (fieldLocs frame_1_writes args s ++ arrayLocs frame_1_arrays args s ++ staticLocs frame_1_statics s) 1200096 5501386 := h
theorem lw_limb (L : Cond) (hL : ∀ (args : Array Value) (s t : State), L.after args s (.returned (some (.int 1))) t = true) :
    ArmFor flags0 classFile x code maxLocals ret World_1 tables_1 room_1 Calls_1 rest_1 Pre_1
      (fun tb e a s o t => postC L tb e a s o t ∧ Framed s o t (fieldLocs frame_1_writes a s ++ arrayLocs frame_1_arrays a s ++ staticLocs frame_1_statics s) 1200096 5501386) := by
  intro l hflags _ _ p e ha hc hk s m args below hf hfit hheap happ hpre
  obtain ⟨k, o, h1, h2, h3, rfl, hF⟩ := lw_comes l hflags p e ha hc hk s m args below hf hfit hheap happ hpre
  exact ⟨k, _, h1, h2, h3, hL args s _, lw_frame hF⟩
theorem i_vc : Claimed_1_1 ∧ Claimed_1_2 := ⟨lw_limb limb_1_1 (fun args s t => by simp [limb_1_1, Cond.after, Cond.holds, Cond.value]), lw_limb limb_1_2 (fun args s t => Cond.after_iff.mpr (by
  first | (rw [show limb_1_2 = Cond.eq .result (.int 1) from rfl, Cond.eq_ints (x := 1) (y := 1) rfl rfl]; simp; done) | (simp [limb_1_2, Cond.value, Term.eval]; done)))⟩
end
