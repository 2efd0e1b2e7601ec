section
-- ===== PART A: goes FIRST, ahead of the names: the tables' words, and 'selects' of the private methods out of them =====
/-- a private method of a class that the tables say can be made, by its rows of tables_1 -/
def lw_okq (q : MethodName × Nat) : Prop := (q.1.cls ≠ "java/lang/invoke/MethodHandle" ∧ q.1.cls ≠ "java/lang/invoke/VarHandle") ∧ Cond.instantiable q.1.cls q.2 ∈ tables_1 ∧ Cond.privateMethod q.1 ∈ tables_1 ∧ Cond.instanceMethod q.1 ∈ tables_1
set_option maxRecDepth 100000
theorem lw_t1 {w : Cond} (h : w ∈ tables_1_1) : w ∈ tables_1 := List.mem_append_left _ h
theorem lw_t2 {w : Cond} (h : w ∈ tables_1_2) : w ∈ tables_1 := List.mem_append_right _ h
theorem lw_p0 : lw_okq (⟨"java/lang/Throwable", "fillInStackTrace", "(I)Ljava/lang/Throwable;"⟩, 6) := ⟨⟨by decide +kernel, by decide +kernel⟩, lw_t1 (List.mem_of_getElem? (i := 76) rfl), lw_t1 (List.mem_of_getElem? (i := 74) rfl), lw_t1 (List.mem_of_getElem? (i := 75) rfl)⟩
theorem lw_p1 : lw_okq (⟨"Blake2sDigest", "init", "([B[B[B)V"⟩, 21) := ⟨⟨by decide +kernel, by decide +kernel⟩, lw_t1 (List.mem_of_getElem? (i := 28) rfl), lw_t1 (List.mem_of_getElem? (i := 107) rfl), lw_t1 (List.mem_of_getElem? (i := 108) rfl)⟩
theorem lw_p2 : lw_okq (⟨"BlakeShortDesk", "word", "(II)V"⟩, 5) := ⟨⟨by decide +kernel, by decide +kernel⟩, lw_t1 (List.mem_of_getElem? (i := 20) rfl), lw_t1 (List.mem_of_getElem? (i := 206) rfl), lw_t1 (List.mem_of_getElem? (i := 207) rfl)⟩
theorem lw_p3 : lw_okq (⟨"BlakeShortDesk", "from", "(I)I"⟩, 5) := ⟨⟨by decide +kernel, by decide +kernel⟩, lw_t1 (List.mem_of_getElem? (i := 20) rfl), lw_t1 (List.mem_of_getElem? (i := 214) rfl), lw_t1 (List.mem_of_getElem? (i := 215) rfl)⟩
theorem lw_p4 : lw_okq (⟨"BlakeShortDesk", "count", "(II)I"⟩, 5) := ⟨⟨by decide +kernel, by decide +kernel⟩, lw_t1 (List.mem_of_getElem? (i := 20) rfl), lw_t1 (List.mem_of_getElem? (i := 227) rfl), lw_t1 (List.mem_of_getElem? (i := 228) rfl)⟩
theorem lw_p5 : lw_okq (⟨"Blake2sDigest", "incrementCounter", "(I)V"⟩, 21) := ⟨⟨by decide +kernel, by decide +kernel⟩, lw_t1 (List.mem_of_getElem? (i := 28) rfl), lw_t2 (List.mem_of_getElem? (i := 1) rfl), lw_t2 (List.mem_of_getElem? (i := 2) rfl)⟩
theorem lw_p6 : lw_okq (⟨"Blake2sDigest", "compress", "([BI)V"⟩, 21) := ⟨⟨by decide +kernel, by decide +kernel⟩, lw_t1 (List.mem_of_getElem? (i := 28) rfl), lw_t2 (List.mem_of_getElem? (i := 12) rfl), lw_t2 (List.mem_of_getElem? (i := 13) rfl)⟩
theorem lw_p7 : lw_okq (⟨"Blake2sDigest", "initializeInternalState", "()V"⟩, 21) := ⟨⟨by decide +kernel, by decide +kernel⟩, lw_t1 (List.mem_of_getElem? (i := 28) rfl), lw_t2 (List.mem_of_getElem? (i := 16) rfl), lw_t2 (List.mem_of_getElem? (i := 17) rfl)⟩
theorem lw_p8 : lw_okq (⟨"Blake2sDigest", "G", "(IIIIII)V"⟩, 21) := ⟨⟨by decide +kernel, by decide +kernel⟩, lw_t1 (List.mem_of_getElem? (i := 28) rfl), lw_t2 (List.mem_of_getElem? (i := 26) rfl), lw_t2 (List.mem_of_getElem? (i := 27) rfl)⟩
theorem lw_p9 : lw_okq (⟨"BlakeShortDeskModel", "word", "(II)V"⟩, 6) := ⟨⟨by decide +kernel, by decide +kernel⟩, lw_t2 (List.mem_of_getElem? (i := 126) rfl), lw_t2 (List.mem_of_getElem? (i := 155) rfl), lw_t2 (List.mem_of_getElem? (i := 156) rfl)⟩
theorem lw_p10 : lw_okq (⟨"BlakeShortDeskModel", "from", "(I)I"⟩, 6) := ⟨⟨by decide +kernel, by decide +kernel⟩, lw_t2 (List.mem_of_getElem? (i := 126) rfl), lw_t2 (List.mem_of_getElem? (i := 163) rfl), lw_t2 (List.mem_of_getElem? (i := 164) rfl)⟩
theorem lw_p11 : lw_okq (⟨"BlakeShortDeskModel", "digest", "()[I"⟩, 6) := ⟨⟨by decide +kernel, by decide +kernel⟩, lw_t2 (List.mem_of_getElem? (i := 126) rfl), lw_t2 (List.mem_of_getElem? (i := 186) rfl), lw_t2 (List.mem_of_getElem? (i := 187) rfl)⟩
theorem lw_p12 : lw_okq (⟨"BlakeShortDeskModel", "compresses", "([IIIZ)V"⟩, 6) := ⟨⟨by decide +kernel, by decide +kernel⟩, lw_t2 (List.mem_of_getElem? (i := 126) rfl), lw_t2 (List.mem_of_getElem? (i := 193) rfl), lw_t2 (List.mem_of_getElem? (i := 194) rfl)⟩
theorem lw_p13 : lw_okq (⟨"BlakeShortDeskModel", "wordAt", "(I)I"⟩, 6) := ⟨⟨by decide +kernel, by decide +kernel⟩, lw_t2 (List.mem_of_getElem? (i := 126) rfl), lw_t2 (List.mem_of_getElem? (i := 197) rfl), lw_t2 (List.mem_of_getElem? (i := 198) rfl)⟩
def lw_privs_1 : List (MethodName × Nat) := [(⟨"java/lang/Throwable", "fillInStackTrace", "(I)Ljava/lang/Throwable;"⟩, 6), (⟨"Blake2sDigest", "init", "([B[B[B)V"⟩, 21), (⟨"BlakeShortDesk", "word", "(II)V"⟩, 5), (⟨"BlakeShortDesk", "from", "(I)I"⟩, 5), (⟨"BlakeShortDesk", "count", "(II)I"⟩, 5), (⟨"Blake2sDigest", "incrementCounter", "(I)V"⟩, 21), (⟨"Blake2sDigest", "compress", "([BI)V"⟩, 21), (⟨"Blake2sDigest", "initializeInternalState", "()V"⟩, 21), (⟨"Blake2sDigest", "G", "(IIIIII)V"⟩, 21), (⟨"BlakeShortDeskModel", "word", "(II)V"⟩, 6), (⟨"BlakeShortDeskModel", "from", "(I)I"⟩, 6), (⟨"BlakeShortDeskModel", "digest", "()[I"⟩, 6), (⟨"BlakeShortDeskModel", "compresses", "([IIIZ)V"⟩, 6), (⟨"BlakeShortDeskModel", "wordAt", "(I)I"⟩, 6)]
theorem lw_r1 : ∀ q ∈ lw_privs_1, lw_okq q := List.forall_mem_cons.mpr ⟨lw_p0, List.forall_mem_cons.mpr ⟨lw_p1, List.forall_mem_cons.mpr ⟨lw_p2, List.forall_mem_cons.mpr ⟨lw_p3, List.forall_mem_cons.mpr ⟨lw_p4, List.forall_mem_cons.mpr ⟨lw_p5, List.forall_mem_cons.mpr ⟨lw_p6, List.forall_mem_cons.mpr ⟨lw_p7, List.forall_mem_cons.mpr ⟨lw_p8, List.forall_mem_cons.mpr ⟨lw_p9, List.forall_mem_cons.mpr ⟨lw_p10, List.forall_mem_cons.mpr ⟨lw_p11, List.forall_mem_cons.mpr ⟨lw_p12, List.forall_mem_cons.mpr ⟨lw_p13, fun _ h => absurd h List.not_mem_nil⟩⟩⟩⟩⟩⟩⟩⟩⟩⟩⟩⟩⟩⟩
def lw_privs : List (MethodName × Nat) := lw_privs_1
def lw_tbl : List Cond := k2_sels lw_privs ++ tables_1
theorem lw_privs_ok : ∀ q ∈ lw_privs, lw_okq q := lw_r1
-- ===== ONE list of words for every method: the tables' words that hold all through a run =====
def lw_all : List Cond := lw_tbl.filter goodWord
/-- a word of the tables by its place: claim/WORDS.tsv -/
theorem lw_w {w : Cond} (i : Nat) (h : lw_tbl[i]? = some w) (g : goodWord w = true) : w ∈ lw_all := List.mem_filter.mpr ⟨List.mem_of_getElem? h, g⟩
theorem lw_all_tbl {w : Cond} (h : w ∈ lw_all) : w ∈ lw_tbl := (List.mem_filter.mp h).1
theorem lw_self : GoodIn lw_all lw_all := fun w h => ⟨h, good_of_word (List.mem_filter.mp h).2⟩
/-- a class's field words, by their places -/
theorem lw_in (ws : List Cond) (ps : List Nat) (hp : ws = ps.filterMap (fun i => lw_tbl[i]?)) (hg : ws.all goodWord = true) : ∀ w ∈ ws, w ∈ lw_all := by
  intro w h
  have h1 := List.all_eq_true.mp hg w h
  rw [hp] at h
  obtain ⟨i, -, hi⟩ := List.mem_filterMap.mp h
  exact lw_w i hi h1
/-- the words of a contract for the method y with code b, L locals, answer r -/
abbrev ws_ (y : MethodName) (b : ByteArray) (L : Nat) (r : Option FieldType) : List Cond := Cond.code y b L r :: lw_all
theorem lw_meth {y : MethodName} {b : ByteArray} {L : Nat} {r : Option FieldType} (h : Cond.code y b L r ∈ lw_all) : GoodIn lw_all (ws_ y b L r) := by
  intro w hw
  rcases List.mem_cons.mp hw with e | e
  · rw [e]
    exact lw_self _ h
  · exact lw_self _ e
theorem lw_app {a c : List Cond} (ha : ∀ w ∈ a, w ∈ lw_all) (hc : GoodIn lw_all c) : GoodIn lw_all (a ++ c) := by
  intro w hw
  rcases List.mem_append.mp hw with e | e
  · exact lw_self w (ha w e)
  · exact hc w e
/-- what a call through an object asks: cwV n hts (lw_V ..) -/
theorem lw_V {own : String} {idx : Nat} {C : String} {y : MethodName} {b : ByteArray} {L : Nat} {r : Option FieldType} (h1 : Cond.methodLink own idx y ∈ lw_all) (h2 : Cond.instanceMethod y ∈ lw_all) (h3 : Cond.selects C y y ∈ lw_all) (h4 : Cond.initialized C ∈ lw_all) (h5 : Cond.code y b L r ∈ lw_all) : GoodIn lw_all (wsV own idx C y (ws_ y b L r)) := by
  refine lw_app ?_ (lw_meth h5)
  intro w hw
  simp only [List.mem_cons, List.not_mem_nil, or_false] at hw
  rcases hw with e | e | e | e
  · rw [e]; exact h1
  · rw [e]; exact h2
  · rw [e]; exact h3
  · rw [e]; exact h4
/-- what a static call asks: va_cwS n hts (lw_S ..) -/
theorem lw_S {own : String} {idx : Nat} {y : MethodName} {b : ByteArray} {L : Nat} {r : Option FieldType} (h1 : Cond.methodLink own idx y ∈ lw_all) (h2 : Cond.static y ∈ lw_all) (h3 : Cond.initialized y.cls ∈ lw_all) (h4 : Cond.code y b L r ∈ lw_all) : GoodIn lw_all (va_wsS own idx y (ws_ y b L r)) := by
  refine lw_app ?_ (lw_meth h4)
  intro w hw
  simp only [List.mem_cons, List.not_mem_nil, or_false] at hw
  rcases hw with e | e | e
  · rw [e]; exact h1
  · rw [e]; exact h2
  · rw [e]; exact h3
/-- the words of a contract for a method WITH HANDLERS (hh: its table) -/
abbrev wsW_ (y : MethodName) (b : ByteArray) (L : Nat) (r : Option FieldType) (hh : List (Nat × Nat × Nat × Nat)) : List Cond := Cond.codeWith y b L r hh :: lw_all
theorem lw_methW {y : MethodName} {b : ByteArray} {L : Nat} {r : Option FieldType} {hh : List (Nat × Nat × Nat × Nat)} (h : Cond.codeWith y b L r hh ∈ lw_all) : GoodIn lw_all (wsW_ y b L r hh) := by
  intro w hw
  rcases List.mem_cons.mp hw with e | e
  · rw [e]
    exact lw_self _ h
  · exact lw_self _ e
/-- any list of words by their places (lw_in), good -/
theorem lw_good {ws : List Cond} (h : ∀ w ∈ ws, w ∈ lw_all) : GoodIn lw_all ws := fun w hw => lw_self w (h w hw)
/-- what a call of a method with handlers asks: vx_cwVW n hts (lw_VW ..), vx_cwSW n hts (lw_SW ..) -/
theorem lw_VW {own : String} {idx : Nat} {C : String} {y : MethodName} {b : ByteArray} {L : Nat} {r : Option FieldType} {hh : List (Nat × Nat × Nat × Nat)} (h1 : Cond.methodLink own idx y ∈ lw_all) (h2 : Cond.instanceMethod y ∈ lw_all) (h3 : Cond.selects C y y ∈ lw_all) (h4 : Cond.initialized C ∈ lw_all) (h5 : Cond.codeWith y b L r hh ∈ lw_all) : GoodIn lw_all (wsV own idx C y (wsW_ y b L r hh)) := by
  refine lw_app ?_ (lw_methW h5)
  intro w hw
  simp only [List.mem_cons, List.not_mem_nil, or_false] at hw
  rcases hw with e | e | e | e
  · rw [e]; exact h1
  · rw [e]; exact h2
  · rw [e]; exact h3
  · rw [e]; exact h4
theorem lw_SW {own : String} {idx : Nat} {y : MethodName} {b : ByteArray} {L : Nat} {r : Option FieldType} {hh : List (Nat × Nat × Nat × Nat)} (h1 : Cond.methodLink own idx y ∈ lw_all) (h2 : Cond.static y ∈ lw_all) (h3 : Cond.initialized y.cls ∈ lw_all) (h4 : Cond.codeWith y b L r hh ∈ lw_all) : GoodIn lw_all (va_wsS own idx y (wsW_ y b L r hh)) := by
  refine lw_app ?_ (lw_methW h4)
  intro w hw
  simp only [List.mem_cons, List.not_mem_nil, or_false] at hw
  rcases hw with e | e | e
  · rw [e]; exact h1
  · rw [e]; exact h2
  · rw [e]; exact h3
/-- a word by its place in its run of the tables -/
theorem lw_at {r : List Cond} (hr : ∀ w ∈ r, w ∈ lw_tbl) {w : Cond} (i : Nat) (h : r[i]? = some w) : w ∈ lw_tbl := hr w (List.mem_of_getElem? h)
theorem lw_g {w : Cond} (h : w ∈ lw_tbl) (g : goodWord w = true) : w ∈ lw_all := List.mem_filter.mpr ⟨h, g⟩
theorem lw_ms : ∀ w ∈ k2_sels lw_privs, w ∈ lw_tbl := fun w h => show w ∈ k2_sels lw_privs ++ tables_1 from List.mem_append_left _ h
theorem lw_m1 : ∀ w ∈ tables_1_1, w ∈ lw_tbl := fun w h => show w ∈ k2_sels lw_privs ++ tables_1 from List.mem_append_right (k2_sels lw_privs) (show w ∈ tables_1 from List.mem_append_left _ h)
theorem lw_m2 : ∀ w ∈ tables_1_2, w ∈ lw_tbl := fun w h => show w ∈ k2_sels lw_privs ++ tables_1 from List.mem_append_right (k2_sels lw_privs) (show w ∈ tables_1 from List.mem_append_right _ h)
theorem qs0 : (Cond.selects "java/lang/Throwable" ⟨"java/lang/Throwable", "fillInStackTrace", "(I)Ljava/lang/Throwable;"⟩ ⟨"java/lang/Throwable", "fillInStackTrace", "(I)Ljava/lang/Throwable;"⟩) ∈ lw_all := lw_g (lw_at lw_ms 0 rfl) rfl
theorem qs1 : (Cond.selects "Blake2sDigest" ⟨"Blake2sDigest", "init", "([B[B[B)V"⟩ ⟨"Blake2sDigest", "init", "([B[B[B)V"⟩) ∈ lw_all := lw_g (lw_at lw_ms 1 rfl) rfl
theorem qs2 : (Cond.selects "BlakeShortDesk" ⟨"BlakeShortDesk", "word", "(II)V"⟩ ⟨"BlakeShortDesk", "word", "(II)V"⟩) ∈ lw_all := lw_g (lw_at lw_ms 2 rfl) rfl
theorem qs3 : (Cond.selects "BlakeShortDesk" ⟨"BlakeShortDesk", "from", "(I)I"⟩ ⟨"BlakeShortDesk", "from", "(I)I"⟩) ∈ lw_all := lw_g (lw_at lw_ms 3 rfl) rfl
theorem qs4 : (Cond.selects "BlakeShortDesk" ⟨"BlakeShortDesk", "count", "(II)I"⟩ ⟨"BlakeShortDesk", "count", "(II)I"⟩) ∈ lw_all := lw_g (lw_at lw_ms 4 rfl) rfl
theorem qs5 : (Cond.selects "Blake2sDigest" ⟨"Blake2sDigest", "incrementCounter", "(I)V"⟩ ⟨"Blake2sDigest", "incrementCounter", "(I)V"⟩) ∈ lw_all := lw_g (lw_at lw_ms 5 rfl) rfl
theorem qs6 : (Cond.selects "Blake2sDigest" ⟨"Blake2sDigest", "compress", "([BI)V"⟩ ⟨"Blake2sDigest", "compress", "([BI)V"⟩) ∈ lw_all := lw_g (lw_at lw_ms 6 rfl) rfl
theorem qs7 : (Cond.selects "Blake2sDigest" ⟨"Blake2sDigest", "initializeInternalState", "()V"⟩ ⟨"Blake2sDigest", "initializeInternalState", "()V"⟩) ∈ lw_all := lw_g (lw_at lw_ms 7 rfl) rfl
theorem qs8 : (Cond.selects "Blake2sDigest" ⟨"Blake2sDigest", "G", "(IIIIII)V"⟩ ⟨"Blake2sDigest", "G", "(IIIIII)V"⟩) ∈ lw_all := lw_g (lw_at lw_ms 8 rfl) rfl
theorem qs9 : (Cond.selects "BlakeShortDeskModel" ⟨"BlakeShortDeskModel", "word", "(II)V"⟩ ⟨"BlakeShortDeskModel", "word", "(II)V"⟩) ∈ lw_all := lw_g (lw_at lw_ms 9 rfl) rfl
theorem qs10 : (Cond.selects "BlakeShortDeskModel" ⟨"BlakeShortDeskModel", "from", "(I)I"⟩ ⟨"BlakeShortDeskModel", "from", "(I)I"⟩) ∈ lw_all := lw_g (lw_at lw_ms 10 rfl) rfl
theorem qs11 : (Cond.selects "BlakeShortDeskModel" ⟨"BlakeShortDeskModel", "digest", "()[I"⟩ ⟨"BlakeShortDeskModel", "digest", "()[I"⟩) ∈ lw_all := lw_g (lw_at lw_ms 11 rfl) rfl
theorem qs12 : (Cond.selects "BlakeShortDeskModel" ⟨"BlakeShortDeskModel", "compresses", "([IIIZ)V"⟩ ⟨"BlakeShortDeskModel", "compresses", "([IIIZ)V"⟩) ∈ lw_all := lw_g (lw_at lw_ms 12 rfl) rfl
theorem qs13 : (Cond.selects "BlakeShortDeskModel" ⟨"BlakeShortDeskModel", "wordAt", "(I)I"⟩ ⟨"BlakeShortDeskModel", "wordAt", "(I)I"⟩) ∈ lw_all := lw_g (lw_at lw_ms 13 rfl) rfl
end
section
/-! DECODE ROWS BY BYTES: one lemma an opcode; a method's code is cut into short pieces once, and a row reads its own piece alone. -/
set_option maxRecDepth 100000
/-- the code has just these bytes from pc on -/
def DkAt (code : ByteArray) (pc : Nat) (bs : List UInt8) : Prop := ∀ (j : Nat) (b : UInt8), bs[j]? = some b → code.data.toList[pc + j]? = some b
/-- the piece W has the bytes bs from its place j on -/
def dkIn (W : List UInt8) (j : Nat) (bs : List UInt8) : Bool := decide ((W.drop j).take bs.length = bs)
theorem dk_seg {l W T : List UInt8} {o o2 : Nat} (h : l.drop o = W ++ T) (n : Nat) (hn : W.length = n) (ho : o + n = o2) : l.drop o2 = T := by
  subst ho
  rw [← List.drop_drop, h, List.drop_left' hn]
theorem dk_at {code : ByteArray} {W T bs : List UInt8} {o pc : Nat} (h : code.data.toList.drop o = W ++ T) (j : Nat) (hp : o + j = pc) (hw : dkIn W j bs = true) : DkAt code pc bs := by
  subst hp
  intro i b e
  have h1 := of_decide_eq_true hw
  have h2 : i < bs.length := (List.getElem?_eq_some_iff.mp e).1
  have h3 : W[j + i]? = some b := by
    rw [← h1, List.getElem?_take, if_pos h2, List.getElem?_drop] at e
    exact e
  have h4 : j + i < W.length := (List.getElem?_eq_some_iff.mp h3).1
  have h5 : (code.data.toList.drop o)[j + i]? = some b := by
    rw [h, List.getElem?_append_left h4]
    exact h3
  rw [List.getElem?_drop, ← Nat.add_assoc] at h5
  exact h5
theorem dk_u1 {A : ByteArray} {p : Nat} {b : UInt8} (h : A.data.toList[p]? = some b) : (Reader.u1 : Reader DecodeError Nat) A p = .ok (b.toNat, p + 1) := by
  obtain ⟨h1, h2⟩ := List.getElem?_eq_some_iff.mp h
  have h3 : p < A.size := by simpa using h1
  have h4 : A[p]'h3 = b := h2
  have e : (Reader.u1 : Reader DecodeError Nat) A p = (if h : p < A.size then .ok (A[p].toNat, p + 1) else .error (HasTruncated.truncated p)) := by
    show (do if h : p < A.size then do set (p + 1); Pure.pure A[p].toNat else MonadExcept.throw (HasTruncated.truncated p) : Reader DecodeError Nat) A p = _
    by_cases hi : p < A.size
    · rw [dif_pos hi, dif_pos hi]; rfl
    · rw [dif_neg hi, dif_neg hi]; rfl
  rw [e, dif_pos h3, h4]
theorem dk_bind {α β : Type} {r : Reader DecodeError α} {f : α → Reader DecodeError β} {A : ByteArray} {p s : Nat} {a : α} (h : r A p = .ok (a, s)) : (r >>= f) A p = f a A s := by
  show (do let (a, s) ← r A p; f a A s : Except DecodeError (β × Nat)) = _
  rw [h]
  rfl
theorem dk_map {α β : Type} {r : Reader DecodeError α} {g : α → β} {A : ByteArray} {p s : Nat} {a : α} (h : r A p = .ok (a, s)) : (g <$> r) A p = .ok (g a, s) := by
  show (do let (a, s) ← r A p; .ok (g a, s) : Except DecodeError (β × Nat)) = _
  rw [h]
  rfl
theorem dk_u2 {A : ByteArray} {p : Nat} {a b : UInt8} (h : A.data.toList[p]? = some a) (h2 : A.data.toList[p + 1]? = some b) : (Reader.u2 : Reader DecodeError Nat) A p = .ok (a.toNat * 256 + b.toNat, p + 2) := by
  show (Reader.u1 >>= fun hi => Reader.u1 >>= fun lo => Pure.pure (hi * 256 + lo) : Reader DecodeError Nat) A p = _
  rw [dk_bind (dk_u1 h), dk_bind (dk_u1 h2)]
  rfl
theorem dk_of {code : ByteArray} {pc n : Nat} {i : Instr} (h : Decoder.instr pc code pc = .ok (i, pc + n)) : decode code pc = .ok (i, n) := by
  have e : decode code pc = (match Decoder.instr pc code pc with | .error x => .error x | .ok (j, s) => .ok (j, s - pc)) := by
    show (do let (j, s) ← Decoder.instr pc code pc; Pure.pure (j, s - pc) : Except DecodeError (Instr × Nat)) = _
    cases Decoder.instr pc code pc <;> rfl
  rw [e, h]
  show Except.ok (i, pc + n - pc) = _
  rw [Nat.add_sub_cancel_left]
theorem dk_1 {code : ByteArray} {pc : Nat} (h : DkAt code pc [1]) : decode code pc = .ok (.aconst_null, 1) := dk_of ((dk_bind (dk_u1 (h 0 _ rfl))).trans rfl)
theorem dk_2 {code : ByteArray} {pc : Nat} (h : DkAt code pc [2]) : decode code pc = .ok (.iconst (-1), 1) := dk_of ((dk_bind (dk_u1 (h 0 _ rfl))).trans rfl)
theorem dk_3 {code : ByteArray} {pc : Nat} (h : DkAt code pc [3]) : decode code pc = .ok (.iconst 0, 1) := dk_of ((dk_bind (dk_u1 (h 0 _ rfl))).trans rfl)
theorem dk_4 {code : ByteArray} {pc : Nat} (h : DkAt code pc [4]) : decode code pc = .ok (.iconst 1, 1) := dk_of ((dk_bind (dk_u1 (h 0 _ rfl))).trans rfl)
theorem dk_5 {code : ByteArray} {pc : Nat} (h : DkAt code pc [5]) : decode code pc = .ok (.iconst 2, 1) := dk_of ((dk_bind (dk_u1 (h 0 _ rfl))).trans rfl)
theorem dk_6 {code : ByteArray} {pc : Nat} (h : DkAt code pc [6]) : decode code pc = .ok (.iconst 3, 1) := dk_of ((dk_bind (dk_u1 (h 0 _ rfl))).trans rfl)
theorem dk_7 {code : ByteArray} {pc : Nat} (h : DkAt code pc [7]) : decode code pc = .ok (.iconst 4, 1) := dk_of ((dk_bind (dk_u1 (h 0 _ rfl))).trans rfl)
theorem dk_8 {code : ByteArray} {pc : Nat} (h : DkAt code pc [8]) : decode code pc = .ok (.iconst 5, 1) := dk_of ((dk_bind (dk_u1 (h 0 _ rfl))).trans rfl)
theorem dk_9 {code : ByteArray} {pc : Nat} (h : DkAt code pc [9]) : decode code pc = .ok (.lconst 0, 1) := dk_of ((dk_bind (dk_u1 (h 0 _ rfl))).trans rfl)
theorem dk_16 {code : ByteArray} {pc : Nat} (a : UInt8) (h : DkAt code pc [16, a]) : decode code pc = .ok (.bipush (Reader.signed 8 a.toNat), 2) := dk_of ((dk_bind (dk_u1 (h 0 _ rfl))).trans ((dk_bind (dk_map (dk_u1 (h 1 _ rfl)))).trans rfl))
theorem dk_17 {code : ByteArray} {pc : Nat} (a b : UInt8) (h : DkAt code pc [17, a, b]) : decode code pc = .ok (.sipush (Reader.signed 16 (a.toNat * 256 + b.toNat)), 3) := dk_of ((dk_bind (dk_u1 (h 0 _ rfl))).trans ((dk_bind (dk_map (dk_u2 (h 1 _ rfl) (h 2 _ rfl)))).trans rfl))
theorem dk_18 {code : ByteArray} {pc : Nat} (a : UInt8) (h : DkAt code pc [18, a]) : decode code pc = .ok (.ldc a.toNat, 2) := dk_of ((dk_bind (dk_u1 (h 0 _ rfl))).trans ((dk_bind (dk_u1 (h 1 _ rfl))).trans rfl))
theorem dk_21 {code : ByteArray} {pc : Nat} (a : UInt8) (h : DkAt code pc [21, a]) : decode code pc = .ok (.iload a.toNat, 2) := dk_of ((dk_bind (dk_u1 (h 0 _ rfl))).trans ((dk_bind (dk_u1 (h 1 _ rfl))).trans rfl))
theorem dk_25 {code : ByteArray} {pc : Nat} (a : UInt8) (h : DkAt code pc [25, a]) : decode code pc = .ok (.aload a.toNat, 2) := dk_of ((dk_bind (dk_u1 (h 0 _ rfl))).trans ((dk_bind (dk_u1 (h 1 _ rfl))).trans rfl))
theorem dk_26 {code : ByteArray} {pc : Nat} (h : DkAt code pc [26]) : decode code pc = .ok (.iload_n 0, 1) := dk_of ((dk_bind (dk_u1 (h 0 _ rfl))).trans rfl)
theorem dk_27 {code : ByteArray} {pc : Nat} (h : DkAt code pc [27]) : decode code pc = .ok (.iload_n 1, 1) := dk_of ((dk_bind (dk_u1 (h 0 _ rfl))).trans rfl)
theorem dk_28 {code : ByteArray} {pc : Nat} (h : DkAt code pc [28]) : decode code pc = .ok (.iload_n 2, 1) := dk_of ((dk_bind (dk_u1 (h 0 _ rfl))).trans rfl)
theorem dk_29 {code : ByteArray} {pc : Nat} (h : DkAt code pc [29]) : decode code pc = .ok (.iload_n 3, 1) := dk_of ((dk_bind (dk_u1 (h 0 _ rfl))).trans rfl)
theorem dk_42 {code : ByteArray} {pc : Nat} (h : DkAt code pc [42]) : decode code pc = .ok (.aload_n 0, 1) := dk_of ((dk_bind (dk_u1 (h 0 _ rfl))).trans rfl)
theorem dk_43 {code : ByteArray} {pc : Nat} (h : DkAt code pc [43]) : decode code pc = .ok (.aload_n 1, 1) := dk_of ((dk_bind (dk_u1 (h 0 _ rfl))).trans rfl)
theorem dk_44 {code : ByteArray} {pc : Nat} (h : DkAt code pc [44]) : decode code pc = .ok (.aload_n 2, 1) := dk_of ((dk_bind (dk_u1 (h 0 _ rfl))).trans rfl)
theorem dk_45 {code : ByteArray} {pc : Nat} (h : DkAt code pc [45]) : decode code pc = .ok (.aload_n 3, 1) := dk_of ((dk_bind (dk_u1 (h 0 _ rfl))).trans rfl)
theorem dk_46 {code : ByteArray} {pc : Nat} (h : DkAt code pc [46]) : decode code pc = .ok (.iaload, 1) := dk_of ((dk_bind (dk_u1 (h 0 _ rfl))).trans rfl)
theorem dk_50 {code : ByteArray} {pc : Nat} (h : DkAt code pc [50]) : decode code pc = .ok (.aaload, 1) := dk_of ((dk_bind (dk_u1 (h 0 _ rfl))).trans rfl)
theorem dk_51 {code : ByteArray} {pc : Nat} (h : DkAt code pc [51]) : decode code pc = .ok (.baload, 1) := dk_of ((dk_bind (dk_u1 (h 0 _ rfl))).trans rfl)
theorem dk_54 {code : ByteArray} {pc : Nat} (a : UInt8) (h : DkAt code pc [54, a]) : decode code pc = .ok (.istore a.toNat, 2) := dk_of ((dk_bind (dk_u1 (h 0 _ rfl))).trans ((dk_bind (dk_u1 (h 1 _ rfl))).trans rfl))
theorem dk_58 {code : ByteArray} {pc : Nat} (a : UInt8) (h : DkAt code pc [58, a]) : decode code pc = .ok (.astore a.toNat, 2) := dk_of ((dk_bind (dk_u1 (h 0 _ rfl))).trans ((dk_bind (dk_u1 (h 1 _ rfl))).trans rfl))
theorem dk_59 {code : ByteArray} {pc : Nat} (h : DkAt code pc [59]) : decode code pc = .ok (.istore_n 0, 1) := dk_of ((dk_bind (dk_u1 (h 0 _ rfl))).trans rfl)
theorem dk_61 {code : ByteArray} {pc : Nat} (h : DkAt code pc [61]) : decode code pc = .ok (.istore_n 2, 1) := dk_of ((dk_bind (dk_u1 (h 0 _ rfl))).trans rfl)
theorem dk_62 {code : ByteArray} {pc : Nat} (h : DkAt code pc [62]) : decode code pc = .ok (.istore_n 3, 1) := dk_of ((dk_bind (dk_u1 (h 0 _ rfl))).trans rfl)
theorem dk_76 {code : ByteArray} {pc : Nat} (h : DkAt code pc [76]) : decode code pc = .ok (.astore_n 1, 1) := dk_of ((dk_bind (dk_u1 (h 0 _ rfl))).trans rfl)
theorem dk_77 {code : ByteArray} {pc : Nat} (h : DkAt code pc [77]) : decode code pc = .ok (.astore_n 2, 1) := dk_of ((dk_bind (dk_u1 (h 0 _ rfl))).trans rfl)
theorem dk_78 {code : ByteArray} {pc : Nat} (h : DkAt code pc [78]) : decode code pc = .ok (.astore_n 3, 1) := dk_of ((dk_bind (dk_u1 (h 0 _ rfl))).trans rfl)
theorem dk_79 {code : ByteArray} {pc : Nat} (h : DkAt code pc [79]) : decode code pc = .ok (.iastore, 1) := dk_of ((dk_bind (dk_u1 (h 0 _ rfl))).trans rfl)
theorem dk_84 {code : ByteArray} {pc : Nat} (h : DkAt code pc [84]) : decode code pc = .ok (.bastore, 1) := dk_of ((dk_bind (dk_u1 (h 0 _ rfl))).trans rfl)
theorem dk_87 {code : ByteArray} {pc : Nat} (h : DkAt code pc [87]) : decode code pc = .ok (.pop, 1) := dk_of ((dk_bind (dk_u1 (h 0 _ rfl))).trans rfl)
theorem dk_89 {code : ByteArray} {pc : Nat} (h : DkAt code pc [89]) : decode code pc = .ok (.dup, 1) := dk_of ((dk_bind (dk_u1 (h 0 _ rfl))).trans rfl)
theorem dk_90 {code : ByteArray} {pc : Nat} (h : DkAt code pc [90]) : decode code pc = .ok (.dup_x1, 1) := dk_of ((dk_bind (dk_u1 (h 0 _ rfl))).trans rfl)
theorem dk_92 {code : ByteArray} {pc : Nat} (h : DkAt code pc [92]) : decode code pc = .ok (.dup2, 1) := dk_of ((dk_bind (dk_u1 (h 0 _ rfl))).trans rfl)
theorem dk_96 {code : ByteArray} {pc : Nat} (h : DkAt code pc [96]) : decode code pc = .ok (.iadd, 1) := dk_of ((dk_bind (dk_u1 (h 0 _ rfl))).trans rfl)
theorem dk_100 {code : ByteArray} {pc : Nat} (h : DkAt code pc [100]) : decode code pc = .ok (.isub, 1) := dk_of ((dk_bind (dk_u1 (h 0 _ rfl))).trans rfl)
theorem dk_104 {code : ByteArray} {pc : Nat} (h : DkAt code pc [104]) : decode code pc = .ok (.imul, 1) := dk_of ((dk_bind (dk_u1 (h 0 _ rfl))).trans rfl)
theorem dk_108 {code : ByteArray} {pc : Nat} (h : DkAt code pc [108]) : decode code pc = .ok (.idiv, 1) := dk_of ((dk_bind (dk_u1 (h 0 _ rfl))).trans rfl)
theorem dk_112 {code : ByteArray} {pc : Nat} (h : DkAt code pc [112]) : decode code pc = .ok (.irem, 1) := dk_of ((dk_bind (dk_u1 (h 0 _ rfl))).trans rfl)
theorem dk_116 {code : ByteArray} {pc : Nat} (h : DkAt code pc [116]) : decode code pc = .ok (.ineg, 1) := dk_of ((dk_bind (dk_u1 (h 0 _ rfl))).trans rfl)
theorem dk_120 {code : ByteArray} {pc : Nat} (h : DkAt code pc [120]) : decode code pc = .ok (.ishl, 1) := dk_of ((dk_bind (dk_u1 (h 0 _ rfl))).trans rfl)
theorem dk_122 {code : ByteArray} {pc : Nat} (h : DkAt code pc [122]) : decode code pc = .ok (.ishr, 1) := dk_of ((dk_bind (dk_u1 (h 0 _ rfl))).trans rfl)
theorem dk_123 {code : ByteArray} {pc : Nat} (h : DkAt code pc [123]) : decode code pc = .ok (.lshr, 1) := dk_of ((dk_bind (dk_u1 (h 0 _ rfl))).trans rfl)
theorem dk_124 {code : ByteArray} {pc : Nat} (h : DkAt code pc [124]) : decode code pc = .ok (.iushr, 1) := dk_of ((dk_bind (dk_u1 (h 0 _ rfl))).trans rfl)
theorem dk_126 {code : ByteArray} {pc : Nat} (h : DkAt code pc [126]) : decode code pc = .ok (.iand, 1) := dk_of ((dk_bind (dk_u1 (h 0 _ rfl))).trans rfl)
theorem dk_128 {code : ByteArray} {pc : Nat} (h : DkAt code pc [128]) : decode code pc = .ok (.ior, 1) := dk_of ((dk_bind (dk_u1 (h 0 _ rfl))).trans rfl)
theorem dk_130 {code : ByteArray} {pc : Nat} (h : DkAt code pc [130]) : decode code pc = .ok (.ixor, 1) := dk_of ((dk_bind (dk_u1 (h 0 _ rfl))).trans rfl)
theorem dk_132 {code : ByteArray} {pc : Nat} (a b : UInt8) (h : DkAt code pc [132, a, b]) : decode code pc = .ok (.iinc a.toNat (Reader.signed 8 b.toNat), 3) := dk_of ((dk_bind (dk_u1 (h 0 _ rfl))).trans ((dk_bind (dk_u1 (h 1 _ rfl))).trans ((dk_bind (dk_map (dk_u1 (h 2 _ rfl)))).trans rfl)))
theorem dk_136 {code : ByteArray} {pc : Nat} (h : DkAt code pc [136]) : decode code pc = .ok (.l2i, 1) := dk_of ((dk_bind (dk_u1 (h 0 _ rfl))).trans rfl)
theorem dk_145 {code : ByteArray} {pc : Nat} (h : DkAt code pc [145]) : decode code pc = .ok (.i2b, 1) := dk_of ((dk_bind (dk_u1 (h 0 _ rfl))).trans rfl)
theorem dk_153 {code : ByteArray} {pc : Nat} (a b : UInt8) (h : DkAt code pc [153, a, b]) : decode code pc = .ok (.ifCond .eq (Reader.signed 16 (a.toNat * 256 + b.toNat)), 3) := dk_of ((dk_bind (dk_u1 (h 0 _ rfl))).trans ((dk_bind (dk_map (dk_u2 (h 1 _ rfl) (h 2 _ rfl)))).trans rfl))
theorem dk_154 {code : ByteArray} {pc : Nat} (a b : UInt8) (h : DkAt code pc [154, a, b]) : decode code pc = .ok (.ifCond .ne (Reader.signed 16 (a.toNat * 256 + b.toNat)), 3) := dk_of ((dk_bind (dk_u1 (h 0 _ rfl))).trans ((dk_bind (dk_map (dk_u2 (h 1 _ rfl) (h 2 _ rfl)))).trans rfl))
theorem dk_156 {code : ByteArray} {pc : Nat} (a b : UInt8) (h : DkAt code pc [156, a, b]) : decode code pc = .ok (.ifCond .ge (Reader.signed 16 (a.toNat * 256 + b.toNat)), 3) := dk_of ((dk_bind (dk_u1 (h 0 _ rfl))).trans ((dk_bind (dk_map (dk_u2 (h 1 _ rfl) (h 2 _ rfl)))).trans rfl))
theorem dk_158 {code : ByteArray} {pc : Nat} (a b : UInt8) (h : DkAt code pc [158, a, b]) : decode code pc = .ok (.ifCond .le (Reader.signed 16 (a.toNat * 256 + b.toNat)), 3) := dk_of ((dk_bind (dk_u1 (h 0 _ rfl))).trans ((dk_bind (dk_map (dk_u2 (h 1 _ rfl) (h 2 _ rfl)))).trans rfl))
theorem dk_159 {code : ByteArray} {pc : Nat} (a b : UInt8) (h : DkAt code pc [159, a, b]) : decode code pc = .ok (.if_icmp .eq (Reader.signed 16 (a.toNat * 256 + b.toNat)), 3) := dk_of ((dk_bind (dk_u1 (h 0 _ rfl))).trans ((dk_bind (dk_map (dk_u2 (h 1 _ rfl) (h 2 _ rfl)))).trans rfl))
theorem dk_160 {code : ByteArray} {pc : Nat} (a b : UInt8) (h : DkAt code pc [160, a, b]) : decode code pc = .ok (.if_icmp .ne (Reader.signed 16 (a.toNat * 256 + b.toNat)), 3) := dk_of ((dk_bind (dk_u1 (h 0 _ rfl))).trans ((dk_bind (dk_map (dk_u2 (h 1 _ rfl) (h 2 _ rfl)))).trans rfl))
theorem dk_161 {code : ByteArray} {pc : Nat} (a b : UInt8) (h : DkAt code pc [161, a, b]) : decode code pc = .ok (.if_icmp .lt (Reader.signed 16 (a.toNat * 256 + b.toNat)), 3) := dk_of ((dk_bind (dk_u1 (h 0 _ rfl))).trans ((dk_bind (dk_map (dk_u2 (h 1 _ rfl) (h 2 _ rfl)))).trans rfl))
theorem dk_162 {code : ByteArray} {pc : Nat} (a b : UInt8) (h : DkAt code pc [162, a, b]) : decode code pc = .ok (.if_icmp .ge (Reader.signed 16 (a.toNat * 256 + b.toNat)), 3) := dk_of ((dk_bind (dk_u1 (h 0 _ rfl))).trans ((dk_bind (dk_map (dk_u2 (h 1 _ rfl) (h 2 _ rfl)))).trans rfl))
theorem dk_163 {code : ByteArray} {pc : Nat} (a b : UInt8) (h : DkAt code pc [163, a, b]) : decode code pc = .ok (.if_icmp .gt (Reader.signed 16 (a.toNat * 256 + b.toNat)), 3) := dk_of ((dk_bind (dk_u1 (h 0 _ rfl))).trans ((dk_bind (dk_map (dk_u2 (h 1 _ rfl) (h 2 _ rfl)))).trans rfl))
theorem dk_164 {code : ByteArray} {pc : Nat} (a b : UInt8) (h : DkAt code pc [164, a, b]) : decode code pc = .ok (.if_icmp .le (Reader.signed 16 (a.toNat * 256 + b.toNat)), 3) := dk_of ((dk_bind (dk_u1 (h 0 _ rfl))).trans ((dk_bind (dk_map (dk_u2 (h 1 _ rfl) (h 2 _ rfl)))).trans rfl))
theorem dk_167 {code : ByteArray} {pc : Nat} (a b : UInt8) (h : DkAt code pc [167, a, b]) : decode code pc = .ok (.goto (Reader.signed 16 (a.toNat * 256 + b.toNat)), 3) := dk_of ((dk_bind (dk_u1 (h 0 _ rfl))).trans ((dk_bind (dk_map (dk_u2 (h 1 _ rfl) (h 2 _ rfl)))).trans rfl))
theorem dk_172 {code : ByteArray} {pc : Nat} (h : DkAt code pc [172]) : decode code pc = .ok (.ireturn, 1) := dk_of ((dk_bind (dk_u1 (h 0 _ rfl))).trans rfl)
theorem dk_176 {code : ByteArray} {pc : Nat} (h : DkAt code pc [176]) : decode code pc = .ok (.areturn, 1) := dk_of ((dk_bind (dk_u1 (h 0 _ rfl))).trans rfl)
theorem dk_177 {code : ByteArray} {pc : Nat} (h : DkAt code pc [177]) : decode code pc = .ok (.return_, 1) := dk_of ((dk_bind (dk_u1 (h 0 _ rfl))).trans rfl)
theorem dk_178 {code : ByteArray} {pc : Nat} (a b : UInt8) (h : DkAt code pc [178, a, b]) : decode code pc = .ok (.getstatic (a.toNat * 256 + b.toNat), 3) := dk_of ((dk_bind (dk_u1 (h 0 _ rfl))).trans ((dk_bind (dk_u2 (h 1 _ rfl) (h 2 _ rfl))).trans rfl))
theorem dk_180 {code : ByteArray} {pc : Nat} (a b : UInt8) (h : DkAt code pc [180, a, b]) : decode code pc = .ok (.getfield (a.toNat * 256 + b.toNat), 3) := dk_of ((dk_bind (dk_u1 (h 0 _ rfl))).trans ((dk_bind (dk_u2 (h 1 _ rfl) (h 2 _ rfl))).trans rfl))
theorem dk_181 {code : ByteArray} {pc : Nat} (a b : UInt8) (h : DkAt code pc [181, a, b]) : decode code pc = .ok (.putfield (a.toNat * 256 + b.toNat), 3) := dk_of ((dk_bind (dk_u1 (h 0 _ rfl))).trans ((dk_bind (dk_u2 (h 1 _ rfl) (h 2 _ rfl))).trans rfl))
theorem dk_182 {code : ByteArray} {pc : Nat} (a b : UInt8) (h : DkAt code pc [182, a, b]) : decode code pc = .ok (.invokevirtual (a.toNat * 256 + b.toNat), 3) := dk_of ((dk_bind (dk_u1 (h 0 _ rfl))).trans ((dk_bind (dk_u2 (h 1 _ rfl) (h 2 _ rfl))).trans rfl))
theorem dk_183 {code : ByteArray} {pc : Nat} (a b : UInt8) (h : DkAt code pc [183, a, b]) : decode code pc = .ok (.invokespecial (a.toNat * 256 + b.toNat), 3) := dk_of ((dk_bind (dk_u1 (h 0 _ rfl))).trans ((dk_bind (dk_u2 (h 1 _ rfl) (h 2 _ rfl))).trans rfl))
theorem dk_184 {code : ByteArray} {pc : Nat} (a b : UInt8) (h : DkAt code pc [184, a, b]) : decode code pc = .ok (.invokestatic (a.toNat * 256 + b.toNat), 3) := dk_of ((dk_bind (dk_u1 (h 0 _ rfl))).trans ((dk_bind (dk_u2 (h 1 _ rfl) (h 2 _ rfl))).trans rfl))
theorem dk_187 {code : ByteArray} {pc : Nat} (a b : UInt8) (h : DkAt code pc [187, a, b]) : decode code pc = .ok (.new (a.toNat * 256 + b.toNat), 3) := dk_of ((dk_bind (dk_u1 (h 0 _ rfl))).trans ((dk_bind (dk_u2 (h 1 _ rfl) (h 2 _ rfl))).trans rfl))
theorem dk_188_8 {code : ByteArray} {pc : Nat} (h : DkAt code pc [188, 8]) : decode code pc = .ok (.newarray .byte, 2) := dk_of ((dk_bind (dk_u1 (h 0 _ rfl))).trans ((dk_bind (dk_u1 (h 1 _ rfl))).trans rfl))
theorem dk_188_10 {code : ByteArray} {pc : Nat} (h : DkAt code pc [188, 10]) : decode code pc = .ok (.newarray .int, 2) := dk_of ((dk_bind (dk_u1 (h 0 _ rfl))).trans ((dk_bind (dk_u1 (h 1 _ rfl))).trans rfl))
theorem dk_190 {code : ByteArray} {pc : Nat} (h : DkAt code pc [190]) : decode code pc = .ok (.arraylength, 1) := dk_of ((dk_bind (dk_u1 (h 0 _ rfl))).trans rfl)
theorem dk_191 {code : ByteArray} {pc : Nat} (h : DkAt code pc [191]) : decode code pc = .ok (.athrow, 1) := dk_of ((dk_bind (dk_u1 (h 0 _ rfl))).trans rfl)
theorem dk_198 {code : ByteArray} {pc : Nat} (a b : UInt8) (h : DkAt code pc [198, a, b]) : decode code pc = .ok (.ifnull (Reader.signed 16 (a.toNat * 256 + b.toNat)), 3) := dk_of ((dk_bind (dk_u1 (h 0 _ rfl))).trans ((dk_bind (dk_map (dk_u2 (h 1 _ rfl) (h 2 _ rfl)))).trans rfl))
end
section
theorem q118 : (Jvm.Cond.arrayClass Jvm.ClassFile.FieldType.byte) ∈ lw_all := lw_g (lw_at lw_m1 104 rfl) rfl
set_option maxRecDepth 100000
theorem q119 : (Jvm.Cond.arrayClass Jvm.ClassFile.FieldType.int) ∈ lw_all := lw_g (lw_at lw_m1 105 rfl) rfl
theorem q473 : (Jvm.Cond.arrayOver (Jvm.ClassFile.FieldType.array Jvm.ClassFile.FieldType.byte)) ∈ lw_tbl := lw_at lw_m2 219 rfl
theorem q474 : (Jvm.Cond.arrayOver (Jvm.ClassFile.FieldType.array Jvm.ClassFile.FieldType.int)) ∈ lw_tbl := lw_at lw_m2 220 rfl
theorem q14 : (Jvm.Cond.initialized "BlakeShortDeskLaw") ∈ lw_all := lw_g (lw_at lw_m1 0 rfl) rfl
set_option maxRecDepth 100000
theorem q33 : (Jvm.Cond.classLink "BlakeShortDeskLaw" (7 : Nat) "BlakeShortDesk") ∈ lw_all := lw_g (lw_at lw_m1 19 rfl) rfl
theorem q35 : (Jvm.Cond.methodLink "BlakeShortDeskLaw" (9 : Nat) ({ cls := "BlakeShortDesk", name := "<init>", desc := "()V" } : Jvm.MethodName)) ∈ lw_all := lw_g (lw_at lw_m1 21 rfl) rfl
theorem q215 : (Jvm.Cond.methodLink "BlakeShortDeskLaw" (13 : Nat) ({ cls := "BlakeShortDesk", name := "put", desc := "(IIII)Z" } : Jvm.MethodName)) ∈ lw_all := lw_g (lw_at lw_m1 201 rfl) rfl
theorem q223 : (Jvm.Cond.methodLink "BlakeShortDeskLaw" (18 : Nat) ({ cls := "BlakeShortDesk", name := "trim", desc := "(I)V" } : Jvm.MethodName)) ∈ lw_all := lw_g (lw_at lw_m1 209 rfl) rfl
theorem q232 : (Jvm.Cond.methodLink "BlakeShortDeskLaw" (23 : Nat) ({ cls := "BlakeShortDesk", name := "begin", desc := "(I)V" } : Jvm.MethodName)) ∈ lw_all := lw_g (lw_at lw_m1 218 rfl) rfl
theorem q236 : (Jvm.Cond.methodLink "BlakeShortDeskLaw" (27 : Nat) ({ cls := "BlakeShortDesk", name := "feed", desc := "(II)Z" } : Jvm.MethodName)) ∈ lw_all := lw_g (lw_at lw_m1 222 rfl) rfl
theorem q295 : (Jvm.Cond.methodLink "BlakeShortDeskLaw" (32 : Nat) ({ cls := "BlakeShortDesk", name := "one", desc := "(I)Z" } : Jvm.MethodName)) ∈ lw_all := lw_g (lw_at lw_m2 41 rfl) rfl
theorem q308 : (Jvm.Cond.methodLink "BlakeShortDeskLaw" (37 : Nat) ({ cls := "BlakeShortDesk", name := "close", desc := "()I" } : Jvm.MethodName)) ∈ lw_all := lw_g (lw_at lw_m2 54 rfl) rfl
theorem q364 : (Jvm.Cond.methodLink "BlakeShortDeskLaw" (42 : Nat) ({ cls := "BlakeShortDesk", name := "drop", desc := "()V" } : Jvm.MethodName)) ∈ lw_all := lw_g (lw_at lw_m2 110 rfl) rfl
theorem q375 : (Jvm.Cond.methodLink "BlakeShortDeskLaw" (46 : Nat) ({ cls := "BlakeShortDesk", name := "out", desc := "(I)I" } : Jvm.MethodName)) ∈ lw_all := lw_g (lw_at lw_m2 121 rfl) rfl
theorem q379 : (Jvm.Cond.classLink "BlakeShortDeskLaw" (10 : Nat) "BlakeShortDeskModel") ∈ lw_all := lw_g (lw_at lw_m2 125 rfl) rfl
theorem q381 : (Jvm.Cond.methodLink "BlakeShortDeskLaw" (12 : Nat) ({ cls := "BlakeShortDeskModel", name := "<init>", desc := "()V" } : Jvm.MethodName)) ∈ lw_all := lw_g (lw_at lw_m2 127 rfl) rfl
theorem q404 : (Jvm.Cond.methodLink "BlakeShortDeskLaw" (17 : Nat) ({ cls := "BlakeShortDeskModel", name := "put", desc := "(IIII)Z" } : Jvm.MethodName)) ∈ lw_all := lw_g (lw_at lw_m2 150 rfl) rfl
theorem q412 : (Jvm.Cond.methodLink "BlakeShortDeskLaw" (22 : Nat) ({ cls := "BlakeShortDeskModel", name := "trim", desc := "(I)V" } : Jvm.MethodName)) ∈ lw_all := lw_g (lw_at lw_m2 158 rfl) rfl
theorem q421 : (Jvm.Cond.methodLink "BlakeShortDeskLaw" (26 : Nat) ({ cls := "BlakeShortDeskModel", name := "begin", desc := "(I)V" } : Jvm.MethodName)) ∈ lw_all := lw_g (lw_at lw_m2 167 rfl) rfl
theorem q427 : (Jvm.Cond.methodLink "BlakeShortDeskLaw" (31 : Nat) ({ cls := "BlakeShortDeskModel", name := "feed", desc := "(II)Z" } : Jvm.MethodName)) ∈ lw_all := lw_g (lw_at lw_m2 173 rfl) rfl
theorem q431 : (Jvm.Cond.methodLink "BlakeShortDeskLaw" (36 : Nat) ({ cls := "BlakeShortDeskModel", name := "one", desc := "(I)Z" } : Jvm.MethodName)) ∈ lw_all := lw_g (lw_at lw_m2 177 rfl) rfl
theorem q435 : (Jvm.Cond.methodLink "BlakeShortDeskLaw" (41 : Nat) ({ cls := "BlakeShortDeskModel", name := "close", desc := "()I" } : Jvm.MethodName)) ∈ lw_all := lw_g (lw_at lw_m2 181 rfl) rfl
theorem q464 : (Jvm.Cond.methodLink "BlakeShortDeskLaw" (45 : Nat) ({ cls := "BlakeShortDeskModel", name := "drop", desc := "()V" } : Jvm.MethodName)) ∈ lw_all := lw_g (lw_at lw_m2 210 rfl) rfl
theorem q468 : (Jvm.Cond.methodLink "BlakeShortDeskLaw" (50 : Nat) ({ cls := "BlakeShortDeskModel", name := "out", desc := "(I)I" } : Jvm.MethodName)) ∈ lw_all := lw_g (lw_at lw_m2 214 rfl) rfl
theorem q18 : (Jvm.Cond.initialized "CryptoServicePurpose") ∈ lw_all := lw_g (lw_at lw_m1 4 rfl) rfl
set_option maxRecDepth 100000
theorem q47 : (Jvm.Cond.laysStatic "CryptoServicePurpose" "ANY" "LCryptoServicePurpose;") ∈ lw_tbl := lw_at lw_m1 33 rfl
theorem q23 : (Jvm.Cond.initialized "java/lang/System") ∈ lw_all := lw_g (lw_at lw_m1 9 rfl) rfl
set_option maxRecDepth 100000
theorem q126 : (Jvm.Cond.static ({ cls := "java/lang/System", name := "arraycopy", desc := "(Ljava/lang/Object;ILjava/lang/Object;II)V" } : Jvm.MethodName)) ∈ lw_all := lw_g (lw_at lw_m1 112 rfl) rfl
theorem q127 : (Jvm.Cond.native ({ cls := "java/lang/System", name := "arraycopy", desc := "(Ljava/lang/Object;ILjava/lang/Object;II)V" } : Jvm.MethodName)) ∈ lw_all := lw_g (lw_at lw_m1 113 rfl) rfl
theorem q246 : (Jvm.Cond.interfaceMethod "Digest" "Digest" "update" "([BII)V") ∈ lw_tbl := lw_at lw_m1 232 rfl
set_option maxRecDepth 100000
theorem q247 : (Jvm.Cond.declares ({ cls := "Digest", name := "update", desc := "([BII)V" } : Jvm.MethodName)) ∈ lw_tbl := lw_at lw_m1 233 rfl
theorem q301 : (Jvm.Cond.interfaceMethod "Digest" "Digest" "update" "(B)V") ∈ lw_tbl := lw_at lw_m2 47 rfl
theorem q302 : (Jvm.Cond.declares ({ cls := "Digest", name := "update", desc := "(B)V" } : Jvm.MethodName)) ∈ lw_tbl := lw_at lw_m2 48 rfl
theorem q314 : (Jvm.Cond.interfaceMethod "Digest" "Digest" "doFinal" "([BI)I") ∈ lw_tbl := lw_at lw_m2 60 rfl
theorem q315 : (Jvm.Cond.declares ({ cls := "Digest", name := "doFinal", desc := "([BI)I" } : Jvm.MethodName)) ∈ lw_tbl := lw_at lw_m2 61 rfl
theorem q370 : (Jvm.Cond.interfaceMethod "Digest" "Digest" "reset" "()V") ∈ lw_tbl := lw_at lw_m2 116 rfl
theorem q371 : (Jvm.Cond.declares ({ cls := "Digest", name := "reset", desc := "()V" } : Jvm.MethodName)) ∈ lw_tbl := lw_at lw_m2 117 rfl
/-! java/lang/Object -/
set_option maxRecDepth 100000
def RJ6 : String := "java/lang/Object"
abbrev cJ6_init : ByteArray := object_method_1_code
def yJ6_init : MethodName := ⟨RJ6, "<init>", "()V"⟩
theorem dJ6_init_0 : decode cJ6_init 0 = .ok (.return_, 1) := by decide +kernel
theorem q39 : (Jvm.Cond.instanceMethod ({ cls := "java/lang/Object", name := "<init>", desc := "()V" } : Jvm.MethodName)) ∈ lw_all := lw_g (lw_at lw_m1 25 rfl) rfl
theorem q40 : (Jvm.Cond.code ({ cls := "java/lang/Object", name := "<init>", desc := "()V" } : Jvm.MethodName) object_method_1_code (1 : Nat) (Option.none : Option Jvm.ClassFile.FieldType)) ∈ lw_all := lw_g (lw_at lw_m1 26 rfl) rfl
/-! java/lang/Integer -/
set_option maxRecDepth 100000
def RJ4 : String := "java/lang/Integer"
abbrev cJ4_rotateRight : ByteArray := prog_17_method_51_code
def yJ4_rotateRight : MethodName := ⟨RJ4, "rotateRight", "(II)I"⟩
def dkwJ4_rotateRight_0 : List UInt8 := [26, 27, 124, 26, 27, 116, 120, 128, 172]
abbrev dktJ4_rotateRight_0 : List UInt8 := dkwJ4_rotateRight_0 ++ []
theorem dksJ4_rotateRight_0 : cJ4_rotateRight.data.toList.drop 0 = dktJ4_rotateRight_0 := by decide +kernel
theorem dJ4_rotateRight_0 : decode cJ4_rotateRight 0 = .ok (.iload_n 0, 1) := dk_26 (dk_at dksJ4_rotateRight_0 0 rfl rfl)
theorem dJ4_rotateRight_1 : decode cJ4_rotateRight 1 = .ok (.iload_n 1, 1) := dk_27 (dk_at dksJ4_rotateRight_0 1 rfl rfl)
theorem dJ4_rotateRight_2 : decode cJ4_rotateRight 2 = .ok (.iushr, 1) := dk_124 (dk_at dksJ4_rotateRight_0 2 rfl rfl)
theorem dJ4_rotateRight_3 : decode cJ4_rotateRight 3 = .ok (.iload_n 0, 1) := dk_26 (dk_at dksJ4_rotateRight_0 3 rfl rfl)
theorem dJ4_rotateRight_4 : decode cJ4_rotateRight 4 = .ok (.iload_n 1, 1) := dk_27 (dk_at dksJ4_rotateRight_0 4 rfl rfl)
theorem dJ4_rotateRight_5 : decode cJ4_rotateRight 5 = .ok (.ineg, 1) := dk_116 (dk_at dksJ4_rotateRight_0 5 rfl rfl)
theorem dJ4_rotateRight_6 : decode cJ4_rotateRight 6 = .ok (.ishl, 1) := dk_120 (dk_at dksJ4_rotateRight_0 6 rfl rfl)
theorem dJ4_rotateRight_7 : decode cJ4_rotateRight 7 = .ok (.ior, 1) := dk_128 (dk_at dksJ4_rotateRight_0 7 rfl rfl)
theorem dJ4_rotateRight_8 : decode cJ4_rotateRight 8 = .ok (.ireturn, 1) := dk_172 (dk_at dksJ4_rotateRight_0 8 rfl rfl)
theorem q27 : (Jvm.Cond.initialized "java/lang/Integer") ∈ lw_all := lw_g (lw_at lw_m1 13 rfl) rfl
theorem q287 : (Jvm.Cond.static ({ cls := "java/lang/Integer", name := "rotateRight", desc := "(II)I" } : Jvm.MethodName)) ∈ lw_all := lw_g (lw_at lw_m2 33 rfl) rfl
theorem q288 : (Jvm.Cond.code ({ cls := "java/lang/Integer", name := "rotateRight", desc := "(II)I" } : Jvm.MethodName) prog_17_method_51_code (2 : Nat) (Option.some Jvm.ClassFile.FieldType.int)) ∈ lw_all := lw_g (lw_at lw_m2 34 rfl) rfl
/-! java/util/Arrays -/
set_option maxRecDepth 100000
def RJ5 : String := "java/util/Arrays"
abbrev cJ5_fill : ByteArray := prog_22_method_109_code
def yJ5_fill : MethodName := ⟨RJ5, "fill", "([BB)V"⟩
def dkwJ5_fill_0 : List UInt8 := [3, 61, 42, 190, 62, 28, 29, 162, 0, 13, 42, 28, 27, 84, 132, 2, 1, 167, 255, 244, 177]
abbrev dktJ5_fill_0 : List UInt8 := dkwJ5_fill_0 ++ []
theorem dksJ5_fill_0 : cJ5_fill.data.toList.drop 0 = dktJ5_fill_0 := by decide +kernel
theorem dJ5_fill_0 : decode cJ5_fill 0 = .ok (.iconst 0, 1) := dk_3 (dk_at dksJ5_fill_0 0 rfl rfl)
theorem dJ5_fill_1 : decode cJ5_fill 1 = .ok (.istore_n 2, 1) := dk_61 (dk_at dksJ5_fill_0 1 rfl rfl)
theorem dJ5_fill_2 : decode cJ5_fill 2 = .ok (.aload_n 0, 1) := dk_42 (dk_at dksJ5_fill_0 2 rfl rfl)
theorem dJ5_fill_3 : decode cJ5_fill 3 = .ok (.arraylength, 1) := dk_190 (dk_at dksJ5_fill_0 3 rfl rfl)
theorem dJ5_fill_4 : decode cJ5_fill 4 = .ok (.istore_n 3, 1) := dk_62 (dk_at dksJ5_fill_0 4 rfl rfl)
theorem dJ5_fill_5 : decode cJ5_fill 5 = .ok (.iload_n 2, 1) := dk_28 (dk_at dksJ5_fill_0 5 rfl rfl)
theorem dJ5_fill_6 : decode cJ5_fill 6 = .ok (.iload_n 3, 1) := dk_29 (dk_at dksJ5_fill_0 6 rfl rfl)
theorem dJ5_fill_7 : decode cJ5_fill 7 = .ok (.if_icmp .ge 13, 3) := dk_162 0 13 (dk_at dksJ5_fill_0 7 rfl rfl)
theorem dJ5_fill_10 : decode cJ5_fill 10 = .ok (.aload_n 0, 1) := dk_42 (dk_at dksJ5_fill_0 10 rfl rfl)
theorem dJ5_fill_11 : decode cJ5_fill 11 = .ok (.iload_n 2, 1) := dk_28 (dk_at dksJ5_fill_0 11 rfl rfl)
theorem dJ5_fill_12 : decode cJ5_fill 12 = .ok (.iload_n 1, 1) := dk_27 (dk_at dksJ5_fill_0 12 rfl rfl)
theorem dJ5_fill_13 : decode cJ5_fill 13 = .ok (.bastore, 1) := dk_84 (dk_at dksJ5_fill_0 13 rfl rfl)
theorem dJ5_fill_14 : decode cJ5_fill 14 = .ok (.iinc 2 1, 3) := dk_132 2 1 (dk_at dksJ5_fill_0 14 rfl rfl)
theorem dJ5_fill_17 : decode cJ5_fill 17 = .ok (.goto (-12), 3) := dk_167 255 244 (dk_at dksJ5_fill_0 17 rfl rfl)
theorem dJ5_fill_20 : decode cJ5_fill 20 = .ok (.return_, 1) := dk_177 (dk_at dksJ5_fill_0 20 rfl rfl)
abbrev cJ5_fill_2 : ByteArray := prog_22_method_103_code
def yJ5_fill_2 : MethodName := ⟨RJ5, "fill", "([II)V"⟩
def dkwJ5_fill_2_0 : List UInt8 := [3, 61, 42, 190, 62, 28, 29, 162, 0, 13, 42, 28, 27, 79, 132, 2, 1, 167, 255, 244, 177]
abbrev dktJ5_fill_2_0 : List UInt8 := dkwJ5_fill_2_0 ++ []
theorem dksJ5_fill_2_0 : cJ5_fill_2.data.toList.drop 0 = dktJ5_fill_2_0 := by decide +kernel
theorem dJ5_fill_2_0 : decode cJ5_fill_2 0 = .ok (.iconst 0, 1) := dk_3 (dk_at dksJ5_fill_2_0 0 rfl rfl)
theorem dJ5_fill_2_1 : decode cJ5_fill_2 1 = .ok (.istore_n 2, 1) := dk_61 (dk_at dksJ5_fill_2_0 1 rfl rfl)
theorem dJ5_fill_2_2 : decode cJ5_fill_2 2 = .ok (.aload_n 0, 1) := dk_42 (dk_at dksJ5_fill_2_0 2 rfl rfl)
theorem dJ5_fill_2_3 : decode cJ5_fill_2 3 = .ok (.arraylength, 1) := dk_190 (dk_at dksJ5_fill_2_0 3 rfl rfl)
theorem dJ5_fill_2_4 : decode cJ5_fill_2 4 = .ok (.istore_n 3, 1) := dk_62 (dk_at dksJ5_fill_2_0 4 rfl rfl)
theorem dJ5_fill_2_5 : decode cJ5_fill_2 5 = .ok (.iload_n 2, 1) := dk_28 (dk_at dksJ5_fill_2_0 5 rfl rfl)
theorem dJ5_fill_2_6 : decode cJ5_fill_2 6 = .ok (.iload_n 3, 1) := dk_29 (dk_at dksJ5_fill_2_0 6 rfl rfl)
theorem dJ5_fill_2_7 : decode cJ5_fill_2 7 = .ok (.if_icmp .ge 13, 3) := dk_162 0 13 (dk_at dksJ5_fill_2_0 7 rfl rfl)
theorem dJ5_fill_2_10 : decode cJ5_fill_2 10 = .ok (.aload_n 0, 1) := dk_42 (dk_at dksJ5_fill_2_0 10 rfl rfl)
theorem dJ5_fill_2_11 : decode cJ5_fill_2 11 = .ok (.iload_n 2, 1) := dk_28 (dk_at dksJ5_fill_2_0 11 rfl rfl)
theorem dJ5_fill_2_12 : decode cJ5_fill_2 12 = .ok (.iload_n 1, 1) := dk_27 (dk_at dksJ5_fill_2_0 12 rfl rfl)
theorem dJ5_fill_2_13 : decode cJ5_fill_2 13 = .ok (.iastore, 1) := dk_79 (dk_at dksJ5_fill_2_0 13 rfl rfl)
theorem dJ5_fill_2_14 : decode cJ5_fill_2 14 = .ok (.iinc 2 1, 3) := dk_132 2 1 (dk_at dksJ5_fill_2_0 14 rfl rfl)
theorem dJ5_fill_2_17 : decode cJ5_fill_2 17 = .ok (.goto (-12), 3) := dk_167 255 244 (dk_at dksJ5_fill_2_0 17 rfl rfl)
theorem dJ5_fill_2_20 : decode cJ5_fill_2 20 = .ok (.return_, 1) := dk_177 (dk_at dksJ5_fill_2_0 20 rfl rfl)
theorem q29 : (Jvm.Cond.initialized "java/util/Arrays") ∈ lw_all := lw_g (lw_at lw_m1 15 rfl) rfl
theorem q293 : (Jvm.Cond.static ({ cls := "java/util/Arrays", name := "fill", desc := "([BB)V" } : Jvm.MethodName)) ∈ lw_all := lw_g (lw_at lw_m2 39 rfl) rfl
theorem q294 : (Jvm.Cond.code ({ cls := "java/util/Arrays", name := "fill", desc := "([BB)V" } : Jvm.MethodName) prog_22_method_109_code (4 : Nat) (Option.none : Option Jvm.ClassFile.FieldType)) ∈ lw_all := lw_g (lw_at lw_m2 40 rfl) rfl
theorem q362 : (Jvm.Cond.static ({ cls := "java/util/Arrays", name := "fill", desc := "([II)V" } : Jvm.MethodName)) ∈ lw_all := lw_g (lw_at lw_m2 108 rfl) rfl
theorem q363 : (Jvm.Cond.code ({ cls := "java/util/Arrays", name := "fill", desc := "([II)V" } : Jvm.MethodName) prog_22_method_103_code (4 : Nat) (Option.none : Option Jvm.ClassFile.FieldType)) ∈ lw_all := lw_g (lw_at lw_m2 109 rfl) rfl
/-! Integers -/
set_option maxRecDepth 100000
def RX4 : String := "Integers"
abbrev cX4_compareUnsigned : ByteArray := prog_9_method_3_code
def yX4_compareUnsigned : MethodName := ⟨RX4, "compareUnsigned", "(II)I"⟩
def dkwX4_compareUnsigned_0 : List UInt8 := [26, 18, 9, 96, 27, 18, 9, 96, 184, 0, 10, 172]
abbrev dktX4_compareUnsigned_0 : List UInt8 := dkwX4_compareUnsigned_0 ++ []
theorem dksX4_compareUnsigned_0 : cX4_compareUnsigned.data.toList.drop 0 = dktX4_compareUnsigned_0 := by decide +kernel
theorem dX4_compareUnsigned_0 : decode cX4_compareUnsigned 0 = .ok (.iload_n 0, 1) := dk_26 (dk_at dksX4_compareUnsigned_0 0 rfl rfl)
theorem dX4_compareUnsigned_1 : decode cX4_compareUnsigned 1 = .ok (.ldc 9, 2) := dk_18 9 (dk_at dksX4_compareUnsigned_0 1 rfl rfl)
theorem dX4_compareUnsigned_3 : decode cX4_compareUnsigned 3 = .ok (.iadd, 1) := dk_96 (dk_at dksX4_compareUnsigned_0 3 rfl rfl)
theorem dX4_compareUnsigned_4 : decode cX4_compareUnsigned 4 = .ok (.iload_n 1, 1) := dk_27 (dk_at dksX4_compareUnsigned_0 4 rfl rfl)
theorem dX4_compareUnsigned_5 : decode cX4_compareUnsigned 5 = .ok (.ldc 9, 2) := dk_18 9 (dk_at dksX4_compareUnsigned_0 5 rfl rfl)
theorem dX4_compareUnsigned_7 : decode cX4_compareUnsigned 7 = .ok (.iadd, 1) := dk_96 (dk_at dksX4_compareUnsigned_0 7 rfl rfl)
theorem dX4_compareUnsigned_8 : decode cX4_compareUnsigned 8 = .ok (.invokestatic 10, 3) := dk_184 0 10 (dk_at dksX4_compareUnsigned_0 8 rfl rfl)
theorem dX4_compareUnsigned_11 : decode cX4_compareUnsigned 11 = .ok (.ireturn, 1) := dk_172 (dk_at dksX4_compareUnsigned_0 11 rfl rfl)
abbrev cX4_compare : ByteArray := prog_9_method_2_code
def yX4_compare : MethodName := ⟨RX4, "compare", "(II)I"⟩
def dkwX4_compare_0 : List UInt8 := [26, 27, 162, 0, 7, 2, 167, 0, 13, 26, 27, 160, 0, 7, 3, 167, 0, 4, 4, 172]
abbrev dktX4_compare_0 : List UInt8 := dkwX4_compare_0 ++ []
theorem dksX4_compare_0 : cX4_compare.data.toList.drop 0 = dktX4_compare_0 := by decide +kernel
theorem dX4_compare_0 : decode cX4_compare 0 = .ok (.iload_n 0, 1) := dk_26 (dk_at dksX4_compare_0 0 rfl rfl)
theorem dX4_compare_1 : decode cX4_compare 1 = .ok (.iload_n 1, 1) := dk_27 (dk_at dksX4_compare_0 1 rfl rfl)
theorem dX4_compare_2 : decode cX4_compare 2 = .ok (.if_icmp .ge 7, 3) := dk_162 0 7 (dk_at dksX4_compare_0 2 rfl rfl)
theorem dX4_compare_5 : decode cX4_compare 5 = .ok (.iconst (-1), 1) := dk_2 (dk_at dksX4_compare_0 5 rfl rfl)
theorem dX4_compare_6 : decode cX4_compare 6 = .ok (.goto 13, 3) := dk_167 0 13 (dk_at dksX4_compare_0 6 rfl rfl)
theorem dX4_compare_9 : decode cX4_compare 9 = .ok (.iload_n 0, 1) := dk_26 (dk_at dksX4_compare_0 9 rfl rfl)
theorem dX4_compare_10 : decode cX4_compare 10 = .ok (.iload_n 1, 1) := dk_27 (dk_at dksX4_compare_0 10 rfl rfl)
theorem dX4_compare_11 : decode cX4_compare 11 = .ok (.if_icmp .ne 7, 3) := dk_160 0 7 (dk_at dksX4_compare_0 11 rfl rfl)
theorem dX4_compare_14 : decode cX4_compare 14 = .ok (.iconst 0, 1) := dk_3 (dk_at dksX4_compare_0 14 rfl rfl)
theorem dX4_compare_15 : decode cX4_compare 15 = .ok (.goto 4, 3) := dk_167 0 4 (dk_at dksX4_compare_0 15 rfl rfl)
theorem dX4_compare_18 : decode cX4_compare 18 = .ok (.iconst 1, 1) := dk_4 (dk_at dksX4_compare_0 18 rfl rfl)
theorem dX4_compare_19 : decode cX4_compare 19 = .ok (.ireturn, 1) := dk_172 (dk_at dksX4_compare_0 19 rfl rfl)
abbrev cX4_rotateRight : ByteArray := prog_9_method_4_code
def yX4_rotateRight : MethodName := ⟨RX4, "rotateRight", "(II)I"⟩
def dkwX4_rotateRight_0 : List UInt8 := [26, 27, 184, 0, 16, 172]
abbrev dktX4_rotateRight_0 : List UInt8 := dkwX4_rotateRight_0 ++ []
theorem dksX4_rotateRight_0 : cX4_rotateRight.data.toList.drop 0 = dktX4_rotateRight_0 := by decide +kernel
theorem dX4_rotateRight_0 : decode cX4_rotateRight 0 = .ok (.iload_n 0, 1) := dk_26 (dk_at dksX4_rotateRight_0 0 rfl rfl)
theorem dX4_rotateRight_1 : decode cX4_rotateRight 1 = .ok (.iload_n 1, 1) := dk_27 (dk_at dksX4_rotateRight_0 1 rfl rfl)
theorem dX4_rotateRight_2 : decode cX4_rotateRight 2 = .ok (.invokestatic 16, 3) := dk_184 0 16 (dk_at dksX4_rotateRight_0 2 rfl rfl)
theorem dX4_rotateRight_5 : decode cX4_rotateRight 5 = .ok (.ireturn, 1) := dk_172 (dk_at dksX4_rotateRight_0 5 rfl rfl)
theorem q26 : (Jvm.Cond.initialized "Integers") ∈ lw_all := lw_g (lw_at lw_m1 12 rfl) rfl
theorem q259 : (Jvm.Cond.static ({ cls := "Integers", name := "compareUnsigned", desc := "(II)I" } : Jvm.MethodName)) ∈ lw_all := lw_g (lw_at lw_m2 5 rfl) rfl
theorem q260 : (Jvm.Cond.code ({ cls := "Integers", name := "compareUnsigned", desc := "(II)I" } : Jvm.MethodName) prog_9_method_3_code (2 : Nat) (Option.some Jvm.ClassFile.FieldType.int)) ∈ lw_all := lw_g (lw_at lw_m2 6 rfl) rfl
theorem q261 : (Jvm.Cond.constant "Integers" (9 : Nat) (-2147483648 : Int32)) ∈ lw_all := lw_g (lw_at lw_m2 7 rfl) rfl
theorem q262 : (Jvm.Cond.methodLink "Integers" (10 : Nat) ({ cls := "Integers", name := "compare", desc := "(II)I" } : Jvm.MethodName)) ∈ lw_all := lw_g (lw_at lw_m2 8 rfl) rfl
theorem q263 : (Jvm.Cond.static ({ cls := "Integers", name := "compare", desc := "(II)I" } : Jvm.MethodName)) ∈ lw_all := lw_g (lw_at lw_m2 9 rfl) rfl
theorem q264 : (Jvm.Cond.code ({ cls := "Integers", name := "compare", desc := "(II)I" } : Jvm.MethodName) prog_9_method_2_code (2 : Nat) (Option.some Jvm.ClassFile.FieldType.int)) ∈ lw_all := lw_g (lw_at lw_m2 10 rfl) rfl
theorem q284 : (Jvm.Cond.static ({ cls := "Integers", name := "rotateRight", desc := "(II)I" } : Jvm.MethodName)) ∈ lw_all := lw_g (lw_at lw_m2 30 rfl) rfl
theorem q285 : (Jvm.Cond.code ({ cls := "Integers", name := "rotateRight", desc := "(II)I" } : Jvm.MethodName) prog_9_method_4_code (2 : Nat) (Option.some Jvm.ClassFile.FieldType.int)) ∈ lw_all := lw_g (lw_at lw_m2 31 rfl) rfl
theorem q286 : (Jvm.Cond.methodLink "Integers" (16 : Nat) ({ cls := "java/lang/Integer", name := "rotateRight", desc := "(II)I" } : Jvm.MethodName)) ∈ lw_all := lw_g (lw_at lw_m2 32 rfl) rfl
/-! OwnArrays -/
set_option maxRecDepth 100000
def RX5 : String := "OwnArrays"
abbrev cX5_fill : ByteArray := prog_11_method_1_code
def yX5_fill : MethodName := ⟨RX5, "fill", "([BB)V"⟩
def dkwX5_fill_0 : List UInt8 := [42, 27, 184, 0, 1, 177]
abbrev dktX5_fill_0 : List UInt8 := dkwX5_fill_0 ++ []
theorem dksX5_fill_0 : cX5_fill.data.toList.drop 0 = dktX5_fill_0 := by decide +kernel
theorem dX5_fill_0 : decode cX5_fill 0 = .ok (.aload_n 0, 1) := dk_42 (dk_at dksX5_fill_0 0 rfl rfl)
theorem dX5_fill_1 : decode cX5_fill 1 = .ok (.iload_n 1, 1) := dk_27 (dk_at dksX5_fill_0 1 rfl rfl)
theorem dX5_fill_2 : decode cX5_fill 2 = .ok (.invokestatic 1, 3) := dk_184 0 1 (dk_at dksX5_fill_0 2 rfl rfl)
theorem dX5_fill_5 : decode cX5_fill 5 = .ok (.return_, 1) := dk_177 (dk_at dksX5_fill_0 5 rfl rfl)
abbrev cX5_fill_2 : ByteArray := prog_11_method_2_code
def yX5_fill_2 : MethodName := ⟨RX5, "fill", "([II)V"⟩
def dkwX5_fill_2_0 : List UInt8 := [42, 27, 184, 0, 7, 177]
abbrev dktX5_fill_2_0 : List UInt8 := dkwX5_fill_2_0 ++ []
theorem dksX5_fill_2_0 : cX5_fill_2.data.toList.drop 0 = dktX5_fill_2_0 := by decide +kernel
theorem dX5_fill_2_0 : decode cX5_fill_2 0 = .ok (.aload_n 0, 1) := dk_42 (dk_at dksX5_fill_2_0 0 rfl rfl)
theorem dX5_fill_2_1 : decode cX5_fill_2 1 = .ok (.iload_n 1, 1) := dk_27 (dk_at dksX5_fill_2_0 1 rfl rfl)
theorem dX5_fill_2_2 : decode cX5_fill_2 2 = .ok (.invokestatic 7, 3) := dk_184 0 7 (dk_at dksX5_fill_2_0 2 rfl rfl)
theorem dX5_fill_2_5 : decode cX5_fill_2 5 = .ok (.return_, 1) := dk_177 (dk_at dksX5_fill_2_0 5 rfl rfl)
theorem q28 : (Jvm.Cond.initialized "OwnArrays") ∈ lw_all := lw_g (lw_at lw_m1 14 rfl) rfl
theorem q290 : (Jvm.Cond.static ({ cls := "OwnArrays", name := "fill", desc := "([BB)V" } : Jvm.MethodName)) ∈ lw_all := lw_g (lw_at lw_m2 36 rfl) rfl
theorem q291 : (Jvm.Cond.code ({ cls := "OwnArrays", name := "fill", desc := "([BB)V" } : Jvm.MethodName) prog_11_method_1_code (2 : Nat) (Option.none : Option Jvm.ClassFile.FieldType)) ∈ lw_all := lw_g (lw_at lw_m2 37 rfl) rfl
theorem q292 : (Jvm.Cond.methodLink "OwnArrays" (1 : Nat) ({ cls := "java/util/Arrays", name := "fill", desc := "([BB)V" } : Jvm.MethodName)) ∈ lw_all := lw_g (lw_at lw_m2 38 rfl) rfl
theorem q359 : (Jvm.Cond.static ({ cls := "OwnArrays", name := "fill", desc := "([II)V" } : Jvm.MethodName)) ∈ lw_all := lw_g (lw_at lw_m2 105 rfl) rfl
theorem q360 : (Jvm.Cond.code ({ cls := "OwnArrays", name := "fill", desc := "([II)V" } : Jvm.MethodName) prog_11_method_2_code (2 : Nat) (Option.none : Option Jvm.ClassFile.FieldType)) ∈ lw_all := lw_g (lw_at lw_m2 106 rfl) rfl
theorem q361 : (Jvm.Cond.methodLink "OwnArrays" (7 : Nat) ({ cls := "java/util/Arrays", name := "fill", desc := "([II)V" } : Jvm.MethodName)) ∈ lw_all := lw_g (lw_at lw_m2 107 rfl) rfl
/-! Pack -/
set_option maxRecDepth 100000
def RX2 : String := "Pack"
abbrev cX2_littleEndianToInt : ByteArray := prog_12_method_2_code
def yX2_littleEndianToInt : MethodName := ⟨RX2, "littleEndianToInt", "([BI)I"⟩
def dkwX2_littleEndianToInt_2 : List UInt8 := [16, 24, 120, 128, 61, 28, 172]
abbrev dktX2_littleEndianToInt_2 : List UInt8 := dkwX2_littleEndianToInt_2 ++ []
def dkwX2_littleEndianToInt_1 : List UInt8 := [28, 42, 132, 1, 1, 27, 51, 17, 0, 255, 126, 16, 16, 120, 128, 61, 28, 42, 132, 1, 1, 27, 51]
abbrev dktX2_littleEndianToInt_1 : List UInt8 := dkwX2_littleEndianToInt_1 ++ dktX2_littleEndianToInt_2
def dkwX2_littleEndianToInt_0 : List UInt8 := [42, 27, 51, 17, 0, 255, 126, 61, 28, 42, 132, 1, 1, 27, 51, 17, 0, 255, 126, 16, 8, 120, 128, 61]
abbrev dktX2_littleEndianToInt_0 : List UInt8 := dkwX2_littleEndianToInt_0 ++ dktX2_littleEndianToInt_1
theorem dksX2_littleEndianToInt_0 : cX2_littleEndianToInt.data.toList.drop 0 = dktX2_littleEndianToInt_0 := by decide +kernel
theorem dksX2_littleEndianToInt_1 : cX2_littleEndianToInt.data.toList.drop 24 = dktX2_littleEndianToInt_1 := dk_seg dksX2_littleEndianToInt_0 24 rfl rfl
theorem dksX2_littleEndianToInt_2 : cX2_littleEndianToInt.data.toList.drop 47 = dktX2_littleEndianToInt_2 := dk_seg dksX2_littleEndianToInt_1 23 rfl rfl
theorem dX2_littleEndianToInt_0 : decode cX2_littleEndianToInt 0 = .ok (.aload_n 0, 1) := dk_42 (dk_at dksX2_littleEndianToInt_0 0 rfl rfl)
theorem dX2_littleEndianToInt_1 : decode cX2_littleEndianToInt 1 = .ok (.iload_n 1, 1) := dk_27 (dk_at dksX2_littleEndianToInt_0 1 rfl rfl)
theorem dX2_littleEndianToInt_2 : decode cX2_littleEndianToInt 2 = .ok (.baload, 1) := dk_51 (dk_at dksX2_littleEndianToInt_0 2 rfl rfl)
theorem dX2_littleEndianToInt_3 : decode cX2_littleEndianToInt 3 = .ok (.sipush 255, 3) := dk_17 0 255 (dk_at dksX2_littleEndianToInt_0 3 rfl rfl)
theorem dX2_littleEndianToInt_6 : decode cX2_littleEndianToInt 6 = .ok (.iand, 1) := dk_126 (dk_at dksX2_littleEndianToInt_0 6 rfl rfl)
theorem dX2_littleEndianToInt_7 : decode cX2_littleEndianToInt 7 = .ok (.istore_n 2, 1) := dk_61 (dk_at dksX2_littleEndianToInt_0 7 rfl rfl)
theorem dX2_littleEndianToInt_8 : decode cX2_littleEndianToInt 8 = .ok (.iload_n 2, 1) := dk_28 (dk_at dksX2_littleEndianToInt_0 8 rfl rfl)
theorem dX2_littleEndianToInt_9 : decode cX2_littleEndianToInt 9 = .ok (.aload_n 0, 1) := dk_42 (dk_at dksX2_littleEndianToInt_0 9 rfl rfl)
theorem dX2_littleEndianToInt_10 : decode cX2_littleEndianToInt 10 = .ok (.iinc 1 1, 3) := dk_132 1 1 (dk_at dksX2_littleEndianToInt_0 10 rfl rfl)
theorem dX2_littleEndianToInt_13 : decode cX2_littleEndianToInt 13 = .ok (.iload_n 1, 1) := dk_27 (dk_at dksX2_littleEndianToInt_0 13 rfl rfl)
theorem dX2_littleEndianToInt_14 : decode cX2_littleEndianToInt 14 = .ok (.baload, 1) := dk_51 (dk_at dksX2_littleEndianToInt_0 14 rfl rfl)
theorem dX2_littleEndianToInt_15 : decode cX2_littleEndianToInt 15 = .ok (.sipush 255, 3) := dk_17 0 255 (dk_at dksX2_littleEndianToInt_0 15 rfl rfl)
theorem dX2_littleEndianToInt_18 : decode cX2_littleEndianToInt 18 = .ok (.iand, 1) := dk_126 (dk_at dksX2_littleEndianToInt_0 18 rfl rfl)
theorem dX2_littleEndianToInt_19 : decode cX2_littleEndianToInt 19 = .ok (.bipush 8, 2) := dk_16 8 (dk_at dksX2_littleEndianToInt_0 19 rfl rfl)
theorem dX2_littleEndianToInt_21 : decode cX2_littleEndianToInt 21 = .ok (.ishl, 1) := dk_120 (dk_at dksX2_littleEndianToInt_0 21 rfl rfl)
theorem dX2_littleEndianToInt_22 : decode cX2_littleEndianToInt 22 = .ok (.ior, 1) := dk_128 (dk_at dksX2_littleEndianToInt_0 22 rfl rfl)
theorem dX2_littleEndianToInt_23 : decode cX2_littleEndianToInt 23 = .ok (.istore_n 2, 1) := dk_61 (dk_at dksX2_littleEndianToInt_0 23 rfl rfl)
theorem dX2_littleEndianToInt_24 : decode cX2_littleEndianToInt 24 = .ok (.iload_n 2, 1) := dk_28 (dk_at dksX2_littleEndianToInt_1 0 rfl rfl)
theorem dX2_littleEndianToInt_25 : decode cX2_littleEndianToInt 25 = .ok (.aload_n 0, 1) := dk_42 (dk_at dksX2_littleEndianToInt_1 1 rfl rfl)
theorem dX2_littleEndianToInt_26 : decode cX2_littleEndianToInt 26 = .ok (.iinc 1 1, 3) := dk_132 1 1 (dk_at dksX2_littleEndianToInt_1 2 rfl rfl)
theorem dX2_littleEndianToInt_29 : decode cX2_littleEndianToInt 29 = .ok (.iload_n 1, 1) := dk_27 (dk_at dksX2_littleEndianToInt_1 5 rfl rfl)
theorem dX2_littleEndianToInt_30 : decode cX2_littleEndianToInt 30 = .ok (.baload, 1) := dk_51 (dk_at dksX2_littleEndianToInt_1 6 rfl rfl)
theorem dX2_littleEndianToInt_31 : decode cX2_littleEndianToInt 31 = .ok (.sipush 255, 3) := dk_17 0 255 (dk_at dksX2_littleEndianToInt_1 7 rfl rfl)
theorem dX2_littleEndianToInt_34 : decode cX2_littleEndianToInt 34 = .ok (.iand, 1) := dk_126 (dk_at dksX2_littleEndianToInt_1 10 rfl rfl)
theorem dX2_littleEndianToInt_35 : decode cX2_littleEndianToInt 35 = .ok (.bipush 16, 2) := dk_16 16 (dk_at dksX2_littleEndianToInt_1 11 rfl rfl)
theorem dX2_littleEndianToInt_37 : decode cX2_littleEndianToInt 37 = .ok (.ishl, 1) := dk_120 (dk_at dksX2_littleEndianToInt_1 13 rfl rfl)
theorem dX2_littleEndianToInt_38 : decode cX2_littleEndianToInt 38 = .ok (.ior, 1) := dk_128 (dk_at dksX2_littleEndianToInt_1 14 rfl rfl)
theorem dX2_littleEndianToInt_39 : decode cX2_littleEndianToInt 39 = .ok (.istore_n 2, 1) := dk_61 (dk_at dksX2_littleEndianToInt_1 15 rfl rfl)
theorem dX2_littleEndianToInt_40 : decode cX2_littleEndianToInt 40 = .ok (.iload_n 2, 1) := dk_28 (dk_at dksX2_littleEndianToInt_1 16 rfl rfl)
theorem dX2_littleEndianToInt_41 : decode cX2_littleEndianToInt 41 = .ok (.aload_n 0, 1) := dk_42 (dk_at dksX2_littleEndianToInt_1 17 rfl rfl)
theorem dX2_littleEndianToInt_42 : decode cX2_littleEndianToInt 42 = .ok (.iinc 1 1, 3) := dk_132 1 1 (dk_at dksX2_littleEndianToInt_1 18 rfl rfl)
theorem dX2_littleEndianToInt_45 : decode cX2_littleEndianToInt 45 = .ok (.iload_n 1, 1) := dk_27 (dk_at dksX2_littleEndianToInt_1 21 rfl rfl)
theorem dX2_littleEndianToInt_46 : decode cX2_littleEndianToInt 46 = .ok (.baload, 1) := dk_51 (dk_at dksX2_littleEndianToInt_1 22 rfl rfl)
theorem dX2_littleEndianToInt_47 : decode cX2_littleEndianToInt 47 = .ok (.bipush 24, 2) := dk_16 24 (dk_at dksX2_littleEndianToInt_2 0 rfl rfl)
theorem dX2_littleEndianToInt_49 : decode cX2_littleEndianToInt 49 = .ok (.ishl, 1) := dk_120 (dk_at dksX2_littleEndianToInt_2 2 rfl rfl)
theorem dX2_littleEndianToInt_50 : decode cX2_littleEndianToInt 50 = .ok (.ior, 1) := dk_128 (dk_at dksX2_littleEndianToInt_2 3 rfl rfl)
theorem dX2_littleEndianToInt_51 : decode cX2_littleEndianToInt 51 = .ok (.istore_n 2, 1) := dk_61 (dk_at dksX2_littleEndianToInt_2 4 rfl rfl)
theorem dX2_littleEndianToInt_52 : decode cX2_littleEndianToInt 52 = .ok (.iload_n 2, 1) := dk_28 (dk_at dksX2_littleEndianToInt_2 5 rfl rfl)
theorem dX2_littleEndianToInt_53 : decode cX2_littleEndianToInt 53 = .ok (.ireturn, 1) := dk_172 (dk_at dksX2_littleEndianToInt_2 6 rfl rfl)
abbrev cX2_littleEndianToInt_2 : ByteArray := prog_12_method_3_code
def yX2_littleEndianToInt_2 : MethodName := ⟨RX2, "littleEndianToInt", "([BI[I)V"⟩
def dkwX2_littleEndianToInt_2_1 : List UInt8 := [167, 255, 236, 177]
abbrev dktX2_littleEndianToInt_2_1 : List UInt8 := dkwX2_littleEndianToInt_2_1 ++ []
def dkwX2_littleEndianToInt_2_0 : List UInt8 := [3, 62, 29, 44, 190, 162, 0, 20, 44, 29, 42, 27, 184, 0, 7, 79, 132, 1, 4, 132, 3, 1]
abbrev dktX2_littleEndianToInt_2_0 : List UInt8 := dkwX2_littleEndianToInt_2_0 ++ dktX2_littleEndianToInt_2_1
theorem dksX2_littleEndianToInt_2_0 : cX2_littleEndianToInt_2.data.toList.drop 0 = dktX2_littleEndianToInt_2_0 := by decide +kernel
theorem dksX2_littleEndianToInt_2_1 : cX2_littleEndianToInt_2.data.toList.drop 22 = dktX2_littleEndianToInt_2_1 := dk_seg dksX2_littleEndianToInt_2_0 22 rfl rfl
theorem dX2_littleEndianToInt_2_0 : decode cX2_littleEndianToInt_2 0 = .ok (.iconst 0, 1) := dk_3 (dk_at dksX2_littleEndianToInt_2_0 0 rfl rfl)
theorem dX2_littleEndianToInt_2_1 : decode cX2_littleEndianToInt_2 1 = .ok (.istore_n 3, 1) := dk_62 (dk_at dksX2_littleEndianToInt_2_0 1 rfl rfl)
theorem dX2_littleEndianToInt_2_2 : decode cX2_littleEndianToInt_2 2 = .ok (.iload_n 3, 1) := dk_29 (dk_at dksX2_littleEndianToInt_2_0 2 rfl rfl)
theorem dX2_littleEndianToInt_2_3 : decode cX2_littleEndianToInt_2 3 = .ok (.aload_n 2, 1) := dk_44 (dk_at dksX2_littleEndianToInt_2_0 3 rfl rfl)
theorem dX2_littleEndianToInt_2_4 : decode cX2_littleEndianToInt_2 4 = .ok (.arraylength, 1) := dk_190 (dk_at dksX2_littleEndianToInt_2_0 4 rfl rfl)
theorem dX2_littleEndianToInt_2_5 : decode cX2_littleEndianToInt_2 5 = .ok (.if_icmp .ge 20, 3) := dk_162 0 20 (dk_at dksX2_littleEndianToInt_2_0 5 rfl rfl)
theorem dX2_littleEndianToInt_2_8 : decode cX2_littleEndianToInt_2 8 = .ok (.aload_n 2, 1) := dk_44 (dk_at dksX2_littleEndianToInt_2_0 8 rfl rfl)
theorem dX2_littleEndianToInt_2_9 : decode cX2_littleEndianToInt_2 9 = .ok (.iload_n 3, 1) := dk_29 (dk_at dksX2_littleEndianToInt_2_0 9 rfl rfl)
theorem dX2_littleEndianToInt_2_10 : decode cX2_littleEndianToInt_2 10 = .ok (.aload_n 0, 1) := dk_42 (dk_at dksX2_littleEndianToInt_2_0 10 rfl rfl)
theorem dX2_littleEndianToInt_2_11 : decode cX2_littleEndianToInt_2 11 = .ok (.iload_n 1, 1) := dk_27 (dk_at dksX2_littleEndianToInt_2_0 11 rfl rfl)
theorem dX2_littleEndianToInt_2_12 : decode cX2_littleEndianToInt_2 12 = .ok (.invokestatic 7, 3) := dk_184 0 7 (dk_at dksX2_littleEndianToInt_2_0 12 rfl rfl)
theorem dX2_littleEndianToInt_2_15 : decode cX2_littleEndianToInt_2 15 = .ok (.iastore, 1) := dk_79 (dk_at dksX2_littleEndianToInt_2_0 15 rfl rfl)
theorem dX2_littleEndianToInt_2_16 : decode cX2_littleEndianToInt_2 16 = .ok (.iinc 1 4, 3) := dk_132 1 4 (dk_at dksX2_littleEndianToInt_2_0 16 rfl rfl)
theorem dX2_littleEndianToInt_2_19 : decode cX2_littleEndianToInt_2 19 = .ok (.iinc 3 1, 3) := dk_132 3 1 (dk_at dksX2_littleEndianToInt_2_0 19 rfl rfl)
theorem dX2_littleEndianToInt_2_22 : decode cX2_littleEndianToInt_2 22 = .ok (.goto (-20), 3) := dk_167 255 236 (dk_at dksX2_littleEndianToInt_2_1 0 rfl rfl)
theorem dX2_littleEndianToInt_2_25 : decode cX2_littleEndianToInt_2 25 = .ok (.return_, 1) := dk_177 (dk_at dksX2_littleEndianToInt_2_1 3 rfl rfl)
abbrev cX2_intToLittleEndian : ByteArray := prog_12_method_5_code
def yX2_intToLittleEndian : MethodName := ⟨RX2, "intToLittleEndian", "([III[BI)V"⟩
def dkwX2_intToLittleEndian_1 : List UInt8 := [132, 5, 1, 167, 255, 232, 177]
abbrev dktX2_intToLittleEndian_1 : List UInt8 := dkwX2_intToLittleEndian_1 ++ []
def dkwX2_intToLittleEndian_0 : List UInt8 := [3, 54, 5, 21, 5, 28, 162, 0, 24, 42, 27, 21, 5, 96, 46, 45, 21, 4, 184, 0, 13, 132, 4, 4]
abbrev dktX2_intToLittleEndian_0 : List UInt8 := dkwX2_intToLittleEndian_0 ++ dktX2_intToLittleEndian_1
theorem dksX2_intToLittleEndian_0 : cX2_intToLittleEndian.data.toList.drop 0 = dktX2_intToLittleEndian_0 := by decide +kernel
theorem dksX2_intToLittleEndian_1 : cX2_intToLittleEndian.data.toList.drop 24 = dktX2_intToLittleEndian_1 := dk_seg dksX2_intToLittleEndian_0 24 rfl rfl
theorem dX2_intToLittleEndian_0 : decode cX2_intToLittleEndian 0 = .ok (.iconst 0, 1) := dk_3 (dk_at dksX2_intToLittleEndian_0 0 rfl rfl)
theorem dX2_intToLittleEndian_1 : decode cX2_intToLittleEndian 1 = .ok (.istore 5, 2) := dk_54 5 (dk_at dksX2_intToLittleEndian_0 1 rfl rfl)
theorem dX2_intToLittleEndian_3 : decode cX2_intToLittleEndian 3 = .ok (.iload 5, 2) := dk_21 5 (dk_at dksX2_intToLittleEndian_0 3 rfl rfl)
theorem dX2_intToLittleEndian_5 : decode cX2_intToLittleEndian 5 = .ok (.iload_n 2, 1) := dk_28 (dk_at dksX2_intToLittleEndian_0 5 rfl rfl)
theorem dX2_intToLittleEndian_6 : decode cX2_intToLittleEndian 6 = .ok (.if_icmp .ge 24, 3) := dk_162 0 24 (dk_at dksX2_intToLittleEndian_0 6 rfl rfl)
theorem dX2_intToLittleEndian_9 : decode cX2_intToLittleEndian 9 = .ok (.aload_n 0, 1) := dk_42 (dk_at dksX2_intToLittleEndian_0 9 rfl rfl)
theorem dX2_intToLittleEndian_10 : decode cX2_intToLittleEndian 10 = .ok (.iload_n 1, 1) := dk_27 (dk_at dksX2_intToLittleEndian_0 10 rfl rfl)
theorem dX2_intToLittleEndian_11 : decode cX2_intToLittleEndian 11 = .ok (.iload 5, 2) := dk_21 5 (dk_at dksX2_intToLittleEndian_0 11 rfl rfl)
theorem dX2_intToLittleEndian_13 : decode cX2_intToLittleEndian 13 = .ok (.iadd, 1) := dk_96 (dk_at dksX2_intToLittleEndian_0 13 rfl rfl)
theorem dX2_intToLittleEndian_14 : decode cX2_intToLittleEndian 14 = .ok (.iaload, 1) := dk_46 (dk_at dksX2_intToLittleEndian_0 14 rfl rfl)
theorem dX2_intToLittleEndian_15 : decode cX2_intToLittleEndian 15 = .ok (.aload_n 3, 1) := dk_45 (dk_at dksX2_intToLittleEndian_0 15 rfl rfl)
theorem dX2_intToLittleEndian_16 : decode cX2_intToLittleEndian 16 = .ok (.iload 4, 2) := dk_21 4 (dk_at dksX2_intToLittleEndian_0 16 rfl rfl)
theorem dX2_intToLittleEndian_18 : decode cX2_intToLittleEndian 18 = .ok (.invokestatic 13, 3) := dk_184 0 13 (dk_at dksX2_intToLittleEndian_0 18 rfl rfl)
theorem dX2_intToLittleEndian_21 : decode cX2_intToLittleEndian 21 = .ok (.iinc 4 4, 3) := dk_132 4 4 (dk_at dksX2_intToLittleEndian_0 21 rfl rfl)
theorem dX2_intToLittleEndian_24 : decode cX2_intToLittleEndian 24 = .ok (.iinc 5 1, 3) := dk_132 5 1 (dk_at dksX2_intToLittleEndian_1 0 rfl rfl)
theorem dX2_intToLittleEndian_27 : decode cX2_intToLittleEndian 27 = .ok (.goto (-24), 3) := dk_167 255 232 (dk_at dksX2_intToLittleEndian_1 3 rfl rfl)
theorem dX2_intToLittleEndian_30 : decode cX2_intToLittleEndian 30 = .ok (.return_, 1) := dk_177 (dk_at dksX2_intToLittleEndian_1 6 rfl rfl)
abbrev cX2_intToLittleEndian_2 : ByteArray := prog_12_method_4_code
def yX2_intToLittleEndian_2 : MethodName := ⟨RX2, "intToLittleEndian", "(I[BI)V"⟩
def dkwX2_intToLittleEndian_2_1 : List UInt8 := [124, 145, 84, 43, 132, 2, 1, 28, 26, 16, 24, 124, 145, 84, 177]
abbrev dktX2_intToLittleEndian_2_1 : List UInt8 := dkwX2_intToLittleEndian_2_1 ++ []
def dkwX2_intToLittleEndian_2_0 : List UInt8 := [43, 28, 26, 145, 84, 43, 132, 2, 1, 28, 26, 16, 8, 124, 145, 84, 43, 132, 2, 1, 28, 26, 16, 16]
abbrev dktX2_intToLittleEndian_2_0 : List UInt8 := dkwX2_intToLittleEndian_2_0 ++ dktX2_intToLittleEndian_2_1
theorem dksX2_intToLittleEndian_2_0 : cX2_intToLittleEndian_2.data.toList.drop 0 = dktX2_intToLittleEndian_2_0 := by decide +kernel
theorem dksX2_intToLittleEndian_2_1 : cX2_intToLittleEndian_2.data.toList.drop 24 = dktX2_intToLittleEndian_2_1 := dk_seg dksX2_intToLittleEndian_2_0 24 rfl rfl
theorem dX2_intToLittleEndian_2_0 : decode cX2_intToLittleEndian_2 0 = .ok (.aload_n 1, 1) := dk_43 (dk_at dksX2_intToLittleEndian_2_0 0 rfl rfl)
theorem dX2_intToLittleEndian_2_1 : decode cX2_intToLittleEndian_2 1 = .ok (.iload_n 2, 1) := dk_28 (dk_at dksX2_intToLittleEndian_2_0 1 rfl rfl)
theorem dX2_intToLittleEndian_2_2 : decode cX2_intToLittleEndian_2 2 = .ok (.iload_n 0, 1) := dk_26 (dk_at dksX2_intToLittleEndian_2_0 2 rfl rfl)
theorem dX2_intToLittleEndian_2_3 : decode cX2_intToLittleEndian_2 3 = .ok (.i2b, 1) := dk_145 (dk_at dksX2_intToLittleEndian_2_0 3 rfl rfl)
theorem dX2_intToLittleEndian_2_4 : decode cX2_intToLittleEndian_2 4 = .ok (.bastore, 1) := dk_84 (dk_at dksX2_intToLittleEndian_2_0 4 rfl rfl)
theorem dX2_intToLittleEndian_2_5 : decode cX2_intToLittleEndian_2 5 = .ok (.aload_n 1, 1) := dk_43 (dk_at dksX2_intToLittleEndian_2_0 5 rfl rfl)
theorem dX2_intToLittleEndian_2_6 : decode cX2_intToLittleEndian_2 6 = .ok (.iinc 2 1, 3) := dk_132 2 1 (dk_at dksX2_intToLittleEndian_2_0 6 rfl rfl)
theorem dX2_intToLittleEndian_2_9 : decode cX2_intToLittleEndian_2 9 = .ok (.iload_n 2, 1) := dk_28 (dk_at dksX2_intToLittleEndian_2_0 9 rfl rfl)
theorem dX2_intToLittleEndian_2_10 : decode cX2_intToLittleEndian_2 10 = .ok (.iload_n 0, 1) := dk_26 (dk_at dksX2_intToLittleEndian_2_0 10 rfl rfl)
theorem dX2_intToLittleEndian_2_11 : decode cX2_intToLittleEndian_2 11 = .ok (.bipush 8, 2) := dk_16 8 (dk_at dksX2_intToLittleEndian_2_0 11 rfl rfl)
theorem dX2_intToLittleEndian_2_13 : decode cX2_intToLittleEndian_2 13 = .ok (.iushr, 1) := dk_124 (dk_at dksX2_intToLittleEndian_2_0 13 rfl rfl)
theorem dX2_intToLittleEndian_2_14 : decode cX2_intToLittleEndian_2 14 = .ok (.i2b, 1) := dk_145 (dk_at dksX2_intToLittleEndian_2_0 14 rfl rfl)
theorem dX2_intToLittleEndian_2_15 : decode cX2_intToLittleEndian_2 15 = .ok (.bastore, 1) := dk_84 (dk_at dksX2_intToLittleEndian_2_0 15 rfl rfl)
theorem dX2_intToLittleEndian_2_16 : decode cX2_intToLittleEndian_2 16 = .ok (.aload_n 1, 1) := dk_43 (dk_at dksX2_intToLittleEndian_2_0 16 rfl rfl)
theorem dX2_intToLittleEndian_2_17 : decode cX2_intToLittleEndian_2 17 = .ok (.iinc 2 1, 3) := dk_132 2 1 (dk_at dksX2_intToLittleEndian_2_0 17 rfl rfl)
theorem dX2_intToLittleEndian_2_20 : decode cX2_intToLittleEndian_2 20 = .ok (.iload_n 2, 1) := dk_28 (dk_at dksX2_intToLittleEndian_2_0 20 rfl rfl)
theorem dX2_intToLittleEndian_2_21 : decode cX2_intToLittleEndian_2 21 = .ok (.iload_n 0, 1) := dk_26 (dk_at dksX2_intToLittleEndian_2_0 21 rfl rfl)
theorem dX2_intToLittleEndian_2_22 : decode cX2_intToLittleEndian_2 22 = .ok (.bipush 16, 2) := dk_16 16 (dk_at dksX2_intToLittleEndian_2_0 22 rfl rfl)
theorem dX2_intToLittleEndian_2_24 : decode cX2_intToLittleEndian_2 24 = .ok (.iushr, 1) := dk_124 (dk_at dksX2_intToLittleEndian_2_1 0 rfl rfl)
theorem dX2_intToLittleEndian_2_25 : decode cX2_intToLittleEndian_2 25 = .ok (.i2b, 1) := dk_145 (dk_at dksX2_intToLittleEndian_2_1 1 rfl rfl)
theorem dX2_intToLittleEndian_2_26 : decode cX2_intToLittleEndian_2 26 = .ok (.bastore, 1) := dk_84 (dk_at dksX2_intToLittleEndian_2_1 2 rfl rfl)
theorem dX2_intToLittleEndian_2_27 : decode cX2_intToLittleEndian_2 27 = .ok (.aload_n 1, 1) := dk_43 (dk_at dksX2_intToLittleEndian_2_1 3 rfl rfl)
theorem dX2_intToLittleEndian_2_28 : decode cX2_intToLittleEndian_2 28 = .ok (.iinc 2 1, 3) := dk_132 2 1 (dk_at dksX2_intToLittleEndian_2_1 4 rfl rfl)
theorem dX2_intToLittleEndian_2_31 : decode cX2_intToLittleEndian_2 31 = .ok (.iload_n 2, 1) := dk_28 (dk_at dksX2_intToLittleEndian_2_1 7 rfl rfl)
theorem dX2_intToLittleEndian_2_32 : decode cX2_intToLittleEndian_2 32 = .ok (.iload_n 0, 1) := dk_26 (dk_at dksX2_intToLittleEndian_2_1 8 rfl rfl)
theorem dX2_intToLittleEndian_2_33 : decode cX2_intToLittleEndian_2 33 = .ok (.bipush 24, 2) := dk_16 24 (dk_at dksX2_intToLittleEndian_2_1 9 rfl rfl)
theorem dX2_intToLittleEndian_2_35 : decode cX2_intToLittleEndian_2 35 = .ok (.iushr, 1) := dk_124 (dk_at dksX2_intToLittleEndian_2_1 11 rfl rfl)
theorem dX2_intToLittleEndian_2_36 : decode cX2_intToLittleEndian_2 36 = .ok (.i2b, 1) := dk_145 (dk_at dksX2_intToLittleEndian_2_1 12 rfl rfl)
theorem dX2_intToLittleEndian_2_37 : decode cX2_intToLittleEndian_2 37 = .ok (.bastore, 1) := dk_84 (dk_at dksX2_intToLittleEndian_2_1 13 rfl rfl)
theorem dX2_intToLittleEndian_2_38 : decode cX2_intToLittleEndian_2 38 = .ok (.return_, 1) := dk_177 (dk_at dksX2_intToLittleEndian_2_1 14 rfl rfl)
abbrev cX2_intToLittleEndian_Low : ByteArray := prog_12_method_6_code
def yX2_intToLittleEndian_Low : MethodName := ⟨RX2, "intToLittleEndian_Low", "(I[BII)V"⟩
def dkwX2_intToLittleEndian_Low_1 : List UInt8 := [26, 145, 84, 132, 4, 1, 167, 255, 234, 177]
abbrev dktX2_intToLittleEndian_Low_1 : List UInt8 := dkwX2_intToLittleEndian_Low_1 ++ []
def dkwX2_intToLittleEndian_Low_0 : List UInt8 := [43, 28, 26, 145, 84, 4, 54, 4, 21, 4, 29, 162, 0, 22, 26, 16, 8, 124, 59, 43, 28, 21, 4, 96]
abbrev dktX2_intToLittleEndian_Low_0 : List UInt8 := dkwX2_intToLittleEndian_Low_0 ++ dktX2_intToLittleEndian_Low_1
theorem dksX2_intToLittleEndian_Low_0 : cX2_intToLittleEndian_Low.data.toList.drop 0 = dktX2_intToLittleEndian_Low_0 := by decide +kernel
theorem dksX2_intToLittleEndian_Low_1 : cX2_intToLittleEndian_Low.data.toList.drop 24 = dktX2_intToLittleEndian_Low_1 := dk_seg dksX2_intToLittleEndian_Low_0 24 rfl rfl
theorem dX2_intToLittleEndian_Low_0 : decode cX2_intToLittleEndian_Low 0 = .ok (.aload_n 1, 1) := dk_43 (dk_at dksX2_intToLittleEndian_Low_0 0 rfl rfl)
theorem dX2_intToLittleEndian_Low_1 : decode cX2_intToLittleEndian_Low 1 = .ok (.iload_n 2, 1) := dk_28 (dk_at dksX2_intToLittleEndian_Low_0 1 rfl rfl)
theorem dX2_intToLittleEndian_Low_2 : decode cX2_intToLittleEndian_Low 2 = .ok (.iload_n 0, 1) := dk_26 (dk_at dksX2_intToLittleEndian_Low_0 2 rfl rfl)
theorem dX2_intToLittleEndian_Low_3 : decode cX2_intToLittleEndian_Low 3 = .ok (.i2b, 1) := dk_145 (dk_at dksX2_intToLittleEndian_Low_0 3 rfl rfl)
theorem dX2_intToLittleEndian_Low_4 : decode cX2_intToLittleEndian_Low 4 = .ok (.bastore, 1) := dk_84 (dk_at dksX2_intToLittleEndian_Low_0 4 rfl rfl)
theorem dX2_intToLittleEndian_Low_5 : decode cX2_intToLittleEndian_Low 5 = .ok (.iconst 1, 1) := dk_4 (dk_at dksX2_intToLittleEndian_Low_0 5 rfl rfl)
theorem dX2_intToLittleEndian_Low_6 : decode cX2_intToLittleEndian_Low 6 = .ok (.istore 4, 2) := dk_54 4 (dk_at dksX2_intToLittleEndian_Low_0 6 rfl rfl)
theorem dX2_intToLittleEndian_Low_8 : decode cX2_intToLittleEndian_Low 8 = .ok (.iload 4, 2) := dk_21 4 (dk_at dksX2_intToLittleEndian_Low_0 8 rfl rfl)
theorem dX2_intToLittleEndian_Low_10 : decode cX2_intToLittleEndian_Low 10 = .ok (.iload_n 3, 1) := dk_29 (dk_at dksX2_intToLittleEndian_Low_0 10 rfl rfl)
theorem dX2_intToLittleEndian_Low_11 : decode cX2_intToLittleEndian_Low 11 = .ok (.if_icmp .ge 22, 3) := dk_162 0 22 (dk_at dksX2_intToLittleEndian_Low_0 11 rfl rfl)
theorem dX2_intToLittleEndian_Low_14 : decode cX2_intToLittleEndian_Low 14 = .ok (.iload_n 0, 1) := dk_26 (dk_at dksX2_intToLittleEndian_Low_0 14 rfl rfl)
theorem dX2_intToLittleEndian_Low_15 : decode cX2_intToLittleEndian_Low 15 = .ok (.bipush 8, 2) := dk_16 8 (dk_at dksX2_intToLittleEndian_Low_0 15 rfl rfl)
theorem dX2_intToLittleEndian_Low_17 : decode cX2_intToLittleEndian_Low 17 = .ok (.iushr, 1) := dk_124 (dk_at dksX2_intToLittleEndian_Low_0 17 rfl rfl)
theorem dX2_intToLittleEndian_Low_18 : decode cX2_intToLittleEndian_Low 18 = .ok (.istore_n 0, 1) := dk_59 (dk_at dksX2_intToLittleEndian_Low_0 18 rfl rfl)
theorem dX2_intToLittleEndian_Low_19 : decode cX2_intToLittleEndian_Low 19 = .ok (.aload_n 1, 1) := dk_43 (dk_at dksX2_intToLittleEndian_Low_0 19 rfl rfl)
theorem dX2_intToLittleEndian_Low_20 : decode cX2_intToLittleEndian_Low 20 = .ok (.iload_n 2, 1) := dk_28 (dk_at dksX2_intToLittleEndian_Low_0 20 rfl rfl)
theorem dX2_intToLittleEndian_Low_21 : decode cX2_intToLittleEndian_Low 21 = .ok (.iload 4, 2) := dk_21 4 (dk_at dksX2_intToLittleEndian_Low_0 21 rfl rfl)
theorem dX2_intToLittleEndian_Low_23 : decode cX2_intToLittleEndian_Low 23 = .ok (.iadd, 1) := dk_96 (dk_at dksX2_intToLittleEndian_Low_0 23 rfl rfl)
theorem dX2_intToLittleEndian_Low_24 : decode cX2_intToLittleEndian_Low 24 = .ok (.iload_n 0, 1) := dk_26 (dk_at dksX2_intToLittleEndian_Low_1 0 rfl rfl)
theorem dX2_intToLittleEndian_Low_25 : decode cX2_intToLittleEndian_Low 25 = .ok (.i2b, 1) := dk_145 (dk_at dksX2_intToLittleEndian_Low_1 1 rfl rfl)
theorem dX2_intToLittleEndian_Low_26 : decode cX2_intToLittleEndian_Low 26 = .ok (.bastore, 1) := dk_84 (dk_at dksX2_intToLittleEndian_Low_1 2 rfl rfl)
theorem dX2_intToLittleEndian_Low_27 : decode cX2_intToLittleEndian_Low 27 = .ok (.iinc 4 1, 3) := dk_132 4 1 (dk_at dksX2_intToLittleEndian_Low_1 3 rfl rfl)
theorem dX2_intToLittleEndian_Low_30 : decode cX2_intToLittleEndian_Low 30 = .ok (.goto (-22), 3) := dk_167 255 234 (dk_at dksX2_intToLittleEndian_Low_1 6 rfl rfl)
theorem dX2_intToLittleEndian_Low_33 : decode cX2_intToLittleEndian_Low 33 = .ok (.return_, 1) := dk_177 (dk_at dksX2_intToLittleEndian_Low_1 9 rfl rfl)
theorem q24 : (Jvm.Cond.initialized "Pack") ∈ lw_all := lw_g (lw_at lw_m1 10 rfl) rfl
theorem q132 : (Jvm.Cond.static ({ cls := "Pack", name := "littleEndianToInt", desc := "([BI)I" } : Jvm.MethodName)) ∈ lw_all := lw_g (lw_at lw_m1 118 rfl) rfl
theorem q133 : (Jvm.Cond.code ({ cls := "Pack", name := "littleEndianToInt", desc := "([BI)I" } : Jvm.MethodName) prog_12_method_2_code (3 : Nat) (Option.some Jvm.ClassFile.FieldType.int)) ∈ lw_all := lw_g (lw_at lw_m1 119 rfl) rfl
theorem q274 : (Jvm.Cond.static ({ cls := "Pack", name := "littleEndianToInt", desc := "([BI[I)V" } : Jvm.MethodName)) ∈ lw_all := lw_g (lw_at lw_m2 20 rfl) rfl
theorem q275 : (Jvm.Cond.code ({ cls := "Pack", name := "littleEndianToInt", desc := "([BI[I)V" } : Jvm.MethodName) prog_12_method_3_code (4 : Nat) (Option.none : Option Jvm.ClassFile.FieldType)) ∈ lw_all := lw_g (lw_at lw_m2 21 rfl) rfl
theorem q276 : (Jvm.Cond.methodLink "Pack" (7 : Nat) ({ cls := "Pack", name := "littleEndianToInt", desc := "([BI)I" } : Jvm.MethodName)) ∈ lw_all := lw_g (lw_at lw_m2 22 rfl) rfl
theorem q346 : (Jvm.Cond.static ({ cls := "Pack", name := "intToLittleEndian", desc := "([III[BI)V" } : Jvm.MethodName)) ∈ lw_all := lw_g (lw_at lw_m2 92 rfl) rfl
theorem q347 : (Jvm.Cond.code ({ cls := "Pack", name := "intToLittleEndian", desc := "([III[BI)V" } : Jvm.MethodName) prog_12_method_5_code (6 : Nat) (Option.none : Option Jvm.ClassFile.FieldType)) ∈ lw_all := lw_g (lw_at lw_m2 93 rfl) rfl
theorem q348 : (Jvm.Cond.methodLink "Pack" (13 : Nat) ({ cls := "Pack", name := "intToLittleEndian", desc := "(I[BI)V" } : Jvm.MethodName)) ∈ lw_all := lw_g (lw_at lw_m2 94 rfl) rfl
theorem q349 : (Jvm.Cond.static ({ cls := "Pack", name := "intToLittleEndian", desc := "(I[BI)V" } : Jvm.MethodName)) ∈ lw_all := lw_g (lw_at lw_m2 95 rfl) rfl
theorem q350 : (Jvm.Cond.code ({ cls := "Pack", name := "intToLittleEndian", desc := "(I[BI)V" } : Jvm.MethodName) prog_12_method_4_code (3 : Nat) (Option.none : Option Jvm.ClassFile.FieldType)) ∈ lw_all := lw_g (lw_at lw_m2 96 rfl) rfl
theorem q352 : (Jvm.Cond.static ({ cls := "Pack", name := "intToLittleEndian_Low", desc := "(I[BII)V" } : Jvm.MethodName)) ∈ lw_all := lw_g (lw_at lw_m2 98 rfl) rfl
theorem q353 : (Jvm.Cond.code ({ cls := "Pack", name := "intToLittleEndian_Low", desc := "(I[BII)V" } : Jvm.MethodName) prog_12_method_6_code (5 : Nat) (Option.none : Option Jvm.ClassFile.FieldType)) ∈ lw_all := lw_g (lw_at lw_m2 99 rfl) rfl
end
section
/-! Blake2sDigest -/
set_option maxRecDepth 100000
def RX1 : String := "Blake2sDigest"
def TX1 : u_T := fun k => match k with
  | 0 => ("Blake2sDigest", "digestLength", "I", false)
  | 1 => ("Blake2sDigest", "keyLength", "I", false)
  | 2 => ("Blake2sDigest", "salt", "[B", false)
  | 3 => ("Blake2sDigest", "personalization", "[B", false)
  | 4 => ("Blake2sDigest", "key", "[B", false)
  | 5 => ("Blake2sDigest", "fanout", "I", false)
  | 6 => ("Blake2sDigest", "depth", "I", false)
  | 7 => ("Blake2sDigest", "leafLength", "I", false)
  | 8 => ("Blake2sDigest", "nodeOffset", "J", false)
  | 9 => ("Blake2sDigest", "nodeDepth", "I", false)
  | 10 => ("Blake2sDigest", "innerHashLength", "I", false)
  | 11 => ("Blake2sDigest", "isLastNode", "Z", false)
  | 12 => ("Blake2sDigest", "buffer", "[B", true)
  | 13 => ("Blake2sDigest", "bufferPos", "I", false)
  | 14 => ("Blake2sDigest", "internalState", "[I", true)
  | 15 => ("Blake2sDigest", "chainValue", "[I", true)
  | 16 => ("Blake2sDigest", "t0", "I", false)
  | 17 => ("Blake2sDigest", "t1", "I", false)
  | 18 => ("Blake2sDigest", "f0", "I", false)
  | 19 => ("Blake2sDigest", "f1", "I", false)
  | _ => ("Blake2sDigest", "purpose", "LCryptoServicePurpose;", true)
def tyX1 : Nat → FieldType := fun k => match k with
  | 0 => .int
  | 1 => .int
  | 2 => .array .byte
  | 3 => .array .byte
  | 4 => .array .byte
  | 5 => .int
  | 6 => .int
  | 7 => .int
  | 8 => .long
  | 9 => .int
  | 10 => .int
  | 11 => .boolean
  | 12 => .array .byte
  | 13 => .int
  | 14 => .array .int
  | 15 => .array .int
  | 16 => .int
  | 17 => .int
  | 18 => .int
  | 19 => .int
  | _ => .object "CryptoServicePurpose"
abbrev wsX10 : List Cond := u_ws RX1 TX1 21
set_option maxRecDepth 100000 in
theorem nmX1 : ∀ a, a < 21 → ∀ b, b < 21 → a ≠ b → (TX1 a).2.1 ≠ (TX1 b).2.1 := by decide +kernel
set_option maxRecDepth 100000 in
theorem tyX1_ok : ∀ k, k < 21 → parseFieldDescriptor (TX1 k).2.2.1 = some (tyX1 k) := by decide +kernel
abbrev cX1_init : ByteArray := prog_1_method_1_code
def yX1_init : MethodName := ⟨RX1, "<init>", "(I)V"⟩
def dkwX1_init_0 : List UInt8 := [42, 27, 178, 0, 1, 183, 0, 7, 177]
abbrev dktX1_init_0 : List UInt8 := dkwX1_init_0 ++ []
theorem dksX1_init_0 : cX1_init.data.toList.drop 0 = dktX1_init_0 := by decide +kernel
theorem dX1_init_0 : decode cX1_init 0 = .ok (.aload_n 0, 1) := dk_42 (dk_at dksX1_init_0 0 rfl rfl)
theorem dX1_init_1 : decode cX1_init 1 = .ok (.iload_n 1, 1) := dk_27 (dk_at dksX1_init_0 1 rfl rfl)
theorem dX1_init_2 : decode cX1_init 2 = .ok (.getstatic 1, 3) := dk_178 0 1 (dk_at dksX1_init_0 2 rfl rfl)
theorem dX1_init_5 : decode cX1_init 5 = .ok (.invokespecial 7, 3) := dk_183 0 7 (dk_at dksX1_init_0 5 rfl rfl)
theorem dX1_init_8 : decode cX1_init 8 = .ok (.return_, 1) := dk_177 (dk_at dksX1_init_0 8 rfl rfl)
abbrev cX1_init_2 : ByteArray := prog_1_method_2_code
def yX1_init_2 : MethodName := ⟨RX1, "<init>", "(ILCryptoServicePurpose;)V"⟩
def dkwX1_init_2_7 : List UInt8 := [177]
abbrev dktX1_init_2_7 : List UInt8 := dkwX1_init_2_7 ++ []
def dkwX1_init_2_6 : List UInt8 := [183, 0, 87, 191, 42, 27, 16, 8, 108, 181, 0, 18, 42, 44, 181, 0, 90, 42, 1, 1, 1, 182, 0, 93]
abbrev dktX1_init_2_6 : List UInt8 := dkwX1_init_2_6 ++ dktX1_init_2_7
def dkwX1_init_2_5 : List UInt8 := [161, 0, 17, 27, 17, 1, 0, 163, 0, 10, 27, 16, 8, 112, 153, 0, 13, 187, 0, 83, 89, 18, 85]
abbrev dktX1_init_2_5 : List UInt8 := dkwX1_init_2_5 ++ dktX1_init_2_6
def dkwX1_init_2_4 : List UInt8 := [42, 3, 181, 0, 71, 42, 3, 181, 0, 74, 42, 3, 181, 0, 77, 42, 3, 181, 0, 80, 27, 16, 8]
abbrev dktX1_init_2_4 : List UInt8 := dkwX1_init_2_4 ++ dktX1_init_2_5
def dkwX1_init_2_3 : List UInt8 := [181, 0, 58, 42, 3, 181, 0, 61, 42, 16, 16, 188, 10, 181, 0, 64, 42, 16, 8, 188, 10, 181, 0, 68]
abbrev dktX1_init_2_3 : List UInt8 := dkwX1_init_2_3 ++ dktX1_init_2_4
def dkwX1_init_2_2 : List UInt8 := [9, 181, 0, 44, 42, 3, 181, 0, 48, 42, 3, 181, 0, 51, 42, 3, 181, 0, 54, 42, 16, 64, 188, 8]
abbrev dktX1_init_2_2 : List UInt8 := dkwX1_init_2_2 ++ dktX1_init_2_3
def dkwX1_init_2_1 : List UInt8 := [181, 0, 29, 42, 1, 181, 0, 32, 42, 4, 181, 0, 35, 42, 4, 181, 0, 38, 42, 3, 181, 0, 41, 42]
abbrev dktX1_init_2_1 : List UInt8 := dkwX1_init_2_1 ++ dktX1_init_2_2
def dkwX1_init_2_0 : List UInt8 := [42, 183, 0, 13, 42, 16, 32, 181, 0, 18, 42, 3, 181, 0, 22, 42, 1, 181, 0, 25, 42, 1]
abbrev dktX1_init_2_0 : List UInt8 := dkwX1_init_2_0 ++ dktX1_init_2_1
theorem dksX1_init_2_0 : cX1_init_2.data.toList.drop 0 = dktX1_init_2_0 := by decide +kernel
theorem dksX1_init_2_1 : cX1_init_2.data.toList.drop 22 = dktX1_init_2_1 := dk_seg dksX1_init_2_0 22 rfl rfl
theorem dksX1_init_2_2 : cX1_init_2.data.toList.drop 46 = dktX1_init_2_2 := dk_seg dksX1_init_2_1 24 rfl rfl
theorem dksX1_init_2_3 : cX1_init_2.data.toList.drop 70 = dktX1_init_2_3 := dk_seg dksX1_init_2_2 24 rfl rfl
theorem dksX1_init_2_4 : cX1_init_2.data.toList.drop 94 = dktX1_init_2_4 := dk_seg dksX1_init_2_3 24 rfl rfl
theorem dksX1_init_2_5 : cX1_init_2.data.toList.drop 117 = dktX1_init_2_5 := dk_seg dksX1_init_2_4 23 rfl rfl
theorem dksX1_init_2_6 : cX1_init_2.data.toList.drop 140 = dktX1_init_2_6 := dk_seg dksX1_init_2_5 23 rfl rfl
theorem dksX1_init_2_7 : cX1_init_2.data.toList.drop 164 = dktX1_init_2_7 := dk_seg dksX1_init_2_6 24 rfl rfl
theorem dX1_init_2_0 : decode cX1_init_2 0 = .ok (.aload_n 0, 1) := dk_42 (dk_at dksX1_init_2_0 0 rfl rfl)
theorem dX1_init_2_1 : decode cX1_init_2 1 = .ok (.invokespecial 13, 3) := dk_183 0 13 (dk_at dksX1_init_2_0 1 rfl rfl)
theorem dX1_init_2_4 : decode cX1_init_2 4 = .ok (.aload_n 0, 1) := dk_42 (dk_at dksX1_init_2_0 4 rfl rfl)
theorem dX1_init_2_5 : decode cX1_init_2 5 = .ok (.bipush 32, 2) := dk_16 32 (dk_at dksX1_init_2_0 5 rfl rfl)
theorem dX1_init_2_7 : decode cX1_init_2 7 = .ok (.putfield 18, 3) := dk_181 0 18 (dk_at dksX1_init_2_0 7 rfl rfl)
theorem dX1_init_2_10 : decode cX1_init_2 10 = .ok (.aload_n 0, 1) := dk_42 (dk_at dksX1_init_2_0 10 rfl rfl)
theorem dX1_init_2_11 : decode cX1_init_2 11 = .ok (.iconst 0, 1) := dk_3 (dk_at dksX1_init_2_0 11 rfl rfl)
theorem dX1_init_2_12 : decode cX1_init_2 12 = .ok (.putfield 22, 3) := dk_181 0 22 (dk_at dksX1_init_2_0 12 rfl rfl)
theorem dX1_init_2_15 : decode cX1_init_2 15 = .ok (.aload_n 0, 1) := dk_42 (dk_at dksX1_init_2_0 15 rfl rfl)
theorem dX1_init_2_16 : decode cX1_init_2 16 = .ok (.aconst_null, 1) := dk_1 (dk_at dksX1_init_2_0 16 rfl rfl)
theorem dX1_init_2_17 : decode cX1_init_2 17 = .ok (.putfield 25, 3) := dk_181 0 25 (dk_at dksX1_init_2_0 17 rfl rfl)
theorem dX1_init_2_20 : decode cX1_init_2 20 = .ok (.aload_n 0, 1) := dk_42 (dk_at dksX1_init_2_0 20 rfl rfl)
theorem dX1_init_2_21 : decode cX1_init_2 21 = .ok (.aconst_null, 1) := dk_1 (dk_at dksX1_init_2_0 21 rfl rfl)
theorem dX1_init_2_22 : decode cX1_init_2 22 = .ok (.putfield 29, 3) := dk_181 0 29 (dk_at dksX1_init_2_1 0 rfl rfl)
theorem dX1_init_2_25 : decode cX1_init_2 25 = .ok (.aload_n 0, 1) := dk_42 (dk_at dksX1_init_2_1 3 rfl rfl)
theorem dX1_init_2_26 : decode cX1_init_2 26 = .ok (.aconst_null, 1) := dk_1 (dk_at dksX1_init_2_1 4 rfl rfl)
theorem dX1_init_2_27 : decode cX1_init_2 27 = .ok (.putfield 32, 3) := dk_181 0 32 (dk_at dksX1_init_2_1 5 rfl rfl)
theorem dX1_init_2_30 : decode cX1_init_2 30 = .ok (.aload_n 0, 1) := dk_42 (dk_at dksX1_init_2_1 8 rfl rfl)
theorem dX1_init_2_31 : decode cX1_init_2 31 = .ok (.iconst 1, 1) := dk_4 (dk_at dksX1_init_2_1 9 rfl rfl)
theorem dX1_init_2_32 : decode cX1_init_2 32 = .ok (.putfield 35, 3) := dk_181 0 35 (dk_at dksX1_init_2_1 10 rfl rfl)
theorem dX1_init_2_35 : decode cX1_init_2 35 = .ok (.aload_n 0, 1) := dk_42 (dk_at dksX1_init_2_1 13 rfl rfl)
theorem dX1_init_2_36 : decode cX1_init_2 36 = .ok (.iconst 1, 1) := dk_4 (dk_at dksX1_init_2_1 14 rfl rfl)
theorem dX1_init_2_37 : decode cX1_init_2 37 = .ok (.putfield 38, 3) := dk_181 0 38 (dk_at dksX1_init_2_1 15 rfl rfl)
theorem dX1_init_2_40 : decode cX1_init_2 40 = .ok (.aload_n 0, 1) := dk_42 (dk_at dksX1_init_2_1 18 rfl rfl)
theorem dX1_init_2_41 : decode cX1_init_2 41 = .ok (.iconst 0, 1) := dk_3 (dk_at dksX1_init_2_1 19 rfl rfl)
theorem dX1_init_2_42 : decode cX1_init_2 42 = .ok (.putfield 41, 3) := dk_181 0 41 (dk_at dksX1_init_2_1 20 rfl rfl)
theorem dX1_init_2_45 : decode cX1_init_2 45 = .ok (.aload_n 0, 1) := dk_42 (dk_at dksX1_init_2_1 23 rfl rfl)
theorem dX1_init_2_46 : decode cX1_init_2 46 = .ok (.lconst 0, 1) := dk_9 (dk_at dksX1_init_2_2 0 rfl rfl)
theorem dX1_init_2_47 : decode cX1_init_2 47 = .ok (.putfield 44, 3) := dk_181 0 44 (dk_at dksX1_init_2_2 1 rfl rfl)
theorem dX1_init_2_50 : decode cX1_init_2 50 = .ok (.aload_n 0, 1) := dk_42 (dk_at dksX1_init_2_2 4 rfl rfl)
theorem dX1_init_2_51 : decode cX1_init_2 51 = .ok (.iconst 0, 1) := dk_3 (dk_at dksX1_init_2_2 5 rfl rfl)
theorem dX1_init_2_52 : decode cX1_init_2 52 = .ok (.putfield 48, 3) := dk_181 0 48 (dk_at dksX1_init_2_2 6 rfl rfl)
theorem dX1_init_2_55 : decode cX1_init_2 55 = .ok (.aload_n 0, 1) := dk_42 (dk_at dksX1_init_2_2 9 rfl rfl)
theorem dX1_init_2_56 : decode cX1_init_2 56 = .ok (.iconst 0, 1) := dk_3 (dk_at dksX1_init_2_2 10 rfl rfl)
theorem dX1_init_2_57 : decode cX1_init_2 57 = .ok (.putfield 51, 3) := dk_181 0 51 (dk_at dksX1_init_2_2 11 rfl rfl)
theorem dX1_init_2_60 : decode cX1_init_2 60 = .ok (.aload_n 0, 1) := dk_42 (dk_at dksX1_init_2_2 14 rfl rfl)
theorem dX1_init_2_61 : decode cX1_init_2 61 = .ok (.iconst 0, 1) := dk_3 (dk_at dksX1_init_2_2 15 rfl rfl)
theorem dX1_init_2_62 : decode cX1_init_2 62 = .ok (.putfield 54, 3) := dk_181 0 54 (dk_at dksX1_init_2_2 16 rfl rfl)
theorem dX1_init_2_65 : decode cX1_init_2 65 = .ok (.aload_n 0, 1) := dk_42 (dk_at dksX1_init_2_2 19 rfl rfl)
theorem dX1_init_2_66 : decode cX1_init_2 66 = .ok (.bipush 64, 2) := dk_16 64 (dk_at dksX1_init_2_2 20 rfl rfl)
theorem dX1_init_2_68 : decode cX1_init_2 68 = .ok (.newarray .byte, 2) := dk_188_8 (dk_at dksX1_init_2_2 22 rfl rfl)
theorem dX1_init_2_70 : decode cX1_init_2 70 = .ok (.putfield 58, 3) := dk_181 0 58 (dk_at dksX1_init_2_3 0 rfl rfl)
theorem dX1_init_2_73 : decode cX1_init_2 73 = .ok (.aload_n 0, 1) := dk_42 (dk_at dksX1_init_2_3 3 rfl rfl)
theorem dX1_init_2_74 : decode cX1_init_2 74 = .ok (.iconst 0, 1) := dk_3 (dk_at dksX1_init_2_3 4 rfl rfl)
theorem dX1_init_2_75 : decode cX1_init_2 75 = .ok (.putfield 61, 3) := dk_181 0 61 (dk_at dksX1_init_2_3 5 rfl rfl)
theorem dX1_init_2_78 : decode cX1_init_2 78 = .ok (.aload_n 0, 1) := dk_42 (dk_at dksX1_init_2_3 8 rfl rfl)
theorem dX1_init_2_79 : decode cX1_init_2 79 = .ok (.bipush 16, 2) := dk_16 16 (dk_at dksX1_init_2_3 9 rfl rfl)
theorem dX1_init_2_81 : decode cX1_init_2 81 = .ok (.newarray .int, 2) := dk_188_10 (dk_at dksX1_init_2_3 11 rfl rfl)
theorem dX1_init_2_83 : decode cX1_init_2 83 = .ok (.putfield 64, 3) := dk_181 0 64 (dk_at dksX1_init_2_3 13 rfl rfl)
theorem dX1_init_2_86 : decode cX1_init_2 86 = .ok (.aload_n 0, 1) := dk_42 (dk_at dksX1_init_2_3 16 rfl rfl)
theorem dX1_init_2_87 : decode cX1_init_2 87 = .ok (.bipush 8, 2) := dk_16 8 (dk_at dksX1_init_2_3 17 rfl rfl)
theorem dX1_init_2_89 : decode cX1_init_2 89 = .ok (.newarray .int, 2) := dk_188_10 (dk_at dksX1_init_2_3 19 rfl rfl)
theorem dX1_init_2_91 : decode cX1_init_2 91 = .ok (.putfield 68, 3) := dk_181 0 68 (dk_at dksX1_init_2_3 21 rfl rfl)
theorem dX1_init_2_94 : decode cX1_init_2 94 = .ok (.aload_n 0, 1) := dk_42 (dk_at dksX1_init_2_4 0 rfl rfl)
theorem dX1_init_2_95 : decode cX1_init_2 95 = .ok (.iconst 0, 1) := dk_3 (dk_at dksX1_init_2_4 1 rfl rfl)
theorem dX1_init_2_96 : decode cX1_init_2 96 = .ok (.putfield 71, 3) := dk_181 0 71 (dk_at dksX1_init_2_4 2 rfl rfl)
theorem dX1_init_2_99 : decode cX1_init_2 99 = .ok (.aload_n 0, 1) := dk_42 (dk_at dksX1_init_2_4 5 rfl rfl)
theorem dX1_init_2_100 : decode cX1_init_2 100 = .ok (.iconst 0, 1) := dk_3 (dk_at dksX1_init_2_4 6 rfl rfl)
theorem dX1_init_2_101 : decode cX1_init_2 101 = .ok (.putfield 74, 3) := dk_181 0 74 (dk_at dksX1_init_2_4 7 rfl rfl)
theorem dX1_init_2_104 : decode cX1_init_2 104 = .ok (.aload_n 0, 1) := dk_42 (dk_at dksX1_init_2_4 10 rfl rfl)
theorem dX1_init_2_105 : decode cX1_init_2 105 = .ok (.iconst 0, 1) := dk_3 (dk_at dksX1_init_2_4 11 rfl rfl)
theorem dX1_init_2_106 : decode cX1_init_2 106 = .ok (.putfield 77, 3) := dk_181 0 77 (dk_at dksX1_init_2_4 12 rfl rfl)
theorem dX1_init_2_109 : decode cX1_init_2 109 = .ok (.aload_n 0, 1) := dk_42 (dk_at dksX1_init_2_4 15 rfl rfl)
theorem dX1_init_2_110 : decode cX1_init_2 110 = .ok (.iconst 0, 1) := dk_3 (dk_at dksX1_init_2_4 16 rfl rfl)
theorem dX1_init_2_111 : decode cX1_init_2 111 = .ok (.putfield 80, 3) := dk_181 0 80 (dk_at dksX1_init_2_4 17 rfl rfl)
theorem dX1_init_2_114 : decode cX1_init_2 114 = .ok (.iload_n 1, 1) := dk_27 (dk_at dksX1_init_2_4 20 rfl rfl)
theorem dX1_init_2_115 : decode cX1_init_2 115 = .ok (.bipush 8, 2) := dk_16 8 (dk_at dksX1_init_2_4 21 rfl rfl)
theorem dX1_init_2_117 : decode cX1_init_2 117 = .ok (.if_icmp .lt 17, 3) := dk_161 0 17 (dk_at dksX1_init_2_5 0 rfl rfl)
theorem dX1_init_2_120 : decode cX1_init_2 120 = .ok (.iload_n 1, 1) := dk_27 (dk_at dksX1_init_2_5 3 rfl rfl)
theorem dX1_init_2_121 : decode cX1_init_2 121 = .ok (.sipush 256, 3) := dk_17 1 0 (dk_at dksX1_init_2_5 4 rfl rfl)
theorem dX1_init_2_124 : decode cX1_init_2 124 = .ok (.if_icmp .gt 10, 3) := dk_163 0 10 (dk_at dksX1_init_2_5 7 rfl rfl)
theorem dX1_init_2_127 : decode cX1_init_2 127 = .ok (.iload_n 1, 1) := dk_27 (dk_at dksX1_init_2_5 10 rfl rfl)
theorem dX1_init_2_128 : decode cX1_init_2 128 = .ok (.bipush 8, 2) := dk_16 8 (dk_at dksX1_init_2_5 11 rfl rfl)
theorem dX1_init_2_130 : decode cX1_init_2 130 = .ok (.irem, 1) := dk_112 (dk_at dksX1_init_2_5 13 rfl rfl)
theorem dX1_init_2_131 : decode cX1_init_2 131 = .ok (.ifCond .eq 13, 3) := dk_153 0 13 (dk_at dksX1_init_2_5 14 rfl rfl)
theorem dX1_init_2_134 : decode cX1_init_2 134 = .ok (.new 83, 3) := dk_187 0 83 (dk_at dksX1_init_2_5 17 rfl rfl)
theorem dX1_init_2_137 : decode cX1_init_2 137 = .ok (.dup, 1) := dk_89 (dk_at dksX1_init_2_5 20 rfl rfl)
theorem dX1_init_2_138 : decode cX1_init_2 138 = .ok (.ldc 85, 2) := dk_18 85 (dk_at dksX1_init_2_5 21 rfl rfl)
theorem dX1_init_2_140 : decode cX1_init_2 140 = .ok (.invokespecial 87, 3) := dk_183 0 87 (dk_at dksX1_init_2_6 0 rfl rfl)
theorem dX1_init_2_143 : decode cX1_init_2 143 = .ok (.athrow, 1) := dk_191 (dk_at dksX1_init_2_6 3 rfl rfl)
theorem dX1_init_2_144 : decode cX1_init_2 144 = .ok (.aload_n 0, 1) := dk_42 (dk_at dksX1_init_2_6 4 rfl rfl)
theorem dX1_init_2_145 : decode cX1_init_2 145 = .ok (.iload_n 1, 1) := dk_27 (dk_at dksX1_init_2_6 5 rfl rfl)
theorem dX1_init_2_146 : decode cX1_init_2 146 = .ok (.bipush 8, 2) := dk_16 8 (dk_at dksX1_init_2_6 6 rfl rfl)
theorem dX1_init_2_148 : decode cX1_init_2 148 = .ok (.idiv, 1) := dk_108 (dk_at dksX1_init_2_6 8 rfl rfl)
theorem dX1_init_2_149 : decode cX1_init_2 149 = .ok (.putfield 18, 3) := dk_181 0 18 (dk_at dksX1_init_2_6 9 rfl rfl)
theorem dX1_init_2_152 : decode cX1_init_2 152 = .ok (.aload_n 0, 1) := dk_42 (dk_at dksX1_init_2_6 12 rfl rfl)
theorem dX1_init_2_153 : decode cX1_init_2 153 = .ok (.aload_n 2, 1) := dk_44 (dk_at dksX1_init_2_6 13 rfl rfl)
theorem dX1_init_2_154 : decode cX1_init_2 154 = .ok (.putfield 90, 3) := dk_181 0 90 (dk_at dksX1_init_2_6 14 rfl rfl)
theorem dX1_init_2_157 : decode cX1_init_2 157 = .ok (.aload_n 0, 1) := dk_42 (dk_at dksX1_init_2_6 17 rfl rfl)
theorem dX1_init_2_158 : decode cX1_init_2 158 = .ok (.aconst_null, 1) := dk_1 (dk_at dksX1_init_2_6 18 rfl rfl)
theorem dX1_init_2_159 : decode cX1_init_2 159 = .ok (.aconst_null, 1) := dk_1 (dk_at dksX1_init_2_6 19 rfl rfl)
theorem dX1_init_2_160 : decode cX1_init_2 160 = .ok (.aconst_null, 1) := dk_1 (dk_at dksX1_init_2_6 20 rfl rfl)
theorem dX1_init_2_161 : decode cX1_init_2 161 = .ok (.invokevirtual 93, 3) := dk_182 0 93 (dk_at dksX1_init_2_6 21 rfl rfl)
theorem dX1_init_2_164 : decode cX1_init_2 164 = .ok (.return_, 1) := dk_177 (dk_at dksX1_init_2_7 0 rfl rfl)
abbrev cX1_init_3 : ByteArray := prog_1_method_3_code
def yX1_init_3 : MethodName := ⟨RX1, "init", "([B[B[B)V"⟩
def dkwX1_init_3_16 : List UInt8 := [7, 184, 0, 110, 130, 79, 177]
abbrev dktX1_init_3_16 : List UInt8 := dkwX1_init_3_16 ++ []
def dkwX1_init_3_15 : List UInt8 := [42, 180, 0, 68, 16, 6, 92, 46, 44, 3, 184, 0, 110, 130, 79, 42, 180, 0, 68, 16, 7, 92, 46, 44]
abbrev dktX1_init_3_15 : List UInt8 := dkwX1_init_3_15 ++ dktX1_init_3_16
def dkwX1_init_3_14 : List UInt8 := [183, 0, 87, 191, 42, 16, 8, 188, 8, 181, 0, 29, 44, 3, 42, 180, 0, 29, 3, 44, 190, 184, 0, 99]
abbrev dktX1_init_3_14 : List UInt8 := dkwX1_init_3_14 ++ dktX1_init_3_15
def dkwX1_init_3_13 : List UInt8 := [178, 0, 105, 16, 7, 46, 79, 44, 198, 0, 70, 44, 190, 16, 8, 159, 0, 13, 187, 0, 83, 89, 18, 116]
abbrev dktX1_init_3_13 : List UInt8 := dkwX1_init_3_13 ++ dktX1_init_3_14
def dkwX1_init_3_12 : List UInt8 := [184, 0, 110, 130, 79, 42, 180, 0, 68, 16, 6, 178, 0, 105, 16, 6, 46, 79, 42, 180, 0, 68, 16, 7]
abbrev dktX1_init_3_12 : List UInt8 := dkwX1_init_3_12 ++ dktX1_init_3_13
def dkwX1_init_3_11 : List UInt8 := [42, 180, 0, 68, 7, 92, 46, 43, 3, 184, 0, 110, 130, 79, 42, 180, 0, 68, 8, 92, 46, 43, 7]
abbrev dktX1_init_3_11 : List UInt8 := dkwX1_init_3_11 ++ dktX1_init_3_12
def dkwX1_init_3_10 : List UInt8 := [183, 0, 87, 191, 42, 16, 8, 188, 8, 181, 0, 25, 43, 3, 42, 180, 0, 25, 3, 43, 190, 184, 0, 99]
abbrev dktX1_init_3_10 : List UInt8 := dkwX1_init_3_10 ++ dktX1_init_3_11
def dkwX1_init_3_9 : List UInt8 := [178, 0, 105, 8, 46, 79, 43, 198, 0, 68, 43, 190, 16, 8, 159, 0, 13, 187, 0, 83, 89, 18, 108]
abbrev dktX1_init_3_9 : List UInt8 := dkwX1_init_3_9 ++ dktX1_init_3_10
def dkwX1_init_3_8 : List UInt8 := [16, 24, 120, 128, 130, 79, 42, 180, 0, 68, 7, 178, 0, 105, 7, 46, 79, 42, 180, 0, 68, 8]
abbrev dktX1_init_3_8 : List UInt8 := dkwX1_init_3_8 ++ dktX1_init_3_9
def dkwX1_init_3_7 : List UInt8 := [42, 180, 0, 68, 6, 178, 0, 105, 6, 46, 21, 4, 42, 180, 0, 48, 16, 16, 120, 128, 42, 180, 0, 51]
abbrev dktX1_init_3_7 : List UInt8 := dkwX1_init_3_7 ++ dktX1_init_3_8
def dkwX1_init_3_6 : List UInt8 := [136, 54, 4, 42, 180, 0, 44, 136, 54, 5, 42, 180, 0, 68, 5, 178, 0, 105, 5, 46, 21, 5, 130, 79]
abbrev dktX1_init_3_6 : List UInt8 := dkwX1_init_3_6 ++ dktX1_init_3_7
def dkwX1_init_3_5 : List UInt8 := [79, 42, 180, 0, 68, 4, 178, 0, 105, 4, 46, 42, 180, 0, 41, 130, 79, 42, 180, 0, 44, 16, 32, 123]
abbrev dktX1_init_3_5 : List UInt8 := dkwX1_init_3_5 ++ dktX1_init_3_6
def dkwX1_init_3_4 : List UInt8 := [180, 0, 22, 16, 8, 120, 128, 42, 180, 0, 35, 16, 16, 120, 42, 180, 0, 38, 16, 24, 120, 128, 128, 130]
abbrev dktX1_init_3_4 : List UInt8 := dkwX1_init_3_4 ++ dktX1_init_3_5
def dkwX1_init_3_3 : List UInt8 := [184, 0, 99, 42, 16, 64, 181, 0, 61, 42, 180, 0, 68, 3, 178, 0, 105, 3, 46, 42, 180, 0, 18, 42]
abbrev dktX1_init_3_3 : List UInt8 := dkwX1_init_3_3 ++ dktX1_init_3_4
def dkwX1_init_3_2 : List UInt8 := [180, 0, 32, 3, 42, 180, 0, 22, 184, 0, 99, 45, 3, 42, 180, 0, 58, 3, 42, 180, 0, 22]
abbrev dktX1_init_3_2 : List UInt8 := dkwX1_init_3_2 ++ dktX1_init_3_3
def dkwX1_init_3_1 : List UInt8 := [187, 0, 83, 89, 18, 97, 183, 0, 87, 191, 42, 42, 180, 0, 22, 188, 8, 181, 0, 32, 45, 3, 42]
abbrev dktX1_init_3_1 : List UInt8 := dkwX1_init_3_1 ++ dktX1_init_3_2
def dkwX1_init_3_0 : List UInt8 := [45, 198, 0, 77, 45, 190, 158, 0, 72, 42, 45, 190, 181, 0, 22, 42, 180, 0, 22, 16, 32, 164, 0, 13]
abbrev dktX1_init_3_0 : List UInt8 := dkwX1_init_3_0 ++ dktX1_init_3_1
theorem dksX1_init_3_0 : cX1_init_3.data.toList.drop 0 = dktX1_init_3_0 := by decide +kernel
theorem dksX1_init_3_1 : cX1_init_3.data.toList.drop 24 = dktX1_init_3_1 := dk_seg dksX1_init_3_0 24 rfl rfl
theorem dksX1_init_3_2 : cX1_init_3.data.toList.drop 47 = dktX1_init_3_2 := dk_seg dksX1_init_3_1 23 rfl rfl
theorem dksX1_init_3_3 : cX1_init_3.data.toList.drop 69 = dktX1_init_3_3 := dk_seg dksX1_init_3_2 22 rfl rfl
theorem dksX1_init_3_4 : cX1_init_3.data.toList.drop 93 = dktX1_init_3_4 := dk_seg dksX1_init_3_3 24 rfl rfl
theorem dksX1_init_3_5 : cX1_init_3.data.toList.drop 117 = dktX1_init_3_5 := dk_seg dksX1_init_3_4 24 rfl rfl
theorem dksX1_init_3_6 : cX1_init_3.data.toList.drop 141 = dktX1_init_3_6 := dk_seg dksX1_init_3_5 24 rfl rfl
theorem dksX1_init_3_7 : cX1_init_3.data.toList.drop 165 = dktX1_init_3_7 := dk_seg dksX1_init_3_6 24 rfl rfl
theorem dksX1_init_3_8 : cX1_init_3.data.toList.drop 189 = dktX1_init_3_8 := dk_seg dksX1_init_3_7 24 rfl rfl
theorem dksX1_init_3_9 : cX1_init_3.data.toList.drop 211 = dktX1_init_3_9 := dk_seg dksX1_init_3_8 22 rfl rfl
theorem dksX1_init_3_10 : cX1_init_3.data.toList.drop 234 = dktX1_init_3_10 := dk_seg dksX1_init_3_9 23 rfl rfl
theorem dksX1_init_3_11 : cX1_init_3.data.toList.drop 258 = dktX1_init_3_11 := dk_seg dksX1_init_3_10 24 rfl rfl
theorem dksX1_init_3_12 : cX1_init_3.data.toList.drop 281 = dktX1_init_3_12 := dk_seg dksX1_init_3_11 23 rfl rfl
theorem dksX1_init_3_13 : cX1_init_3.data.toList.drop 305 = dktX1_init_3_13 := dk_seg dksX1_init_3_12 24 rfl rfl
theorem dksX1_init_3_14 : cX1_init_3.data.toList.drop 329 = dktX1_init_3_14 := dk_seg dksX1_init_3_13 24 rfl rfl
theorem dksX1_init_3_15 : cX1_init_3.data.toList.drop 353 = dktX1_init_3_15 := dk_seg dksX1_init_3_14 24 rfl rfl
theorem dksX1_init_3_16 : cX1_init_3.data.toList.drop 377 = dktX1_init_3_16 := dk_seg dksX1_init_3_15 24 rfl rfl
theorem dX1_init_3_0 : decode cX1_init_3 0 = .ok (.aload_n 3, 1) := dk_45 (dk_at dksX1_init_3_0 0 rfl rfl)
theorem dX1_init_3_1 : decode cX1_init_3 1 = .ok (.ifnull 77, 3) := dk_198 0 77 (dk_at dksX1_init_3_0 1 rfl rfl)
theorem dX1_init_3_4 : decode cX1_init_3 4 = .ok (.aload_n 3, 1) := dk_45 (dk_at dksX1_init_3_0 4 rfl rfl)
theorem dX1_init_3_5 : decode cX1_init_3 5 = .ok (.arraylength, 1) := dk_190 (dk_at dksX1_init_3_0 5 rfl rfl)
theorem dX1_init_3_6 : decode cX1_init_3 6 = .ok (.ifCond .le 72, 3) := dk_158 0 72 (dk_at dksX1_init_3_0 6 rfl rfl)
theorem dX1_init_3_9 : decode cX1_init_3 9 = .ok (.aload_n 0, 1) := dk_42 (dk_at dksX1_init_3_0 9 rfl rfl)
theorem dX1_init_3_10 : decode cX1_init_3 10 = .ok (.aload_n 3, 1) := dk_45 (dk_at dksX1_init_3_0 10 rfl rfl)
theorem dX1_init_3_11 : decode cX1_init_3 11 = .ok (.arraylength, 1) := dk_190 (dk_at dksX1_init_3_0 11 rfl rfl)
theorem dX1_init_3_12 : decode cX1_init_3 12 = .ok (.putfield 22, 3) := dk_181 0 22 (dk_at dksX1_init_3_0 12 rfl rfl)
theorem dX1_init_3_15 : decode cX1_init_3 15 = .ok (.aload_n 0, 1) := dk_42 (dk_at dksX1_init_3_0 15 rfl rfl)
theorem dX1_init_3_16 : decode cX1_init_3 16 = .ok (.getfield 22, 3) := dk_180 0 22 (dk_at dksX1_init_3_0 16 rfl rfl)
theorem dX1_init_3_19 : decode cX1_init_3 19 = .ok (.bipush 32, 2) := dk_16 32 (dk_at dksX1_init_3_0 19 rfl rfl)
theorem dX1_init_3_21 : decode cX1_init_3 21 = .ok (.if_icmp .le 13, 3) := dk_164 0 13 (dk_at dksX1_init_3_0 21 rfl rfl)
theorem dX1_init_3_24 : decode cX1_init_3 24 = .ok (.new 83, 3) := dk_187 0 83 (dk_at dksX1_init_3_1 0 rfl rfl)
theorem dX1_init_3_27 : decode cX1_init_3 27 = .ok (.dup, 1) := dk_89 (dk_at dksX1_init_3_1 3 rfl rfl)
theorem dX1_init_3_28 : decode cX1_init_3 28 = .ok (.ldc 97, 2) := dk_18 97 (dk_at dksX1_init_3_1 4 rfl rfl)
theorem dX1_init_3_30 : decode cX1_init_3 30 = .ok (.invokespecial 87, 3) := dk_183 0 87 (dk_at dksX1_init_3_1 6 rfl rfl)
theorem dX1_init_3_33 : decode cX1_init_3 33 = .ok (.athrow, 1) := dk_191 (dk_at dksX1_init_3_1 9 rfl rfl)
theorem dX1_init_3_34 : decode cX1_init_3 34 = .ok (.aload_n 0, 1) := dk_42 (dk_at dksX1_init_3_1 10 rfl rfl)
theorem dX1_init_3_35 : decode cX1_init_3 35 = .ok (.aload_n 0, 1) := dk_42 (dk_at dksX1_init_3_1 11 rfl rfl)
theorem dX1_init_3_36 : decode cX1_init_3 36 = .ok (.getfield 22, 3) := dk_180 0 22 (dk_at dksX1_init_3_1 12 rfl rfl)
theorem dX1_init_3_39 : decode cX1_init_3 39 = .ok (.newarray .byte, 2) := dk_188_8 (dk_at dksX1_init_3_1 15 rfl rfl)
theorem dX1_init_3_41 : decode cX1_init_3 41 = .ok (.putfield 32, 3) := dk_181 0 32 (dk_at dksX1_init_3_1 17 rfl rfl)
theorem dX1_init_3_44 : decode cX1_init_3 44 = .ok (.aload_n 3, 1) := dk_45 (dk_at dksX1_init_3_1 20 rfl rfl)
theorem dX1_init_3_45 : decode cX1_init_3 45 = .ok (.iconst 0, 1) := dk_3 (dk_at dksX1_init_3_1 21 rfl rfl)
theorem dX1_init_3_46 : decode cX1_init_3 46 = .ok (.aload_n 0, 1) := dk_42 (dk_at dksX1_init_3_1 22 rfl rfl)
theorem dX1_init_3_47 : decode cX1_init_3 47 = .ok (.getfield 32, 3) := dk_180 0 32 (dk_at dksX1_init_3_2 0 rfl rfl)
theorem dX1_init_3_50 : decode cX1_init_3 50 = .ok (.iconst 0, 1) := dk_3 (dk_at dksX1_init_3_2 3 rfl rfl)
theorem dX1_init_3_51 : decode cX1_init_3 51 = .ok (.aload_n 0, 1) := dk_42 (dk_at dksX1_init_3_2 4 rfl rfl)
theorem dX1_init_3_52 : decode cX1_init_3 52 = .ok (.getfield 22, 3) := dk_180 0 22 (dk_at dksX1_init_3_2 5 rfl rfl)
theorem dX1_init_3_55 : decode cX1_init_3 55 = .ok (.invokestatic 99, 3) := dk_184 0 99 (dk_at dksX1_init_3_2 8 rfl rfl)
theorem dX1_init_3_58 : decode cX1_init_3 58 = .ok (.aload_n 3, 1) := dk_45 (dk_at dksX1_init_3_2 11 rfl rfl)
theorem dX1_init_3_59 : decode cX1_init_3 59 = .ok (.iconst 0, 1) := dk_3 (dk_at dksX1_init_3_2 12 rfl rfl)
theorem dX1_init_3_60 : decode cX1_init_3 60 = .ok (.aload_n 0, 1) := dk_42 (dk_at dksX1_init_3_2 13 rfl rfl)
theorem dX1_init_3_61 : decode cX1_init_3 61 = .ok (.getfield 58, 3) := dk_180 0 58 (dk_at dksX1_init_3_2 14 rfl rfl)
theorem dX1_init_3_64 : decode cX1_init_3 64 = .ok (.iconst 0, 1) := dk_3 (dk_at dksX1_init_3_2 17 rfl rfl)
theorem dX1_init_3_65 : decode cX1_init_3 65 = .ok (.aload_n 0, 1) := dk_42 (dk_at dksX1_init_3_2 18 rfl rfl)
theorem dX1_init_3_66 : decode cX1_init_3 66 = .ok (.getfield 22, 3) := dk_180 0 22 (dk_at dksX1_init_3_2 19 rfl rfl)
theorem dX1_init_3_69 : decode cX1_init_3 69 = .ok (.invokestatic 99, 3) := dk_184 0 99 (dk_at dksX1_init_3_3 0 rfl rfl)
theorem dX1_init_3_72 : decode cX1_init_3 72 = .ok (.aload_n 0, 1) := dk_42 (dk_at dksX1_init_3_3 3 rfl rfl)
theorem dX1_init_3_73 : decode cX1_init_3 73 = .ok (.bipush 64, 2) := dk_16 64 (dk_at dksX1_init_3_3 4 rfl rfl)
theorem dX1_init_3_75 : decode cX1_init_3 75 = .ok (.putfield 61, 3) := dk_181 0 61 (dk_at dksX1_init_3_3 6 rfl rfl)
theorem dX1_init_3_78 : decode cX1_init_3 78 = .ok (.aload_n 0, 1) := dk_42 (dk_at dksX1_init_3_3 9 rfl rfl)
theorem dX1_init_3_79 : decode cX1_init_3 79 = .ok (.getfield 68, 3) := dk_180 0 68 (dk_at dksX1_init_3_3 10 rfl rfl)
theorem dX1_init_3_82 : decode cX1_init_3 82 = .ok (.iconst 0, 1) := dk_3 (dk_at dksX1_init_3_3 13 rfl rfl)
theorem dX1_init_3_83 : decode cX1_init_3 83 = .ok (.getstatic 105, 3) := dk_178 0 105 (dk_at dksX1_init_3_3 14 rfl rfl)
theorem dX1_init_3_86 : decode cX1_init_3 86 = .ok (.iconst 0, 1) := dk_3 (dk_at dksX1_init_3_3 17 rfl rfl)
theorem dX1_init_3_87 : decode cX1_init_3 87 = .ok (.iaload, 1) := dk_46 (dk_at dksX1_init_3_3 18 rfl rfl)
theorem dX1_init_3_88 : decode cX1_init_3 88 = .ok (.aload_n 0, 1) := dk_42 (dk_at dksX1_init_3_3 19 rfl rfl)
theorem dX1_init_3_89 : decode cX1_init_3 89 = .ok (.getfield 18, 3) := dk_180 0 18 (dk_at dksX1_init_3_3 20 rfl rfl)
theorem dX1_init_3_92 : decode cX1_init_3 92 = .ok (.aload_n 0, 1) := dk_42 (dk_at dksX1_init_3_3 23 rfl rfl)
theorem dX1_init_3_93 : decode cX1_init_3 93 = .ok (.getfield 22, 3) := dk_180 0 22 (dk_at dksX1_init_3_4 0 rfl rfl)
theorem dX1_init_3_96 : decode cX1_init_3 96 = .ok (.bipush 8, 2) := dk_16 8 (dk_at dksX1_init_3_4 3 rfl rfl)
theorem dX1_init_3_98 : decode cX1_init_3 98 = .ok (.ishl, 1) := dk_120 (dk_at dksX1_init_3_4 5 rfl rfl)
theorem dX1_init_3_99 : decode cX1_init_3 99 = .ok (.ior, 1) := dk_128 (dk_at dksX1_init_3_4 6 rfl rfl)
theorem dX1_init_3_100 : decode cX1_init_3 100 = .ok (.aload_n 0, 1) := dk_42 (dk_at dksX1_init_3_4 7 rfl rfl)
theorem dX1_init_3_101 : decode cX1_init_3 101 = .ok (.getfield 35, 3) := dk_180 0 35 (dk_at dksX1_init_3_4 8 rfl rfl)
theorem dX1_init_3_104 : decode cX1_init_3 104 = .ok (.bipush 16, 2) := dk_16 16 (dk_at dksX1_init_3_4 11 rfl rfl)
theorem dX1_init_3_106 : decode cX1_init_3 106 = .ok (.ishl, 1) := dk_120 (dk_at dksX1_init_3_4 13 rfl rfl)
theorem dX1_init_3_107 : decode cX1_init_3 107 = .ok (.aload_n 0, 1) := dk_42 (dk_at dksX1_init_3_4 14 rfl rfl)
theorem dX1_init_3_108 : decode cX1_init_3 108 = .ok (.getfield 38, 3) := dk_180 0 38 (dk_at dksX1_init_3_4 15 rfl rfl)
theorem dX1_init_3_111 : decode cX1_init_3 111 = .ok (.bipush 24, 2) := dk_16 24 (dk_at dksX1_init_3_4 18 rfl rfl)
theorem dX1_init_3_113 : decode cX1_init_3 113 = .ok (.ishl, 1) := dk_120 (dk_at dksX1_init_3_4 20 rfl rfl)
theorem dX1_init_3_114 : decode cX1_init_3 114 = .ok (.ior, 1) := dk_128 (dk_at dksX1_init_3_4 21 rfl rfl)
theorem dX1_init_3_115 : decode cX1_init_3 115 = .ok (.ior, 1) := dk_128 (dk_at dksX1_init_3_4 22 rfl rfl)
theorem dX1_init_3_116 : decode cX1_init_3 116 = .ok (.ixor, 1) := dk_130 (dk_at dksX1_init_3_4 23 rfl rfl)
theorem dX1_init_3_117 : decode cX1_init_3 117 = .ok (.iastore, 1) := dk_79 (dk_at dksX1_init_3_5 0 rfl rfl)
theorem dX1_init_3_118 : decode cX1_init_3 118 = .ok (.aload_n 0, 1) := dk_42 (dk_at dksX1_init_3_5 1 rfl rfl)
theorem dX1_init_3_119 : decode cX1_init_3 119 = .ok (.getfield 68, 3) := dk_180 0 68 (dk_at dksX1_init_3_5 2 rfl rfl)
theorem dX1_init_3_122 : decode cX1_init_3 122 = .ok (.iconst 1, 1) := dk_4 (dk_at dksX1_init_3_5 5 rfl rfl)
theorem dX1_init_3_123 : decode cX1_init_3 123 = .ok (.getstatic 105, 3) := dk_178 0 105 (dk_at dksX1_init_3_5 6 rfl rfl)
theorem dX1_init_3_126 : decode cX1_init_3 126 = .ok (.iconst 1, 1) := dk_4 (dk_at dksX1_init_3_5 9 rfl rfl)
theorem dX1_init_3_127 : decode cX1_init_3 127 = .ok (.iaload, 1) := dk_46 (dk_at dksX1_init_3_5 10 rfl rfl)
theorem dX1_init_3_128 : decode cX1_init_3 128 = .ok (.aload_n 0, 1) := dk_42 (dk_at dksX1_init_3_5 11 rfl rfl)
theorem dX1_init_3_129 : decode cX1_init_3 129 = .ok (.getfield 41, 3) := dk_180 0 41 (dk_at dksX1_init_3_5 12 rfl rfl)
theorem dX1_init_3_132 : decode cX1_init_3 132 = .ok (.ixor, 1) := dk_130 (dk_at dksX1_init_3_5 15 rfl rfl)
theorem dX1_init_3_133 : decode cX1_init_3 133 = .ok (.iastore, 1) := dk_79 (dk_at dksX1_init_3_5 16 rfl rfl)
theorem dX1_init_3_134 : decode cX1_init_3 134 = .ok (.aload_n 0, 1) := dk_42 (dk_at dksX1_init_3_5 17 rfl rfl)
theorem dX1_init_3_135 : decode cX1_init_3 135 = .ok (.getfield 44, 3) := dk_180 0 44 (dk_at dksX1_init_3_5 18 rfl rfl)
theorem dX1_init_3_138 : decode cX1_init_3 138 = .ok (.bipush 32, 2) := dk_16 32 (dk_at dksX1_init_3_5 21 rfl rfl)
theorem dX1_init_3_140 : decode cX1_init_3 140 = .ok (.lshr, 1) := dk_123 (dk_at dksX1_init_3_5 23 rfl rfl)
theorem dX1_init_3_141 : decode cX1_init_3 141 = .ok (.l2i, 1) := dk_136 (dk_at dksX1_init_3_6 0 rfl rfl)
theorem dX1_init_3_142 : decode cX1_init_3 142 = .ok (.istore 4, 2) := dk_54 4 (dk_at dksX1_init_3_6 1 rfl rfl)
theorem dX1_init_3_144 : decode cX1_init_3 144 = .ok (.aload_n 0, 1) := dk_42 (dk_at dksX1_init_3_6 3 rfl rfl)
theorem dX1_init_3_145 : decode cX1_init_3 145 = .ok (.getfield 44, 3) := dk_180 0 44 (dk_at dksX1_init_3_6 4 rfl rfl)
theorem dX1_init_3_148 : decode cX1_init_3 148 = .ok (.l2i, 1) := dk_136 (dk_at dksX1_init_3_6 7 rfl rfl)
theorem dX1_init_3_149 : decode cX1_init_3 149 = .ok (.istore 5, 2) := dk_54 5 (dk_at dksX1_init_3_6 8 rfl rfl)
theorem dX1_init_3_151 : decode cX1_init_3 151 = .ok (.aload_n 0, 1) := dk_42 (dk_at dksX1_init_3_6 10 rfl rfl)
theorem dX1_init_3_152 : decode cX1_init_3 152 = .ok (.getfield 68, 3) := dk_180 0 68 (dk_at dksX1_init_3_6 11 rfl rfl)
theorem dX1_init_3_155 : decode cX1_init_3 155 = .ok (.iconst 2, 1) := dk_5 (dk_at dksX1_init_3_6 14 rfl rfl)
theorem dX1_init_3_156 : decode cX1_init_3 156 = .ok (.getstatic 105, 3) := dk_178 0 105 (dk_at dksX1_init_3_6 15 rfl rfl)
theorem dX1_init_3_159 : decode cX1_init_3 159 = .ok (.iconst 2, 1) := dk_5 (dk_at dksX1_init_3_6 18 rfl rfl)
theorem dX1_init_3_160 : decode cX1_init_3 160 = .ok (.iaload, 1) := dk_46 (dk_at dksX1_init_3_6 19 rfl rfl)
theorem dX1_init_3_161 : decode cX1_init_3 161 = .ok (.iload 5, 2) := dk_21 5 (dk_at dksX1_init_3_6 20 rfl rfl)
theorem dX1_init_3_163 : decode cX1_init_3 163 = .ok (.ixor, 1) := dk_130 (dk_at dksX1_init_3_6 22 rfl rfl)
theorem dX1_init_3_164 : decode cX1_init_3 164 = .ok (.iastore, 1) := dk_79 (dk_at dksX1_init_3_6 23 rfl rfl)
theorem dX1_init_3_165 : decode cX1_init_3 165 = .ok (.aload_n 0, 1) := dk_42 (dk_at dksX1_init_3_7 0 rfl rfl)
theorem dX1_init_3_166 : decode cX1_init_3 166 = .ok (.getfield 68, 3) := dk_180 0 68 (dk_at dksX1_init_3_7 1 rfl rfl)
theorem dX1_init_3_169 : decode cX1_init_3 169 = .ok (.iconst 3, 1) := dk_6 (dk_at dksX1_init_3_7 4 rfl rfl)
theorem dX1_init_3_170 : decode cX1_init_3 170 = .ok (.getstatic 105, 3) := dk_178 0 105 (dk_at dksX1_init_3_7 5 rfl rfl)
theorem dX1_init_3_173 : decode cX1_init_3 173 = .ok (.iconst 3, 1) := dk_6 (dk_at dksX1_init_3_7 8 rfl rfl)
theorem dX1_init_3_174 : decode cX1_init_3 174 = .ok (.iaload, 1) := dk_46 (dk_at dksX1_init_3_7 9 rfl rfl)
theorem dX1_init_3_175 : decode cX1_init_3 175 = .ok (.iload 4, 2) := dk_21 4 (dk_at dksX1_init_3_7 10 rfl rfl)
theorem dX1_init_3_177 : decode cX1_init_3 177 = .ok (.aload_n 0, 1) := dk_42 (dk_at dksX1_init_3_7 12 rfl rfl)
theorem dX1_init_3_178 : decode cX1_init_3 178 = .ok (.getfield 48, 3) := dk_180 0 48 (dk_at dksX1_init_3_7 13 rfl rfl)
theorem dX1_init_3_181 : decode cX1_init_3 181 = .ok (.bipush 16, 2) := dk_16 16 (dk_at dksX1_init_3_7 16 rfl rfl)
theorem dX1_init_3_183 : decode cX1_init_3 183 = .ok (.ishl, 1) := dk_120 (dk_at dksX1_init_3_7 18 rfl rfl)
theorem dX1_init_3_184 : decode cX1_init_3 184 = .ok (.ior, 1) := dk_128 (dk_at dksX1_init_3_7 19 rfl rfl)
theorem dX1_init_3_185 : decode cX1_init_3 185 = .ok (.aload_n 0, 1) := dk_42 (dk_at dksX1_init_3_7 20 rfl rfl)
theorem dX1_init_3_186 : decode cX1_init_3 186 = .ok (.getfield 51, 3) := dk_180 0 51 (dk_at dksX1_init_3_7 21 rfl rfl)
theorem dX1_init_3_189 : decode cX1_init_3 189 = .ok (.bipush 24, 2) := dk_16 24 (dk_at dksX1_init_3_8 0 rfl rfl)
theorem dX1_init_3_191 : decode cX1_init_3 191 = .ok (.ishl, 1) := dk_120 (dk_at dksX1_init_3_8 2 rfl rfl)
theorem dX1_init_3_192 : decode cX1_init_3 192 = .ok (.ior, 1) := dk_128 (dk_at dksX1_init_3_8 3 rfl rfl)
theorem dX1_init_3_193 : decode cX1_init_3 193 = .ok (.ixor, 1) := dk_130 (dk_at dksX1_init_3_8 4 rfl rfl)
theorem dX1_init_3_194 : decode cX1_init_3 194 = .ok (.iastore, 1) := dk_79 (dk_at dksX1_init_3_8 5 rfl rfl)
theorem dX1_init_3_195 : decode cX1_init_3 195 = .ok (.aload_n 0, 1) := dk_42 (dk_at dksX1_init_3_8 6 rfl rfl)
theorem dX1_init_3_196 : decode cX1_init_3 196 = .ok (.getfield 68, 3) := dk_180 0 68 (dk_at dksX1_init_3_8 7 rfl rfl)
theorem dX1_init_3_199 : decode cX1_init_3 199 = .ok (.iconst 4, 1) := dk_7 (dk_at dksX1_init_3_8 10 rfl rfl)
theorem dX1_init_3_200 : decode cX1_init_3 200 = .ok (.getstatic 105, 3) := dk_178 0 105 (dk_at dksX1_init_3_8 11 rfl rfl)
theorem dX1_init_3_203 : decode cX1_init_3 203 = .ok (.iconst 4, 1) := dk_7 (dk_at dksX1_init_3_8 14 rfl rfl)
theorem dX1_init_3_204 : decode cX1_init_3 204 = .ok (.iaload, 1) := dk_46 (dk_at dksX1_init_3_8 15 rfl rfl)
theorem dX1_init_3_205 : decode cX1_init_3 205 = .ok (.iastore, 1) := dk_79 (dk_at dksX1_init_3_8 16 rfl rfl)
theorem dX1_init_3_206 : decode cX1_init_3 206 = .ok (.aload_n 0, 1) := dk_42 (dk_at dksX1_init_3_8 17 rfl rfl)
theorem dX1_init_3_207 : decode cX1_init_3 207 = .ok (.getfield 68, 3) := dk_180 0 68 (dk_at dksX1_init_3_8 18 rfl rfl)
theorem dX1_init_3_210 : decode cX1_init_3 210 = .ok (.iconst 5, 1) := dk_8 (dk_at dksX1_init_3_8 21 rfl rfl)
theorem dX1_init_3_211 : decode cX1_init_3 211 = .ok (.getstatic 105, 3) := dk_178 0 105 (dk_at dksX1_init_3_9 0 rfl rfl)
theorem dX1_init_3_214 : decode cX1_init_3 214 = .ok (.iconst 5, 1) := dk_8 (dk_at dksX1_init_3_9 3 rfl rfl)
theorem dX1_init_3_215 : decode cX1_init_3 215 = .ok (.iaload, 1) := dk_46 (dk_at dksX1_init_3_9 4 rfl rfl)
theorem dX1_init_3_216 : decode cX1_init_3 216 = .ok (.iastore, 1) := dk_79 (dk_at dksX1_init_3_9 5 rfl rfl)
theorem dX1_init_3_217 : decode cX1_init_3 217 = .ok (.aload_n 1, 1) := dk_43 (dk_at dksX1_init_3_9 6 rfl rfl)
theorem dX1_init_3_218 : decode cX1_init_3 218 = .ok (.ifnull 68, 3) := dk_198 0 68 (dk_at dksX1_init_3_9 7 rfl rfl)
theorem dX1_init_3_221 : decode cX1_init_3 221 = .ok (.aload_n 1, 1) := dk_43 (dk_at dksX1_init_3_9 10 rfl rfl)
theorem dX1_init_3_222 : decode cX1_init_3 222 = .ok (.arraylength, 1) := dk_190 (dk_at dksX1_init_3_9 11 rfl rfl)
theorem dX1_init_3_223 : decode cX1_init_3 223 = .ok (.bipush 8, 2) := dk_16 8 (dk_at dksX1_init_3_9 12 rfl rfl)
theorem dX1_init_3_225 : decode cX1_init_3 225 = .ok (.if_icmp .eq 13, 3) := dk_159 0 13 (dk_at dksX1_init_3_9 14 rfl rfl)
theorem dX1_init_3_228 : decode cX1_init_3 228 = .ok (.new 83, 3) := dk_187 0 83 (dk_at dksX1_init_3_9 17 rfl rfl)
theorem dX1_init_3_231 : decode cX1_init_3 231 = .ok (.dup, 1) := dk_89 (dk_at dksX1_init_3_9 20 rfl rfl)
theorem dX1_init_3_232 : decode cX1_init_3 232 = .ok (.ldc 108, 2) := dk_18 108 (dk_at dksX1_init_3_9 21 rfl rfl)
theorem dX1_init_3_234 : decode cX1_init_3 234 = .ok (.invokespecial 87, 3) := dk_183 0 87 (dk_at dksX1_init_3_10 0 rfl rfl)
theorem dX1_init_3_237 : decode cX1_init_3 237 = .ok (.athrow, 1) := dk_191 (dk_at dksX1_init_3_10 3 rfl rfl)
theorem dX1_init_3_238 : decode cX1_init_3 238 = .ok (.aload_n 0, 1) := dk_42 (dk_at dksX1_init_3_10 4 rfl rfl)
theorem dX1_init_3_239 : decode cX1_init_3 239 = .ok (.bipush 8, 2) := dk_16 8 (dk_at dksX1_init_3_10 5 rfl rfl)
theorem dX1_init_3_241 : decode cX1_init_3 241 = .ok (.newarray .byte, 2) := dk_188_8 (dk_at dksX1_init_3_10 7 rfl rfl)
theorem dX1_init_3_243 : decode cX1_init_3 243 = .ok (.putfield 25, 3) := dk_181 0 25 (dk_at dksX1_init_3_10 9 rfl rfl)
theorem dX1_init_3_246 : decode cX1_init_3 246 = .ok (.aload_n 1, 1) := dk_43 (dk_at dksX1_init_3_10 12 rfl rfl)
theorem dX1_init_3_247 : decode cX1_init_3 247 = .ok (.iconst 0, 1) := dk_3 (dk_at dksX1_init_3_10 13 rfl rfl)
theorem dX1_init_3_248 : decode cX1_init_3 248 = .ok (.aload_n 0, 1) := dk_42 (dk_at dksX1_init_3_10 14 rfl rfl)
theorem dX1_init_3_249 : decode cX1_init_3 249 = .ok (.getfield 25, 3) := dk_180 0 25 (dk_at dksX1_init_3_10 15 rfl rfl)
theorem dX1_init_3_252 : decode cX1_init_3 252 = .ok (.iconst 0, 1) := dk_3 (dk_at dksX1_init_3_10 18 rfl rfl)
theorem dX1_init_3_253 : decode cX1_init_3 253 = .ok (.aload_n 1, 1) := dk_43 (dk_at dksX1_init_3_10 19 rfl rfl)
theorem dX1_init_3_254 : decode cX1_init_3 254 = .ok (.arraylength, 1) := dk_190 (dk_at dksX1_init_3_10 20 rfl rfl)
theorem dX1_init_3_255 : decode cX1_init_3 255 = .ok (.invokestatic 99, 3) := dk_184 0 99 (dk_at dksX1_init_3_10 21 rfl rfl)
theorem dX1_init_3_258 : decode cX1_init_3 258 = .ok (.aload_n 0, 1) := dk_42 (dk_at dksX1_init_3_11 0 rfl rfl)
theorem dX1_init_3_259 : decode cX1_init_3 259 = .ok (.getfield 68, 3) := dk_180 0 68 (dk_at dksX1_init_3_11 1 rfl rfl)
theorem dX1_init_3_262 : decode cX1_init_3 262 = .ok (.iconst 4, 1) := dk_7 (dk_at dksX1_init_3_11 4 rfl rfl)
theorem dX1_init_3_263 : decode cX1_init_3 263 = .ok (.dup2, 1) := dk_92 (dk_at dksX1_init_3_11 5 rfl rfl)
theorem dX1_init_3_264 : decode cX1_init_3 264 = .ok (.iaload, 1) := dk_46 (dk_at dksX1_init_3_11 6 rfl rfl)
theorem dX1_init_3_265 : decode cX1_init_3 265 = .ok (.aload_n 1, 1) := dk_43 (dk_at dksX1_init_3_11 7 rfl rfl)
theorem dX1_init_3_266 : decode cX1_init_3 266 = .ok (.iconst 0, 1) := dk_3 (dk_at dksX1_init_3_11 8 rfl rfl)
theorem dX1_init_3_267 : decode cX1_init_3 267 = .ok (.invokestatic 110, 3) := dk_184 0 110 (dk_at dksX1_init_3_11 9 rfl rfl)
theorem dX1_init_3_270 : decode cX1_init_3 270 = .ok (.ixor, 1) := dk_130 (dk_at dksX1_init_3_11 12 rfl rfl)
theorem dX1_init_3_271 : decode cX1_init_3 271 = .ok (.iastore, 1) := dk_79 (dk_at dksX1_init_3_11 13 rfl rfl)
theorem dX1_init_3_272 : decode cX1_init_3 272 = .ok (.aload_n 0, 1) := dk_42 (dk_at dksX1_init_3_11 14 rfl rfl)
theorem dX1_init_3_273 : decode cX1_init_3 273 = .ok (.getfield 68, 3) := dk_180 0 68 (dk_at dksX1_init_3_11 15 rfl rfl)
theorem dX1_init_3_276 : decode cX1_init_3 276 = .ok (.iconst 5, 1) := dk_8 (dk_at dksX1_init_3_11 18 rfl rfl)
theorem dX1_init_3_277 : decode cX1_init_3 277 = .ok (.dup2, 1) := dk_92 (dk_at dksX1_init_3_11 19 rfl rfl)
theorem dX1_init_3_278 : decode cX1_init_3 278 = .ok (.iaload, 1) := dk_46 (dk_at dksX1_init_3_11 20 rfl rfl)
theorem dX1_init_3_279 : decode cX1_init_3 279 = .ok (.aload_n 1, 1) := dk_43 (dk_at dksX1_init_3_11 21 rfl rfl)
theorem dX1_init_3_280 : decode cX1_init_3 280 = .ok (.iconst 4, 1) := dk_7 (dk_at dksX1_init_3_11 22 rfl rfl)
theorem dX1_init_3_281 : decode cX1_init_3 281 = .ok (.invokestatic 110, 3) := dk_184 0 110 (dk_at dksX1_init_3_12 0 rfl rfl)
theorem dX1_init_3_284 : decode cX1_init_3 284 = .ok (.ixor, 1) := dk_130 (dk_at dksX1_init_3_12 3 rfl rfl)
theorem dX1_init_3_285 : decode cX1_init_3 285 = .ok (.iastore, 1) := dk_79 (dk_at dksX1_init_3_12 4 rfl rfl)
theorem dX1_init_3_286 : decode cX1_init_3 286 = .ok (.aload_n 0, 1) := dk_42 (dk_at dksX1_init_3_12 5 rfl rfl)
theorem dX1_init_3_287 : decode cX1_init_3 287 = .ok (.getfield 68, 3) := dk_180 0 68 (dk_at dksX1_init_3_12 6 rfl rfl)
theorem dX1_init_3_290 : decode cX1_init_3 290 = .ok (.bipush 6, 2) := dk_16 6 (dk_at dksX1_init_3_12 9 rfl rfl)
theorem dX1_init_3_292 : decode cX1_init_3 292 = .ok (.getstatic 105, 3) := dk_178 0 105 (dk_at dksX1_init_3_12 11 rfl rfl)
theorem dX1_init_3_295 : decode cX1_init_3 295 = .ok (.bipush 6, 2) := dk_16 6 (dk_at dksX1_init_3_12 14 rfl rfl)
theorem dX1_init_3_297 : decode cX1_init_3 297 = .ok (.iaload, 1) := dk_46 (dk_at dksX1_init_3_12 16 rfl rfl)
theorem dX1_init_3_298 : decode cX1_init_3 298 = .ok (.iastore, 1) := dk_79 (dk_at dksX1_init_3_12 17 rfl rfl)
theorem dX1_init_3_299 : decode cX1_init_3 299 = .ok (.aload_n 0, 1) := dk_42 (dk_at dksX1_init_3_12 18 rfl rfl)
theorem dX1_init_3_300 : decode cX1_init_3 300 = .ok (.getfield 68, 3) := dk_180 0 68 (dk_at dksX1_init_3_12 19 rfl rfl)
theorem dX1_init_3_303 : decode cX1_init_3 303 = .ok (.bipush 7, 2) := dk_16 7 (dk_at dksX1_init_3_12 22 rfl rfl)
theorem dX1_init_3_305 : decode cX1_init_3 305 = .ok (.getstatic 105, 3) := dk_178 0 105 (dk_at dksX1_init_3_13 0 rfl rfl)
theorem dX1_init_3_308 : decode cX1_init_3 308 = .ok (.bipush 7, 2) := dk_16 7 (dk_at dksX1_init_3_13 3 rfl rfl)
theorem dX1_init_3_310 : decode cX1_init_3 310 = .ok (.iaload, 1) := dk_46 (dk_at dksX1_init_3_13 5 rfl rfl)
theorem dX1_init_3_311 : decode cX1_init_3 311 = .ok (.iastore, 1) := dk_79 (dk_at dksX1_init_3_13 6 rfl rfl)
theorem dX1_init_3_312 : decode cX1_init_3 312 = .ok (.aload_n 2, 1) := dk_44 (dk_at dksX1_init_3_13 7 rfl rfl)
theorem dX1_init_3_313 : decode cX1_init_3 313 = .ok (.ifnull 70, 3) := dk_198 0 70 (dk_at dksX1_init_3_13 8 rfl rfl)
theorem dX1_init_3_316 : decode cX1_init_3 316 = .ok (.aload_n 2, 1) := dk_44 (dk_at dksX1_init_3_13 11 rfl rfl)
theorem dX1_init_3_317 : decode cX1_init_3 317 = .ok (.arraylength, 1) := dk_190 (dk_at dksX1_init_3_13 12 rfl rfl)
theorem dX1_init_3_318 : decode cX1_init_3 318 = .ok (.bipush 8, 2) := dk_16 8 (dk_at dksX1_init_3_13 13 rfl rfl)
theorem dX1_init_3_320 : decode cX1_init_3 320 = .ok (.if_icmp .eq 13, 3) := dk_159 0 13 (dk_at dksX1_init_3_13 15 rfl rfl)
theorem dX1_init_3_323 : decode cX1_init_3 323 = .ok (.new 83, 3) := dk_187 0 83 (dk_at dksX1_init_3_13 18 rfl rfl)
theorem dX1_init_3_326 : decode cX1_init_3 326 = .ok (.dup, 1) := dk_89 (dk_at dksX1_init_3_13 21 rfl rfl)
theorem dX1_init_3_327 : decode cX1_init_3 327 = .ok (.ldc 116, 2) := dk_18 116 (dk_at dksX1_init_3_13 22 rfl rfl)
theorem dX1_init_3_329 : decode cX1_init_3 329 = .ok (.invokespecial 87, 3) := dk_183 0 87 (dk_at dksX1_init_3_14 0 rfl rfl)
theorem dX1_init_3_332 : decode cX1_init_3 332 = .ok (.athrow, 1) := dk_191 (dk_at dksX1_init_3_14 3 rfl rfl)
theorem dX1_init_3_333 : decode cX1_init_3 333 = .ok (.aload_n 0, 1) := dk_42 (dk_at dksX1_init_3_14 4 rfl rfl)
theorem dX1_init_3_334 : decode cX1_init_3 334 = .ok (.bipush 8, 2) := dk_16 8 (dk_at dksX1_init_3_14 5 rfl rfl)
theorem dX1_init_3_336 : decode cX1_init_3 336 = .ok (.newarray .byte, 2) := dk_188_8 (dk_at dksX1_init_3_14 7 rfl rfl)
theorem dX1_init_3_338 : decode cX1_init_3 338 = .ok (.putfield 29, 3) := dk_181 0 29 (dk_at dksX1_init_3_14 9 rfl rfl)
theorem dX1_init_3_341 : decode cX1_init_3 341 = .ok (.aload_n 2, 1) := dk_44 (dk_at dksX1_init_3_14 12 rfl rfl)
theorem dX1_init_3_342 : decode cX1_init_3 342 = .ok (.iconst 0, 1) := dk_3 (dk_at dksX1_init_3_14 13 rfl rfl)
theorem dX1_init_3_343 : decode cX1_init_3 343 = .ok (.aload_n 0, 1) := dk_42 (dk_at dksX1_init_3_14 14 rfl rfl)
theorem dX1_init_3_344 : decode cX1_init_3 344 = .ok (.getfield 29, 3) := dk_180 0 29 (dk_at dksX1_init_3_14 15 rfl rfl)
theorem dX1_init_3_347 : decode cX1_init_3 347 = .ok (.iconst 0, 1) := dk_3 (dk_at dksX1_init_3_14 18 rfl rfl)
theorem dX1_init_3_348 : decode cX1_init_3 348 = .ok (.aload_n 2, 1) := dk_44 (dk_at dksX1_init_3_14 19 rfl rfl)
theorem dX1_init_3_349 : decode cX1_init_3 349 = .ok (.arraylength, 1) := dk_190 (dk_at dksX1_init_3_14 20 rfl rfl)
theorem dX1_init_3_350 : decode cX1_init_3 350 = .ok (.invokestatic 99, 3) := dk_184 0 99 (dk_at dksX1_init_3_14 21 rfl rfl)
theorem dX1_init_3_353 : decode cX1_init_3 353 = .ok (.aload_n 0, 1) := dk_42 (dk_at dksX1_init_3_15 0 rfl rfl)
theorem dX1_init_3_354 : decode cX1_init_3 354 = .ok (.getfield 68, 3) := dk_180 0 68 (dk_at dksX1_init_3_15 1 rfl rfl)
theorem dX1_init_3_357 : decode cX1_init_3 357 = .ok (.bipush 6, 2) := dk_16 6 (dk_at dksX1_init_3_15 4 rfl rfl)
theorem dX1_init_3_359 : decode cX1_init_3 359 = .ok (.dup2, 1) := dk_92 (dk_at dksX1_init_3_15 6 rfl rfl)
theorem dX1_init_3_360 : decode cX1_init_3 360 = .ok (.iaload, 1) := dk_46 (dk_at dksX1_init_3_15 7 rfl rfl)
theorem dX1_init_3_361 : decode cX1_init_3 361 = .ok (.aload_n 2, 1) := dk_44 (dk_at dksX1_init_3_15 8 rfl rfl)
theorem dX1_init_3_362 : decode cX1_init_3 362 = .ok (.iconst 0, 1) := dk_3 (dk_at dksX1_init_3_15 9 rfl rfl)
theorem dX1_init_3_363 : decode cX1_init_3 363 = .ok (.invokestatic 110, 3) := dk_184 0 110 (dk_at dksX1_init_3_15 10 rfl rfl)
theorem dX1_init_3_366 : decode cX1_init_3 366 = .ok (.ixor, 1) := dk_130 (dk_at dksX1_init_3_15 13 rfl rfl)
theorem dX1_init_3_367 : decode cX1_init_3 367 = .ok (.iastore, 1) := dk_79 (dk_at dksX1_init_3_15 14 rfl rfl)
theorem dX1_init_3_368 : decode cX1_init_3 368 = .ok (.aload_n 0, 1) := dk_42 (dk_at dksX1_init_3_15 15 rfl rfl)
theorem dX1_init_3_369 : decode cX1_init_3 369 = .ok (.getfield 68, 3) := dk_180 0 68 (dk_at dksX1_init_3_15 16 rfl rfl)
theorem dX1_init_3_372 : decode cX1_init_3 372 = .ok (.bipush 7, 2) := dk_16 7 (dk_at dksX1_init_3_15 19 rfl rfl)
theorem dX1_init_3_374 : decode cX1_init_3 374 = .ok (.dup2, 1) := dk_92 (dk_at dksX1_init_3_15 21 rfl rfl)
theorem dX1_init_3_375 : decode cX1_init_3 375 = .ok (.iaload, 1) := dk_46 (dk_at dksX1_init_3_15 22 rfl rfl)
theorem dX1_init_3_376 : decode cX1_init_3 376 = .ok (.aload_n 2, 1) := dk_44 (dk_at dksX1_init_3_15 23 rfl rfl)
theorem dX1_init_3_377 : decode cX1_init_3 377 = .ok (.iconst 4, 1) := dk_7 (dk_at dksX1_init_3_16 0 rfl rfl)
theorem dX1_init_3_378 : decode cX1_init_3 378 = .ok (.invokestatic 110, 3) := dk_184 0 110 (dk_at dksX1_init_3_16 1 rfl rfl)
theorem dX1_init_3_381 : decode cX1_init_3 381 = .ok (.ixor, 1) := dk_130 (dk_at dksX1_init_3_16 4 rfl rfl)
theorem dX1_init_3_382 : decode cX1_init_3 382 = .ok (.iastore, 1) := dk_79 (dk_at dksX1_init_3_16 5 rfl rfl)
theorem dX1_init_3_383 : decode cX1_init_3 383 = .ok (.return_, 1) := dk_177 (dk_at dksX1_init_3_16 6 rfl rfl)
abbrev cX1_update : ByteArray := prog_1_method_6_code
def yX1_update : MethodName := ⟨RX1, "update", "([BII)V"⟩
def dkwX1_update_7 : List UInt8 := [89, 180, 0, 61, 28, 29, 96, 21, 6, 100, 96, 181, 0, 61, 177]
abbrev dktX1_update_7 : List UInt8 := dkwX1_update_7 ++ []
def dkwX1_update_6 : List UInt8 := [132, 6, 64, 167, 255, 233, 43, 21, 6, 42, 180, 0, 58, 3, 28, 29, 96, 21, 6, 100, 184, 0, 99, 42]
abbrev dktX1_update_6 : List UInt8 := dkwX1_update_6 ++ dktX1_update_7
def dkwX1_update_5 : List UInt8 := [54, 6, 21, 6, 21, 5, 162, 0, 22, 42, 16, 64, 182, 0, 118, 42, 43, 21, 6, 182, 0, 122]
abbrev dktX1_update_5 : List UInt8 := dkwX1_update_5 ++ dktX1_update_6
def dkwX1_update_4 : List UInt8 := [181, 0, 61, 42, 180, 0, 58, 3, 184, 0, 126, 28, 29, 96, 16, 64, 100, 54, 5, 28, 21, 4, 96]
abbrev dktX1_update_4 : List UInt8 := dkwX1_update_4 ++ dktX1_update_5
def dkwX1_update_3 : List UInt8 := [21, 4, 184, 0, 99, 42, 16, 64, 182, 0, 118, 42, 42, 180, 0, 58, 3, 182, 0, 122, 42, 3]
abbrev dktX1_update_3 : List UInt8 := dkwX1_update_3 ++ dktX1_update_4
def dkwX1_update_2 : List UInt8 := [184, 0, 99, 42, 89, 180, 0, 61, 29, 96, 181, 0, 61, 177, 43, 28, 42, 180, 0, 58, 42, 180, 0, 61]
abbrev dktX1_update_2 : List UInt8 := dkwX1_update_2 ++ dktX1_update_3
def dkwX1_update_1 : List UInt8 := [180, 0, 61, 100, 54, 4, 21, 4, 29, 161, 0, 28, 43, 28, 42, 180, 0, 58, 42, 180, 0, 61, 29]
abbrev dktX1_update_1 : List UInt8 := dkwX1_update_1 ++ dktX1_update_2
def dkwX1_update_0 : List UInt8 := [43, 198, 0, 7, 29, 154, 0, 4, 177, 3, 54, 4, 42, 180, 0, 61, 153, 0, 86, 16, 64, 42]
abbrev dktX1_update_0 : List UInt8 := dkwX1_update_0 ++ dktX1_update_1
theorem dksX1_update_0 : cX1_update.data.toList.drop 0 = dktX1_update_0 := by decide +kernel
theorem dksX1_update_1 : cX1_update.data.toList.drop 22 = dktX1_update_1 := dk_seg dksX1_update_0 22 rfl rfl
theorem dksX1_update_2 : cX1_update.data.toList.drop 45 = dktX1_update_2 := dk_seg dksX1_update_1 23 rfl rfl
theorem dksX1_update_3 : cX1_update.data.toList.drop 69 = dktX1_update_3 := dk_seg dksX1_update_2 24 rfl rfl
theorem dksX1_update_4 : cX1_update.data.toList.drop 91 = dktX1_update_4 := dk_seg dksX1_update_3 22 rfl rfl
theorem dksX1_update_5 : cX1_update.data.toList.drop 114 = dktX1_update_5 := dk_seg dksX1_update_4 23 rfl rfl
theorem dksX1_update_6 : cX1_update.data.toList.drop 136 = dktX1_update_6 := dk_seg dksX1_update_5 22 rfl rfl
theorem dksX1_update_7 : cX1_update.data.toList.drop 160 = dktX1_update_7 := dk_seg dksX1_update_6 24 rfl rfl
theorem dX1_update_0 : decode cX1_update 0 = .ok (.aload_n 1, 1) := dk_43 (dk_at dksX1_update_0 0 rfl rfl)
theorem dX1_update_1 : decode cX1_update 1 = .ok (.ifnull 7, 3) := dk_198 0 7 (dk_at dksX1_update_0 1 rfl rfl)
theorem dX1_update_4 : decode cX1_update 4 = .ok (.iload_n 3, 1) := dk_29 (dk_at dksX1_update_0 4 rfl rfl)
theorem dX1_update_5 : decode cX1_update 5 = .ok (.ifCond .ne 4, 3) := dk_154 0 4 (dk_at dksX1_update_0 5 rfl rfl)
theorem dX1_update_8 : decode cX1_update 8 = .ok (.return_, 1) := dk_177 (dk_at dksX1_update_0 8 rfl rfl)
theorem dX1_update_9 : decode cX1_update 9 = .ok (.iconst 0, 1) := dk_3 (dk_at dksX1_update_0 9 rfl rfl)
theorem dX1_update_10 : decode cX1_update 10 = .ok (.istore 4, 2) := dk_54 4 (dk_at dksX1_update_0 10 rfl rfl)
theorem dX1_update_12 : decode cX1_update 12 = .ok (.aload_n 0, 1) := dk_42 (dk_at dksX1_update_0 12 rfl rfl)
theorem dX1_update_13 : decode cX1_update 13 = .ok (.getfield 61, 3) := dk_180 0 61 (dk_at dksX1_update_0 13 rfl rfl)
theorem dX1_update_16 : decode cX1_update 16 = .ok (.ifCond .eq 86, 3) := dk_153 0 86 (dk_at dksX1_update_0 16 rfl rfl)
theorem dX1_update_19 : decode cX1_update 19 = .ok (.bipush 64, 2) := dk_16 64 (dk_at dksX1_update_0 19 rfl rfl)
theorem dX1_update_21 : decode cX1_update 21 = .ok (.aload_n 0, 1) := dk_42 (dk_at dksX1_update_0 21 rfl rfl)
theorem dX1_update_22 : decode cX1_update 22 = .ok (.getfield 61, 3) := dk_180 0 61 (dk_at dksX1_update_1 0 rfl rfl)
theorem dX1_update_25 : decode cX1_update 25 = .ok (.isub, 1) := dk_100 (dk_at dksX1_update_1 3 rfl rfl)
theorem dX1_update_26 : decode cX1_update 26 = .ok (.istore 4, 2) := dk_54 4 (dk_at dksX1_update_1 4 rfl rfl)
theorem dX1_update_28 : decode cX1_update 28 = .ok (.iload 4, 2) := dk_21 4 (dk_at dksX1_update_1 6 rfl rfl)
theorem dX1_update_30 : decode cX1_update 30 = .ok (.iload_n 3, 1) := dk_29 (dk_at dksX1_update_1 8 rfl rfl)
theorem dX1_update_31 : decode cX1_update 31 = .ok (.if_icmp .lt 28, 3) := dk_161 0 28 (dk_at dksX1_update_1 9 rfl rfl)
theorem dX1_update_34 : decode cX1_update 34 = .ok (.aload_n 1, 1) := dk_43 (dk_at dksX1_update_1 12 rfl rfl)
theorem dX1_update_35 : decode cX1_update 35 = .ok (.iload_n 2, 1) := dk_28 (dk_at dksX1_update_1 13 rfl rfl)
theorem dX1_update_36 : decode cX1_update 36 = .ok (.aload_n 0, 1) := dk_42 (dk_at dksX1_update_1 14 rfl rfl)
theorem dX1_update_37 : decode cX1_update 37 = .ok (.getfield 58, 3) := dk_180 0 58 (dk_at dksX1_update_1 15 rfl rfl)
theorem dX1_update_40 : decode cX1_update 40 = .ok (.aload_n 0, 1) := dk_42 (dk_at dksX1_update_1 18 rfl rfl)
theorem dX1_update_41 : decode cX1_update 41 = .ok (.getfield 61, 3) := dk_180 0 61 (dk_at dksX1_update_1 19 rfl rfl)
theorem dX1_update_44 : decode cX1_update 44 = .ok (.iload_n 3, 1) := dk_29 (dk_at dksX1_update_1 22 rfl rfl)
theorem dX1_update_45 : decode cX1_update 45 = .ok (.invokestatic 99, 3) := dk_184 0 99 (dk_at dksX1_update_2 0 rfl rfl)
theorem dX1_update_48 : decode cX1_update 48 = .ok (.aload_n 0, 1) := dk_42 (dk_at dksX1_update_2 3 rfl rfl)
theorem dX1_update_49 : decode cX1_update 49 = .ok (.dup, 1) := dk_89 (dk_at dksX1_update_2 4 rfl rfl)
theorem dX1_update_50 : decode cX1_update 50 = .ok (.getfield 61, 3) := dk_180 0 61 (dk_at dksX1_update_2 5 rfl rfl)
theorem dX1_update_53 : decode cX1_update 53 = .ok (.iload_n 3, 1) := dk_29 (dk_at dksX1_update_2 8 rfl rfl)
theorem dX1_update_54 : decode cX1_update 54 = .ok (.iadd, 1) := dk_96 (dk_at dksX1_update_2 9 rfl rfl)
theorem dX1_update_55 : decode cX1_update 55 = .ok (.putfield 61, 3) := dk_181 0 61 (dk_at dksX1_update_2 10 rfl rfl)
theorem dX1_update_58 : decode cX1_update 58 = .ok (.return_, 1) := dk_177 (dk_at dksX1_update_2 13 rfl rfl)
theorem dX1_update_59 : decode cX1_update 59 = .ok (.aload_n 1, 1) := dk_43 (dk_at dksX1_update_2 14 rfl rfl)
theorem dX1_update_60 : decode cX1_update 60 = .ok (.iload_n 2, 1) := dk_28 (dk_at dksX1_update_2 15 rfl rfl)
theorem dX1_update_61 : decode cX1_update 61 = .ok (.aload_n 0, 1) := dk_42 (dk_at dksX1_update_2 16 rfl rfl)
theorem dX1_update_62 : decode cX1_update 62 = .ok (.getfield 58, 3) := dk_180 0 58 (dk_at dksX1_update_2 17 rfl rfl)
theorem dX1_update_65 : decode cX1_update 65 = .ok (.aload_n 0, 1) := dk_42 (dk_at dksX1_update_2 20 rfl rfl)
theorem dX1_update_66 : decode cX1_update 66 = .ok (.getfield 61, 3) := dk_180 0 61 (dk_at dksX1_update_2 21 rfl rfl)
theorem dX1_update_69 : decode cX1_update 69 = .ok (.iload 4, 2) := dk_21 4 (dk_at dksX1_update_3 0 rfl rfl)
theorem dX1_update_71 : decode cX1_update 71 = .ok (.invokestatic 99, 3) := dk_184 0 99 (dk_at dksX1_update_3 2 rfl rfl)
theorem dX1_update_74 : decode cX1_update 74 = .ok (.aload_n 0, 1) := dk_42 (dk_at dksX1_update_3 5 rfl rfl)
theorem dX1_update_75 : decode cX1_update 75 = .ok (.bipush 64, 2) := dk_16 64 (dk_at dksX1_update_3 6 rfl rfl)
theorem dX1_update_77 : decode cX1_update 77 = .ok (.invokevirtual 118, 3) := dk_182 0 118 (dk_at dksX1_update_3 8 rfl rfl)
theorem dX1_update_80 : decode cX1_update 80 = .ok (.aload_n 0, 1) := dk_42 (dk_at dksX1_update_3 11 rfl rfl)
theorem dX1_update_81 : decode cX1_update 81 = .ok (.aload_n 0, 1) := dk_42 (dk_at dksX1_update_3 12 rfl rfl)
theorem dX1_update_82 : decode cX1_update 82 = .ok (.getfield 58, 3) := dk_180 0 58 (dk_at dksX1_update_3 13 rfl rfl)
theorem dX1_update_85 : decode cX1_update 85 = .ok (.iconst 0, 1) := dk_3 (dk_at dksX1_update_3 16 rfl rfl)
theorem dX1_update_86 : decode cX1_update 86 = .ok (.invokevirtual 122, 3) := dk_182 0 122 (dk_at dksX1_update_3 17 rfl rfl)
theorem dX1_update_89 : decode cX1_update 89 = .ok (.aload_n 0, 1) := dk_42 (dk_at dksX1_update_3 20 rfl rfl)
theorem dX1_update_90 : decode cX1_update 90 = .ok (.iconst 0, 1) := dk_3 (dk_at dksX1_update_3 21 rfl rfl)
theorem dX1_update_91 : decode cX1_update 91 = .ok (.putfield 61, 3) := dk_181 0 61 (dk_at dksX1_update_4 0 rfl rfl)
theorem dX1_update_94 : decode cX1_update 94 = .ok (.aload_n 0, 1) := dk_42 (dk_at dksX1_update_4 3 rfl rfl)
theorem dX1_update_95 : decode cX1_update 95 = .ok (.getfield 58, 3) := dk_180 0 58 (dk_at dksX1_update_4 4 rfl rfl)
theorem dX1_update_98 : decode cX1_update 98 = .ok (.iconst 0, 1) := dk_3 (dk_at dksX1_update_4 7 rfl rfl)
theorem dX1_update_99 : decode cX1_update 99 = .ok (.invokestatic 126, 3) := dk_184 0 126 (dk_at dksX1_update_4 8 rfl rfl)
theorem dX1_update_102 : decode cX1_update 102 = .ok (.iload_n 2, 1) := dk_28 (dk_at dksX1_update_4 11 rfl rfl)
theorem dX1_update_103 : decode cX1_update 103 = .ok (.iload_n 3, 1) := dk_29 (dk_at dksX1_update_4 12 rfl rfl)
theorem dX1_update_104 : decode cX1_update 104 = .ok (.iadd, 1) := dk_96 (dk_at dksX1_update_4 13 rfl rfl)
theorem dX1_update_105 : decode cX1_update 105 = .ok (.bipush 64, 2) := dk_16 64 (dk_at dksX1_update_4 14 rfl rfl)
theorem dX1_update_107 : decode cX1_update 107 = .ok (.isub, 1) := dk_100 (dk_at dksX1_update_4 16 rfl rfl)
theorem dX1_update_108 : decode cX1_update 108 = .ok (.istore 5, 2) := dk_54 5 (dk_at dksX1_update_4 17 rfl rfl)
theorem dX1_update_110 : decode cX1_update 110 = .ok (.iload_n 2, 1) := dk_28 (dk_at dksX1_update_4 19 rfl rfl)
theorem dX1_update_111 : decode cX1_update 111 = .ok (.iload 4, 2) := dk_21 4 (dk_at dksX1_update_4 20 rfl rfl)
theorem dX1_update_113 : decode cX1_update 113 = .ok (.iadd, 1) := dk_96 (dk_at dksX1_update_4 22 rfl rfl)
theorem dX1_update_114 : decode cX1_update 114 = .ok (.istore 6, 2) := dk_54 6 (dk_at dksX1_update_5 0 rfl rfl)
theorem dX1_update_116 : decode cX1_update 116 = .ok (.iload 6, 2) := dk_21 6 (dk_at dksX1_update_5 2 rfl rfl)
theorem dX1_update_118 : decode cX1_update 118 = .ok (.iload 5, 2) := dk_21 5 (dk_at dksX1_update_5 4 rfl rfl)
theorem dX1_update_120 : decode cX1_update 120 = .ok (.if_icmp .ge 22, 3) := dk_162 0 22 (dk_at dksX1_update_5 6 rfl rfl)
theorem dX1_update_123 : decode cX1_update 123 = .ok (.aload_n 0, 1) := dk_42 (dk_at dksX1_update_5 9 rfl rfl)
theorem dX1_update_124 : decode cX1_update 124 = .ok (.bipush 64, 2) := dk_16 64 (dk_at dksX1_update_5 10 rfl rfl)
theorem dX1_update_126 : decode cX1_update 126 = .ok (.invokevirtual 118, 3) := dk_182 0 118 (dk_at dksX1_update_5 12 rfl rfl)
theorem dX1_update_129 : decode cX1_update 129 = .ok (.aload_n 0, 1) := dk_42 (dk_at dksX1_update_5 15 rfl rfl)
theorem dX1_update_130 : decode cX1_update 130 = .ok (.aload_n 1, 1) := dk_43 (dk_at dksX1_update_5 16 rfl rfl)
theorem dX1_update_131 : decode cX1_update 131 = .ok (.iload 6, 2) := dk_21 6 (dk_at dksX1_update_5 17 rfl rfl)
theorem dX1_update_133 : decode cX1_update 133 = .ok (.invokevirtual 122, 3) := dk_182 0 122 (dk_at dksX1_update_5 19 rfl rfl)
theorem dX1_update_136 : decode cX1_update 136 = .ok (.iinc 6 64, 3) := dk_132 6 64 (dk_at dksX1_update_6 0 rfl rfl)
theorem dX1_update_139 : decode cX1_update 139 = .ok (.goto (-23), 3) := dk_167 255 233 (dk_at dksX1_update_6 3 rfl rfl)
theorem dX1_update_142 : decode cX1_update 142 = .ok (.aload_n 1, 1) := dk_43 (dk_at dksX1_update_6 6 rfl rfl)
theorem dX1_update_143 : decode cX1_update 143 = .ok (.iload 6, 2) := dk_21 6 (dk_at dksX1_update_6 7 rfl rfl)
theorem dX1_update_145 : decode cX1_update 145 = .ok (.aload_n 0, 1) := dk_42 (dk_at dksX1_update_6 9 rfl rfl)
theorem dX1_update_146 : decode cX1_update 146 = .ok (.getfield 58, 3) := dk_180 0 58 (dk_at dksX1_update_6 10 rfl rfl)
theorem dX1_update_149 : decode cX1_update 149 = .ok (.iconst 0, 1) := dk_3 (dk_at dksX1_update_6 13 rfl rfl)
theorem dX1_update_150 : decode cX1_update 150 = .ok (.iload_n 2, 1) := dk_28 (dk_at dksX1_update_6 14 rfl rfl)
theorem dX1_update_151 : decode cX1_update 151 = .ok (.iload_n 3, 1) := dk_29 (dk_at dksX1_update_6 15 rfl rfl)
theorem dX1_update_152 : decode cX1_update 152 = .ok (.iadd, 1) := dk_96 (dk_at dksX1_update_6 16 rfl rfl)
theorem dX1_update_153 : decode cX1_update 153 = .ok (.iload 6, 2) := dk_21 6 (dk_at dksX1_update_6 17 rfl rfl)
theorem dX1_update_155 : decode cX1_update 155 = .ok (.isub, 1) := dk_100 (dk_at dksX1_update_6 19 rfl rfl)
theorem dX1_update_156 : decode cX1_update 156 = .ok (.invokestatic 99, 3) := dk_184 0 99 (dk_at dksX1_update_6 20 rfl rfl)
theorem dX1_update_159 : decode cX1_update 159 = .ok (.aload_n 0, 1) := dk_42 (dk_at dksX1_update_6 23 rfl rfl)
theorem dX1_update_160 : decode cX1_update 160 = .ok (.dup, 1) := dk_89 (dk_at dksX1_update_7 0 rfl rfl)
theorem dX1_update_161 : decode cX1_update 161 = .ok (.getfield 61, 3) := dk_180 0 61 (dk_at dksX1_update_7 1 rfl rfl)
theorem dX1_update_164 : decode cX1_update 164 = .ok (.iload_n 2, 1) := dk_28 (dk_at dksX1_update_7 4 rfl rfl)
theorem dX1_update_165 : decode cX1_update 165 = .ok (.iload_n 3, 1) := dk_29 (dk_at dksX1_update_7 5 rfl rfl)
theorem dX1_update_166 : decode cX1_update 166 = .ok (.iadd, 1) := dk_96 (dk_at dksX1_update_7 6 rfl rfl)
theorem dX1_update_167 : decode cX1_update 167 = .ok (.iload 6, 2) := dk_21 6 (dk_at dksX1_update_7 7 rfl rfl)
theorem dX1_update_169 : decode cX1_update 169 = .ok (.isub, 1) := dk_100 (dk_at dksX1_update_7 9 rfl rfl)
theorem dX1_update_170 : decode cX1_update 170 = .ok (.iadd, 1) := dk_96 (dk_at dksX1_update_7 10 rfl rfl)
theorem dX1_update_171 : decode cX1_update 171 = .ok (.putfield 61, 3) := dk_181 0 61 (dk_at dksX1_update_7 11 rfl rfl)
theorem dX1_update_174 : decode cX1_update 174 = .ok (.return_, 1) := dk_177 (dk_at dksX1_update_7 14 rfl rfl)
abbrev cX1_incrementCounter : ByteArray := prog_1_method_11_code
def yX1_incrementCounter : MethodName := ⟨RX1, "incrementCounter", "(I)V"⟩
def dkwX1_incrementCounter_1 : List UInt8 := [180, 0, 74, 4, 96, 181, 0, 74, 177]
abbrev dktX1_incrementCounter_1 : List UInt8 := dkwX1_incrementCounter_1 ++ []
def dkwX1_incrementCounter_0 : List UInt8 := [42, 89, 180, 0, 71, 27, 96, 181, 0, 71, 42, 180, 0, 71, 27, 184, 0, 171, 156, 0, 13, 42, 89]
abbrev dktX1_incrementCounter_0 : List UInt8 := dkwX1_incrementCounter_0 ++ dktX1_incrementCounter_1
theorem dksX1_incrementCounter_0 : cX1_incrementCounter.data.toList.drop 0 = dktX1_incrementCounter_0 := by decide +kernel
theorem dksX1_incrementCounter_1 : cX1_incrementCounter.data.toList.drop 23 = dktX1_incrementCounter_1 := dk_seg dksX1_incrementCounter_0 23 rfl rfl
theorem dX1_incrementCounter_0 : decode cX1_incrementCounter 0 = .ok (.aload_n 0, 1) := dk_42 (dk_at dksX1_incrementCounter_0 0 rfl rfl)
theorem dX1_incrementCounter_1 : decode cX1_incrementCounter 1 = .ok (.dup, 1) := dk_89 (dk_at dksX1_incrementCounter_0 1 rfl rfl)
theorem dX1_incrementCounter_2 : decode cX1_incrementCounter 2 = .ok (.getfield 71, 3) := dk_180 0 71 (dk_at dksX1_incrementCounter_0 2 rfl rfl)
theorem dX1_incrementCounter_5 : decode cX1_incrementCounter 5 = .ok (.iload_n 1, 1) := dk_27 (dk_at dksX1_incrementCounter_0 5 rfl rfl)
theorem dX1_incrementCounter_6 : decode cX1_incrementCounter 6 = .ok (.iadd, 1) := dk_96 (dk_at dksX1_incrementCounter_0 6 rfl rfl)
theorem dX1_incrementCounter_7 : decode cX1_incrementCounter 7 = .ok (.putfield 71, 3) := dk_181 0 71 (dk_at dksX1_incrementCounter_0 7 rfl rfl)
theorem dX1_incrementCounter_10 : decode cX1_incrementCounter 10 = .ok (.aload_n 0, 1) := dk_42 (dk_at dksX1_incrementCounter_0 10 rfl rfl)
theorem dX1_incrementCounter_11 : decode cX1_incrementCounter 11 = .ok (.getfield 71, 3) := dk_180 0 71 (dk_at dksX1_incrementCounter_0 11 rfl rfl)
theorem dX1_incrementCounter_14 : decode cX1_incrementCounter 14 = .ok (.iload_n 1, 1) := dk_27 (dk_at dksX1_incrementCounter_0 14 rfl rfl)
theorem dX1_incrementCounter_15 : decode cX1_incrementCounter 15 = .ok (.invokestatic 171, 3) := dk_184 0 171 (dk_at dksX1_incrementCounter_0 15 rfl rfl)
theorem dX1_incrementCounter_18 : decode cX1_incrementCounter 18 = .ok (.ifCond .ge 13, 3) := dk_156 0 13 (dk_at dksX1_incrementCounter_0 18 rfl rfl)
theorem dX1_incrementCounter_21 : decode cX1_incrementCounter 21 = .ok (.aload_n 0, 1) := dk_42 (dk_at dksX1_incrementCounter_0 21 rfl rfl)
theorem dX1_incrementCounter_22 : decode cX1_incrementCounter 22 = .ok (.dup, 1) := dk_89 (dk_at dksX1_incrementCounter_0 22 rfl rfl)
theorem dX1_incrementCounter_23 : decode cX1_incrementCounter 23 = .ok (.getfield 74, 3) := dk_180 0 74 (dk_at dksX1_incrementCounter_1 0 rfl rfl)
theorem dX1_incrementCounter_26 : decode cX1_incrementCounter 26 = .ok (.iconst 1, 1) := dk_4 (dk_at dksX1_incrementCounter_1 3 rfl rfl)
theorem dX1_incrementCounter_27 : decode cX1_incrementCounter 27 = .ok (.iadd, 1) := dk_96 (dk_at dksX1_incrementCounter_1 4 rfl rfl)
theorem dX1_incrementCounter_28 : decode cX1_incrementCounter 28 = .ok (.putfield 74, 3) := dk_181 0 74 (dk_at dksX1_incrementCounter_1 5 rfl rfl)
theorem dX1_incrementCounter_31 : decode cX1_incrementCounter 31 = .ok (.return_, 1) := dk_177 (dk_at dksX1_incrementCounter_1 8 rfl rfl)
abbrev cX1_compress : ByteArray := prog_1_method_9_code
def yX1_compress : MethodName := ⟨RX1, "compress", "([BI)V"⟩
def dkwX1_compress_14 : List UInt8 := [130, 79, 132, 4, 1, 167, 255, 210, 177]
abbrev dktX1_compress_14 : List UInt8 := dkwX1_compress_14 ++ []
def dkwX1_compress_13 : List UInt8 := [180, 0, 68, 21, 4, 46, 42, 180, 0, 64, 21, 4, 46, 130, 42, 180, 0, 64, 21, 4, 16, 8, 96, 46]
abbrev dktX1_compress_13 : List UInt8 := dkwX1_compress_13 ++ dktX1_compress_14
def dkwX1_compress_12 : List UInt8 := [167, 254, 248, 3, 54, 4, 21, 4, 42, 180, 0, 68, 190, 162, 0, 42, 42, 180, 0, 68, 21, 4, 42]
abbrev dktX1_compress_12 : List UInt8 := dkwX1_compress_12 ++ dktX1_compress_13
def dkwX1_compress_11 : List UInt8 := [45, 178, 0, 157, 21, 4, 50, 16, 15, 51, 46, 6, 7, 16, 9, 16, 14, 182, 0, 161, 132, 4, 1]
abbrev dktX1_compress_11 : List UInt8 := dkwX1_compress_11 ++ dktX1_compress_12
def dkwX1_compress_10 : List UInt8 := [51, 46, 5, 16, 7, 16, 8, 16, 13, 182, 0, 161, 42, 45, 178, 0, 157, 21, 4, 50, 16, 14, 51, 46]
abbrev dktX1_compress_10 : List UInt8 := dkwX1_compress_10 ++ dktX1_compress_11
def dkwX1_compress_9 : List UInt8 := [182, 0, 161, 42, 45, 178, 0, 157, 21, 4, 50, 16, 12, 51, 46, 45, 178, 0, 157, 21, 4, 50, 16, 13]
abbrev dktX1_compress_9 : List UInt8 := dkwX1_compress_9 ++ dktX1_compress_10
def dkwX1_compress_8 : List UInt8 := [16, 10, 51, 46, 45, 178, 0, 157, 21, 4, 50, 16, 11, 51, 46, 4, 16, 6, 16, 11, 16, 12]
abbrev dktX1_compress_8 : List UInt8 := dkwX1_compress_8 ++ dktX1_compress_9
def dkwX1_compress_7 : List UInt8 := [21, 4, 50, 16, 9, 51, 46, 3, 8, 16, 10, 16, 15, 182, 0, 161, 42, 45, 178, 0, 157, 21, 4, 50]
abbrev dktX1_compress_7 : List UInt8 := dkwX1_compress_7 ++ dktX1_compress_8
def dkwX1_compress_6 : List UInt8 := [16, 11, 16, 15, 182, 0, 161, 42, 45, 178, 0, 157, 21, 4, 50, 16, 8, 51, 46, 45, 178, 0, 157]
abbrev dktX1_compress_6 : List UInt8 := dkwX1_compress_6 ++ dktX1_compress_7
def dkwX1_compress_5 : List UInt8 := [178, 0, 157, 21, 4, 50, 16, 6, 51, 46, 45, 178, 0, 157, 21, 4, 50, 16, 7, 51, 46, 6, 16, 7]
abbrev dktX1_compress_5 : List UInt8 := dkwX1_compress_5 ++ dktX1_compress_6
def dkwX1_compress_4 : List UInt8 := [51, 46, 45, 178, 0, 157, 21, 4, 50, 8, 51, 46, 5, 16, 6, 16, 10, 16, 14, 182, 0, 161, 42, 45]
abbrev dktX1_compress_4 : List UInt8 := dkwX1_compress_4 ++ dktX1_compress_5
def dkwX1_compress_3 : List UInt8 := [21, 4, 50, 6, 51, 46, 4, 8, 16, 9, 16, 13, 182, 0, 161, 42, 45, 178, 0, 157, 21, 4, 50, 7]
abbrev dktX1_compress_3 : List UInt8 := dkwX1_compress_3 ++ dktX1_compress_4
def dkwX1_compress_2 : List UInt8 := [3, 7, 16, 8, 16, 12, 182, 0, 161, 42, 45, 178, 0, 157, 21, 4, 50, 5, 51, 46, 45, 178, 0, 157]
abbrev dktX1_compress_2 : List UInt8 := dkwX1_compress_2 ++ dktX1_compress_3
def dkwX1_compress_1 : List UInt8 := [162, 1, 7, 42, 45, 178, 0, 157, 21, 4, 50, 3, 51, 46, 45, 178, 0, 157, 21, 4, 50, 4, 51, 46]
abbrev dktX1_compress_1 : List UInt8 := dkwX1_compress_1 ++ dktX1_compress_2
def dkwX1_compress_0 : List UInt8 := [42, 182, 0, 151, 16, 16, 188, 10, 78, 43, 28, 45, 184, 0, 154, 3, 54, 4, 21, 4, 16, 10]
abbrev dktX1_compress_0 : List UInt8 := dkwX1_compress_0 ++ dktX1_compress_1
theorem dksX1_compress_0 : cX1_compress.data.toList.drop 0 = dktX1_compress_0 := by decide +kernel
theorem dksX1_compress_1 : cX1_compress.data.toList.drop 22 = dktX1_compress_1 := dk_seg dksX1_compress_0 22 rfl rfl
theorem dksX1_compress_2 : cX1_compress.data.toList.drop 46 = dktX1_compress_2 := dk_seg dksX1_compress_1 24 rfl rfl
theorem dksX1_compress_3 : cX1_compress.data.toList.drop 70 = dktX1_compress_3 := dk_seg dksX1_compress_2 24 rfl rfl
theorem dksX1_compress_4 : cX1_compress.data.toList.drop 94 = dktX1_compress_4 := dk_seg dksX1_compress_3 24 rfl rfl
theorem dksX1_compress_5 : cX1_compress.data.toList.drop 118 = dktX1_compress_5 := dk_seg dksX1_compress_4 24 rfl rfl
theorem dksX1_compress_6 : cX1_compress.data.toList.drop 142 = dktX1_compress_6 := dk_seg dksX1_compress_5 24 rfl rfl
theorem dksX1_compress_7 : cX1_compress.data.toList.drop 165 = dktX1_compress_7 := dk_seg dksX1_compress_6 23 rfl rfl
theorem dksX1_compress_8 : cX1_compress.data.toList.drop 189 = dktX1_compress_8 := dk_seg dksX1_compress_7 24 rfl rfl
theorem dksX1_compress_9 : cX1_compress.data.toList.drop 211 = dktX1_compress_9 := dk_seg dksX1_compress_8 22 rfl rfl
theorem dksX1_compress_10 : cX1_compress.data.toList.drop 235 = dktX1_compress_10 := dk_seg dksX1_compress_9 24 rfl rfl
theorem dksX1_compress_11 : cX1_compress.data.toList.drop 259 = dktX1_compress_11 := dk_seg dksX1_compress_10 24 rfl rfl
theorem dksX1_compress_12 : cX1_compress.data.toList.drop 282 = dktX1_compress_12 := dk_seg dksX1_compress_11 23 rfl rfl
theorem dksX1_compress_13 : cX1_compress.data.toList.drop 305 = dktX1_compress_13 := dk_seg dksX1_compress_12 23 rfl rfl
theorem dksX1_compress_14 : cX1_compress.data.toList.drop 329 = dktX1_compress_14 := dk_seg dksX1_compress_13 24 rfl rfl
theorem dX1_compress_0 : decode cX1_compress 0 = .ok (.aload_n 0, 1) := dk_42 (dk_at dksX1_compress_0 0 rfl rfl)
theorem dX1_compress_1 : decode cX1_compress 1 = .ok (.invokevirtual 151, 3) := dk_182 0 151 (dk_at dksX1_compress_0 1 rfl rfl)
theorem dX1_compress_4 : decode cX1_compress 4 = .ok (.bipush 16, 2) := dk_16 16 (dk_at dksX1_compress_0 4 rfl rfl)
theorem dX1_compress_6 : decode cX1_compress 6 = .ok (.newarray .int, 2) := dk_188_10 (dk_at dksX1_compress_0 6 rfl rfl)
theorem dX1_compress_8 : decode cX1_compress 8 = .ok (.astore_n 3, 1) := dk_78 (dk_at dksX1_compress_0 8 rfl rfl)
theorem dX1_compress_9 : decode cX1_compress 9 = .ok (.aload_n 1, 1) := dk_43 (dk_at dksX1_compress_0 9 rfl rfl)
theorem dX1_compress_10 : decode cX1_compress 10 = .ok (.iload_n 2, 1) := dk_28 (dk_at dksX1_compress_0 10 rfl rfl)
theorem dX1_compress_11 : decode cX1_compress 11 = .ok (.aload_n 3, 1) := dk_45 (dk_at dksX1_compress_0 11 rfl rfl)
theorem dX1_compress_12 : decode cX1_compress 12 = .ok (.invokestatic 154, 3) := dk_184 0 154 (dk_at dksX1_compress_0 12 rfl rfl)
theorem dX1_compress_15 : decode cX1_compress 15 = .ok (.iconst 0, 1) := dk_3 (dk_at dksX1_compress_0 15 rfl rfl)
theorem dX1_compress_16 : decode cX1_compress 16 = .ok (.istore 4, 2) := dk_54 4 (dk_at dksX1_compress_0 16 rfl rfl)
theorem dX1_compress_18 : decode cX1_compress 18 = .ok (.iload 4, 2) := dk_21 4 (dk_at dksX1_compress_0 18 rfl rfl)
theorem dX1_compress_20 : decode cX1_compress 20 = .ok (.bipush 10, 2) := dk_16 10 (dk_at dksX1_compress_0 20 rfl rfl)
theorem dX1_compress_22 : decode cX1_compress 22 = .ok (.if_icmp .ge 263, 3) := dk_162 1 7 (dk_at dksX1_compress_1 0 rfl rfl)
theorem dX1_compress_25 : decode cX1_compress 25 = .ok (.aload_n 0, 1) := dk_42 (dk_at dksX1_compress_1 3 rfl rfl)
theorem dX1_compress_26 : decode cX1_compress 26 = .ok (.aload_n 3, 1) := dk_45 (dk_at dksX1_compress_1 4 rfl rfl)
theorem dX1_compress_27 : decode cX1_compress 27 = .ok (.getstatic 157, 3) := dk_178 0 157 (dk_at dksX1_compress_1 5 rfl rfl)
theorem dX1_compress_30 : decode cX1_compress 30 = .ok (.iload 4, 2) := dk_21 4 (dk_at dksX1_compress_1 8 rfl rfl)
theorem dX1_compress_32 : decode cX1_compress 32 = .ok (.aaload, 1) := dk_50 (dk_at dksX1_compress_1 10 rfl rfl)
theorem dX1_compress_33 : decode cX1_compress 33 = .ok (.iconst 0, 1) := dk_3 (dk_at dksX1_compress_1 11 rfl rfl)
theorem dX1_compress_34 : decode cX1_compress 34 = .ok (.baload, 1) := dk_51 (dk_at dksX1_compress_1 12 rfl rfl)
theorem dX1_compress_35 : decode cX1_compress 35 = .ok (.iaload, 1) := dk_46 (dk_at dksX1_compress_1 13 rfl rfl)
theorem dX1_compress_36 : decode cX1_compress 36 = .ok (.aload_n 3, 1) := dk_45 (dk_at dksX1_compress_1 14 rfl rfl)
theorem dX1_compress_37 : decode cX1_compress 37 = .ok (.getstatic 157, 3) := dk_178 0 157 (dk_at dksX1_compress_1 15 rfl rfl)
theorem dX1_compress_40 : decode cX1_compress 40 = .ok (.iload 4, 2) := dk_21 4 (dk_at dksX1_compress_1 18 rfl rfl)
theorem dX1_compress_42 : decode cX1_compress 42 = .ok (.aaload, 1) := dk_50 (dk_at dksX1_compress_1 20 rfl rfl)
theorem dX1_compress_43 : decode cX1_compress 43 = .ok (.iconst 1, 1) := dk_4 (dk_at dksX1_compress_1 21 rfl rfl)
theorem dX1_compress_44 : decode cX1_compress 44 = .ok (.baload, 1) := dk_51 (dk_at dksX1_compress_1 22 rfl rfl)
theorem dX1_compress_45 : decode cX1_compress 45 = .ok (.iaload, 1) := dk_46 (dk_at dksX1_compress_1 23 rfl rfl)
theorem dX1_compress_46 : decode cX1_compress 46 = .ok (.iconst 0, 1) := dk_3 (dk_at dksX1_compress_2 0 rfl rfl)
theorem dX1_compress_47 : decode cX1_compress 47 = .ok (.iconst 4, 1) := dk_7 (dk_at dksX1_compress_2 1 rfl rfl)
theorem dX1_compress_48 : decode cX1_compress 48 = .ok (.bipush 8, 2) := dk_16 8 (dk_at dksX1_compress_2 2 rfl rfl)
theorem dX1_compress_50 : decode cX1_compress 50 = .ok (.bipush 12, 2) := dk_16 12 (dk_at dksX1_compress_2 4 rfl rfl)
theorem dX1_compress_52 : decode cX1_compress 52 = .ok (.invokevirtual 161, 3) := dk_182 0 161 (dk_at dksX1_compress_2 6 rfl rfl)
theorem dX1_compress_55 : decode cX1_compress 55 = .ok (.aload_n 0, 1) := dk_42 (dk_at dksX1_compress_2 9 rfl rfl)
theorem dX1_compress_56 : decode cX1_compress 56 = .ok (.aload_n 3, 1) := dk_45 (dk_at dksX1_compress_2 10 rfl rfl)
theorem dX1_compress_57 : decode cX1_compress 57 = .ok (.getstatic 157, 3) := dk_178 0 157 (dk_at dksX1_compress_2 11 rfl rfl)
theorem dX1_compress_60 : decode cX1_compress 60 = .ok (.iload 4, 2) := dk_21 4 (dk_at dksX1_compress_2 14 rfl rfl)
theorem dX1_compress_62 : decode cX1_compress 62 = .ok (.aaload, 1) := dk_50 (dk_at dksX1_compress_2 16 rfl rfl)
theorem dX1_compress_63 : decode cX1_compress 63 = .ok (.iconst 2, 1) := dk_5 (dk_at dksX1_compress_2 17 rfl rfl)
theorem dX1_compress_64 : decode cX1_compress 64 = .ok (.baload, 1) := dk_51 (dk_at dksX1_compress_2 18 rfl rfl)
theorem dX1_compress_65 : decode cX1_compress 65 = .ok (.iaload, 1) := dk_46 (dk_at dksX1_compress_2 19 rfl rfl)
theorem dX1_compress_66 : decode cX1_compress 66 = .ok (.aload_n 3, 1) := dk_45 (dk_at dksX1_compress_2 20 rfl rfl)
theorem dX1_compress_67 : decode cX1_compress 67 = .ok (.getstatic 157, 3) := dk_178 0 157 (dk_at dksX1_compress_2 21 rfl rfl)
theorem dX1_compress_70 : decode cX1_compress 70 = .ok (.iload 4, 2) := dk_21 4 (dk_at dksX1_compress_3 0 rfl rfl)
theorem dX1_compress_72 : decode cX1_compress 72 = .ok (.aaload, 1) := dk_50 (dk_at dksX1_compress_3 2 rfl rfl)
theorem dX1_compress_73 : decode cX1_compress 73 = .ok (.iconst 3, 1) := dk_6 (dk_at dksX1_compress_3 3 rfl rfl)
theorem dX1_compress_74 : decode cX1_compress 74 = .ok (.baload, 1) := dk_51 (dk_at dksX1_compress_3 4 rfl rfl)
theorem dX1_compress_75 : decode cX1_compress 75 = .ok (.iaload, 1) := dk_46 (dk_at dksX1_compress_3 5 rfl rfl)
theorem dX1_compress_76 : decode cX1_compress 76 = .ok (.iconst 1, 1) := dk_4 (dk_at dksX1_compress_3 6 rfl rfl)
theorem dX1_compress_77 : decode cX1_compress 77 = .ok (.iconst 5, 1) := dk_8 (dk_at dksX1_compress_3 7 rfl rfl)
theorem dX1_compress_78 : decode cX1_compress 78 = .ok (.bipush 9, 2) := dk_16 9 (dk_at dksX1_compress_3 8 rfl rfl)
theorem dX1_compress_80 : decode cX1_compress 80 = .ok (.bipush 13, 2) := dk_16 13 (dk_at dksX1_compress_3 10 rfl rfl)
theorem dX1_compress_82 : decode cX1_compress 82 = .ok (.invokevirtual 161, 3) := dk_182 0 161 (dk_at dksX1_compress_3 12 rfl rfl)
theorem dX1_compress_85 : decode cX1_compress 85 = .ok (.aload_n 0, 1) := dk_42 (dk_at dksX1_compress_3 15 rfl rfl)
theorem dX1_compress_86 : decode cX1_compress 86 = .ok (.aload_n 3, 1) := dk_45 (dk_at dksX1_compress_3 16 rfl rfl)
theorem dX1_compress_87 : decode cX1_compress 87 = .ok (.getstatic 157, 3) := dk_178 0 157 (dk_at dksX1_compress_3 17 rfl rfl)
theorem dX1_compress_90 : decode cX1_compress 90 = .ok (.iload 4, 2) := dk_21 4 (dk_at dksX1_compress_3 20 rfl rfl)
theorem dX1_compress_92 : decode cX1_compress 92 = .ok (.aaload, 1) := dk_50 (dk_at dksX1_compress_3 22 rfl rfl)
theorem dX1_compress_93 : decode cX1_compress 93 = .ok (.iconst 4, 1) := dk_7 (dk_at dksX1_compress_3 23 rfl rfl)
theorem dX1_compress_94 : decode cX1_compress 94 = .ok (.baload, 1) := dk_51 (dk_at dksX1_compress_4 0 rfl rfl)
theorem dX1_compress_95 : decode cX1_compress 95 = .ok (.iaload, 1) := dk_46 (dk_at dksX1_compress_4 1 rfl rfl)
theorem dX1_compress_96 : decode cX1_compress 96 = .ok (.aload_n 3, 1) := dk_45 (dk_at dksX1_compress_4 2 rfl rfl)
theorem dX1_compress_97 : decode cX1_compress 97 = .ok (.getstatic 157, 3) := dk_178 0 157 (dk_at dksX1_compress_4 3 rfl rfl)
theorem dX1_compress_100 : decode cX1_compress 100 = .ok (.iload 4, 2) := dk_21 4 (dk_at dksX1_compress_4 6 rfl rfl)
theorem dX1_compress_102 : decode cX1_compress 102 = .ok (.aaload, 1) := dk_50 (dk_at dksX1_compress_4 8 rfl rfl)
theorem dX1_compress_103 : decode cX1_compress 103 = .ok (.iconst 5, 1) := dk_8 (dk_at dksX1_compress_4 9 rfl rfl)
theorem dX1_compress_104 : decode cX1_compress 104 = .ok (.baload, 1) := dk_51 (dk_at dksX1_compress_4 10 rfl rfl)
theorem dX1_compress_105 : decode cX1_compress 105 = .ok (.iaload, 1) := dk_46 (dk_at dksX1_compress_4 11 rfl rfl)
theorem dX1_compress_106 : decode cX1_compress 106 = .ok (.iconst 2, 1) := dk_5 (dk_at dksX1_compress_4 12 rfl rfl)
theorem dX1_compress_107 : decode cX1_compress 107 = .ok (.bipush 6, 2) := dk_16 6 (dk_at dksX1_compress_4 13 rfl rfl)
theorem dX1_compress_109 : decode cX1_compress 109 = .ok (.bipush 10, 2) := dk_16 10 (dk_at dksX1_compress_4 15 rfl rfl)
theorem dX1_compress_111 : decode cX1_compress 111 = .ok (.bipush 14, 2) := dk_16 14 (dk_at dksX1_compress_4 17 rfl rfl)
theorem dX1_compress_113 : decode cX1_compress 113 = .ok (.invokevirtual 161, 3) := dk_182 0 161 (dk_at dksX1_compress_4 19 rfl rfl)
theorem dX1_compress_116 : decode cX1_compress 116 = .ok (.aload_n 0, 1) := dk_42 (dk_at dksX1_compress_4 22 rfl rfl)
theorem dX1_compress_117 : decode cX1_compress 117 = .ok (.aload_n 3, 1) := dk_45 (dk_at dksX1_compress_4 23 rfl rfl)
theorem dX1_compress_118 : decode cX1_compress 118 = .ok (.getstatic 157, 3) := dk_178 0 157 (dk_at dksX1_compress_5 0 rfl rfl)
theorem dX1_compress_121 : decode cX1_compress 121 = .ok (.iload 4, 2) := dk_21 4 (dk_at dksX1_compress_5 3 rfl rfl)
theorem dX1_compress_123 : decode cX1_compress 123 = .ok (.aaload, 1) := dk_50 (dk_at dksX1_compress_5 5 rfl rfl)
theorem dX1_compress_124 : decode cX1_compress 124 = .ok (.bipush 6, 2) := dk_16 6 (dk_at dksX1_compress_5 6 rfl rfl)
theorem dX1_compress_126 : decode cX1_compress 126 = .ok (.baload, 1) := dk_51 (dk_at dksX1_compress_5 8 rfl rfl)
theorem dX1_compress_127 : decode cX1_compress 127 = .ok (.iaload, 1) := dk_46 (dk_at dksX1_compress_5 9 rfl rfl)
theorem dX1_compress_128 : decode cX1_compress 128 = .ok (.aload_n 3, 1) := dk_45 (dk_at dksX1_compress_5 10 rfl rfl)
theorem dX1_compress_129 : decode cX1_compress 129 = .ok (.getstatic 157, 3) := dk_178 0 157 (dk_at dksX1_compress_5 11 rfl rfl)
theorem dX1_compress_132 : decode cX1_compress 132 = .ok (.iload 4, 2) := dk_21 4 (dk_at dksX1_compress_5 14 rfl rfl)
theorem dX1_compress_134 : decode cX1_compress 134 = .ok (.aaload, 1) := dk_50 (dk_at dksX1_compress_5 16 rfl rfl)
theorem dX1_compress_135 : decode cX1_compress 135 = .ok (.bipush 7, 2) := dk_16 7 (dk_at dksX1_compress_5 17 rfl rfl)
theorem dX1_compress_137 : decode cX1_compress 137 = .ok (.baload, 1) := dk_51 (dk_at dksX1_compress_5 19 rfl rfl)
theorem dX1_compress_138 : decode cX1_compress 138 = .ok (.iaload, 1) := dk_46 (dk_at dksX1_compress_5 20 rfl rfl)
theorem dX1_compress_139 : decode cX1_compress 139 = .ok (.iconst 3, 1) := dk_6 (dk_at dksX1_compress_5 21 rfl rfl)
theorem dX1_compress_140 : decode cX1_compress 140 = .ok (.bipush 7, 2) := dk_16 7 (dk_at dksX1_compress_5 22 rfl rfl)
theorem dX1_compress_142 : decode cX1_compress 142 = .ok (.bipush 11, 2) := dk_16 11 (dk_at dksX1_compress_6 0 rfl rfl)
theorem dX1_compress_144 : decode cX1_compress 144 = .ok (.bipush 15, 2) := dk_16 15 (dk_at dksX1_compress_6 2 rfl rfl)
theorem dX1_compress_146 : decode cX1_compress 146 = .ok (.invokevirtual 161, 3) := dk_182 0 161 (dk_at dksX1_compress_6 4 rfl rfl)
theorem dX1_compress_149 : decode cX1_compress 149 = .ok (.aload_n 0, 1) := dk_42 (dk_at dksX1_compress_6 7 rfl rfl)
theorem dX1_compress_150 : decode cX1_compress 150 = .ok (.aload_n 3, 1) := dk_45 (dk_at dksX1_compress_6 8 rfl rfl)
theorem dX1_compress_151 : decode cX1_compress 151 = .ok (.getstatic 157, 3) := dk_178 0 157 (dk_at dksX1_compress_6 9 rfl rfl)
theorem dX1_compress_154 : decode cX1_compress 154 = .ok (.iload 4, 2) := dk_21 4 (dk_at dksX1_compress_6 12 rfl rfl)
theorem dX1_compress_156 : decode cX1_compress 156 = .ok (.aaload, 1) := dk_50 (dk_at dksX1_compress_6 14 rfl rfl)
theorem dX1_compress_157 : decode cX1_compress 157 = .ok (.bipush 8, 2) := dk_16 8 (dk_at dksX1_compress_6 15 rfl rfl)
theorem dX1_compress_159 : decode cX1_compress 159 = .ok (.baload, 1) := dk_51 (dk_at dksX1_compress_6 17 rfl rfl)
theorem dX1_compress_160 : decode cX1_compress 160 = .ok (.iaload, 1) := dk_46 (dk_at dksX1_compress_6 18 rfl rfl)
theorem dX1_compress_161 : decode cX1_compress 161 = .ok (.aload_n 3, 1) := dk_45 (dk_at dksX1_compress_6 19 rfl rfl)
theorem dX1_compress_162 : decode cX1_compress 162 = .ok (.getstatic 157, 3) := dk_178 0 157 (dk_at dksX1_compress_6 20 rfl rfl)
theorem dX1_compress_165 : decode cX1_compress 165 = .ok (.iload 4, 2) := dk_21 4 (dk_at dksX1_compress_7 0 rfl rfl)
theorem dX1_compress_167 : decode cX1_compress 167 = .ok (.aaload, 1) := dk_50 (dk_at dksX1_compress_7 2 rfl rfl)
theorem dX1_compress_168 : decode cX1_compress 168 = .ok (.bipush 9, 2) := dk_16 9 (dk_at dksX1_compress_7 3 rfl rfl)
theorem dX1_compress_170 : decode cX1_compress 170 = .ok (.baload, 1) := dk_51 (dk_at dksX1_compress_7 5 rfl rfl)
theorem dX1_compress_171 : decode cX1_compress 171 = .ok (.iaload, 1) := dk_46 (dk_at dksX1_compress_7 6 rfl rfl)
theorem dX1_compress_172 : decode cX1_compress 172 = .ok (.iconst 0, 1) := dk_3 (dk_at dksX1_compress_7 7 rfl rfl)
theorem dX1_compress_173 : decode cX1_compress 173 = .ok (.iconst 5, 1) := dk_8 (dk_at dksX1_compress_7 8 rfl rfl)
theorem dX1_compress_174 : decode cX1_compress 174 = .ok (.bipush 10, 2) := dk_16 10 (dk_at dksX1_compress_7 9 rfl rfl)
theorem dX1_compress_176 : decode cX1_compress 176 = .ok (.bipush 15, 2) := dk_16 15 (dk_at dksX1_compress_7 11 rfl rfl)
theorem dX1_compress_178 : decode cX1_compress 178 = .ok (.invokevirtual 161, 3) := dk_182 0 161 (dk_at dksX1_compress_7 13 rfl rfl)
theorem dX1_compress_181 : decode cX1_compress 181 = .ok (.aload_n 0, 1) := dk_42 (dk_at dksX1_compress_7 16 rfl rfl)
theorem dX1_compress_182 : decode cX1_compress 182 = .ok (.aload_n 3, 1) := dk_45 (dk_at dksX1_compress_7 17 rfl rfl)
theorem dX1_compress_183 : decode cX1_compress 183 = .ok (.getstatic 157, 3) := dk_178 0 157 (dk_at dksX1_compress_7 18 rfl rfl)
theorem dX1_compress_186 : decode cX1_compress 186 = .ok (.iload 4, 2) := dk_21 4 (dk_at dksX1_compress_7 21 rfl rfl)
theorem dX1_compress_188 : decode cX1_compress 188 = .ok (.aaload, 1) := dk_50 (dk_at dksX1_compress_7 23 rfl rfl)
theorem dX1_compress_189 : decode cX1_compress 189 = .ok (.bipush 10, 2) := dk_16 10 (dk_at dksX1_compress_8 0 rfl rfl)
theorem dX1_compress_191 : decode cX1_compress 191 = .ok (.baload, 1) := dk_51 (dk_at dksX1_compress_8 2 rfl rfl)
theorem dX1_compress_192 : decode cX1_compress 192 = .ok (.iaload, 1) := dk_46 (dk_at dksX1_compress_8 3 rfl rfl)
theorem dX1_compress_193 : decode cX1_compress 193 = .ok (.aload_n 3, 1) := dk_45 (dk_at dksX1_compress_8 4 rfl rfl)
theorem dX1_compress_194 : decode cX1_compress 194 = .ok (.getstatic 157, 3) := dk_178 0 157 (dk_at dksX1_compress_8 5 rfl rfl)
theorem dX1_compress_197 : decode cX1_compress 197 = .ok (.iload 4, 2) := dk_21 4 (dk_at dksX1_compress_8 8 rfl rfl)
theorem dX1_compress_199 : decode cX1_compress 199 = .ok (.aaload, 1) := dk_50 (dk_at dksX1_compress_8 10 rfl rfl)
theorem dX1_compress_200 : decode cX1_compress 200 = .ok (.bipush 11, 2) := dk_16 11 (dk_at dksX1_compress_8 11 rfl rfl)
theorem dX1_compress_202 : decode cX1_compress 202 = .ok (.baload, 1) := dk_51 (dk_at dksX1_compress_8 13 rfl rfl)
theorem dX1_compress_203 : decode cX1_compress 203 = .ok (.iaload, 1) := dk_46 (dk_at dksX1_compress_8 14 rfl rfl)
theorem dX1_compress_204 : decode cX1_compress 204 = .ok (.iconst 1, 1) := dk_4 (dk_at dksX1_compress_8 15 rfl rfl)
theorem dX1_compress_205 : decode cX1_compress 205 = .ok (.bipush 6, 2) := dk_16 6 (dk_at dksX1_compress_8 16 rfl rfl)
theorem dX1_compress_207 : decode cX1_compress 207 = .ok (.bipush 11, 2) := dk_16 11 (dk_at dksX1_compress_8 18 rfl rfl)
theorem dX1_compress_209 : decode cX1_compress 209 = .ok (.bipush 12, 2) := dk_16 12 (dk_at dksX1_compress_8 20 rfl rfl)
theorem dX1_compress_211 : decode cX1_compress 211 = .ok (.invokevirtual 161, 3) := dk_182 0 161 (dk_at dksX1_compress_9 0 rfl rfl)
theorem dX1_compress_214 : decode cX1_compress 214 = .ok (.aload_n 0, 1) := dk_42 (dk_at dksX1_compress_9 3 rfl rfl)
theorem dX1_compress_215 : decode cX1_compress 215 = .ok (.aload_n 3, 1) := dk_45 (dk_at dksX1_compress_9 4 rfl rfl)
theorem dX1_compress_216 : decode cX1_compress 216 = .ok (.getstatic 157, 3) := dk_178 0 157 (dk_at dksX1_compress_9 5 rfl rfl)
theorem dX1_compress_219 : decode cX1_compress 219 = .ok (.iload 4, 2) := dk_21 4 (dk_at dksX1_compress_9 8 rfl rfl)
theorem dX1_compress_221 : decode cX1_compress 221 = .ok (.aaload, 1) := dk_50 (dk_at dksX1_compress_9 10 rfl rfl)
theorem dX1_compress_222 : decode cX1_compress 222 = .ok (.bipush 12, 2) := dk_16 12 (dk_at dksX1_compress_9 11 rfl rfl)
theorem dX1_compress_224 : decode cX1_compress 224 = .ok (.baload, 1) := dk_51 (dk_at dksX1_compress_9 13 rfl rfl)
theorem dX1_compress_225 : decode cX1_compress 225 = .ok (.iaload, 1) := dk_46 (dk_at dksX1_compress_9 14 rfl rfl)
theorem dX1_compress_226 : decode cX1_compress 226 = .ok (.aload_n 3, 1) := dk_45 (dk_at dksX1_compress_9 15 rfl rfl)
theorem dX1_compress_227 : decode cX1_compress 227 = .ok (.getstatic 157, 3) := dk_178 0 157 (dk_at dksX1_compress_9 16 rfl rfl)
theorem dX1_compress_230 : decode cX1_compress 230 = .ok (.iload 4, 2) := dk_21 4 (dk_at dksX1_compress_9 19 rfl rfl)
theorem dX1_compress_232 : decode cX1_compress 232 = .ok (.aaload, 1) := dk_50 (dk_at dksX1_compress_9 21 rfl rfl)
theorem dX1_compress_233 : decode cX1_compress 233 = .ok (.bipush 13, 2) := dk_16 13 (dk_at dksX1_compress_9 22 rfl rfl)
theorem dX1_compress_235 : decode cX1_compress 235 = .ok (.baload, 1) := dk_51 (dk_at dksX1_compress_10 0 rfl rfl)
theorem dX1_compress_236 : decode cX1_compress 236 = .ok (.iaload, 1) := dk_46 (dk_at dksX1_compress_10 1 rfl rfl)
theorem dX1_compress_237 : decode cX1_compress 237 = .ok (.iconst 2, 1) := dk_5 (dk_at dksX1_compress_10 2 rfl rfl)
theorem dX1_compress_238 : decode cX1_compress 238 = .ok (.bipush 7, 2) := dk_16 7 (dk_at dksX1_compress_10 3 rfl rfl)
theorem dX1_compress_240 : decode cX1_compress 240 = .ok (.bipush 8, 2) := dk_16 8 (dk_at dksX1_compress_10 5 rfl rfl)
theorem dX1_compress_242 : decode cX1_compress 242 = .ok (.bipush 13, 2) := dk_16 13 (dk_at dksX1_compress_10 7 rfl rfl)
theorem dX1_compress_244 : decode cX1_compress 244 = .ok (.invokevirtual 161, 3) := dk_182 0 161 (dk_at dksX1_compress_10 9 rfl rfl)
theorem dX1_compress_247 : decode cX1_compress 247 = .ok (.aload_n 0, 1) := dk_42 (dk_at dksX1_compress_10 12 rfl rfl)
theorem dX1_compress_248 : decode cX1_compress 248 = .ok (.aload_n 3, 1) := dk_45 (dk_at dksX1_compress_10 13 rfl rfl)
theorem dX1_compress_249 : decode cX1_compress 249 = .ok (.getstatic 157, 3) := dk_178 0 157 (dk_at dksX1_compress_10 14 rfl rfl)
theorem dX1_compress_252 : decode cX1_compress 252 = .ok (.iload 4, 2) := dk_21 4 (dk_at dksX1_compress_10 17 rfl rfl)
theorem dX1_compress_254 : decode cX1_compress 254 = .ok (.aaload, 1) := dk_50 (dk_at dksX1_compress_10 19 rfl rfl)
theorem dX1_compress_255 : decode cX1_compress 255 = .ok (.bipush 14, 2) := dk_16 14 (dk_at dksX1_compress_10 20 rfl rfl)
theorem dX1_compress_257 : decode cX1_compress 257 = .ok (.baload, 1) := dk_51 (dk_at dksX1_compress_10 22 rfl rfl)
theorem dX1_compress_258 : decode cX1_compress 258 = .ok (.iaload, 1) := dk_46 (dk_at dksX1_compress_10 23 rfl rfl)
theorem dX1_compress_259 : decode cX1_compress 259 = .ok (.aload_n 3, 1) := dk_45 (dk_at dksX1_compress_11 0 rfl rfl)
theorem dX1_compress_260 : decode cX1_compress 260 = .ok (.getstatic 157, 3) := dk_178 0 157 (dk_at dksX1_compress_11 1 rfl rfl)
theorem dX1_compress_263 : decode cX1_compress 263 = .ok (.iload 4, 2) := dk_21 4 (dk_at dksX1_compress_11 4 rfl rfl)
theorem dX1_compress_265 : decode cX1_compress 265 = .ok (.aaload, 1) := dk_50 (dk_at dksX1_compress_11 6 rfl rfl)
theorem dX1_compress_266 : decode cX1_compress 266 = .ok (.bipush 15, 2) := dk_16 15 (dk_at dksX1_compress_11 7 rfl rfl)
theorem dX1_compress_268 : decode cX1_compress 268 = .ok (.baload, 1) := dk_51 (dk_at dksX1_compress_11 9 rfl rfl)
theorem dX1_compress_269 : decode cX1_compress 269 = .ok (.iaload, 1) := dk_46 (dk_at dksX1_compress_11 10 rfl rfl)
theorem dX1_compress_270 : decode cX1_compress 270 = .ok (.iconst 3, 1) := dk_6 (dk_at dksX1_compress_11 11 rfl rfl)
theorem dX1_compress_271 : decode cX1_compress 271 = .ok (.iconst 4, 1) := dk_7 (dk_at dksX1_compress_11 12 rfl rfl)
theorem dX1_compress_272 : decode cX1_compress 272 = .ok (.bipush 9, 2) := dk_16 9 (dk_at dksX1_compress_11 13 rfl rfl)
theorem dX1_compress_274 : decode cX1_compress 274 = .ok (.bipush 14, 2) := dk_16 14 (dk_at dksX1_compress_11 15 rfl rfl)
theorem dX1_compress_276 : decode cX1_compress 276 = .ok (.invokevirtual 161, 3) := dk_182 0 161 (dk_at dksX1_compress_11 17 rfl rfl)
theorem dX1_compress_279 : decode cX1_compress 279 = .ok (.iinc 4 1, 3) := dk_132 4 1 (dk_at dksX1_compress_11 20 rfl rfl)
theorem dX1_compress_282 : decode cX1_compress 282 = .ok (.goto (-264), 3) := dk_167 254 248 (dk_at dksX1_compress_12 0 rfl rfl)
theorem dX1_compress_285 : decode cX1_compress 285 = .ok (.iconst 0, 1) := dk_3 (dk_at dksX1_compress_12 3 rfl rfl)
theorem dX1_compress_286 : decode cX1_compress 286 = .ok (.istore 4, 2) := dk_54 4 (dk_at dksX1_compress_12 4 rfl rfl)
theorem dX1_compress_288 : decode cX1_compress 288 = .ok (.iload 4, 2) := dk_21 4 (dk_at dksX1_compress_12 6 rfl rfl)
theorem dX1_compress_290 : decode cX1_compress 290 = .ok (.aload_n 0, 1) := dk_42 (dk_at dksX1_compress_12 8 rfl rfl)
theorem dX1_compress_291 : decode cX1_compress 291 = .ok (.getfield 68, 3) := dk_180 0 68 (dk_at dksX1_compress_12 9 rfl rfl)
theorem dX1_compress_294 : decode cX1_compress 294 = .ok (.arraylength, 1) := dk_190 (dk_at dksX1_compress_12 12 rfl rfl)
theorem dX1_compress_295 : decode cX1_compress 295 = .ok (.if_icmp .ge 42, 3) := dk_162 0 42 (dk_at dksX1_compress_12 13 rfl rfl)
theorem dX1_compress_298 : decode cX1_compress 298 = .ok (.aload_n 0, 1) := dk_42 (dk_at dksX1_compress_12 16 rfl rfl)
theorem dX1_compress_299 : decode cX1_compress 299 = .ok (.getfield 68, 3) := dk_180 0 68 (dk_at dksX1_compress_12 17 rfl rfl)
theorem dX1_compress_302 : decode cX1_compress 302 = .ok (.iload 4, 2) := dk_21 4 (dk_at dksX1_compress_12 20 rfl rfl)
theorem dX1_compress_304 : decode cX1_compress 304 = .ok (.aload_n 0, 1) := dk_42 (dk_at dksX1_compress_12 22 rfl rfl)
theorem dX1_compress_305 : decode cX1_compress 305 = .ok (.getfield 68, 3) := dk_180 0 68 (dk_at dksX1_compress_13 0 rfl rfl)
theorem dX1_compress_308 : decode cX1_compress 308 = .ok (.iload 4, 2) := dk_21 4 (dk_at dksX1_compress_13 3 rfl rfl)
theorem dX1_compress_310 : decode cX1_compress 310 = .ok (.iaload, 1) := dk_46 (dk_at dksX1_compress_13 5 rfl rfl)
theorem dX1_compress_311 : decode cX1_compress 311 = .ok (.aload_n 0, 1) := dk_42 (dk_at dksX1_compress_13 6 rfl rfl)
theorem dX1_compress_312 : decode cX1_compress 312 = .ok (.getfield 64, 3) := dk_180 0 64 (dk_at dksX1_compress_13 7 rfl rfl)
theorem dX1_compress_315 : decode cX1_compress 315 = .ok (.iload 4, 2) := dk_21 4 (dk_at dksX1_compress_13 10 rfl rfl)
theorem dX1_compress_317 : decode cX1_compress 317 = .ok (.iaload, 1) := dk_46 (dk_at dksX1_compress_13 12 rfl rfl)
theorem dX1_compress_318 : decode cX1_compress 318 = .ok (.ixor, 1) := dk_130 (dk_at dksX1_compress_13 13 rfl rfl)
theorem dX1_compress_319 : decode cX1_compress 319 = .ok (.aload_n 0, 1) := dk_42 (dk_at dksX1_compress_13 14 rfl rfl)
theorem dX1_compress_320 : decode cX1_compress 320 = .ok (.getfield 64, 3) := dk_180 0 64 (dk_at dksX1_compress_13 15 rfl rfl)
theorem dX1_compress_323 : decode cX1_compress 323 = .ok (.iload 4, 2) := dk_21 4 (dk_at dksX1_compress_13 18 rfl rfl)
theorem dX1_compress_325 : decode cX1_compress 325 = .ok (.bipush 8, 2) := dk_16 8 (dk_at dksX1_compress_13 20 rfl rfl)
theorem dX1_compress_327 : decode cX1_compress 327 = .ok (.iadd, 1) := dk_96 (dk_at dksX1_compress_13 22 rfl rfl)
theorem dX1_compress_328 : decode cX1_compress 328 = .ok (.iaload, 1) := dk_46 (dk_at dksX1_compress_13 23 rfl rfl)
theorem dX1_compress_329 : decode cX1_compress 329 = .ok (.ixor, 1) := dk_130 (dk_at dksX1_compress_14 0 rfl rfl)
theorem dX1_compress_330 : decode cX1_compress 330 = .ok (.iastore, 1) := dk_79 (dk_at dksX1_compress_14 1 rfl rfl)
theorem dX1_compress_331 : decode cX1_compress 331 = .ok (.iinc 4 1, 3) := dk_132 4 1 (dk_at dksX1_compress_14 2 rfl rfl)
theorem dX1_compress_334 : decode cX1_compress 334 = .ok (.goto (-46), 3) := dk_167 255 210 (dk_at dksX1_compress_14 5 rfl rfl)
theorem dX1_compress_337 : decode cX1_compress 337 = .ok (.return_, 1) := dk_177 (dk_at dksX1_compress_14 8 rfl rfl)
abbrev cX1_initializeInternalState : ByteArray := prog_1_method_4_code
def yX1_initializeInternalState : MethodName := ⟨RX1, "initializeInternalState", "()V"⟩
def dkwX1_initializeInternalState_4 : List UInt8 := [42, 180, 0, 80, 178, 0, 105, 16, 7, 46, 130, 79, 177]
abbrev dktX1_initializeInternalState_4 : List UInt8 := dkwX1_initializeInternalState_4 ++ []
def dkwX1_initializeInternalState_3 : List UInt8 := [42, 180, 0, 64, 16, 14, 42, 180, 0, 77, 178, 0, 105, 16, 6, 46, 130, 79, 42, 180, 0, 64, 16, 15]
abbrev dktX1_initializeInternalState_3 : List UInt8 := dkwX1_initializeInternalState_3 ++ dktX1_initializeInternalState_4
def dkwX1_initializeInternalState_2 : List UInt8 := [178, 0, 105, 7, 46, 130, 79, 42, 180, 0, 64, 16, 13, 42, 180, 0, 74, 178, 0, 105, 8, 46, 130, 79]
abbrev dktX1_initializeInternalState_2 : List UInt8 := dkwX1_initializeInternalState_2 ++ dktX1_initializeInternalState_3
def dkwX1_initializeInternalState_1 : List UInt8 := [180, 0, 64, 42, 180, 0, 68, 190, 7, 184, 0, 99, 42, 180, 0, 64, 16, 12, 42, 180, 0, 71]
abbrev dktX1_initializeInternalState_1 : List UInt8 := dkwX1_initializeInternalState_1 ++ dktX1_initializeInternalState_2
def dkwX1_initializeInternalState_0 : List UInt8 := [42, 180, 0, 68, 3, 42, 180, 0, 64, 3, 42, 180, 0, 68, 190, 184, 0, 99, 178, 0, 105, 3, 42]
abbrev dktX1_initializeInternalState_0 : List UInt8 := dkwX1_initializeInternalState_0 ++ dktX1_initializeInternalState_1
theorem dksX1_initializeInternalState_0 : cX1_initializeInternalState.data.toList.drop 0 = dktX1_initializeInternalState_0 := by decide +kernel
theorem dksX1_initializeInternalState_1 : cX1_initializeInternalState.data.toList.drop 23 = dktX1_initializeInternalState_1 := dk_seg dksX1_initializeInternalState_0 23 rfl rfl
theorem dksX1_initializeInternalState_2 : cX1_initializeInternalState.data.toList.drop 45 = dktX1_initializeInternalState_2 := dk_seg dksX1_initializeInternalState_1 22 rfl rfl
theorem dksX1_initializeInternalState_3 : cX1_initializeInternalState.data.toList.drop 69 = dktX1_initializeInternalState_3 := dk_seg dksX1_initializeInternalState_2 24 rfl rfl
theorem dksX1_initializeInternalState_4 : cX1_initializeInternalState.data.toList.drop 93 = dktX1_initializeInternalState_4 := dk_seg dksX1_initializeInternalState_3 24 rfl rfl
theorem dX1_initializeInternalState_0 : decode cX1_initializeInternalState 0 = .ok (.aload_n 0, 1) := dk_42 (dk_at dksX1_initializeInternalState_0 0 rfl rfl)
theorem dX1_initializeInternalState_1 : decode cX1_initializeInternalState 1 = .ok (.getfield 68, 3) := dk_180 0 68 (dk_at dksX1_initializeInternalState_0 1 rfl rfl)
theorem dX1_initializeInternalState_4 : decode cX1_initializeInternalState 4 = .ok (.iconst 0, 1) := dk_3 (dk_at dksX1_initializeInternalState_0 4 rfl rfl)
theorem dX1_initializeInternalState_5 : decode cX1_initializeInternalState 5 = .ok (.aload_n 0, 1) := dk_42 (dk_at dksX1_initializeInternalState_0 5 rfl rfl)
theorem dX1_initializeInternalState_6 : decode cX1_initializeInternalState 6 = .ok (.getfield 64, 3) := dk_180 0 64 (dk_at dksX1_initializeInternalState_0 6 rfl rfl)
theorem dX1_initializeInternalState_9 : decode cX1_initializeInternalState 9 = .ok (.iconst 0, 1) := dk_3 (dk_at dksX1_initializeInternalState_0 9 rfl rfl)
theorem dX1_initializeInternalState_10 : decode cX1_initializeInternalState 10 = .ok (.aload_n 0, 1) := dk_42 (dk_at dksX1_initializeInternalState_0 10 rfl rfl)
theorem dX1_initializeInternalState_11 : decode cX1_initializeInternalState 11 = .ok (.getfield 68, 3) := dk_180 0 68 (dk_at dksX1_initializeInternalState_0 11 rfl rfl)
theorem dX1_initializeInternalState_14 : decode cX1_initializeInternalState 14 = .ok (.arraylength, 1) := dk_190 (dk_at dksX1_initializeInternalState_0 14 rfl rfl)
theorem dX1_initializeInternalState_15 : decode cX1_initializeInternalState 15 = .ok (.invokestatic 99, 3) := dk_184 0 99 (dk_at dksX1_initializeInternalState_0 15 rfl rfl)
theorem dX1_initializeInternalState_18 : decode cX1_initializeInternalState 18 = .ok (.getstatic 105, 3) := dk_178 0 105 (dk_at dksX1_initializeInternalState_0 18 rfl rfl)
theorem dX1_initializeInternalState_21 : decode cX1_initializeInternalState 21 = .ok (.iconst 0, 1) := dk_3 (dk_at dksX1_initializeInternalState_0 21 rfl rfl)
theorem dX1_initializeInternalState_22 : decode cX1_initializeInternalState 22 = .ok (.aload_n 0, 1) := dk_42 (dk_at dksX1_initializeInternalState_0 22 rfl rfl)
theorem dX1_initializeInternalState_23 : decode cX1_initializeInternalState 23 = .ok (.getfield 64, 3) := dk_180 0 64 (dk_at dksX1_initializeInternalState_1 0 rfl rfl)
theorem dX1_initializeInternalState_26 : decode cX1_initializeInternalState 26 = .ok (.aload_n 0, 1) := dk_42 (dk_at dksX1_initializeInternalState_1 3 rfl rfl)
theorem dX1_initializeInternalState_27 : decode cX1_initializeInternalState 27 = .ok (.getfield 68, 3) := dk_180 0 68 (dk_at dksX1_initializeInternalState_1 4 rfl rfl)
theorem dX1_initializeInternalState_30 : decode cX1_initializeInternalState 30 = .ok (.arraylength, 1) := dk_190 (dk_at dksX1_initializeInternalState_1 7 rfl rfl)
theorem dX1_initializeInternalState_31 : decode cX1_initializeInternalState 31 = .ok (.iconst 4, 1) := dk_7 (dk_at dksX1_initializeInternalState_1 8 rfl rfl)
theorem dX1_initializeInternalState_32 : decode cX1_initializeInternalState 32 = .ok (.invokestatic 99, 3) := dk_184 0 99 (dk_at dksX1_initializeInternalState_1 9 rfl rfl)
theorem dX1_initializeInternalState_35 : decode cX1_initializeInternalState 35 = .ok (.aload_n 0, 1) := dk_42 (dk_at dksX1_initializeInternalState_1 12 rfl rfl)
theorem dX1_initializeInternalState_36 : decode cX1_initializeInternalState 36 = .ok (.getfield 64, 3) := dk_180 0 64 (dk_at dksX1_initializeInternalState_1 13 rfl rfl)
theorem dX1_initializeInternalState_39 : decode cX1_initializeInternalState 39 = .ok (.bipush 12, 2) := dk_16 12 (dk_at dksX1_initializeInternalState_1 16 rfl rfl)
theorem dX1_initializeInternalState_41 : decode cX1_initializeInternalState 41 = .ok (.aload_n 0, 1) := dk_42 (dk_at dksX1_initializeInternalState_1 18 rfl rfl)
theorem dX1_initializeInternalState_42 : decode cX1_initializeInternalState 42 = .ok (.getfield 71, 3) := dk_180 0 71 (dk_at dksX1_initializeInternalState_1 19 rfl rfl)
theorem dX1_initializeInternalState_45 : decode cX1_initializeInternalState 45 = .ok (.getstatic 105, 3) := dk_178 0 105 (dk_at dksX1_initializeInternalState_2 0 rfl rfl)
theorem dX1_initializeInternalState_48 : decode cX1_initializeInternalState 48 = .ok (.iconst 4, 1) := dk_7 (dk_at dksX1_initializeInternalState_2 3 rfl rfl)
theorem dX1_initializeInternalState_49 : decode cX1_initializeInternalState 49 = .ok (.iaload, 1) := dk_46 (dk_at dksX1_initializeInternalState_2 4 rfl rfl)
theorem dX1_initializeInternalState_50 : decode cX1_initializeInternalState 50 = .ok (.ixor, 1) := dk_130 (dk_at dksX1_initializeInternalState_2 5 rfl rfl)
theorem dX1_initializeInternalState_51 : decode cX1_initializeInternalState 51 = .ok (.iastore, 1) := dk_79 (dk_at dksX1_initializeInternalState_2 6 rfl rfl)
theorem dX1_initializeInternalState_52 : decode cX1_initializeInternalState 52 = .ok (.aload_n 0, 1) := dk_42 (dk_at dksX1_initializeInternalState_2 7 rfl rfl)
theorem dX1_initializeInternalState_53 : decode cX1_initializeInternalState 53 = .ok (.getfield 64, 3) := dk_180 0 64 (dk_at dksX1_initializeInternalState_2 8 rfl rfl)
theorem dX1_initializeInternalState_56 : decode cX1_initializeInternalState 56 = .ok (.bipush 13, 2) := dk_16 13 (dk_at dksX1_initializeInternalState_2 11 rfl rfl)
theorem dX1_initializeInternalState_58 : decode cX1_initializeInternalState 58 = .ok (.aload_n 0, 1) := dk_42 (dk_at dksX1_initializeInternalState_2 13 rfl rfl)
theorem dX1_initializeInternalState_59 : decode cX1_initializeInternalState 59 = .ok (.getfield 74, 3) := dk_180 0 74 (dk_at dksX1_initializeInternalState_2 14 rfl rfl)
theorem dX1_initializeInternalState_62 : decode cX1_initializeInternalState 62 = .ok (.getstatic 105, 3) := dk_178 0 105 (dk_at dksX1_initializeInternalState_2 17 rfl rfl)
theorem dX1_initializeInternalState_65 : decode cX1_initializeInternalState 65 = .ok (.iconst 5, 1) := dk_8 (dk_at dksX1_initializeInternalState_2 20 rfl rfl)
theorem dX1_initializeInternalState_66 : decode cX1_initializeInternalState 66 = .ok (.iaload, 1) := dk_46 (dk_at dksX1_initializeInternalState_2 21 rfl rfl)
theorem dX1_initializeInternalState_67 : decode cX1_initializeInternalState 67 = .ok (.ixor, 1) := dk_130 (dk_at dksX1_initializeInternalState_2 22 rfl rfl)
theorem dX1_initializeInternalState_68 : decode cX1_initializeInternalState 68 = .ok (.iastore, 1) := dk_79 (dk_at dksX1_initializeInternalState_2 23 rfl rfl)
theorem dX1_initializeInternalState_69 : decode cX1_initializeInternalState 69 = .ok (.aload_n 0, 1) := dk_42 (dk_at dksX1_initializeInternalState_3 0 rfl rfl)
theorem dX1_initializeInternalState_70 : decode cX1_initializeInternalState 70 = .ok (.getfield 64, 3) := dk_180 0 64 (dk_at dksX1_initializeInternalState_3 1 rfl rfl)
theorem dX1_initializeInternalState_73 : decode cX1_initializeInternalState 73 = .ok (.bipush 14, 2) := dk_16 14 (dk_at dksX1_initializeInternalState_3 4 rfl rfl)
theorem dX1_initializeInternalState_75 : decode cX1_initializeInternalState 75 = .ok (.aload_n 0, 1) := dk_42 (dk_at dksX1_initializeInternalState_3 6 rfl rfl)
theorem dX1_initializeInternalState_76 : decode cX1_initializeInternalState 76 = .ok (.getfield 77, 3) := dk_180 0 77 (dk_at dksX1_initializeInternalState_3 7 rfl rfl)
theorem dX1_initializeInternalState_79 : decode cX1_initializeInternalState 79 = .ok (.getstatic 105, 3) := dk_178 0 105 (dk_at dksX1_initializeInternalState_3 10 rfl rfl)
theorem dX1_initializeInternalState_82 : decode cX1_initializeInternalState 82 = .ok (.bipush 6, 2) := dk_16 6 (dk_at dksX1_initializeInternalState_3 13 rfl rfl)
theorem dX1_initializeInternalState_84 : decode cX1_initializeInternalState 84 = .ok (.iaload, 1) := dk_46 (dk_at dksX1_initializeInternalState_3 15 rfl rfl)
theorem dX1_initializeInternalState_85 : decode cX1_initializeInternalState 85 = .ok (.ixor, 1) := dk_130 (dk_at dksX1_initializeInternalState_3 16 rfl rfl)
theorem dX1_initializeInternalState_86 : decode cX1_initializeInternalState 86 = .ok (.iastore, 1) := dk_79 (dk_at dksX1_initializeInternalState_3 17 rfl rfl)
theorem dX1_initializeInternalState_87 : decode cX1_initializeInternalState 87 = .ok (.aload_n 0, 1) := dk_42 (dk_at dksX1_initializeInternalState_3 18 rfl rfl)
theorem dX1_initializeInternalState_88 : decode cX1_initializeInternalState 88 = .ok (.getfield 64, 3) := dk_180 0 64 (dk_at dksX1_initializeInternalState_3 19 rfl rfl)
theorem dX1_initializeInternalState_91 : decode cX1_initializeInternalState 91 = .ok (.bipush 15, 2) := dk_16 15 (dk_at dksX1_initializeInternalState_3 22 rfl rfl)
theorem dX1_initializeInternalState_93 : decode cX1_initializeInternalState 93 = .ok (.aload_n 0, 1) := dk_42 (dk_at dksX1_initializeInternalState_4 0 rfl rfl)
theorem dX1_initializeInternalState_94 : decode cX1_initializeInternalState 94 = .ok (.getfield 80, 3) := dk_180 0 80 (dk_at dksX1_initializeInternalState_4 1 rfl rfl)
theorem dX1_initializeInternalState_97 : decode cX1_initializeInternalState 97 = .ok (.getstatic 105, 3) := dk_178 0 105 (dk_at dksX1_initializeInternalState_4 4 rfl rfl)
theorem dX1_initializeInternalState_100 : decode cX1_initializeInternalState 100 = .ok (.bipush 7, 2) := dk_16 7 (dk_at dksX1_initializeInternalState_4 7 rfl rfl)
theorem dX1_initializeInternalState_102 : decode cX1_initializeInternalState 102 = .ok (.iaload, 1) := dk_46 (dk_at dksX1_initializeInternalState_4 9 rfl rfl)
theorem dX1_initializeInternalState_103 : decode cX1_initializeInternalState 103 = .ok (.ixor, 1) := dk_130 (dk_at dksX1_initializeInternalState_4 10 rfl rfl)
theorem dX1_initializeInternalState_104 : decode cX1_initializeInternalState 104 = .ok (.iastore, 1) := dk_79 (dk_at dksX1_initializeInternalState_4 11 rfl rfl)
theorem dX1_initializeInternalState_105 : decode cX1_initializeInternalState 105 = .ok (.return_, 1) := dk_177 (dk_at dksX1_initializeInternalState_4 12 rfl rfl)
abbrev cX1_G : ByteArray := prog_1_method_10_code
def yX1_G : MethodName := ⟨RX1, "G", "(IIIIII)V"⟩
def dkwX1_G_8 : List UInt8 := [16, 7, 184, 0, 165, 79, 177]
abbrev dktX1_G_8 : List UInt8 := dkwX1_G_8 ++ []
def dkwX1_G_7 : List UInt8 := [96, 79, 42, 180, 0, 64, 21, 4, 42, 180, 0, 64, 21, 4, 46, 42, 180, 0, 64, 21, 5, 46, 130]
abbrev dktX1_G_7 : List UInt8 := dkwX1_G_7 ++ dktX1_G_8
def dkwX1_G_6 : List UInt8 := [184, 0, 165, 79, 42, 180, 0, 64, 21, 5, 42, 180, 0, 64, 21, 5, 46, 42, 180, 0, 64, 21, 6, 46]
abbrev dktX1_G_6 : List UInt8 := dkwX1_G_6 ++ dktX1_G_7
def dkwX1_G_5 : List UInt8 := [96, 79, 42, 180, 0, 64, 21, 6, 42, 180, 0, 64, 21, 6, 46, 42, 180, 0, 64, 29, 46, 130, 16, 8]
abbrev dktX1_G_5 : List UInt8 := dkwX1_G_5 ++ dktX1_G_6
def dkwX1_G_4 : List UInt8 := [184, 0, 165, 79, 42, 180, 0, 64, 29, 42, 180, 0, 64, 29, 46, 42, 180, 0, 64, 21, 4, 46, 96, 28]
abbrev dktX1_G_4 : List UInt8 := dkwX1_G_4 ++ dktX1_G_5
def dkwX1_G_3 : List UInt8 := [180, 0, 64, 21, 4, 42, 180, 0, 64, 21, 4, 46, 42, 180, 0, 64, 21, 5, 46, 130, 16, 12]
abbrev dktX1_G_3 : List UInt8 := dkwX1_G_3 ++ dktX1_G_4
def dkwX1_G_2 : List UInt8 := [79, 42, 180, 0, 64, 21, 5, 42, 180, 0, 64, 21, 5, 46, 42, 180, 0, 64, 21, 6, 46, 96, 79, 42]
abbrev dktX1_G_2 : List UInt8 := dkwX1_G_2 ++ dktX1_G_3
def dkwX1_G_1 : List UInt8 := [180, 0, 64, 21, 6, 42, 180, 0, 64, 21, 6, 46, 42, 180, 0, 64, 29, 46, 130, 16, 16, 184, 0, 165]
abbrev dktX1_G_1 : List UInt8 := dkwX1_G_1 ++ dktX1_G_2
def dkwX1_G_0 : List UInt8 := [42, 180, 0, 64, 29, 42, 180, 0, 64, 29, 46, 42, 180, 0, 64, 21, 4, 46, 96, 27, 96, 79, 42]
abbrev dktX1_G_0 : List UInt8 := dkwX1_G_0 ++ dktX1_G_1
theorem dksX1_G_0 : cX1_G.data.toList.drop 0 = dktX1_G_0 := by decide +kernel
theorem dksX1_G_1 : cX1_G.data.toList.drop 23 = dktX1_G_1 := dk_seg dksX1_G_0 23 rfl rfl
theorem dksX1_G_2 : cX1_G.data.toList.drop 47 = dktX1_G_2 := dk_seg dksX1_G_1 24 rfl rfl
theorem dksX1_G_3 : cX1_G.data.toList.drop 71 = dktX1_G_3 := dk_seg dksX1_G_2 24 rfl rfl
theorem dksX1_G_4 : cX1_G.data.toList.drop 93 = dktX1_G_4 := dk_seg dksX1_G_3 22 rfl rfl
theorem dksX1_G_5 : cX1_G.data.toList.drop 117 = dktX1_G_5 := dk_seg dksX1_G_4 24 rfl rfl
theorem dksX1_G_6 : cX1_G.data.toList.drop 141 = dktX1_G_6 := dk_seg dksX1_G_5 24 rfl rfl
theorem dksX1_G_7 : cX1_G.data.toList.drop 165 = dktX1_G_7 := dk_seg dksX1_G_6 24 rfl rfl
theorem dksX1_G_8 : cX1_G.data.toList.drop 188 = dktX1_G_8 := dk_seg dksX1_G_7 23 rfl rfl
theorem dX1_G_0 : decode cX1_G 0 = .ok (.aload_n 0, 1) := dk_42 (dk_at dksX1_G_0 0 rfl rfl)
theorem dX1_G_1 : decode cX1_G 1 = .ok (.getfield 64, 3) := dk_180 0 64 (dk_at dksX1_G_0 1 rfl rfl)
theorem dX1_G_4 : decode cX1_G 4 = .ok (.iload_n 3, 1) := dk_29 (dk_at dksX1_G_0 4 rfl rfl)
theorem dX1_G_5 : decode cX1_G 5 = .ok (.aload_n 0, 1) := dk_42 (dk_at dksX1_G_0 5 rfl rfl)
theorem dX1_G_6 : decode cX1_G 6 = .ok (.getfield 64, 3) := dk_180 0 64 (dk_at dksX1_G_0 6 rfl rfl)
theorem dX1_G_9 : decode cX1_G 9 = .ok (.iload_n 3, 1) := dk_29 (dk_at dksX1_G_0 9 rfl rfl)
theorem dX1_G_10 : decode cX1_G 10 = .ok (.iaload, 1) := dk_46 (dk_at dksX1_G_0 10 rfl rfl)
theorem dX1_G_11 : decode cX1_G 11 = .ok (.aload_n 0, 1) := dk_42 (dk_at dksX1_G_0 11 rfl rfl)
theorem dX1_G_12 : decode cX1_G 12 = .ok (.getfield 64, 3) := dk_180 0 64 (dk_at dksX1_G_0 12 rfl rfl)
theorem dX1_G_15 : decode cX1_G 15 = .ok (.iload 4, 2) := dk_21 4 (dk_at dksX1_G_0 15 rfl rfl)
theorem dX1_G_17 : decode cX1_G 17 = .ok (.iaload, 1) := dk_46 (dk_at dksX1_G_0 17 rfl rfl)
theorem dX1_G_18 : decode cX1_G 18 = .ok (.iadd, 1) := dk_96 (dk_at dksX1_G_0 18 rfl rfl)
theorem dX1_G_19 : decode cX1_G 19 = .ok (.iload_n 1, 1) := dk_27 (dk_at dksX1_G_0 19 rfl rfl)
theorem dX1_G_20 : decode cX1_G 20 = .ok (.iadd, 1) := dk_96 (dk_at dksX1_G_0 20 rfl rfl)
theorem dX1_G_21 : decode cX1_G 21 = .ok (.iastore, 1) := dk_79 (dk_at dksX1_G_0 21 rfl rfl)
theorem dX1_G_22 : decode cX1_G 22 = .ok (.aload_n 0, 1) := dk_42 (dk_at dksX1_G_0 22 rfl rfl)
theorem dX1_G_23 : decode cX1_G 23 = .ok (.getfield 64, 3) := dk_180 0 64 (dk_at dksX1_G_1 0 rfl rfl)
theorem dX1_G_26 : decode cX1_G 26 = .ok (.iload 6, 2) := dk_21 6 (dk_at dksX1_G_1 3 rfl rfl)
theorem dX1_G_28 : decode cX1_G 28 = .ok (.aload_n 0, 1) := dk_42 (dk_at dksX1_G_1 5 rfl rfl)
theorem dX1_G_29 : decode cX1_G 29 = .ok (.getfield 64, 3) := dk_180 0 64 (dk_at dksX1_G_1 6 rfl rfl)
theorem dX1_G_32 : decode cX1_G 32 = .ok (.iload 6, 2) := dk_21 6 (dk_at dksX1_G_1 9 rfl rfl)
theorem dX1_G_34 : decode cX1_G 34 = .ok (.iaload, 1) := dk_46 (dk_at dksX1_G_1 11 rfl rfl)
theorem dX1_G_35 : decode cX1_G 35 = .ok (.aload_n 0, 1) := dk_42 (dk_at dksX1_G_1 12 rfl rfl)
theorem dX1_G_36 : decode cX1_G 36 = .ok (.getfield 64, 3) := dk_180 0 64 (dk_at dksX1_G_1 13 rfl rfl)
theorem dX1_G_39 : decode cX1_G 39 = .ok (.iload_n 3, 1) := dk_29 (dk_at dksX1_G_1 16 rfl rfl)
theorem dX1_G_40 : decode cX1_G 40 = .ok (.iaload, 1) := dk_46 (dk_at dksX1_G_1 17 rfl rfl)
theorem dX1_G_41 : decode cX1_G 41 = .ok (.ixor, 1) := dk_130 (dk_at dksX1_G_1 18 rfl rfl)
theorem dX1_G_42 : decode cX1_G 42 = .ok (.bipush 16, 2) := dk_16 16 (dk_at dksX1_G_1 19 rfl rfl)
theorem dX1_G_44 : decode cX1_G 44 = .ok (.invokestatic 165, 3) := dk_184 0 165 (dk_at dksX1_G_1 21 rfl rfl)
theorem dX1_G_47 : decode cX1_G 47 = .ok (.iastore, 1) := dk_79 (dk_at dksX1_G_2 0 rfl rfl)
theorem dX1_G_48 : decode cX1_G 48 = .ok (.aload_n 0, 1) := dk_42 (dk_at dksX1_G_2 1 rfl rfl)
theorem dX1_G_49 : decode cX1_G 49 = .ok (.getfield 64, 3) := dk_180 0 64 (dk_at dksX1_G_2 2 rfl rfl)
theorem dX1_G_52 : decode cX1_G 52 = .ok (.iload 5, 2) := dk_21 5 (dk_at dksX1_G_2 5 rfl rfl)
theorem dX1_G_54 : decode cX1_G 54 = .ok (.aload_n 0, 1) := dk_42 (dk_at dksX1_G_2 7 rfl rfl)
theorem dX1_G_55 : decode cX1_G 55 = .ok (.getfield 64, 3) := dk_180 0 64 (dk_at dksX1_G_2 8 rfl rfl)
theorem dX1_G_58 : decode cX1_G 58 = .ok (.iload 5, 2) := dk_21 5 (dk_at dksX1_G_2 11 rfl rfl)
theorem dX1_G_60 : decode cX1_G 60 = .ok (.iaload, 1) := dk_46 (dk_at dksX1_G_2 13 rfl rfl)
theorem dX1_G_61 : decode cX1_G 61 = .ok (.aload_n 0, 1) := dk_42 (dk_at dksX1_G_2 14 rfl rfl)
theorem dX1_G_62 : decode cX1_G 62 = .ok (.getfield 64, 3) := dk_180 0 64 (dk_at dksX1_G_2 15 rfl rfl)
theorem dX1_G_65 : decode cX1_G 65 = .ok (.iload 6, 2) := dk_21 6 (dk_at dksX1_G_2 18 rfl rfl)
theorem dX1_G_67 : decode cX1_G 67 = .ok (.iaload, 1) := dk_46 (dk_at dksX1_G_2 20 rfl rfl)
theorem dX1_G_68 : decode cX1_G 68 = .ok (.iadd, 1) := dk_96 (dk_at dksX1_G_2 21 rfl rfl)
theorem dX1_G_69 : decode cX1_G 69 = .ok (.iastore, 1) := dk_79 (dk_at dksX1_G_2 22 rfl rfl)
theorem dX1_G_70 : decode cX1_G 70 = .ok (.aload_n 0, 1) := dk_42 (dk_at dksX1_G_2 23 rfl rfl)
theorem dX1_G_71 : decode cX1_G 71 = .ok (.getfield 64, 3) := dk_180 0 64 (dk_at dksX1_G_3 0 rfl rfl)
theorem dX1_G_74 : decode cX1_G 74 = .ok (.iload 4, 2) := dk_21 4 (dk_at dksX1_G_3 3 rfl rfl)
theorem dX1_G_76 : decode cX1_G 76 = .ok (.aload_n 0, 1) := dk_42 (dk_at dksX1_G_3 5 rfl rfl)
theorem dX1_G_77 : decode cX1_G 77 = .ok (.getfield 64, 3) := dk_180 0 64 (dk_at dksX1_G_3 6 rfl rfl)
theorem dX1_G_80 : decode cX1_G 80 = .ok (.iload 4, 2) := dk_21 4 (dk_at dksX1_G_3 9 rfl rfl)
theorem dX1_G_82 : decode cX1_G 82 = .ok (.iaload, 1) := dk_46 (dk_at dksX1_G_3 11 rfl rfl)
theorem dX1_G_83 : decode cX1_G 83 = .ok (.aload_n 0, 1) := dk_42 (dk_at dksX1_G_3 12 rfl rfl)
theorem dX1_G_84 : decode cX1_G 84 = .ok (.getfield 64, 3) := dk_180 0 64 (dk_at dksX1_G_3 13 rfl rfl)
theorem dX1_G_87 : decode cX1_G 87 = .ok (.iload 5, 2) := dk_21 5 (dk_at dksX1_G_3 16 rfl rfl)
theorem dX1_G_89 : decode cX1_G 89 = .ok (.iaload, 1) := dk_46 (dk_at dksX1_G_3 18 rfl rfl)
theorem dX1_G_90 : decode cX1_G 90 = .ok (.ixor, 1) := dk_130 (dk_at dksX1_G_3 19 rfl rfl)
theorem dX1_G_91 : decode cX1_G 91 = .ok (.bipush 12, 2) := dk_16 12 (dk_at dksX1_G_3 20 rfl rfl)
theorem dX1_G_93 : decode cX1_G 93 = .ok (.invokestatic 165, 3) := dk_184 0 165 (dk_at dksX1_G_4 0 rfl rfl)
theorem dX1_G_96 : decode cX1_G 96 = .ok (.iastore, 1) := dk_79 (dk_at dksX1_G_4 3 rfl rfl)
theorem dX1_G_97 : decode cX1_G 97 = .ok (.aload_n 0, 1) := dk_42 (dk_at dksX1_G_4 4 rfl rfl)
theorem dX1_G_98 : decode cX1_G 98 = .ok (.getfield 64, 3) := dk_180 0 64 (dk_at dksX1_G_4 5 rfl rfl)
theorem dX1_G_101 : decode cX1_G 101 = .ok (.iload_n 3, 1) := dk_29 (dk_at dksX1_G_4 8 rfl rfl)
theorem dX1_G_102 : decode cX1_G 102 = .ok (.aload_n 0, 1) := dk_42 (dk_at dksX1_G_4 9 rfl rfl)
theorem dX1_G_103 : decode cX1_G 103 = .ok (.getfield 64, 3) := dk_180 0 64 (dk_at dksX1_G_4 10 rfl rfl)
theorem dX1_G_106 : decode cX1_G 106 = .ok (.iload_n 3, 1) := dk_29 (dk_at dksX1_G_4 13 rfl rfl)
theorem dX1_G_107 : decode cX1_G 107 = .ok (.iaload, 1) := dk_46 (dk_at dksX1_G_4 14 rfl rfl)
theorem dX1_G_108 : decode cX1_G 108 = .ok (.aload_n 0, 1) := dk_42 (dk_at dksX1_G_4 15 rfl rfl)
theorem dX1_G_109 : decode cX1_G 109 = .ok (.getfield 64, 3) := dk_180 0 64 (dk_at dksX1_G_4 16 rfl rfl)
theorem dX1_G_112 : decode cX1_G 112 = .ok (.iload 4, 2) := dk_21 4 (dk_at dksX1_G_4 19 rfl rfl)
theorem dX1_G_114 : decode cX1_G 114 = .ok (.iaload, 1) := dk_46 (dk_at dksX1_G_4 21 rfl rfl)
theorem dX1_G_115 : decode cX1_G 115 = .ok (.iadd, 1) := dk_96 (dk_at dksX1_G_4 22 rfl rfl)
theorem dX1_G_116 : decode cX1_G 116 = .ok (.iload_n 2, 1) := dk_28 (dk_at dksX1_G_4 23 rfl rfl)
theorem dX1_G_117 : decode cX1_G 117 = .ok (.iadd, 1) := dk_96 (dk_at dksX1_G_5 0 rfl rfl)
theorem dX1_G_118 : decode cX1_G 118 = .ok (.iastore, 1) := dk_79 (dk_at dksX1_G_5 1 rfl rfl)
theorem dX1_G_119 : decode cX1_G 119 = .ok (.aload_n 0, 1) := dk_42 (dk_at dksX1_G_5 2 rfl rfl)
theorem dX1_G_120 : decode cX1_G 120 = .ok (.getfield 64, 3) := dk_180 0 64 (dk_at dksX1_G_5 3 rfl rfl)
theorem dX1_G_123 : decode cX1_G 123 = .ok (.iload 6, 2) := dk_21 6 (dk_at dksX1_G_5 6 rfl rfl)
theorem dX1_G_125 : decode cX1_G 125 = .ok (.aload_n 0, 1) := dk_42 (dk_at dksX1_G_5 8 rfl rfl)
theorem dX1_G_126 : decode cX1_G 126 = .ok (.getfield 64, 3) := dk_180 0 64 (dk_at dksX1_G_5 9 rfl rfl)
theorem dX1_G_129 : decode cX1_G 129 = .ok (.iload 6, 2) := dk_21 6 (dk_at dksX1_G_5 12 rfl rfl)
theorem dX1_G_131 : decode cX1_G 131 = .ok (.iaload, 1) := dk_46 (dk_at dksX1_G_5 14 rfl rfl)
theorem dX1_G_132 : decode cX1_G 132 = .ok (.aload_n 0, 1) := dk_42 (dk_at dksX1_G_5 15 rfl rfl)
theorem dX1_G_133 : decode cX1_G 133 = .ok (.getfield 64, 3) := dk_180 0 64 (dk_at dksX1_G_5 16 rfl rfl)
theorem dX1_G_136 : decode cX1_G 136 = .ok (.iload_n 3, 1) := dk_29 (dk_at dksX1_G_5 19 rfl rfl)
theorem dX1_G_137 : decode cX1_G 137 = .ok (.iaload, 1) := dk_46 (dk_at dksX1_G_5 20 rfl rfl)
theorem dX1_G_138 : decode cX1_G 138 = .ok (.ixor, 1) := dk_130 (dk_at dksX1_G_5 21 rfl rfl)
theorem dX1_G_139 : decode cX1_G 139 = .ok (.bipush 8, 2) := dk_16 8 (dk_at dksX1_G_5 22 rfl rfl)
theorem dX1_G_141 : decode cX1_G 141 = .ok (.invokestatic 165, 3) := dk_184 0 165 (dk_at dksX1_G_6 0 rfl rfl)
theorem dX1_G_144 : decode cX1_G 144 = .ok (.iastore, 1) := dk_79 (dk_at dksX1_G_6 3 rfl rfl)
theorem dX1_G_145 : decode cX1_G 145 = .ok (.aload_n 0, 1) := dk_42 (dk_at dksX1_G_6 4 rfl rfl)
theorem dX1_G_146 : decode cX1_G 146 = .ok (.getfield 64, 3) := dk_180 0 64 (dk_at dksX1_G_6 5 rfl rfl)
theorem dX1_G_149 : decode cX1_G 149 = .ok (.iload 5, 2) := dk_21 5 (dk_at dksX1_G_6 8 rfl rfl)
theorem dX1_G_151 : decode cX1_G 151 = .ok (.aload_n 0, 1) := dk_42 (dk_at dksX1_G_6 10 rfl rfl)
theorem dX1_G_152 : decode cX1_G 152 = .ok (.getfield 64, 3) := dk_180 0 64 (dk_at dksX1_G_6 11 rfl rfl)
theorem dX1_G_155 : decode cX1_G 155 = .ok (.iload 5, 2) := dk_21 5 (dk_at dksX1_G_6 14 rfl rfl)
theorem dX1_G_157 : decode cX1_G 157 = .ok (.iaload, 1) := dk_46 (dk_at dksX1_G_6 16 rfl rfl)
theorem dX1_G_158 : decode cX1_G 158 = .ok (.aload_n 0, 1) := dk_42 (dk_at dksX1_G_6 17 rfl rfl)
theorem dX1_G_159 : decode cX1_G 159 = .ok (.getfield 64, 3) := dk_180 0 64 (dk_at dksX1_G_6 18 rfl rfl)
theorem dX1_G_162 : decode cX1_G 162 = .ok (.iload 6, 2) := dk_21 6 (dk_at dksX1_G_6 21 rfl rfl)
theorem dX1_G_164 : decode cX1_G 164 = .ok (.iaload, 1) := dk_46 (dk_at dksX1_G_6 23 rfl rfl)
theorem dX1_G_165 : decode cX1_G 165 = .ok (.iadd, 1) := dk_96 (dk_at dksX1_G_7 0 rfl rfl)
theorem dX1_G_166 : decode cX1_G 166 = .ok (.iastore, 1) := dk_79 (dk_at dksX1_G_7 1 rfl rfl)
theorem dX1_G_167 : decode cX1_G 167 = .ok (.aload_n 0, 1) := dk_42 (dk_at dksX1_G_7 2 rfl rfl)
theorem dX1_G_168 : decode cX1_G 168 = .ok (.getfield 64, 3) := dk_180 0 64 (dk_at dksX1_G_7 3 rfl rfl)
theorem dX1_G_171 : decode cX1_G 171 = .ok (.iload 4, 2) := dk_21 4 (dk_at dksX1_G_7 6 rfl rfl)
theorem dX1_G_173 : decode cX1_G 173 = .ok (.aload_n 0, 1) := dk_42 (dk_at dksX1_G_7 8 rfl rfl)
theorem dX1_G_174 : decode cX1_G 174 = .ok (.getfield 64, 3) := dk_180 0 64 (dk_at dksX1_G_7 9 rfl rfl)
theorem dX1_G_177 : decode cX1_G 177 = .ok (.iload 4, 2) := dk_21 4 (dk_at dksX1_G_7 12 rfl rfl)
theorem dX1_G_179 : decode cX1_G 179 = .ok (.iaload, 1) := dk_46 (dk_at dksX1_G_7 14 rfl rfl)
theorem dX1_G_180 : decode cX1_G 180 = .ok (.aload_n 0, 1) := dk_42 (dk_at dksX1_G_7 15 rfl rfl)
theorem dX1_G_181 : decode cX1_G 181 = .ok (.getfield 64, 3) := dk_180 0 64 (dk_at dksX1_G_7 16 rfl rfl)
theorem dX1_G_184 : decode cX1_G 184 = .ok (.iload 5, 2) := dk_21 5 (dk_at dksX1_G_7 19 rfl rfl)
theorem dX1_G_186 : decode cX1_G 186 = .ok (.iaload, 1) := dk_46 (dk_at dksX1_G_7 21 rfl rfl)
theorem dX1_G_187 : decode cX1_G 187 = .ok (.ixor, 1) := dk_130 (dk_at dksX1_G_7 22 rfl rfl)
theorem dX1_G_188 : decode cX1_G 188 = .ok (.bipush 7, 2) := dk_16 7 (dk_at dksX1_G_8 0 rfl rfl)
theorem dX1_G_190 : decode cX1_G 190 = .ok (.invokestatic 165, 3) := dk_184 0 165 (dk_at dksX1_G_8 2 rfl rfl)
theorem dX1_G_193 : decode cX1_G 193 = .ok (.iastore, 1) := dk_79 (dk_at dksX1_G_8 5 rfl rfl)
theorem dX1_G_194 : decode cX1_G 194 = .ok (.return_, 1) := dk_177 (dk_at dksX1_G_8 6 rfl rfl)
abbrev cX1_update_2 : ByteArray := prog_1_method_5_code
def yX1_update_2 : MethodName := ⟨RX1, "update", "(B)V"⟩
def dkwX1_update_2_2 : List UInt8 := [167, 0, 20, 42, 180, 0, 58, 42, 89, 180, 0, 61, 90, 4, 96, 181, 0, 61, 27, 84, 177]
abbrev dktX1_update_2_2 : List UInt8 := dkwX1_update_2_2 ++ []
def dkwX1_update_2_1 : List UInt8 := [182, 0, 122, 42, 180, 0, 58, 3, 184, 0, 126, 42, 180, 0, 58, 3, 27, 84, 42, 4, 181, 0, 61]
abbrev dktX1_update_2_1 : List UInt8 := dkwX1_update_2_1 ++ dktX1_update_2_2
def dkwX1_update_2_0 : List UInt8 := [16, 64, 42, 180, 0, 61, 100, 61, 28, 154, 0, 41, 42, 16, 64, 182, 0, 118, 42, 42, 180, 0, 58, 3]
abbrev dktX1_update_2_0 : List UInt8 := dkwX1_update_2_0 ++ dktX1_update_2_1
theorem dksX1_update_2_0 : cX1_update_2.data.toList.drop 0 = dktX1_update_2_0 := by decide +kernel
theorem dksX1_update_2_1 : cX1_update_2.data.toList.drop 24 = dktX1_update_2_1 := dk_seg dksX1_update_2_0 24 rfl rfl
theorem dksX1_update_2_2 : cX1_update_2.data.toList.drop 47 = dktX1_update_2_2 := dk_seg dksX1_update_2_1 23 rfl rfl
theorem dX1_update_2_0 : decode cX1_update_2 0 = .ok (.bipush 64, 2) := dk_16 64 (dk_at dksX1_update_2_0 0 rfl rfl)
theorem dX1_update_2_2 : decode cX1_update_2 2 = .ok (.aload_n 0, 1) := dk_42 (dk_at dksX1_update_2_0 2 rfl rfl)
theorem dX1_update_2_3 : decode cX1_update_2 3 = .ok (.getfield 61, 3) := dk_180 0 61 (dk_at dksX1_update_2_0 3 rfl rfl)
theorem dX1_update_2_6 : decode cX1_update_2 6 = .ok (.isub, 1) := dk_100 (dk_at dksX1_update_2_0 6 rfl rfl)
theorem dX1_update_2_7 : decode cX1_update_2 7 = .ok (.istore_n 2, 1) := dk_61 (dk_at dksX1_update_2_0 7 rfl rfl)
theorem dX1_update_2_8 : decode cX1_update_2 8 = .ok (.iload_n 2, 1) := dk_28 (dk_at dksX1_update_2_0 8 rfl rfl)
theorem dX1_update_2_9 : decode cX1_update_2 9 = .ok (.ifCond .ne 41, 3) := dk_154 0 41 (dk_at dksX1_update_2_0 9 rfl rfl)
theorem dX1_update_2_12 : decode cX1_update_2 12 = .ok (.aload_n 0, 1) := dk_42 (dk_at dksX1_update_2_0 12 rfl rfl)
theorem dX1_update_2_13 : decode cX1_update_2 13 = .ok (.bipush 64, 2) := dk_16 64 (dk_at dksX1_update_2_0 13 rfl rfl)
theorem dX1_update_2_15 : decode cX1_update_2 15 = .ok (.invokevirtual 118, 3) := dk_182 0 118 (dk_at dksX1_update_2_0 15 rfl rfl)
theorem dX1_update_2_18 : decode cX1_update_2 18 = .ok (.aload_n 0, 1) := dk_42 (dk_at dksX1_update_2_0 18 rfl rfl)
theorem dX1_update_2_19 : decode cX1_update_2 19 = .ok (.aload_n 0, 1) := dk_42 (dk_at dksX1_update_2_0 19 rfl rfl)
theorem dX1_update_2_20 : decode cX1_update_2 20 = .ok (.getfield 58, 3) := dk_180 0 58 (dk_at dksX1_update_2_0 20 rfl rfl)
theorem dX1_update_2_23 : decode cX1_update_2 23 = .ok (.iconst 0, 1) := dk_3 (dk_at dksX1_update_2_0 23 rfl rfl)
theorem dX1_update_2_24 : decode cX1_update_2 24 = .ok (.invokevirtual 122, 3) := dk_182 0 122 (dk_at dksX1_update_2_1 0 rfl rfl)
theorem dX1_update_2_27 : decode cX1_update_2 27 = .ok (.aload_n 0, 1) := dk_42 (dk_at dksX1_update_2_1 3 rfl rfl)
theorem dX1_update_2_28 : decode cX1_update_2 28 = .ok (.getfield 58, 3) := dk_180 0 58 (dk_at dksX1_update_2_1 4 rfl rfl)
theorem dX1_update_2_31 : decode cX1_update_2 31 = .ok (.iconst 0, 1) := dk_3 (dk_at dksX1_update_2_1 7 rfl rfl)
theorem dX1_update_2_32 : decode cX1_update_2 32 = .ok (.invokestatic 126, 3) := dk_184 0 126 (dk_at dksX1_update_2_1 8 rfl rfl)
theorem dX1_update_2_35 : decode cX1_update_2 35 = .ok (.aload_n 0, 1) := dk_42 (dk_at dksX1_update_2_1 11 rfl rfl)
theorem dX1_update_2_36 : decode cX1_update_2 36 = .ok (.getfield 58, 3) := dk_180 0 58 (dk_at dksX1_update_2_1 12 rfl rfl)
theorem dX1_update_2_39 : decode cX1_update_2 39 = .ok (.iconst 0, 1) := dk_3 (dk_at dksX1_update_2_1 15 rfl rfl)
theorem dX1_update_2_40 : decode cX1_update_2 40 = .ok (.iload_n 1, 1) := dk_27 (dk_at dksX1_update_2_1 16 rfl rfl)
theorem dX1_update_2_41 : decode cX1_update_2 41 = .ok (.bastore, 1) := dk_84 (dk_at dksX1_update_2_1 17 rfl rfl)
theorem dX1_update_2_42 : decode cX1_update_2 42 = .ok (.aload_n 0, 1) := dk_42 (dk_at dksX1_update_2_1 18 rfl rfl)
theorem dX1_update_2_43 : decode cX1_update_2 43 = .ok (.iconst 1, 1) := dk_4 (dk_at dksX1_update_2_1 19 rfl rfl)
theorem dX1_update_2_44 : decode cX1_update_2 44 = .ok (.putfield 61, 3) := dk_181 0 61 (dk_at dksX1_update_2_1 20 rfl rfl)
theorem dX1_update_2_47 : decode cX1_update_2 47 = .ok (.goto 20, 3) := dk_167 0 20 (dk_at dksX1_update_2_2 0 rfl rfl)
theorem dX1_update_2_50 : decode cX1_update_2 50 = .ok (.aload_n 0, 1) := dk_42 (dk_at dksX1_update_2_2 3 rfl rfl)
theorem dX1_update_2_51 : decode cX1_update_2 51 = .ok (.getfield 58, 3) := dk_180 0 58 (dk_at dksX1_update_2_2 4 rfl rfl)
theorem dX1_update_2_54 : decode cX1_update_2 54 = .ok (.aload_n 0, 1) := dk_42 (dk_at dksX1_update_2_2 7 rfl rfl)
theorem dX1_update_2_55 : decode cX1_update_2 55 = .ok (.dup, 1) := dk_89 (dk_at dksX1_update_2_2 8 rfl rfl)
theorem dX1_update_2_56 : decode cX1_update_2 56 = .ok (.getfield 61, 3) := dk_180 0 61 (dk_at dksX1_update_2_2 9 rfl rfl)
theorem dX1_update_2_59 : decode cX1_update_2 59 = .ok (.dup_x1, 1) := dk_90 (dk_at dksX1_update_2_2 12 rfl rfl)
theorem dX1_update_2_60 : decode cX1_update_2 60 = .ok (.iconst 1, 1) := dk_4 (dk_at dksX1_update_2_2 13 rfl rfl)
theorem dX1_update_2_61 : decode cX1_update_2 61 = .ok (.iadd, 1) := dk_96 (dk_at dksX1_update_2_2 14 rfl rfl)
theorem dX1_update_2_62 : decode cX1_update_2 62 = .ok (.putfield 61, 3) := dk_181 0 61 (dk_at dksX1_update_2_2 15 rfl rfl)
theorem dX1_update_2_65 : decode cX1_update_2 65 = .ok (.iload_n 1, 1) := dk_27 (dk_at dksX1_update_2_2 18 rfl rfl)
theorem dX1_update_2_66 : decode cX1_update_2 66 = .ok (.bastore, 1) := dk_84 (dk_at dksX1_update_2_2 19 rfl rfl)
theorem dX1_update_2_67 : decode cX1_update_2 67 = .ok (.return_, 1) := dk_177 (dk_at dksX1_update_2_2 20 rfl rfl)
abbrev cX1_doFinal : ByteArray := prog_1_method_7_code
def yX1_doFinal : MethodName := ⟨RX1, "doFinal", "([BI)I"⟩
def dkwX1_doFinal_5 : List UInt8 := [42, 180, 0, 18, 172]
abbrev dktX1_doFinal_5 : List UInt8 := dkwX1_doFinal_5 ++ []
def dkwX1_doFinal_4 : List UInt8 := [180, 0, 68, 29, 46, 43, 28, 42, 180, 0, 18, 96, 21, 4, 100, 21, 4, 184, 0, 141, 42, 182, 0, 145]
abbrev dktX1_doFinal_4 : List UInt8 := dkwX1_doFinal_4 ++ dktX1_doFinal_5
def dkwX1_doFinal_3 : List UInt8 := [180, 0, 18, 6, 126, 54, 4, 42, 180, 0, 68, 3, 29, 43, 28, 184, 0, 137, 21, 4, 158, 0, 24, 42]
abbrev dktX1_doFinal_3 : List UInt8 := dkwX1_doFinal_3 ++ dktX1_doFinal_4
def dkwX1_doFinal_2 : List UInt8 := [180, 0, 61, 182, 0, 118, 42, 42, 180, 0, 58, 3, 182, 0, 122, 42, 180, 0, 18, 5, 124, 62, 42]
abbrev dktX1_doFinal_2 : List UInt8 := dkwX1_doFinal_2 ++ dktX1_doFinal_3
def dkwX1_doFinal_1 : List UInt8 := [181, 0, 77, 42, 180, 0, 54, 153, 0, 8, 42, 2, 181, 0, 80, 42, 180, 0, 61, 158, 0, 11, 42, 42]
abbrev dktX1_doFinal_1 : List UInt8 := dkwX1_doFinal_1 ++ dktX1_doFinal_2
def dkwX1_doFinal_0 : List UInt8 := [28, 43, 190, 42, 180, 0, 18, 100, 164, 0, 13, 187, 0, 132, 89, 18, 134, 183, 0, 136, 191, 42, 2]
abbrev dktX1_doFinal_0 : List UInt8 := dkwX1_doFinal_0 ++ dktX1_doFinal_1
theorem dksX1_doFinal_0 : cX1_doFinal.data.toList.drop 0 = dktX1_doFinal_0 := by decide +kernel
theorem dksX1_doFinal_1 : cX1_doFinal.data.toList.drop 23 = dktX1_doFinal_1 := dk_seg dksX1_doFinal_0 23 rfl rfl
theorem dksX1_doFinal_2 : cX1_doFinal.data.toList.drop 47 = dktX1_doFinal_2 := dk_seg dksX1_doFinal_1 24 rfl rfl
theorem dksX1_doFinal_3 : cX1_doFinal.data.toList.drop 70 = dktX1_doFinal_3 := dk_seg dksX1_doFinal_2 23 rfl rfl
theorem dksX1_doFinal_4 : cX1_doFinal.data.toList.drop 94 = dktX1_doFinal_4 := dk_seg dksX1_doFinal_3 24 rfl rfl
theorem dksX1_doFinal_5 : cX1_doFinal.data.toList.drop 118 = dktX1_doFinal_5 := dk_seg dksX1_doFinal_4 24 rfl rfl
theorem dX1_doFinal_0 : decode cX1_doFinal 0 = .ok (.iload_n 2, 1) := dk_28 (dk_at dksX1_doFinal_0 0 rfl rfl)
theorem dX1_doFinal_1 : decode cX1_doFinal 1 = .ok (.aload_n 1, 1) := dk_43 (dk_at dksX1_doFinal_0 1 rfl rfl)
theorem dX1_doFinal_2 : decode cX1_doFinal 2 = .ok (.arraylength, 1) := dk_190 (dk_at dksX1_doFinal_0 2 rfl rfl)
theorem dX1_doFinal_3 : decode cX1_doFinal 3 = .ok (.aload_n 0, 1) := dk_42 (dk_at dksX1_doFinal_0 3 rfl rfl)
theorem dX1_doFinal_4 : decode cX1_doFinal 4 = .ok (.getfield 18, 3) := dk_180 0 18 (dk_at dksX1_doFinal_0 4 rfl rfl)
theorem dX1_doFinal_7 : decode cX1_doFinal 7 = .ok (.isub, 1) := dk_100 (dk_at dksX1_doFinal_0 7 rfl rfl)
theorem dX1_doFinal_8 : decode cX1_doFinal 8 = .ok (.if_icmp .le 13, 3) := dk_164 0 13 (dk_at dksX1_doFinal_0 8 rfl rfl)
theorem dX1_doFinal_11 : decode cX1_doFinal 11 = .ok (.new 132, 3) := dk_187 0 132 (dk_at dksX1_doFinal_0 11 rfl rfl)
theorem dX1_doFinal_14 : decode cX1_doFinal 14 = .ok (.dup, 1) := dk_89 (dk_at dksX1_doFinal_0 14 rfl rfl)
theorem dX1_doFinal_15 : decode cX1_doFinal 15 = .ok (.ldc 134, 2) := dk_18 134 (dk_at dksX1_doFinal_0 15 rfl rfl)
theorem dX1_doFinal_17 : decode cX1_doFinal 17 = .ok (.invokespecial 136, 3) := dk_183 0 136 (dk_at dksX1_doFinal_0 17 rfl rfl)
theorem dX1_doFinal_20 : decode cX1_doFinal 20 = .ok (.athrow, 1) := dk_191 (dk_at dksX1_doFinal_0 20 rfl rfl)
theorem dX1_doFinal_21 : decode cX1_doFinal 21 = .ok (.aload_n 0, 1) := dk_42 (dk_at dksX1_doFinal_0 21 rfl rfl)
theorem dX1_doFinal_22 : decode cX1_doFinal 22 = .ok (.iconst (-1), 1) := dk_2 (dk_at dksX1_doFinal_0 22 rfl rfl)
theorem dX1_doFinal_23 : decode cX1_doFinal 23 = .ok (.putfield 77, 3) := dk_181 0 77 (dk_at dksX1_doFinal_1 0 rfl rfl)
theorem dX1_doFinal_26 : decode cX1_doFinal 26 = .ok (.aload_n 0, 1) := dk_42 (dk_at dksX1_doFinal_1 3 rfl rfl)
theorem dX1_doFinal_27 : decode cX1_doFinal 27 = .ok (.getfield 54, 3) := dk_180 0 54 (dk_at dksX1_doFinal_1 4 rfl rfl)
theorem dX1_doFinal_30 : decode cX1_doFinal 30 = .ok (.ifCond .eq 8, 3) := dk_153 0 8 (dk_at dksX1_doFinal_1 7 rfl rfl)
theorem dX1_doFinal_33 : decode cX1_doFinal 33 = .ok (.aload_n 0, 1) := dk_42 (dk_at dksX1_doFinal_1 10 rfl rfl)
theorem dX1_doFinal_34 : decode cX1_doFinal 34 = .ok (.iconst (-1), 1) := dk_2 (dk_at dksX1_doFinal_1 11 rfl rfl)
theorem dX1_doFinal_35 : decode cX1_doFinal 35 = .ok (.putfield 80, 3) := dk_181 0 80 (dk_at dksX1_doFinal_1 12 rfl rfl)
theorem dX1_doFinal_38 : decode cX1_doFinal 38 = .ok (.aload_n 0, 1) := dk_42 (dk_at dksX1_doFinal_1 15 rfl rfl)
theorem dX1_doFinal_39 : decode cX1_doFinal 39 = .ok (.getfield 61, 3) := dk_180 0 61 (dk_at dksX1_doFinal_1 16 rfl rfl)
theorem dX1_doFinal_42 : decode cX1_doFinal 42 = .ok (.ifCond .le 11, 3) := dk_158 0 11 (dk_at dksX1_doFinal_1 19 rfl rfl)
theorem dX1_doFinal_45 : decode cX1_doFinal 45 = .ok (.aload_n 0, 1) := dk_42 (dk_at dksX1_doFinal_1 22 rfl rfl)
theorem dX1_doFinal_46 : decode cX1_doFinal 46 = .ok (.aload_n 0, 1) := dk_42 (dk_at dksX1_doFinal_1 23 rfl rfl)
theorem dX1_doFinal_47 : decode cX1_doFinal 47 = .ok (.getfield 61, 3) := dk_180 0 61 (dk_at dksX1_doFinal_2 0 rfl rfl)
theorem dX1_doFinal_50 : decode cX1_doFinal 50 = .ok (.invokevirtual 118, 3) := dk_182 0 118 (dk_at dksX1_doFinal_2 3 rfl rfl)
theorem dX1_doFinal_53 : decode cX1_doFinal 53 = .ok (.aload_n 0, 1) := dk_42 (dk_at dksX1_doFinal_2 6 rfl rfl)
theorem dX1_doFinal_54 : decode cX1_doFinal 54 = .ok (.aload_n 0, 1) := dk_42 (dk_at dksX1_doFinal_2 7 rfl rfl)
theorem dX1_doFinal_55 : decode cX1_doFinal 55 = .ok (.getfield 58, 3) := dk_180 0 58 (dk_at dksX1_doFinal_2 8 rfl rfl)
theorem dX1_doFinal_58 : decode cX1_doFinal 58 = .ok (.iconst 0, 1) := dk_3 (dk_at dksX1_doFinal_2 11 rfl rfl)
theorem dX1_doFinal_59 : decode cX1_doFinal 59 = .ok (.invokevirtual 122, 3) := dk_182 0 122 (dk_at dksX1_doFinal_2 12 rfl rfl)
theorem dX1_doFinal_62 : decode cX1_doFinal 62 = .ok (.aload_n 0, 1) := dk_42 (dk_at dksX1_doFinal_2 15 rfl rfl)
theorem dX1_doFinal_63 : decode cX1_doFinal 63 = .ok (.getfield 18, 3) := dk_180 0 18 (dk_at dksX1_doFinal_2 16 rfl rfl)
theorem dX1_doFinal_66 : decode cX1_doFinal 66 = .ok (.iconst 2, 1) := dk_5 (dk_at dksX1_doFinal_2 19 rfl rfl)
theorem dX1_doFinal_67 : decode cX1_doFinal 67 = .ok (.iushr, 1) := dk_124 (dk_at dksX1_doFinal_2 20 rfl rfl)
theorem dX1_doFinal_68 : decode cX1_doFinal 68 = .ok (.istore_n 3, 1) := dk_62 (dk_at dksX1_doFinal_2 21 rfl rfl)
theorem dX1_doFinal_69 : decode cX1_doFinal 69 = .ok (.aload_n 0, 1) := dk_42 (dk_at dksX1_doFinal_2 22 rfl rfl)
theorem dX1_doFinal_70 : decode cX1_doFinal 70 = .ok (.getfield 18, 3) := dk_180 0 18 (dk_at dksX1_doFinal_3 0 rfl rfl)
theorem dX1_doFinal_73 : decode cX1_doFinal 73 = .ok (.iconst 3, 1) := dk_6 (dk_at dksX1_doFinal_3 3 rfl rfl)
theorem dX1_doFinal_74 : decode cX1_doFinal 74 = .ok (.iand, 1) := dk_126 (dk_at dksX1_doFinal_3 4 rfl rfl)
theorem dX1_doFinal_75 : decode cX1_doFinal 75 = .ok (.istore 4, 2) := dk_54 4 (dk_at dksX1_doFinal_3 5 rfl rfl)
theorem dX1_doFinal_77 : decode cX1_doFinal 77 = .ok (.aload_n 0, 1) := dk_42 (dk_at dksX1_doFinal_3 7 rfl rfl)
theorem dX1_doFinal_78 : decode cX1_doFinal 78 = .ok (.getfield 68, 3) := dk_180 0 68 (dk_at dksX1_doFinal_3 8 rfl rfl)
theorem dX1_doFinal_81 : decode cX1_doFinal 81 = .ok (.iconst 0, 1) := dk_3 (dk_at dksX1_doFinal_3 11 rfl rfl)
theorem dX1_doFinal_82 : decode cX1_doFinal 82 = .ok (.iload_n 3, 1) := dk_29 (dk_at dksX1_doFinal_3 12 rfl rfl)
theorem dX1_doFinal_83 : decode cX1_doFinal 83 = .ok (.aload_n 1, 1) := dk_43 (dk_at dksX1_doFinal_3 13 rfl rfl)
theorem dX1_doFinal_84 : decode cX1_doFinal 84 = .ok (.iload_n 2, 1) := dk_28 (dk_at dksX1_doFinal_3 14 rfl rfl)
theorem dX1_doFinal_85 : decode cX1_doFinal 85 = .ok (.invokestatic 137, 3) := dk_184 0 137 (dk_at dksX1_doFinal_3 15 rfl rfl)
theorem dX1_doFinal_88 : decode cX1_doFinal 88 = .ok (.iload 4, 2) := dk_21 4 (dk_at dksX1_doFinal_3 18 rfl rfl)
theorem dX1_doFinal_90 : decode cX1_doFinal 90 = .ok (.ifCond .le 24, 3) := dk_158 0 24 (dk_at dksX1_doFinal_3 20 rfl rfl)
theorem dX1_doFinal_93 : decode cX1_doFinal 93 = .ok (.aload_n 0, 1) := dk_42 (dk_at dksX1_doFinal_3 23 rfl rfl)
theorem dX1_doFinal_94 : decode cX1_doFinal 94 = .ok (.getfield 68, 3) := dk_180 0 68 (dk_at dksX1_doFinal_4 0 rfl rfl)
theorem dX1_doFinal_97 : decode cX1_doFinal 97 = .ok (.iload_n 3, 1) := dk_29 (dk_at dksX1_doFinal_4 3 rfl rfl)
theorem dX1_doFinal_98 : decode cX1_doFinal 98 = .ok (.iaload, 1) := dk_46 (dk_at dksX1_doFinal_4 4 rfl rfl)
theorem dX1_doFinal_99 : decode cX1_doFinal 99 = .ok (.aload_n 1, 1) := dk_43 (dk_at dksX1_doFinal_4 5 rfl rfl)
theorem dX1_doFinal_100 : decode cX1_doFinal 100 = .ok (.iload_n 2, 1) := dk_28 (dk_at dksX1_doFinal_4 6 rfl rfl)
theorem dX1_doFinal_101 : decode cX1_doFinal 101 = .ok (.aload_n 0, 1) := dk_42 (dk_at dksX1_doFinal_4 7 rfl rfl)
theorem dX1_doFinal_102 : decode cX1_doFinal 102 = .ok (.getfield 18, 3) := dk_180 0 18 (dk_at dksX1_doFinal_4 8 rfl rfl)
theorem dX1_doFinal_105 : decode cX1_doFinal 105 = .ok (.iadd, 1) := dk_96 (dk_at dksX1_doFinal_4 11 rfl rfl)
theorem dX1_doFinal_106 : decode cX1_doFinal 106 = .ok (.iload 4, 2) := dk_21 4 (dk_at dksX1_doFinal_4 12 rfl rfl)
theorem dX1_doFinal_108 : decode cX1_doFinal 108 = .ok (.isub, 1) := dk_100 (dk_at dksX1_doFinal_4 14 rfl rfl)
theorem dX1_doFinal_109 : decode cX1_doFinal 109 = .ok (.iload 4, 2) := dk_21 4 (dk_at dksX1_doFinal_4 15 rfl rfl)
theorem dX1_doFinal_111 : decode cX1_doFinal 111 = .ok (.invokestatic 141, 3) := dk_184 0 141 (dk_at dksX1_doFinal_4 17 rfl rfl)
theorem dX1_doFinal_114 : decode cX1_doFinal 114 = .ok (.aload_n 0, 1) := dk_42 (dk_at dksX1_doFinal_4 20 rfl rfl)
theorem dX1_doFinal_115 : decode cX1_doFinal 115 = .ok (.invokevirtual 145, 3) := dk_182 0 145 (dk_at dksX1_doFinal_4 21 rfl rfl)
theorem dX1_doFinal_118 : decode cX1_doFinal 118 = .ok (.aload_n 0, 1) := dk_42 (dk_at dksX1_doFinal_5 0 rfl rfl)
theorem dX1_doFinal_119 : decode cX1_doFinal 119 = .ok (.getfield 18, 3) := dk_180 0 18 (dk_at dksX1_doFinal_5 1 rfl rfl)
theorem dX1_doFinal_122 : decode cX1_doFinal 122 = .ok (.ireturn, 1) := dk_172 (dk_at dksX1_doFinal_5 4 rfl rfl)
abbrev cX1_reset : ByteArray := prog_1_method_8_code
def yX1_reset : MethodName := ⟨RX1, "reset", "()V"⟩
def dkwX1_reset_4 : List UInt8 := [182, 0, 93, 177]
abbrev dktX1_reset_4 : List UInt8 := dkwX1_reset_4 ++ []
def dkwX1_reset_3 : List UInt8 := [184, 0, 99, 42, 16, 64, 181, 0, 61, 42, 42, 180, 0, 25, 42, 180, 0, 29, 42, 180, 0, 32]
abbrev dktX1_reset_3 : List UInt8 := dkwX1_reset_3 ++ dktX1_reset_4
def dkwX1_reset_2 : List UInt8 := [42, 180, 0, 32, 198, 0, 27, 42, 180, 0, 32, 3, 42, 180, 0, 58, 3, 42, 180, 0, 32, 190]
abbrev dktX1_reset_2 : List UInt8 := dkwX1_reset_2 ++ dktX1_reset_3
def dkwX1_reset_1 : List UInt8 := [181, 0, 74, 42, 3, 181, 0, 54, 42, 180, 0, 64, 3, 184, 0, 148, 42, 180, 0, 58, 3, 184, 0, 126]
abbrev dktX1_reset_1 : List UInt8 := dkwX1_reset_1 ++ dktX1_reset_2
def dkwX1_reset_0 : List UInt8 := [42, 3, 181, 0, 61, 42, 3, 181, 0, 77, 42, 3, 181, 0, 80, 42, 3, 181, 0, 71, 42, 3]
abbrev dktX1_reset_0 : List UInt8 := dkwX1_reset_0 ++ dktX1_reset_1
theorem dksX1_reset_0 : cX1_reset.data.toList.drop 0 = dktX1_reset_0 := by decide +kernel
theorem dksX1_reset_1 : cX1_reset.data.toList.drop 22 = dktX1_reset_1 := dk_seg dksX1_reset_0 22 rfl rfl
theorem dksX1_reset_2 : cX1_reset.data.toList.drop 46 = dktX1_reset_2 := dk_seg dksX1_reset_1 24 rfl rfl
theorem dksX1_reset_3 : cX1_reset.data.toList.drop 68 = dktX1_reset_3 := dk_seg dksX1_reset_2 22 rfl rfl
theorem dksX1_reset_4 : cX1_reset.data.toList.drop 90 = dktX1_reset_4 := dk_seg dksX1_reset_3 22 rfl rfl
theorem dX1_reset_0 : decode cX1_reset 0 = .ok (.aload_n 0, 1) := dk_42 (dk_at dksX1_reset_0 0 rfl rfl)
theorem dX1_reset_1 : decode cX1_reset 1 = .ok (.iconst 0, 1) := dk_3 (dk_at dksX1_reset_0 1 rfl rfl)
theorem dX1_reset_2 : decode cX1_reset 2 = .ok (.putfield 61, 3) := dk_181 0 61 (dk_at dksX1_reset_0 2 rfl rfl)
theorem dX1_reset_5 : decode cX1_reset 5 = .ok (.aload_n 0, 1) := dk_42 (dk_at dksX1_reset_0 5 rfl rfl)
theorem dX1_reset_6 : decode cX1_reset 6 = .ok (.iconst 0, 1) := dk_3 (dk_at dksX1_reset_0 6 rfl rfl)
theorem dX1_reset_7 : decode cX1_reset 7 = .ok (.putfield 77, 3) := dk_181 0 77 (dk_at dksX1_reset_0 7 rfl rfl)
theorem dX1_reset_10 : decode cX1_reset 10 = .ok (.aload_n 0, 1) := dk_42 (dk_at dksX1_reset_0 10 rfl rfl)
theorem dX1_reset_11 : decode cX1_reset 11 = .ok (.iconst 0, 1) := dk_3 (dk_at dksX1_reset_0 11 rfl rfl)
theorem dX1_reset_12 : decode cX1_reset 12 = .ok (.putfield 80, 3) := dk_181 0 80 (dk_at dksX1_reset_0 12 rfl rfl)
theorem dX1_reset_15 : decode cX1_reset 15 = .ok (.aload_n 0, 1) := dk_42 (dk_at dksX1_reset_0 15 rfl rfl)
theorem dX1_reset_16 : decode cX1_reset 16 = .ok (.iconst 0, 1) := dk_3 (dk_at dksX1_reset_0 16 rfl rfl)
theorem dX1_reset_17 : decode cX1_reset 17 = .ok (.putfield 71, 3) := dk_181 0 71 (dk_at dksX1_reset_0 17 rfl rfl)
theorem dX1_reset_20 : decode cX1_reset 20 = .ok (.aload_n 0, 1) := dk_42 (dk_at dksX1_reset_0 20 rfl rfl)
theorem dX1_reset_21 : decode cX1_reset 21 = .ok (.iconst 0, 1) := dk_3 (dk_at dksX1_reset_0 21 rfl rfl)
theorem dX1_reset_22 : decode cX1_reset 22 = .ok (.putfield 74, 3) := dk_181 0 74 (dk_at dksX1_reset_1 0 rfl rfl)
theorem dX1_reset_25 : decode cX1_reset 25 = .ok (.aload_n 0, 1) := dk_42 (dk_at dksX1_reset_1 3 rfl rfl)
theorem dX1_reset_26 : decode cX1_reset 26 = .ok (.iconst 0, 1) := dk_3 (dk_at dksX1_reset_1 4 rfl rfl)
theorem dX1_reset_27 : decode cX1_reset 27 = .ok (.putfield 54, 3) := dk_181 0 54 (dk_at dksX1_reset_1 5 rfl rfl)
theorem dX1_reset_30 : decode cX1_reset 30 = .ok (.aload_n 0, 1) := dk_42 (dk_at dksX1_reset_1 8 rfl rfl)
theorem dX1_reset_31 : decode cX1_reset 31 = .ok (.getfield 64, 3) := dk_180 0 64 (dk_at dksX1_reset_1 9 rfl rfl)
theorem dX1_reset_34 : decode cX1_reset 34 = .ok (.iconst 0, 1) := dk_3 (dk_at dksX1_reset_1 12 rfl rfl)
theorem dX1_reset_35 : decode cX1_reset 35 = .ok (.invokestatic 148, 3) := dk_184 0 148 (dk_at dksX1_reset_1 13 rfl rfl)
theorem dX1_reset_38 : decode cX1_reset 38 = .ok (.aload_n 0, 1) := dk_42 (dk_at dksX1_reset_1 16 rfl rfl)
theorem dX1_reset_39 : decode cX1_reset 39 = .ok (.getfield 58, 3) := dk_180 0 58 (dk_at dksX1_reset_1 17 rfl rfl)
theorem dX1_reset_42 : decode cX1_reset 42 = .ok (.iconst 0, 1) := dk_3 (dk_at dksX1_reset_1 20 rfl rfl)
theorem dX1_reset_43 : decode cX1_reset 43 = .ok (.invokestatic 126, 3) := dk_184 0 126 (dk_at dksX1_reset_1 21 rfl rfl)
theorem dX1_reset_46 : decode cX1_reset 46 = .ok (.aload_n 0, 1) := dk_42 (dk_at dksX1_reset_2 0 rfl rfl)
theorem dX1_reset_47 : decode cX1_reset 47 = .ok (.getfield 32, 3) := dk_180 0 32 (dk_at dksX1_reset_2 1 rfl rfl)
theorem dX1_reset_50 : decode cX1_reset 50 = .ok (.ifnull 27, 3) := dk_198 0 27 (dk_at dksX1_reset_2 4 rfl rfl)
theorem dX1_reset_53 : decode cX1_reset 53 = .ok (.aload_n 0, 1) := dk_42 (dk_at dksX1_reset_2 7 rfl rfl)
theorem dX1_reset_54 : decode cX1_reset 54 = .ok (.getfield 32, 3) := dk_180 0 32 (dk_at dksX1_reset_2 8 rfl rfl)
theorem dX1_reset_57 : decode cX1_reset 57 = .ok (.iconst 0, 1) := dk_3 (dk_at dksX1_reset_2 11 rfl rfl)
theorem dX1_reset_58 : decode cX1_reset 58 = .ok (.aload_n 0, 1) := dk_42 (dk_at dksX1_reset_2 12 rfl rfl)
theorem dX1_reset_59 : decode cX1_reset 59 = .ok (.getfield 58, 3) := dk_180 0 58 (dk_at dksX1_reset_2 13 rfl rfl)
theorem dX1_reset_62 : decode cX1_reset 62 = .ok (.iconst 0, 1) := dk_3 (dk_at dksX1_reset_2 16 rfl rfl)
theorem dX1_reset_63 : decode cX1_reset 63 = .ok (.aload_n 0, 1) := dk_42 (dk_at dksX1_reset_2 17 rfl rfl)
theorem dX1_reset_64 : decode cX1_reset 64 = .ok (.getfield 32, 3) := dk_180 0 32 (dk_at dksX1_reset_2 18 rfl rfl)
theorem dX1_reset_67 : decode cX1_reset 67 = .ok (.arraylength, 1) := dk_190 (dk_at dksX1_reset_2 21 rfl rfl)
theorem dX1_reset_68 : decode cX1_reset 68 = .ok (.invokestatic 99, 3) := dk_184 0 99 (dk_at dksX1_reset_3 0 rfl rfl)
theorem dX1_reset_71 : decode cX1_reset 71 = .ok (.aload_n 0, 1) := dk_42 (dk_at dksX1_reset_3 3 rfl rfl)
theorem dX1_reset_72 : decode cX1_reset 72 = .ok (.bipush 64, 2) := dk_16 64 (dk_at dksX1_reset_3 4 rfl rfl)
theorem dX1_reset_74 : decode cX1_reset 74 = .ok (.putfield 61, 3) := dk_181 0 61 (dk_at dksX1_reset_3 6 rfl rfl)
theorem dX1_reset_77 : decode cX1_reset 77 = .ok (.aload_n 0, 1) := dk_42 (dk_at dksX1_reset_3 9 rfl rfl)
theorem dX1_reset_78 : decode cX1_reset 78 = .ok (.aload_n 0, 1) := dk_42 (dk_at dksX1_reset_3 10 rfl rfl)
theorem dX1_reset_79 : decode cX1_reset 79 = .ok (.getfield 25, 3) := dk_180 0 25 (dk_at dksX1_reset_3 11 rfl rfl)
theorem dX1_reset_82 : decode cX1_reset 82 = .ok (.aload_n 0, 1) := dk_42 (dk_at dksX1_reset_3 14 rfl rfl)
theorem dX1_reset_83 : decode cX1_reset 83 = .ok (.getfield 29, 3) := dk_180 0 29 (dk_at dksX1_reset_3 15 rfl rfl)
theorem dX1_reset_86 : decode cX1_reset 86 = .ok (.aload_n 0, 1) := dk_42 (dk_at dksX1_reset_3 18 rfl rfl)
theorem dX1_reset_87 : decode cX1_reset 87 = .ok (.getfield 32, 3) := dk_180 0 32 (dk_at dksX1_reset_3 19 rfl rfl)
theorem dX1_reset_90 : decode cX1_reset 90 = .ok (.invokevirtual 93, 3) := dk_182 0 93 (dk_at dksX1_reset_4 0 rfl rfl)
theorem dX1_reset_93 : decode cX1_reset 93 = .ok (.return_, 1) := dk_177 (dk_at dksX1_reset_4 3 rfl rfl)
theorem q16 : (Jvm.Cond.initialized "Blake2sDigest") ∈ lw_all := lw_g (lw_at lw_m1 2 rfl) rfl
theorem q42 : (Jvm.Cond.instantiable "Blake2sDigest" (21 : Nat)) ∈ lw_all := lw_g (lw_at lw_m1 28 rfl) rfl
theorem q44 : (Jvm.Cond.instanceMethod ({ cls := "Blake2sDigest", name := "<init>", desc := "(I)V" } : Jvm.MethodName)) ∈ lw_all := lw_g (lw_at lw_m1 30 rfl) rfl
theorem q45 : (Jvm.Cond.code ({ cls := "Blake2sDigest", name := "<init>", desc := "(I)V" } : Jvm.MethodName) prog_1_method_1_code (2 : Nat) (Option.none : Option Jvm.ClassFile.FieldType)) ∈ lw_all := lw_g (lw_at lw_m1 31 rfl) rfl
theorem q46 : (Jvm.Cond.fieldLink "Blake2sDigest" (1 : Nat) "CryptoServicePurpose" "ANY" "LCryptoServicePurpose;") ∈ lw_all := lw_g (lw_at lw_m1 32 rfl) rfl
theorem q48 : (Jvm.Cond.methodLink "Blake2sDigest" (7 : Nat) ({ cls := "Blake2sDigest", name := "<init>", desc := "(ILCryptoServicePurpose;)V" } : Jvm.MethodName)) ∈ lw_all := lw_g (lw_at lw_m1 34 rfl) rfl
theorem q49 : (Jvm.Cond.instanceMethod ({ cls := "Blake2sDigest", name := "<init>", desc := "(ILCryptoServicePurpose;)V" } : Jvm.MethodName)) ∈ lw_all := lw_g (lw_at lw_m1 35 rfl) rfl
theorem q50 : (Jvm.Cond.code ({ cls := "Blake2sDigest", name := "<init>", desc := "(ILCryptoServicePurpose;)V" } : Jvm.MethodName) prog_1_method_2_code (3 : Nat) (Option.none : Option Jvm.ClassFile.FieldType)) ∈ lw_all := lw_g (lw_at lw_m1 36 rfl) rfl
theorem q51 : (Jvm.Cond.methodLink "Blake2sDigest" (13 : Nat) ({ cls := "java/lang/Object", name := "<init>", desc := "()V" } : Jvm.MethodName)) ∈ lw_all := lw_g (lw_at lw_m1 37 rfl) rfl
theorem q52 : (Jvm.Cond.classLink "Blake2sDigest" (83 : Nat) "java/lang/IllegalArgumentException") ∈ lw_all := lw_g (lw_at lw_m1 38 rfl) rfl
theorem q92 : (Jvm.Cond.stringRef "Blake2sDigest" (85 : Nat) "BLAKE2s digest bit length must be a multiple of 8 and not greater than 256") ∈ lw_tbl := lw_at lw_m1 78 rfl
theorem q93 : (Jvm.Cond.methodLink "Blake2sDigest" (87 : Nat) ({ cls := "java/lang/IllegalArgumentException", name := "<init>", desc := "(Ljava/lang/String;)V" } : Jvm.MethodName)) ∈ lw_all := lw_g (lw_at lw_m1 79 rfl) rfl
theorem q120 : (Jvm.Cond.methodLink "Blake2sDigest" (93 : Nat) ({ cls := "Blake2sDigest", name := "init", desc := "([B[B[B)V" } : Jvm.MethodName)) ∈ lw_all := lw_g (lw_at lw_m1 106 rfl) rfl
theorem q121 : (Jvm.Cond.privateMethod ({ cls := "Blake2sDigest", name := "init", desc := "([B[B[B)V" } : Jvm.MethodName)) ∈ lw_tbl := lw_at lw_m1 107 rfl
theorem q122 : (Jvm.Cond.instanceMethod ({ cls := "Blake2sDigest", name := "init", desc := "([B[B[B)V" } : Jvm.MethodName)) ∈ lw_all := lw_g (lw_at lw_m1 108 rfl) rfl
theorem q123 : (Jvm.Cond.code ({ cls := "Blake2sDigest", name := "init", desc := "([B[B[B)V" } : Jvm.MethodName) prog_1_method_3_code (6 : Nat) (Option.none : Option Jvm.ClassFile.FieldType)) ∈ lw_all := lw_g (lw_at lw_m1 109 rfl) rfl
theorem q124 : (Jvm.Cond.stringRef "Blake2sDigest" (97 : Nat) "Keys > 32 bytes are not supported") ∈ lw_tbl := lw_at lw_m1 110 rfl
theorem q125 : (Jvm.Cond.methodLink "Blake2sDigest" (99 : Nat) ({ cls := "java/lang/System", name := "arraycopy", desc := "(Ljava/lang/Object;ILjava/lang/Object;II)V" } : Jvm.MethodName)) ∈ lw_all := lw_g (lw_at lw_m1 111 rfl) rfl
theorem q128 : (Jvm.Cond.fieldLink "Blake2sDigest" (105 : Nat) "Blake2sDigest" "blake2s_IV" "[I") ∈ lw_all := lw_g (lw_at lw_m1 114 rfl) rfl
theorem q129 : (Jvm.Cond.laysStatic "Blake2sDigest" "blake2s_IV" "[I") ∈ lw_tbl := lw_at lw_m1 115 rfl
theorem q130 : (Jvm.Cond.stringRef "Blake2sDigest" (108 : Nat) "Salt length must be exactly 8 bytes") ∈ lw_tbl := lw_at lw_m1 116 rfl
theorem q131 : (Jvm.Cond.methodLink "Blake2sDigest" (110 : Nat) ({ cls := "Pack", name := "littleEndianToInt", desc := "([BI)I" } : Jvm.MethodName)) ∈ lw_all := lw_g (lw_at lw_m1 117 rfl) rfl
theorem q134 : (Jvm.Cond.stringRef "Blake2sDigest" (116 : Nat) "Personalization length must be exactly 8 bytes") ∈ lw_tbl := lw_at lw_m1 120 rfl
theorem q135 : (Jvm.Cond.fieldLink "Blake2sDigest" (18 : Nat) "Blake2sDigest" "digestLength" "I") ∈ lw_all := lw_g (lw_at lw_m1 121 rfl) rfl
theorem q136 : (Jvm.Cond.fieldLink "Blake2sDigest" (22 : Nat) "Blake2sDigest" "keyLength" "I") ∈ lw_all := lw_g (lw_at lw_m1 122 rfl) rfl
theorem q137 : (Jvm.Cond.fieldLink "Blake2sDigest" (25 : Nat) "Blake2sDigest" "salt" "[B") ∈ lw_all := lw_g (lw_at lw_m1 123 rfl) rfl
theorem q138 : (Jvm.Cond.fieldLink "Blake2sDigest" (29 : Nat) "Blake2sDigest" "personalization" "[B") ∈ lw_all := lw_g (lw_at lw_m1 124 rfl) rfl
theorem q139 : (Jvm.Cond.fieldLink "Blake2sDigest" (32 : Nat) "Blake2sDigest" "key" "[B") ∈ lw_all := lw_g (lw_at lw_m1 125 rfl) rfl
theorem q140 : (Jvm.Cond.fieldLink "Blake2sDigest" (35 : Nat) "Blake2sDigest" "fanout" "I") ∈ lw_all := lw_g (lw_at lw_m1 126 rfl) rfl
theorem q141 : (Jvm.Cond.fieldLink "Blake2sDigest" (38 : Nat) "Blake2sDigest" "depth" "I") ∈ lw_all := lw_g (lw_at lw_m1 127 rfl) rfl
theorem q142 : (Jvm.Cond.fieldLink "Blake2sDigest" (41 : Nat) "Blake2sDigest" "leafLength" "I") ∈ lw_all := lw_g (lw_at lw_m1 128 rfl) rfl
theorem q143 : (Jvm.Cond.fieldLink "Blake2sDigest" (44 : Nat) "Blake2sDigest" "nodeOffset" "J") ∈ lw_all := lw_g (lw_at lw_m1 129 rfl) rfl
theorem q144 : (Jvm.Cond.fieldLink "Blake2sDigest" (48 : Nat) "Blake2sDigest" "nodeDepth" "I") ∈ lw_all := lw_g (lw_at lw_m1 130 rfl) rfl
theorem q145 : (Jvm.Cond.fieldLink "Blake2sDigest" (51 : Nat) "Blake2sDigest" "innerHashLength" "I") ∈ lw_all := lw_g (lw_at lw_m1 131 rfl) rfl
theorem q146 : (Jvm.Cond.fieldLink "Blake2sDigest" (54 : Nat) "Blake2sDigest" "isLastNode" "Z") ∈ lw_all := lw_g (lw_at lw_m1 132 rfl) rfl
theorem q147 : (Jvm.Cond.fieldLink "Blake2sDigest" (58 : Nat) "Blake2sDigest" "buffer" "[B") ∈ lw_all := lw_g (lw_at lw_m1 133 rfl) rfl
theorem q148 : (Jvm.Cond.fieldLink "Blake2sDigest" (61 : Nat) "Blake2sDigest" "bufferPos" "I") ∈ lw_all := lw_g (lw_at lw_m1 134 rfl) rfl
theorem q149 : (Jvm.Cond.fieldLink "Blake2sDigest" (64 : Nat) "Blake2sDigest" "internalState" "[I") ∈ lw_all := lw_g (lw_at lw_m1 135 rfl) rfl
theorem q150 : (Jvm.Cond.fieldLink "Blake2sDigest" (68 : Nat) "Blake2sDigest" "chainValue" "[I") ∈ lw_all := lw_g (lw_at lw_m1 136 rfl) rfl
theorem q151 : (Jvm.Cond.fieldLink "Blake2sDigest" (71 : Nat) "Blake2sDigest" "t0" "I") ∈ lw_all := lw_g (lw_at lw_m1 137 rfl) rfl
theorem q152 : (Jvm.Cond.fieldLink "Blake2sDigest" (74 : Nat) "Blake2sDigest" "t1" "I") ∈ lw_all := lw_g (lw_at lw_m1 138 rfl) rfl
theorem q153 : (Jvm.Cond.fieldLink "Blake2sDigest" (77 : Nat) "Blake2sDigest" "f0" "I") ∈ lw_all := lw_g (lw_at lw_m1 139 rfl) rfl
theorem q154 : (Jvm.Cond.fieldLink "Blake2sDigest" (80 : Nat) "Blake2sDigest" "f1" "I") ∈ lw_all := lw_g (lw_at lw_m1 140 rfl) rfl
theorem q155 : (Jvm.Cond.fieldLink "Blake2sDigest" (90 : Nat) "Blake2sDigest" "purpose" "LCryptoServicePurpose;") ∈ lw_all := lw_g (lw_at lw_m1 141 rfl) rfl
theorem q156 : (Jvm.Cond.lays "Blake2sDigest" "Blake2sDigest" "digestLength" "I") ∈ lw_all := lw_g (lw_at lw_m1 142 rfl) rfl
theorem q157 : (Jvm.Cond.soleField "Blake2sDigest" "digestLength") ∈ lw_all := lw_g (lw_at lw_m1 143 rfl) rfl
theorem q158 : (Jvm.Cond.lays "Blake2sDigest" "Blake2sDigest" "keyLength" "I") ∈ lw_all := lw_g (lw_at lw_m1 144 rfl) rfl
theorem q159 : (Jvm.Cond.soleField "Blake2sDigest" "keyLength") ∈ lw_all := lw_g (lw_at lw_m1 145 rfl) rfl
theorem q160 : (Jvm.Cond.lays "Blake2sDigest" "Blake2sDigest" "salt" "[B") ∈ lw_all := lw_g (lw_at lw_m1 146 rfl) rfl
theorem q161 : (Jvm.Cond.soleField "Blake2sDigest" "salt") ∈ lw_all := lw_g (lw_at lw_m1 147 rfl) rfl
theorem q162 : (Jvm.Cond.lays "Blake2sDigest" "Blake2sDigest" "personalization" "[B") ∈ lw_all := lw_g (lw_at lw_m1 148 rfl) rfl
theorem q163 : (Jvm.Cond.soleField "Blake2sDigest" "personalization") ∈ lw_all := lw_g (lw_at lw_m1 149 rfl) rfl
theorem q164 : (Jvm.Cond.lays "Blake2sDigest" "Blake2sDigest" "key" "[B") ∈ lw_all := lw_g (lw_at lw_m1 150 rfl) rfl
theorem q165 : (Jvm.Cond.soleField "Blake2sDigest" "key") ∈ lw_all := lw_g (lw_at lw_m1 151 rfl) rfl
theorem q166 : (Jvm.Cond.lays "Blake2sDigest" "Blake2sDigest" "fanout" "I") ∈ lw_all := lw_g (lw_at lw_m1 152 rfl) rfl
theorem q167 : (Jvm.Cond.soleField "Blake2sDigest" "fanout") ∈ lw_all := lw_g (lw_at lw_m1 153 rfl) rfl
theorem q168 : (Jvm.Cond.lays "Blake2sDigest" "Blake2sDigest" "depth" "I") ∈ lw_all := lw_g (lw_at lw_m1 154 rfl) rfl
theorem q169 : (Jvm.Cond.soleField "Blake2sDigest" "depth") ∈ lw_all := lw_g (lw_at lw_m1 155 rfl) rfl
theorem q170 : (Jvm.Cond.lays "Blake2sDigest" "Blake2sDigest" "leafLength" "I") ∈ lw_all := lw_g (lw_at lw_m1 156 rfl) rfl
theorem q171 : (Jvm.Cond.soleField "Blake2sDigest" "leafLength") ∈ lw_all := lw_g (lw_at lw_m1 157 rfl) rfl
theorem q172 : (Jvm.Cond.lays "Blake2sDigest" "Blake2sDigest" "nodeOffset" "J") ∈ lw_all := lw_g (lw_at lw_m1 158 rfl) rfl
theorem q173 : (Jvm.Cond.soleField "Blake2sDigest" "nodeOffset") ∈ lw_all := lw_g (lw_at lw_m1 159 rfl) rfl
theorem q174 : (Jvm.Cond.lays "Blake2sDigest" "Blake2sDigest" "nodeDepth" "I") ∈ lw_all := lw_g (lw_at lw_m1 160 rfl) rfl
theorem q175 : (Jvm.Cond.soleField "Blake2sDigest" "nodeDepth") ∈ lw_all := lw_g (lw_at lw_m1 161 rfl) rfl
theorem q176 : (Jvm.Cond.lays "Blake2sDigest" "Blake2sDigest" "innerHashLength" "I") ∈ lw_all := lw_g (lw_at lw_m1 162 rfl) rfl
theorem q177 : (Jvm.Cond.soleField "Blake2sDigest" "innerHashLength") ∈ lw_all := lw_g (lw_at lw_m1 163 rfl) rfl
theorem q178 : (Jvm.Cond.lays "Blake2sDigest" "Blake2sDigest" "isLastNode" "Z") ∈ lw_all := lw_g (lw_at lw_m1 164 rfl) rfl
theorem q179 : (Jvm.Cond.soleField "Blake2sDigest" "isLastNode") ∈ lw_all := lw_g (lw_at lw_m1 165 rfl) rfl
theorem q180 : (Jvm.Cond.laysFinal "Blake2sDigest" "Blake2sDigest" "buffer" "[B") ∈ lw_all := lw_g (lw_at lw_m1 166 rfl) rfl
theorem q181 : (Jvm.Cond.soleField "Blake2sDigest" "buffer") ∈ lw_all := lw_g (lw_at lw_m1 167 rfl) rfl
theorem q182 : (Jvm.Cond.lays "Blake2sDigest" "Blake2sDigest" "bufferPos" "I") ∈ lw_all := lw_g (lw_at lw_m1 168 rfl) rfl
theorem q183 : (Jvm.Cond.soleField "Blake2sDigest" "bufferPos") ∈ lw_all := lw_g (lw_at lw_m1 169 rfl) rfl
theorem q184 : (Jvm.Cond.laysFinal "Blake2sDigest" "Blake2sDigest" "internalState" "[I") ∈ lw_all := lw_g (lw_at lw_m1 170 rfl) rfl
theorem q185 : (Jvm.Cond.soleField "Blake2sDigest" "internalState") ∈ lw_all := lw_g (lw_at lw_m1 171 rfl) rfl
theorem q186 : (Jvm.Cond.laysFinal "Blake2sDigest" "Blake2sDigest" "chainValue" "[I") ∈ lw_all := lw_g (lw_at lw_m1 172 rfl) rfl
theorem q187 : (Jvm.Cond.soleField "Blake2sDigest" "chainValue") ∈ lw_all := lw_g (lw_at lw_m1 173 rfl) rfl
theorem q188 : (Jvm.Cond.lays "Blake2sDigest" "Blake2sDigest" "t0" "I") ∈ lw_all := lw_g (lw_at lw_m1 174 rfl) rfl
theorem q189 : (Jvm.Cond.soleField "Blake2sDigest" "t0") ∈ lw_all := lw_g (lw_at lw_m1 175 rfl) rfl
theorem q190 : (Jvm.Cond.lays "Blake2sDigest" "Blake2sDigest" "t1" "I") ∈ lw_all := lw_g (lw_at lw_m1 176 rfl) rfl
theorem q191 : (Jvm.Cond.soleField "Blake2sDigest" "t1") ∈ lw_all := lw_g (lw_at lw_m1 177 rfl) rfl
theorem q192 : (Jvm.Cond.lays "Blake2sDigest" "Blake2sDigest" "f0" "I") ∈ lw_all := lw_g (lw_at lw_m1 178 rfl) rfl
theorem q193 : (Jvm.Cond.soleField "Blake2sDigest" "f0") ∈ lw_all := lw_g (lw_at lw_m1 179 rfl) rfl
theorem q194 : (Jvm.Cond.lays "Blake2sDigest" "Blake2sDigest" "f1" "I") ∈ lw_all := lw_g (lw_at lw_m1 180 rfl) rfl
theorem q195 : (Jvm.Cond.soleField "Blake2sDigest" "f1") ∈ lw_all := lw_g (lw_at lw_m1 181 rfl) rfl
theorem q196 : (Jvm.Cond.laysFinal "Blake2sDigest" "Blake2sDigest" "purpose" "LCryptoServicePurpose;") ∈ lw_all := lw_g (lw_at lw_m1 182 rfl) rfl
theorem q197 : (Jvm.Cond.soleField "Blake2sDigest" "purpose") ∈ lw_all := lw_g (lw_at lw_m1 183 rfl) rfl
theorem q198 : (Jvm.Cond.superclass "Blake2sDigest" "java/lang/Object") ∈ lw_all := lw_g (lw_at lw_m1 184 rfl) rfl
theorem q248 : (Jvm.Cond.castable "Blake2sDigest" "Digest") ∈ lw_tbl := lw_at lw_m1 234 rfl
theorem q249 : (Jvm.Cond.selects "Blake2sDigest" ({ cls := "Digest", name := "update", desc := "([BII)V" } : Jvm.MethodName) ({ cls := "Blake2sDigest", name := "update", desc := "([BII)V" } : Jvm.MethodName)) ∈ lw_all := lw_g (lw_at lw_m1 235 rfl) rfl
theorem q250 : (Jvm.Cond.unhidden "Blake2sDigest" "update" "([BII)V") ∈ lw_tbl := lw_at lw_m1 236 rfl
theorem q251 : (Jvm.Cond.instanceMethod ({ cls := "Blake2sDigest", name := "update", desc := "([BII)V" } : Jvm.MethodName)) ∈ lw_all := lw_g (lw_at lw_m1 237 rfl) rfl
theorem q252 : (Jvm.Cond.publicMethod ({ cls := "Blake2sDigest", name := "update", desc := "([BII)V" } : Jvm.MethodName)) ∈ lw_tbl := lw_at lw_m1 238 rfl
theorem q253 : (Jvm.Cond.code ({ cls := "Blake2sDigest", name := "update", desc := "([BII)V" } : Jvm.MethodName) prog_1_method_6_code (7 : Nat) (Option.none : Option Jvm.ClassFile.FieldType)) ∈ lw_all := lw_g (lw_at lw_m1 239 rfl) rfl
theorem q254 : (Jvm.Cond.methodLink "Blake2sDigest" (118 : Nat) ({ cls := "Blake2sDigest", name := "incrementCounter", desc := "(I)V" } : Jvm.MethodName)) ∈ lw_all := lw_g (lw_at lw_m2 0 rfl) rfl
theorem q255 : (Jvm.Cond.privateMethod ({ cls := "Blake2sDigest", name := "incrementCounter", desc := "(I)V" } : Jvm.MethodName)) ∈ lw_tbl := lw_at lw_m2 1 rfl
theorem q256 : (Jvm.Cond.instanceMethod ({ cls := "Blake2sDigest", name := "incrementCounter", desc := "(I)V" } : Jvm.MethodName)) ∈ lw_all := lw_g (lw_at lw_m2 2 rfl) rfl
theorem q257 : (Jvm.Cond.code ({ cls := "Blake2sDigest", name := "incrementCounter", desc := "(I)V" } : Jvm.MethodName) prog_1_method_11_code (2 : Nat) (Option.none : Option Jvm.ClassFile.FieldType)) ∈ lw_all := lw_g (lw_at lw_m2 3 rfl) rfl
theorem q258 : (Jvm.Cond.methodLink "Blake2sDigest" (171 : Nat) ({ cls := "Integers", name := "compareUnsigned", desc := "(II)I" } : Jvm.MethodName)) ∈ lw_all := lw_g (lw_at lw_m2 4 rfl) rfl
theorem q265 : (Jvm.Cond.methodLink "Blake2sDigest" (122 : Nat) ({ cls := "Blake2sDigest", name := "compress", desc := "([BI)V" } : Jvm.MethodName)) ∈ lw_all := lw_g (lw_at lw_m2 11 rfl) rfl
theorem q266 : (Jvm.Cond.privateMethod ({ cls := "Blake2sDigest", name := "compress", desc := "([BI)V" } : Jvm.MethodName)) ∈ lw_tbl := lw_at lw_m2 12 rfl
theorem q267 : (Jvm.Cond.instanceMethod ({ cls := "Blake2sDigest", name := "compress", desc := "([BI)V" } : Jvm.MethodName)) ∈ lw_all := lw_g (lw_at lw_m2 13 rfl) rfl
theorem q268 : (Jvm.Cond.code ({ cls := "Blake2sDigest", name := "compress", desc := "([BI)V" } : Jvm.MethodName) prog_1_method_9_code (5 : Nat) (Option.none : Option Jvm.ClassFile.FieldType)) ∈ lw_all := lw_g (lw_at lw_m2 14 rfl) rfl
theorem q269 : (Jvm.Cond.methodLink "Blake2sDigest" (151 : Nat) ({ cls := "Blake2sDigest", name := "initializeInternalState", desc := "()V" } : Jvm.MethodName)) ∈ lw_all := lw_g (lw_at lw_m2 15 rfl) rfl
theorem q270 : (Jvm.Cond.privateMethod ({ cls := "Blake2sDigest", name := "initializeInternalState", desc := "()V" } : Jvm.MethodName)) ∈ lw_tbl := lw_at lw_m2 16 rfl
theorem q271 : (Jvm.Cond.instanceMethod ({ cls := "Blake2sDigest", name := "initializeInternalState", desc := "()V" } : Jvm.MethodName)) ∈ lw_all := lw_g (lw_at lw_m2 17 rfl) rfl
theorem q272 : (Jvm.Cond.code ({ cls := "Blake2sDigest", name := "initializeInternalState", desc := "()V" } : Jvm.MethodName) prog_1_method_4_code (1 : Nat) (Option.none : Option Jvm.ClassFile.FieldType)) ∈ lw_all := lw_g (lw_at lw_m2 18 rfl) rfl
theorem q273 : (Jvm.Cond.methodLink "Blake2sDigest" (154 : Nat) ({ cls := "Pack", name := "littleEndianToInt", desc := "([BI[I)V" } : Jvm.MethodName)) ∈ lw_all := lw_g (lw_at lw_m2 19 rfl) rfl
theorem q277 : (Jvm.Cond.fieldLink "Blake2sDigest" (157 : Nat) "Blake2sDigest" "blake2s_sigma" "[[B") ∈ lw_all := lw_g (lw_at lw_m2 23 rfl) rfl
theorem q278 : (Jvm.Cond.laysStatic "Blake2sDigest" "blake2s_sigma" "[[B") ∈ lw_tbl := lw_at lw_m2 24 rfl
theorem q279 : (Jvm.Cond.methodLink "Blake2sDigest" (161 : Nat) ({ cls := "Blake2sDigest", name := "G", desc := "(IIIIII)V" } : Jvm.MethodName)) ∈ lw_all := lw_g (lw_at lw_m2 25 rfl) rfl
theorem q280 : (Jvm.Cond.privateMethod ({ cls := "Blake2sDigest", name := "G", desc := "(IIIIII)V" } : Jvm.MethodName)) ∈ lw_tbl := lw_at lw_m2 26 rfl
theorem q281 : (Jvm.Cond.instanceMethod ({ cls := "Blake2sDigest", name := "G", desc := "(IIIIII)V" } : Jvm.MethodName)) ∈ lw_all := lw_g (lw_at lw_m2 27 rfl) rfl
theorem q282 : (Jvm.Cond.code ({ cls := "Blake2sDigest", name := "G", desc := "(IIIIII)V" } : Jvm.MethodName) prog_1_method_10_code (7 : Nat) (Option.none : Option Jvm.ClassFile.FieldType)) ∈ lw_all := lw_g (lw_at lw_m2 28 rfl) rfl
theorem q283 : (Jvm.Cond.methodLink "Blake2sDigest" (165 : Nat) ({ cls := "Integers", name := "rotateRight", desc := "(II)I" } : Jvm.MethodName)) ∈ lw_all := lw_g (lw_at lw_m2 29 rfl) rfl
theorem q289 : (Jvm.Cond.methodLink "Blake2sDigest" (126 : Nat) ({ cls := "OwnArrays", name := "fill", desc := "([BB)V" } : Jvm.MethodName)) ∈ lw_all := lw_g (lw_at lw_m2 35 rfl) rfl
theorem q303 : (Jvm.Cond.selects "Blake2sDigest" ({ cls := "Digest", name := "update", desc := "(B)V" } : Jvm.MethodName) ({ cls := "Blake2sDigest", name := "update", desc := "(B)V" } : Jvm.MethodName)) ∈ lw_all := lw_g (lw_at lw_m2 49 rfl) rfl
theorem q304 : (Jvm.Cond.unhidden "Blake2sDigest" "update" "(B)V") ∈ lw_tbl := lw_at lw_m2 50 rfl
theorem q305 : (Jvm.Cond.instanceMethod ({ cls := "Blake2sDigest", name := "update", desc := "(B)V" } : Jvm.MethodName)) ∈ lw_all := lw_g (lw_at lw_m2 51 rfl) rfl
theorem q306 : (Jvm.Cond.publicMethod ({ cls := "Blake2sDigest", name := "update", desc := "(B)V" } : Jvm.MethodName)) ∈ lw_tbl := lw_at lw_m2 52 rfl
theorem q307 : (Jvm.Cond.code ({ cls := "Blake2sDigest", name := "update", desc := "(B)V" } : Jvm.MethodName) prog_1_method_5_code (3 : Nat) (Option.none : Option Jvm.ClassFile.FieldType)) ∈ lw_all := lw_g (lw_at lw_m2 53 rfl) rfl
theorem q316 : (Jvm.Cond.selects "Blake2sDigest" ({ cls := "Digest", name := "doFinal", desc := "([BI)I" } : Jvm.MethodName) ({ cls := "Blake2sDigest", name := "doFinal", desc := "([BI)I" } : Jvm.MethodName)) ∈ lw_all := lw_g (lw_at lw_m2 62 rfl) rfl
theorem q317 : (Jvm.Cond.unhidden "Blake2sDigest" "doFinal" "([BI)I") ∈ lw_tbl := lw_at lw_m2 63 rfl
theorem q318 : (Jvm.Cond.instanceMethod ({ cls := "Blake2sDigest", name := "doFinal", desc := "([BI)I" } : Jvm.MethodName)) ∈ lw_all := lw_g (lw_at lw_m2 64 rfl) rfl
theorem q319 : (Jvm.Cond.publicMethod ({ cls := "Blake2sDigest", name := "doFinal", desc := "([BI)I" } : Jvm.MethodName)) ∈ lw_tbl := lw_at lw_m2 65 rfl
theorem q320 : (Jvm.Cond.code ({ cls := "Blake2sDigest", name := "doFinal", desc := "([BI)I" } : Jvm.MethodName) prog_1_method_7_code (5 : Nat) (Option.some Jvm.ClassFile.FieldType.int)) ∈ lw_all := lw_g (lw_at lw_m2 66 rfl) rfl
theorem q321 : (Jvm.Cond.classLink "Blake2sDigest" (132 : Nat) "OutputLengthException") ∈ lw_all := lw_g (lw_at lw_m2 67 rfl) rfl
theorem q332 : (Jvm.Cond.stringRef "Blake2sDigest" (134 : Nat) "output buffer too short") ∈ lw_tbl := lw_at lw_m2 78 rfl
theorem q333 : (Jvm.Cond.methodLink "Blake2sDigest" (136 : Nat) ({ cls := "OutputLengthException", name := "<init>", desc := "(Ljava/lang/String;)V" } : Jvm.MethodName)) ∈ lw_all := lw_g (lw_at lw_m2 79 rfl) rfl
theorem q345 : (Jvm.Cond.methodLink "Blake2sDigest" (137 : Nat) ({ cls := "Pack", name := "intToLittleEndian", desc := "([III[BI)V" } : Jvm.MethodName)) ∈ lw_all := lw_g (lw_at lw_m2 91 rfl) rfl
theorem q351 : (Jvm.Cond.methodLink "Blake2sDigest" (141 : Nat) ({ cls := "Pack", name := "intToLittleEndian_Low", desc := "(I[BII)V" } : Jvm.MethodName)) ∈ lw_all := lw_g (lw_at lw_m2 97 rfl) rfl
theorem q354 : (Jvm.Cond.methodLink "Blake2sDigest" (145 : Nat) ({ cls := "Blake2sDigest", name := "reset", desc := "()V" } : Jvm.MethodName)) ∈ lw_all := lw_g (lw_at lw_m2 100 rfl) rfl
theorem q355 : (Jvm.Cond.instanceMethod ({ cls := "Blake2sDigest", name := "reset", desc := "()V" } : Jvm.MethodName)) ∈ lw_all := lw_g (lw_at lw_m2 101 rfl) rfl
theorem q356 : (Jvm.Cond.selects "Blake2sDigest" ({ cls := "Blake2sDigest", name := "reset", desc := "()V" } : Jvm.MethodName) ({ cls := "Blake2sDigest", name := "reset", desc := "()V" } : Jvm.MethodName)) ∈ lw_all := lw_g (lw_at lw_m2 102 rfl) rfl
theorem q357 : (Jvm.Cond.code ({ cls := "Blake2sDigest", name := "reset", desc := "()V" } : Jvm.MethodName) prog_1_method_8_code (1 : Nat) (Option.none : Option Jvm.ClassFile.FieldType)) ∈ lw_all := lw_g (lw_at lw_m2 103 rfl) rfl
theorem q358 : (Jvm.Cond.methodLink "Blake2sDigest" (148 : Nat) ({ cls := "OwnArrays", name := "fill", desc := "([II)V" } : Jvm.MethodName)) ∈ lw_all := lw_g (lw_at lw_m2 104 rfl) rfl
theorem q372 : (Jvm.Cond.selects "Blake2sDigest" ({ cls := "Digest", name := "reset", desc := "()V" } : Jvm.MethodName) ({ cls := "Blake2sDigest", name := "reset", desc := "()V" } : Jvm.MethodName)) ∈ lw_all := lw_g (lw_at lw_m2 118 rfl) rfl
theorem q373 : (Jvm.Cond.unhidden "Blake2sDigest" "reset" "()V") ∈ lw_tbl := lw_at lw_m2 119 rfl
theorem q374 : (Jvm.Cond.publicMethod ({ cls := "Blake2sDigest", name := "reset", desc := "()V" } : Jvm.MethodName)) ∈ lw_tbl := lw_at lw_m2 120 rfl
theorem in_X1 : ∀ w ∈ wsX10, w ∈ lw_all := lw_in wsX10 [156, 158, 160, 162, 164, 166, 168, 170, 172, 174, 176, 178, 180, 182, 184, 186, 188, 190, 192, 194, 196] (by decide +kernel) (by decide +kernel)
end
section
/-! BlakeShortDesk -/
set_option maxRecDepth 100000
def RX0 : String := "BlakeShortDesk"
def TX0 : u_T := fun k => match k with
  | 0 => ("BlakeShortDesk", "run", "LDigest;", false)
  | 1 => ("BlakeShortDesk", "out", "[B", true)
  | 2 => ("BlakeShortDesk", "fed", "I", false)
  | 3 => ("BlakeShortDesk", "text", "[B", true)
  | _ => ("BlakeShortDesk", "size", "I", false)
def tyX0 : Nat → FieldType := fun k => match k with
  | 0 => .object "Digest"
  | 1 => .array .byte
  | 2 => .int
  | 3 => .array .byte
  | _ => .int
abbrev wsX00 : List Cond := u_ws RX0 TX0 5
theorem nmX0 : ∀ a, a < 5 → ∀ b, b < 5 → a ≠ b → (TX0 a).2.1 ≠ (TX0 b).2.1 := by decide +kernel
theorem tyX0_ok : ∀ k, k < 5 → parseFieldDescriptor (TX0 k).2.2.1 = some (tyX0 k) := by decide +kernel
abbrev cX0_init : ByteArray := prog_2_method_1_code
def yX0_init : MethodName := ⟨RX0, "<init>", "()V"⟩
def dkwX0_init_1 : List UInt8 := [181, 0, 18, 42, 17, 4, 0, 188, 8, 181, 0, 22, 177]
abbrev dktX0_init_1 : List UInt8 := dkwX0_init_1 ++ []
def dkwX0_init_0 : List UInt8 := [42, 183, 0, 1, 42, 187, 0, 7, 89, 17, 1, 0, 183, 0, 9, 181, 0, 12, 42, 16, 32, 188, 8]
abbrev dktX0_init_0 : List UInt8 := dkwX0_init_0 ++ dktX0_init_1
theorem dksX0_init_0 : cX0_init.data.toList.drop 0 = dktX0_init_0 := by decide +kernel
theorem dksX0_init_1 : cX0_init.data.toList.drop 23 = dktX0_init_1 := dk_seg dksX0_init_0 23 rfl rfl
theorem dX0_init_0 : decode cX0_init 0 = .ok (.aload_n 0, 1) := dk_42 (dk_at dksX0_init_0 0 rfl rfl)
theorem dX0_init_1 : decode cX0_init 1 = .ok (.invokespecial 1, 3) := dk_183 0 1 (dk_at dksX0_init_0 1 rfl rfl)
theorem dX0_init_4 : decode cX0_init 4 = .ok (.aload_n 0, 1) := dk_42 (dk_at dksX0_init_0 4 rfl rfl)
theorem dX0_init_5 : decode cX0_init 5 = .ok (.new 7, 3) := dk_187 0 7 (dk_at dksX0_init_0 5 rfl rfl)
theorem dX0_init_8 : decode cX0_init 8 = .ok (.dup, 1) := dk_89 (dk_at dksX0_init_0 8 rfl rfl)
theorem dX0_init_9 : decode cX0_init 9 = .ok (.sipush 256, 3) := dk_17 1 0 (dk_at dksX0_init_0 9 rfl rfl)
theorem dX0_init_12 : decode cX0_init 12 = .ok (.invokespecial 9, 3) := dk_183 0 9 (dk_at dksX0_init_0 12 rfl rfl)
theorem dX0_init_15 : decode cX0_init 15 = .ok (.putfield 12, 3) := dk_181 0 12 (dk_at dksX0_init_0 15 rfl rfl)
theorem dX0_init_18 : decode cX0_init 18 = .ok (.aload_n 0, 1) := dk_42 (dk_at dksX0_init_0 18 rfl rfl)
theorem dX0_init_19 : decode cX0_init 19 = .ok (.bipush 32, 2) := dk_16 32 (dk_at dksX0_init_0 19 rfl rfl)
theorem dX0_init_21 : decode cX0_init 21 = .ok (.newarray .byte, 2) := dk_188_8 (dk_at dksX0_init_0 21 rfl rfl)
theorem dX0_init_23 : decode cX0_init 23 = .ok (.putfield 18, 3) := dk_181 0 18 (dk_at dksX0_init_1 0 rfl rfl)
theorem dX0_init_26 : decode cX0_init 26 = .ok (.aload_n 0, 1) := dk_42 (dk_at dksX0_init_1 3 rfl rfl)
theorem dX0_init_27 : decode cX0_init 27 = .ok (.sipush 1024, 3) := dk_17 4 0 (dk_at dksX0_init_1 4 rfl rfl)
theorem dX0_init_30 : decode cX0_init 30 = .ok (.newarray .byte, 2) := dk_188_8 (dk_at dksX0_init_1 7 rfl rfl)
theorem dX0_init_32 : decode cX0_init 32 = .ok (.putfield 22, 3) := dk_181 0 22 (dk_at dksX0_init_1 9 rfl rfl)
theorem dX0_init_35 : decode cX0_init 35 = .ok (.return_, 1) := dk_177 (dk_at dksX0_init_1 12 rfl rfl)
abbrev cX0_put : ByteArray := prog_2_method_2_code
def yX0_put : MethodName := ⟨RX0, "put", "(IIII)Z"⟩
def dkwX0_put_3 : List UInt8 := [181, 0, 25, 4, 172]
abbrev dktX0_put_3 : List UInt8 := dkwX0_put_3 ++ []
def dkwX0_put_2 : List UInt8 := [182, 0, 29, 42, 42, 180, 0, 25, 16, 12, 96, 21, 4, 182, 0, 29, 42, 89, 180, 0, 25, 16, 16, 96]
abbrev dktX0_put_2 : List UInt8 := dkwX0_put_2 ++ dktX0_put_3
def dkwX0_put_1 : List UInt8 := [182, 0, 29, 42, 42, 180, 0, 25, 7, 96, 28, 182, 0, 29, 42, 42, 180, 0, 25, 16, 8, 96, 29]
abbrev dktX0_put_1 : List UInt8 := dkwX0_put_1 ++ dktX0_put_2
def dkwX0_put_0 : List UInt8 := [42, 180, 0, 25, 42, 180, 0, 22, 190, 16, 16, 100, 164, 0, 5, 3, 172, 42, 42, 180, 0, 25, 27]
abbrev dktX0_put_0 : List UInt8 := dkwX0_put_0 ++ dktX0_put_1
theorem dksX0_put_0 : cX0_put.data.toList.drop 0 = dktX0_put_0 := by decide +kernel
theorem dksX0_put_1 : cX0_put.data.toList.drop 23 = dktX0_put_1 := dk_seg dksX0_put_0 23 rfl rfl
theorem dksX0_put_2 : cX0_put.data.toList.drop 46 = dktX0_put_2 := dk_seg dksX0_put_1 23 rfl rfl
theorem dksX0_put_3 : cX0_put.data.toList.drop 70 = dktX0_put_3 := dk_seg dksX0_put_2 24 rfl rfl
theorem dX0_put_0 : decode cX0_put 0 = .ok (.aload_n 0, 1) := dk_42 (dk_at dksX0_put_0 0 rfl rfl)
theorem dX0_put_1 : decode cX0_put 1 = .ok (.getfield 25, 3) := dk_180 0 25 (dk_at dksX0_put_0 1 rfl rfl)
theorem dX0_put_4 : decode cX0_put 4 = .ok (.aload_n 0, 1) := dk_42 (dk_at dksX0_put_0 4 rfl rfl)
theorem dX0_put_5 : decode cX0_put 5 = .ok (.getfield 22, 3) := dk_180 0 22 (dk_at dksX0_put_0 5 rfl rfl)
theorem dX0_put_8 : decode cX0_put 8 = .ok (.arraylength, 1) := dk_190 (dk_at dksX0_put_0 8 rfl rfl)
theorem dX0_put_9 : decode cX0_put 9 = .ok (.bipush 16, 2) := dk_16 16 (dk_at dksX0_put_0 9 rfl rfl)
theorem dX0_put_11 : decode cX0_put 11 = .ok (.isub, 1) := dk_100 (dk_at dksX0_put_0 11 rfl rfl)
theorem dX0_put_12 : decode cX0_put 12 = .ok (.if_icmp .le 5, 3) := dk_164 0 5 (dk_at dksX0_put_0 12 rfl rfl)
theorem dX0_put_15 : decode cX0_put 15 = .ok (.iconst 0, 1) := dk_3 (dk_at dksX0_put_0 15 rfl rfl)
theorem dX0_put_16 : decode cX0_put 16 = .ok (.ireturn, 1) := dk_172 (dk_at dksX0_put_0 16 rfl rfl)
theorem dX0_put_17 : decode cX0_put 17 = .ok (.aload_n 0, 1) := dk_42 (dk_at dksX0_put_0 17 rfl rfl)
theorem dX0_put_18 : decode cX0_put 18 = .ok (.aload_n 0, 1) := dk_42 (dk_at dksX0_put_0 18 rfl rfl)
theorem dX0_put_19 : decode cX0_put 19 = .ok (.getfield 25, 3) := dk_180 0 25 (dk_at dksX0_put_0 19 rfl rfl)
theorem dX0_put_22 : decode cX0_put 22 = .ok (.iload_n 1, 1) := dk_27 (dk_at dksX0_put_0 22 rfl rfl)
theorem dX0_put_23 : decode cX0_put 23 = .ok (.invokevirtual 29, 3) := dk_182 0 29 (dk_at dksX0_put_1 0 rfl rfl)
theorem dX0_put_26 : decode cX0_put 26 = .ok (.aload_n 0, 1) := dk_42 (dk_at dksX0_put_1 3 rfl rfl)
theorem dX0_put_27 : decode cX0_put 27 = .ok (.aload_n 0, 1) := dk_42 (dk_at dksX0_put_1 4 rfl rfl)
theorem dX0_put_28 : decode cX0_put 28 = .ok (.getfield 25, 3) := dk_180 0 25 (dk_at dksX0_put_1 5 rfl rfl)
theorem dX0_put_31 : decode cX0_put 31 = .ok (.iconst 4, 1) := dk_7 (dk_at dksX0_put_1 8 rfl rfl)
theorem dX0_put_32 : decode cX0_put 32 = .ok (.iadd, 1) := dk_96 (dk_at dksX0_put_1 9 rfl rfl)
theorem dX0_put_33 : decode cX0_put 33 = .ok (.iload_n 2, 1) := dk_28 (dk_at dksX0_put_1 10 rfl rfl)
theorem dX0_put_34 : decode cX0_put 34 = .ok (.invokevirtual 29, 3) := dk_182 0 29 (dk_at dksX0_put_1 11 rfl rfl)
theorem dX0_put_37 : decode cX0_put 37 = .ok (.aload_n 0, 1) := dk_42 (dk_at dksX0_put_1 14 rfl rfl)
theorem dX0_put_38 : decode cX0_put 38 = .ok (.aload_n 0, 1) := dk_42 (dk_at dksX0_put_1 15 rfl rfl)
theorem dX0_put_39 : decode cX0_put 39 = .ok (.getfield 25, 3) := dk_180 0 25 (dk_at dksX0_put_1 16 rfl rfl)
theorem dX0_put_42 : decode cX0_put 42 = .ok (.bipush 8, 2) := dk_16 8 (dk_at dksX0_put_1 19 rfl rfl)
theorem dX0_put_44 : decode cX0_put 44 = .ok (.iadd, 1) := dk_96 (dk_at dksX0_put_1 21 rfl rfl)
theorem dX0_put_45 : decode cX0_put 45 = .ok (.iload_n 3, 1) := dk_29 (dk_at dksX0_put_1 22 rfl rfl)
theorem dX0_put_46 : decode cX0_put 46 = .ok (.invokevirtual 29, 3) := dk_182 0 29 (dk_at dksX0_put_2 0 rfl rfl)
theorem dX0_put_49 : decode cX0_put 49 = .ok (.aload_n 0, 1) := dk_42 (dk_at dksX0_put_2 3 rfl rfl)
theorem dX0_put_50 : decode cX0_put 50 = .ok (.aload_n 0, 1) := dk_42 (dk_at dksX0_put_2 4 rfl rfl)
theorem dX0_put_51 : decode cX0_put 51 = .ok (.getfield 25, 3) := dk_180 0 25 (dk_at dksX0_put_2 5 rfl rfl)
theorem dX0_put_54 : decode cX0_put 54 = .ok (.bipush 12, 2) := dk_16 12 (dk_at dksX0_put_2 8 rfl rfl)
theorem dX0_put_56 : decode cX0_put 56 = .ok (.iadd, 1) := dk_96 (dk_at dksX0_put_2 10 rfl rfl)
theorem dX0_put_57 : decode cX0_put 57 = .ok (.iload 4, 2) := dk_21 4 (dk_at dksX0_put_2 11 rfl rfl)
theorem dX0_put_59 : decode cX0_put 59 = .ok (.invokevirtual 29, 3) := dk_182 0 29 (dk_at dksX0_put_2 13 rfl rfl)
theorem dX0_put_62 : decode cX0_put 62 = .ok (.aload_n 0, 1) := dk_42 (dk_at dksX0_put_2 16 rfl rfl)
theorem dX0_put_63 : decode cX0_put 63 = .ok (.dup, 1) := dk_89 (dk_at dksX0_put_2 17 rfl rfl)
theorem dX0_put_64 : decode cX0_put 64 = .ok (.getfield 25, 3) := dk_180 0 25 (dk_at dksX0_put_2 18 rfl rfl)
theorem dX0_put_67 : decode cX0_put 67 = .ok (.bipush 16, 2) := dk_16 16 (dk_at dksX0_put_2 21 rfl rfl)
theorem dX0_put_69 : decode cX0_put 69 = .ok (.iadd, 1) := dk_96 (dk_at dksX0_put_2 23 rfl rfl)
theorem dX0_put_70 : decode cX0_put 70 = .ok (.putfield 25, 3) := dk_181 0 25 (dk_at dksX0_put_3 0 rfl rfl)
theorem dX0_put_73 : decode cX0_put 73 = .ok (.iconst 1, 1) := dk_4 (dk_at dksX0_put_3 3 rfl rfl)
theorem dX0_put_74 : decode cX0_put 74 = .ok (.ireturn, 1) := dk_172 (dk_at dksX0_put_3 4 rfl rfl)
abbrev cX0_word : ByteArray := prog_2_method_3_code
def yX0_word : MethodName := ⟨RX0, "word", "(II)V"⟩
def dkwX0_word_1 : List UInt8 := [42, 180, 0, 22, 27, 5, 96, 28, 16, 8, 122, 145, 84, 42, 180, 0, 22, 27, 6, 96, 28, 145, 84, 177]
abbrev dktX0_word_1 : List UInt8 := dkwX0_word_1 ++ []
def dkwX0_word_0 : List UInt8 := [42, 180, 0, 22, 27, 28, 16, 24, 122, 145, 84, 42, 180, 0, 22, 27, 4, 96, 28, 16, 16, 122, 145, 84]
abbrev dktX0_word_0 : List UInt8 := dkwX0_word_0 ++ dktX0_word_1
theorem dksX0_word_0 : cX0_word.data.toList.drop 0 = dktX0_word_0 := by decide +kernel
theorem dksX0_word_1 : cX0_word.data.toList.drop 24 = dktX0_word_1 := dk_seg dksX0_word_0 24 rfl rfl
theorem dX0_word_0 : decode cX0_word 0 = .ok (.aload_n 0, 1) := dk_42 (dk_at dksX0_word_0 0 rfl rfl)
theorem dX0_word_1 : decode cX0_word 1 = .ok (.getfield 22, 3) := dk_180 0 22 (dk_at dksX0_word_0 1 rfl rfl)
theorem dX0_word_4 : decode cX0_word 4 = .ok (.iload_n 1, 1) := dk_27 (dk_at dksX0_word_0 4 rfl rfl)
theorem dX0_word_5 : decode cX0_word 5 = .ok (.iload_n 2, 1) := dk_28 (dk_at dksX0_word_0 5 rfl rfl)
theorem dX0_word_6 : decode cX0_word 6 = .ok (.bipush 24, 2) := dk_16 24 (dk_at dksX0_word_0 6 rfl rfl)
theorem dX0_word_8 : decode cX0_word 8 = .ok (.ishr, 1) := dk_122 (dk_at dksX0_word_0 8 rfl rfl)
theorem dX0_word_9 : decode cX0_word 9 = .ok (.i2b, 1) := dk_145 (dk_at dksX0_word_0 9 rfl rfl)
theorem dX0_word_10 : decode cX0_word 10 = .ok (.bastore, 1) := dk_84 (dk_at dksX0_word_0 10 rfl rfl)
theorem dX0_word_11 : decode cX0_word 11 = .ok (.aload_n 0, 1) := dk_42 (dk_at dksX0_word_0 11 rfl rfl)
theorem dX0_word_12 : decode cX0_word 12 = .ok (.getfield 22, 3) := dk_180 0 22 (dk_at dksX0_word_0 12 rfl rfl)
theorem dX0_word_15 : decode cX0_word 15 = .ok (.iload_n 1, 1) := dk_27 (dk_at dksX0_word_0 15 rfl rfl)
theorem dX0_word_16 : decode cX0_word 16 = .ok (.iconst 1, 1) := dk_4 (dk_at dksX0_word_0 16 rfl rfl)
theorem dX0_word_17 : decode cX0_word 17 = .ok (.iadd, 1) := dk_96 (dk_at dksX0_word_0 17 rfl rfl)
theorem dX0_word_18 : decode cX0_word 18 = .ok (.iload_n 2, 1) := dk_28 (dk_at dksX0_word_0 18 rfl rfl)
theorem dX0_word_19 : decode cX0_word 19 = .ok (.bipush 16, 2) := dk_16 16 (dk_at dksX0_word_0 19 rfl rfl)
theorem dX0_word_21 : decode cX0_word 21 = .ok (.ishr, 1) := dk_122 (dk_at dksX0_word_0 21 rfl rfl)
theorem dX0_word_22 : decode cX0_word 22 = .ok (.i2b, 1) := dk_145 (dk_at dksX0_word_0 22 rfl rfl)
theorem dX0_word_23 : decode cX0_word 23 = .ok (.bastore, 1) := dk_84 (dk_at dksX0_word_0 23 rfl rfl)
theorem dX0_word_24 : decode cX0_word 24 = .ok (.aload_n 0, 1) := dk_42 (dk_at dksX0_word_1 0 rfl rfl)
theorem dX0_word_25 : decode cX0_word 25 = .ok (.getfield 22, 3) := dk_180 0 22 (dk_at dksX0_word_1 1 rfl rfl)
theorem dX0_word_28 : decode cX0_word 28 = .ok (.iload_n 1, 1) := dk_27 (dk_at dksX0_word_1 4 rfl rfl)
theorem dX0_word_29 : decode cX0_word 29 = .ok (.iconst 2, 1) := dk_5 (dk_at dksX0_word_1 5 rfl rfl)
theorem dX0_word_30 : decode cX0_word 30 = .ok (.iadd, 1) := dk_96 (dk_at dksX0_word_1 6 rfl rfl)
theorem dX0_word_31 : decode cX0_word 31 = .ok (.iload_n 2, 1) := dk_28 (dk_at dksX0_word_1 7 rfl rfl)
theorem dX0_word_32 : decode cX0_word 32 = .ok (.bipush 8, 2) := dk_16 8 (dk_at dksX0_word_1 8 rfl rfl)
theorem dX0_word_34 : decode cX0_word 34 = .ok (.ishr, 1) := dk_122 (dk_at dksX0_word_1 10 rfl rfl)
theorem dX0_word_35 : decode cX0_word 35 = .ok (.i2b, 1) := dk_145 (dk_at dksX0_word_1 11 rfl rfl)
theorem dX0_word_36 : decode cX0_word 36 = .ok (.bastore, 1) := dk_84 (dk_at dksX0_word_1 12 rfl rfl)
theorem dX0_word_37 : decode cX0_word 37 = .ok (.aload_n 0, 1) := dk_42 (dk_at dksX0_word_1 13 rfl rfl)
theorem dX0_word_38 : decode cX0_word 38 = .ok (.getfield 22, 3) := dk_180 0 22 (dk_at dksX0_word_1 14 rfl rfl)
theorem dX0_word_41 : decode cX0_word 41 = .ok (.iload_n 1, 1) := dk_27 (dk_at dksX0_word_1 17 rfl rfl)
theorem dX0_word_42 : decode cX0_word 42 = .ok (.iconst 3, 1) := dk_6 (dk_at dksX0_word_1 18 rfl rfl)
theorem dX0_word_43 : decode cX0_word 43 = .ok (.iadd, 1) := dk_96 (dk_at dksX0_word_1 19 rfl rfl)
theorem dX0_word_44 : decode cX0_word 44 = .ok (.iload_n 2, 1) := dk_28 (dk_at dksX0_word_1 20 rfl rfl)
theorem dX0_word_45 : decode cX0_word 45 = .ok (.i2b, 1) := dk_145 (dk_at dksX0_word_1 21 rfl rfl)
theorem dX0_word_46 : decode cX0_word 46 = .ok (.bastore, 1) := dk_84 (dk_at dksX0_word_1 22 rfl rfl)
theorem dX0_word_47 : decode cX0_word 47 = .ok (.return_, 1) := dk_177 (dk_at dksX0_word_1 23 rfl rfl)
abbrev cX0_trim : ByteArray := prog_2_method_4_code
def yX0_trim : MethodName := ⟨RX0, "trim", "(I)V"⟩
def dkwX0_trim_0 : List UInt8 := [42, 42, 27, 182, 0, 33, 181, 0, 25, 177]
abbrev dktX0_trim_0 : List UInt8 := dkwX0_trim_0 ++ []
theorem dksX0_trim_0 : cX0_trim.data.toList.drop 0 = dktX0_trim_0 := by decide +kernel
theorem dX0_trim_0 : decode cX0_trim 0 = .ok (.aload_n 0, 1) := dk_42 (dk_at dksX0_trim_0 0 rfl rfl)
theorem dX0_trim_1 : decode cX0_trim 1 = .ok (.aload_n 0, 1) := dk_42 (dk_at dksX0_trim_0 1 rfl rfl)
theorem dX0_trim_2 : decode cX0_trim 2 = .ok (.iload_n 1, 1) := dk_27 (dk_at dksX0_trim_0 2 rfl rfl)
theorem dX0_trim_3 : decode cX0_trim 3 = .ok (.invokevirtual 33, 3) := dk_182 0 33 (dk_at dksX0_trim_0 3 rfl rfl)
theorem dX0_trim_6 : decode cX0_trim 6 = .ok (.putfield 25, 3) := dk_181 0 25 (dk_at dksX0_trim_0 6 rfl rfl)
theorem dX0_trim_9 : decode cX0_trim 9 = .ok (.return_, 1) := dk_177 (dk_at dksX0_trim_0 9 rfl rfl)
abbrev cX0_from : ByteArray := prog_2_method_5_code
def yX0_from : MethodName := ⟨RX0, "from", "(I)I"⟩
def dkwX0_from_0 : List UInt8 := [27, 18, 37, 126, 42, 180, 0, 25, 4, 96, 112, 172]
abbrev dktX0_from_0 : List UInt8 := dkwX0_from_0 ++ []
theorem dksX0_from_0 : cX0_from.data.toList.drop 0 = dktX0_from_0 := by decide +kernel
theorem dX0_from_0 : decode cX0_from 0 = .ok (.iload_n 1, 1) := dk_27 (dk_at dksX0_from_0 0 rfl rfl)
theorem dX0_from_1 : decode cX0_from 1 = .ok (.ldc 37, 2) := dk_18 37 (dk_at dksX0_from_0 1 rfl rfl)
theorem dX0_from_3 : decode cX0_from 3 = .ok (.iand, 1) := dk_126 (dk_at dksX0_from_0 3 rfl rfl)
theorem dX0_from_4 : decode cX0_from 4 = .ok (.aload_n 0, 1) := dk_42 (dk_at dksX0_from_0 4 rfl rfl)
theorem dX0_from_5 : decode cX0_from 5 = .ok (.getfield 25, 3) := dk_180 0 25 (dk_at dksX0_from_0 5 rfl rfl)
theorem dX0_from_8 : decode cX0_from 8 = .ok (.iconst 1, 1) := dk_4 (dk_at dksX0_from_0 8 rfl rfl)
theorem dX0_from_9 : decode cX0_from 9 = .ok (.iadd, 1) := dk_96 (dk_at dksX0_from_0 9 rfl rfl)
theorem dX0_from_10 : decode cX0_from 10 = .ok (.irem, 1) := dk_112 (dk_at dksX0_from_0 10 rfl rfl)
theorem dX0_from_11 : decode cX0_from 11 = .ok (.ireturn, 1) := dk_172 (dk_at dksX0_from_0 11 rfl rfl)
abbrev cX0_begin : ByteArray := prog_2_method_7_code
def yX0_begin : MethodName := ⟨RX0, "begin", "(I)V"⟩
def dkwX0_begin_3 : List UInt8 := [183, 0, 9, 181, 0, 12, 42, 3, 181, 0, 38, 177]
abbrev dktX0_begin_3 : List UInt8 := dkwX0_begin_3 ++ []
def dkwX0_begin_2 : List UInt8 := [160, 0, 16, 187, 0, 7, 89, 17, 0, 160, 183, 0, 9, 167, 0, 13, 187, 0, 7, 89, 17, 0, 224]
abbrev dktX0_begin_2 : List UInt8 := dkwX0_begin_2 ++ dktX0_begin_3
def dkwX0_begin_1 : List UInt8 := [167, 0, 49, 28, 4, 160, 0, 16, 187, 0, 7, 89, 17, 0, 128, 183, 0, 9, 167, 0, 31, 28, 5]
abbrev dktX0_begin_1 : List UInt8 := dkwX0_begin_1 ++ dktX0_begin_2
def dkwX0_begin_0 : List UInt8 := [27, 18, 37, 126, 7, 112, 61, 42, 28, 154, 0, 16, 187, 0, 7, 89, 17, 1, 0, 183, 0, 9]
abbrev dktX0_begin_0 : List UInt8 := dkwX0_begin_0 ++ dktX0_begin_1
theorem dksX0_begin_0 : cX0_begin.data.toList.drop 0 = dktX0_begin_0 := by decide +kernel
theorem dksX0_begin_1 : cX0_begin.data.toList.drop 22 = dktX0_begin_1 := dk_seg dksX0_begin_0 22 rfl rfl
theorem dksX0_begin_2 : cX0_begin.data.toList.drop 45 = dktX0_begin_2 := dk_seg dksX0_begin_1 23 rfl rfl
theorem dksX0_begin_3 : cX0_begin.data.toList.drop 68 = dktX0_begin_3 := dk_seg dksX0_begin_2 23 rfl rfl
theorem dX0_begin_0 : decode cX0_begin 0 = .ok (.iload_n 1, 1) := dk_27 (dk_at dksX0_begin_0 0 rfl rfl)
theorem dX0_begin_1 : decode cX0_begin 1 = .ok (.ldc 37, 2) := dk_18 37 (dk_at dksX0_begin_0 1 rfl rfl)
theorem dX0_begin_3 : decode cX0_begin 3 = .ok (.iand, 1) := dk_126 (dk_at dksX0_begin_0 3 rfl rfl)
theorem dX0_begin_4 : decode cX0_begin 4 = .ok (.iconst 4, 1) := dk_7 (dk_at dksX0_begin_0 4 rfl rfl)
theorem dX0_begin_5 : decode cX0_begin 5 = .ok (.irem, 1) := dk_112 (dk_at dksX0_begin_0 5 rfl rfl)
theorem dX0_begin_6 : decode cX0_begin 6 = .ok (.istore_n 2, 1) := dk_61 (dk_at dksX0_begin_0 6 rfl rfl)
theorem dX0_begin_7 : decode cX0_begin 7 = .ok (.aload_n 0, 1) := dk_42 (dk_at dksX0_begin_0 7 rfl rfl)
theorem dX0_begin_8 : decode cX0_begin 8 = .ok (.iload_n 2, 1) := dk_28 (dk_at dksX0_begin_0 8 rfl rfl)
theorem dX0_begin_9 : decode cX0_begin 9 = .ok (.ifCond .ne 16, 3) := dk_154 0 16 (dk_at dksX0_begin_0 9 rfl rfl)
theorem dX0_begin_12 : decode cX0_begin 12 = .ok (.new 7, 3) := dk_187 0 7 (dk_at dksX0_begin_0 12 rfl rfl)
theorem dX0_begin_15 : decode cX0_begin 15 = .ok (.dup, 1) := dk_89 (dk_at dksX0_begin_0 15 rfl rfl)
theorem dX0_begin_16 : decode cX0_begin 16 = .ok (.sipush 256, 3) := dk_17 1 0 (dk_at dksX0_begin_0 16 rfl rfl)
theorem dX0_begin_19 : decode cX0_begin 19 = .ok (.invokespecial 9, 3) := dk_183 0 9 (dk_at dksX0_begin_0 19 rfl rfl)
theorem dX0_begin_22 : decode cX0_begin 22 = .ok (.goto 49, 3) := dk_167 0 49 (dk_at dksX0_begin_1 0 rfl rfl)
theorem dX0_begin_25 : decode cX0_begin 25 = .ok (.iload_n 2, 1) := dk_28 (dk_at dksX0_begin_1 3 rfl rfl)
theorem dX0_begin_26 : decode cX0_begin 26 = .ok (.iconst 1, 1) := dk_4 (dk_at dksX0_begin_1 4 rfl rfl)
theorem dX0_begin_27 : decode cX0_begin 27 = .ok (.if_icmp .ne 16, 3) := dk_160 0 16 (dk_at dksX0_begin_1 5 rfl rfl)
theorem dX0_begin_30 : decode cX0_begin 30 = .ok (.new 7, 3) := dk_187 0 7 (dk_at dksX0_begin_1 8 rfl rfl)
theorem dX0_begin_33 : decode cX0_begin 33 = .ok (.dup, 1) := dk_89 (dk_at dksX0_begin_1 11 rfl rfl)
theorem dX0_begin_34 : decode cX0_begin 34 = .ok (.sipush 128, 3) := dk_17 0 128 (dk_at dksX0_begin_1 12 rfl rfl)
theorem dX0_begin_37 : decode cX0_begin 37 = .ok (.invokespecial 9, 3) := dk_183 0 9 (dk_at dksX0_begin_1 15 rfl rfl)
theorem dX0_begin_40 : decode cX0_begin 40 = .ok (.goto 31, 3) := dk_167 0 31 (dk_at dksX0_begin_1 18 rfl rfl)
theorem dX0_begin_43 : decode cX0_begin 43 = .ok (.iload_n 2, 1) := dk_28 (dk_at dksX0_begin_1 21 rfl rfl)
theorem dX0_begin_44 : decode cX0_begin 44 = .ok (.iconst 2, 1) := dk_5 (dk_at dksX0_begin_1 22 rfl rfl)
theorem dX0_begin_45 : decode cX0_begin 45 = .ok (.if_icmp .ne 16, 3) := dk_160 0 16 (dk_at dksX0_begin_2 0 rfl rfl)
theorem dX0_begin_48 : decode cX0_begin 48 = .ok (.new 7, 3) := dk_187 0 7 (dk_at dksX0_begin_2 3 rfl rfl)
theorem dX0_begin_51 : decode cX0_begin 51 = .ok (.dup, 1) := dk_89 (dk_at dksX0_begin_2 6 rfl rfl)
theorem dX0_begin_52 : decode cX0_begin 52 = .ok (.sipush 160, 3) := dk_17 0 160 (dk_at dksX0_begin_2 7 rfl rfl)
theorem dX0_begin_55 : decode cX0_begin 55 = .ok (.invokespecial 9, 3) := dk_183 0 9 (dk_at dksX0_begin_2 10 rfl rfl)
theorem dX0_begin_58 : decode cX0_begin 58 = .ok (.goto 13, 3) := dk_167 0 13 (dk_at dksX0_begin_2 13 rfl rfl)
theorem dX0_begin_61 : decode cX0_begin 61 = .ok (.new 7, 3) := dk_187 0 7 (dk_at dksX0_begin_2 16 rfl rfl)
theorem dX0_begin_64 : decode cX0_begin 64 = .ok (.dup, 1) := dk_89 (dk_at dksX0_begin_2 19 rfl rfl)
theorem dX0_begin_65 : decode cX0_begin 65 = .ok (.sipush 224, 3) := dk_17 0 224 (dk_at dksX0_begin_2 20 rfl rfl)
theorem dX0_begin_68 : decode cX0_begin 68 = .ok (.invokespecial 9, 3) := dk_183 0 9 (dk_at dksX0_begin_3 0 rfl rfl)
theorem dX0_begin_71 : decode cX0_begin 71 = .ok (.putfield 12, 3) := dk_181 0 12 (dk_at dksX0_begin_3 3 rfl rfl)
theorem dX0_begin_74 : decode cX0_begin 74 = .ok (.aload_n 0, 1) := dk_42 (dk_at dksX0_begin_3 6 rfl rfl)
theorem dX0_begin_75 : decode cX0_begin 75 = .ok (.iconst 0, 1) := dk_3 (dk_at dksX0_begin_3 7 rfl rfl)
theorem dX0_begin_76 : decode cX0_begin 76 = .ok (.putfield 38, 3) := dk_181 0 38 (dk_at dksX0_begin_3 8 rfl rfl)
theorem dX0_begin_79 : decode cX0_begin 79 = .ok (.return_, 1) := dk_177 (dk_at dksX0_begin_3 11 rfl rfl)
abbrev cX0_feed : ByteArray := prog_2_method_8_code
def yX0_feed : MethodName := ⟨RX0, "feed", "(II)Z"⟩
def dkwX0_feed_2 : List UInt8 := [29, 21, 4, 185, 0, 45, 4, 0, 4, 172]
abbrev dktX0_feed_2 : List UInt8 := dkwX0_feed_2 ++ []
def dkwX0_feed_1 : List UInt8 := [164, 0, 5, 3, 172, 42, 89, 180, 0, 38, 21, 4, 96, 181, 0, 38, 42, 180, 0, 12, 42, 180, 0, 22]
abbrev dktX0_feed_1 : List UInt8 := dkwX0_feed_1 ++ dktX0_feed_2
def dkwX0_feed_0 : List UInt8 := [42, 27, 182, 0, 33, 62, 42, 29, 28, 182, 0, 41, 54, 4, 42, 180, 0, 38, 21, 4, 96, 17, 64, 0]
abbrev dktX0_feed_0 : List UInt8 := dkwX0_feed_0 ++ dktX0_feed_1
theorem dksX0_feed_0 : cX0_feed.data.toList.drop 0 = dktX0_feed_0 := by decide +kernel
theorem dksX0_feed_1 : cX0_feed.data.toList.drop 24 = dktX0_feed_1 := dk_seg dksX0_feed_0 24 rfl rfl
theorem dksX0_feed_2 : cX0_feed.data.toList.drop 48 = dktX0_feed_2 := dk_seg dksX0_feed_1 24 rfl rfl
theorem dX0_feed_0 : decode cX0_feed 0 = .ok (.aload_n 0, 1) := dk_42 (dk_at dksX0_feed_0 0 rfl rfl)
theorem dX0_feed_1 : decode cX0_feed 1 = .ok (.iload_n 1, 1) := dk_27 (dk_at dksX0_feed_0 1 rfl rfl)
theorem dX0_feed_2 : decode cX0_feed 2 = .ok (.invokevirtual 33, 3) := dk_182 0 33 (dk_at dksX0_feed_0 2 rfl rfl)
theorem dX0_feed_5 : decode cX0_feed 5 = .ok (.istore_n 3, 1) := dk_62 (dk_at dksX0_feed_0 5 rfl rfl)
theorem dX0_feed_6 : decode cX0_feed 6 = .ok (.aload_n 0, 1) := dk_42 (dk_at dksX0_feed_0 6 rfl rfl)
theorem dX0_feed_7 : decode cX0_feed 7 = .ok (.iload_n 3, 1) := dk_29 (dk_at dksX0_feed_0 7 rfl rfl)
theorem dX0_feed_8 : decode cX0_feed 8 = .ok (.iload_n 2, 1) := dk_28 (dk_at dksX0_feed_0 8 rfl rfl)
theorem dX0_feed_9 : decode cX0_feed 9 = .ok (.invokevirtual 41, 3) := dk_182 0 41 (dk_at dksX0_feed_0 9 rfl rfl)
theorem dX0_feed_12 : decode cX0_feed 12 = .ok (.istore 4, 2) := dk_54 4 (dk_at dksX0_feed_0 12 rfl rfl)
theorem dX0_feed_14 : decode cX0_feed 14 = .ok (.aload_n 0, 1) := dk_42 (dk_at dksX0_feed_0 14 rfl rfl)
theorem dX0_feed_15 : decode cX0_feed 15 = .ok (.getfield 38, 3) := dk_180 0 38 (dk_at dksX0_feed_0 15 rfl rfl)
theorem dX0_feed_18 : decode cX0_feed 18 = .ok (.iload 4, 2) := dk_21 4 (dk_at dksX0_feed_0 18 rfl rfl)
theorem dX0_feed_20 : decode cX0_feed 20 = .ok (.iadd, 1) := dk_96 (dk_at dksX0_feed_0 20 rfl rfl)
theorem dX0_feed_21 : decode cX0_feed 21 = .ok (.sipush 16384, 3) := dk_17 64 0 (dk_at dksX0_feed_0 21 rfl rfl)
theorem dX0_feed_24 : decode cX0_feed 24 = .ok (.if_icmp .le 5, 3) := dk_164 0 5 (dk_at dksX0_feed_1 0 rfl rfl)
theorem dX0_feed_27 : decode cX0_feed 27 = .ok (.iconst 0, 1) := dk_3 (dk_at dksX0_feed_1 3 rfl rfl)
theorem dX0_feed_28 : decode cX0_feed 28 = .ok (.ireturn, 1) := dk_172 (dk_at dksX0_feed_1 4 rfl rfl)
theorem dX0_feed_29 : decode cX0_feed 29 = .ok (.aload_n 0, 1) := dk_42 (dk_at dksX0_feed_1 5 rfl rfl)
theorem dX0_feed_30 : decode cX0_feed 30 = .ok (.dup, 1) := dk_89 (dk_at dksX0_feed_1 6 rfl rfl)
theorem dX0_feed_31 : decode cX0_feed 31 = .ok (.getfield 38, 3) := dk_180 0 38 (dk_at dksX0_feed_1 7 rfl rfl)
theorem dX0_feed_34 : decode cX0_feed 34 = .ok (.iload 4, 2) := dk_21 4 (dk_at dksX0_feed_1 10 rfl rfl)
theorem dX0_feed_36 : decode cX0_feed 36 = .ok (.iadd, 1) := dk_96 (dk_at dksX0_feed_1 12 rfl rfl)
theorem dX0_feed_37 : decode cX0_feed 37 = .ok (.putfield 38, 3) := dk_181 0 38 (dk_at dksX0_feed_1 13 rfl rfl)
theorem dX0_feed_40 : decode cX0_feed 40 = .ok (.aload_n 0, 1) := dk_42 (dk_at dksX0_feed_1 16 rfl rfl)
theorem dX0_feed_41 : decode cX0_feed 41 = .ok (.getfield 12, 3) := dk_180 0 12 (dk_at dksX0_feed_1 17 rfl rfl)
theorem dX0_feed_44 : decode cX0_feed 44 = .ok (.aload_n 0, 1) := dk_42 (dk_at dksX0_feed_1 20 rfl rfl)
theorem dX0_feed_45 : decode cX0_feed 45 = .ok (.getfield 22, 3) := dk_180 0 22 (dk_at dksX0_feed_1 21 rfl rfl)
theorem dX0_feed_48 : decode cX0_feed 48 = .ok (.iload_n 3, 1) := dk_29 (dk_at dksX0_feed_2 0 rfl rfl)
theorem dX0_feed_49 : decode cX0_feed 49 = .ok (.iload 4, 2) := dk_21 4 (dk_at dksX0_feed_2 1 rfl rfl)
theorem dX0_feed_51 : decode cX0_feed 51 = .ok (.invokeinterface 45 4, 5) := by decide +kernel
theorem dX0_feed_56 : decode cX0_feed 56 = .ok (.iconst 1, 1) := dk_4 (dk_at dksX0_feed_2 8 rfl rfl)
theorem dX0_feed_57 : decode cX0_feed 57 = .ok (.ireturn, 1) := dk_172 (dk_at dksX0_feed_2 9 rfl rfl)
abbrev cX0_count : ByteArray := prog_2_method_6_code
def yX0_count : MethodName := ⟨RX0, "count", "(II)I"⟩
def dkwX0_count_0 : List UInt8 := [28, 18, 37, 126, 42, 180, 0, 25, 27, 100, 4, 96, 112, 172]
abbrev dktX0_count_0 : List UInt8 := dkwX0_count_0 ++ []
theorem dksX0_count_0 : cX0_count.data.toList.drop 0 = dktX0_count_0 := by decide +kernel
theorem dX0_count_0 : decode cX0_count 0 = .ok (.iload_n 2, 1) := dk_28 (dk_at dksX0_count_0 0 rfl rfl)
theorem dX0_count_1 : decode cX0_count 1 = .ok (.ldc 37, 2) := dk_18 37 (dk_at dksX0_count_0 1 rfl rfl)
theorem dX0_count_3 : decode cX0_count 3 = .ok (.iand, 1) := dk_126 (dk_at dksX0_count_0 3 rfl rfl)
theorem dX0_count_4 : decode cX0_count 4 = .ok (.aload_n 0, 1) := dk_42 (dk_at dksX0_count_0 4 rfl rfl)
theorem dX0_count_5 : decode cX0_count 5 = .ok (.getfield 25, 3) := dk_180 0 25 (dk_at dksX0_count_0 5 rfl rfl)
theorem dX0_count_8 : decode cX0_count 8 = .ok (.iload_n 1, 1) := dk_27 (dk_at dksX0_count_0 8 rfl rfl)
theorem dX0_count_9 : decode cX0_count 9 = .ok (.isub, 1) := dk_100 (dk_at dksX0_count_0 9 rfl rfl)
theorem dX0_count_10 : decode cX0_count 10 = .ok (.iconst 1, 1) := dk_4 (dk_at dksX0_count_0 10 rfl rfl)
theorem dX0_count_11 : decode cX0_count 11 = .ok (.iadd, 1) := dk_96 (dk_at dksX0_count_0 11 rfl rfl)
theorem dX0_count_12 : decode cX0_count 12 = .ok (.irem, 1) := dk_112 (dk_at dksX0_count_0 12 rfl rfl)
theorem dX0_count_13 : decode cX0_count 13 = .ok (.ireturn, 1) := dk_172 (dk_at dksX0_count_0 13 rfl rfl)
abbrev cX0_one : ByteArray := prog_2_method_9_code
def yX0_one : MethodName := ⟨RX0, "one", "(I)Z"⟩
def dkwX0_one_1 : List UInt8 := [180, 0, 12, 27, 145, 185, 0, 51, 2, 0, 4, 172]
abbrev dktX0_one_1 : List UInt8 := dkwX0_one_1 ++ []
def dkwX0_one_0 : List UInt8 := [42, 180, 0, 38, 17, 64, 0, 161, 0, 5, 3, 172, 42, 89, 180, 0, 38, 4, 96, 181, 0, 38, 42]
abbrev dktX0_one_0 : List UInt8 := dkwX0_one_0 ++ dktX0_one_1
theorem dksX0_one_0 : cX0_one.data.toList.drop 0 = dktX0_one_0 := by decide +kernel
theorem dksX0_one_1 : cX0_one.data.toList.drop 23 = dktX0_one_1 := dk_seg dksX0_one_0 23 rfl rfl
theorem dX0_one_0 : decode cX0_one 0 = .ok (.aload_n 0, 1) := dk_42 (dk_at dksX0_one_0 0 rfl rfl)
theorem dX0_one_1 : decode cX0_one 1 = .ok (.getfield 38, 3) := dk_180 0 38 (dk_at dksX0_one_0 1 rfl rfl)
theorem dX0_one_4 : decode cX0_one 4 = .ok (.sipush 16384, 3) := dk_17 64 0 (dk_at dksX0_one_0 4 rfl rfl)
theorem dX0_one_7 : decode cX0_one 7 = .ok (.if_icmp .lt 5, 3) := dk_161 0 5 (dk_at dksX0_one_0 7 rfl rfl)
theorem dX0_one_10 : decode cX0_one 10 = .ok (.iconst 0, 1) := dk_3 (dk_at dksX0_one_0 10 rfl rfl)
theorem dX0_one_11 : decode cX0_one 11 = .ok (.ireturn, 1) := dk_172 (dk_at dksX0_one_0 11 rfl rfl)
theorem dX0_one_12 : decode cX0_one 12 = .ok (.aload_n 0, 1) := dk_42 (dk_at dksX0_one_0 12 rfl rfl)
theorem dX0_one_13 : decode cX0_one 13 = .ok (.dup, 1) := dk_89 (dk_at dksX0_one_0 13 rfl rfl)
theorem dX0_one_14 : decode cX0_one 14 = .ok (.getfield 38, 3) := dk_180 0 38 (dk_at dksX0_one_0 14 rfl rfl)
theorem dX0_one_17 : decode cX0_one 17 = .ok (.iconst 1, 1) := dk_4 (dk_at dksX0_one_0 17 rfl rfl)
theorem dX0_one_18 : decode cX0_one 18 = .ok (.iadd, 1) := dk_96 (dk_at dksX0_one_0 18 rfl rfl)
theorem dX0_one_19 : decode cX0_one 19 = .ok (.putfield 38, 3) := dk_181 0 38 (dk_at dksX0_one_0 19 rfl rfl)
theorem dX0_one_22 : decode cX0_one 22 = .ok (.aload_n 0, 1) := dk_42 (dk_at dksX0_one_0 22 rfl rfl)
theorem dX0_one_23 : decode cX0_one 23 = .ok (.getfield 12, 3) := dk_180 0 12 (dk_at dksX0_one_1 0 rfl rfl)
theorem dX0_one_26 : decode cX0_one 26 = .ok (.iload_n 1, 1) := dk_27 (dk_at dksX0_one_1 3 rfl rfl)
theorem dX0_one_27 : decode cX0_one 27 = .ok (.i2b, 1) := dk_145 (dk_at dksX0_one_1 4 rfl rfl)
theorem dX0_one_28 : decode cX0_one 28 = .ok (.invokeinterface 51 2, 5) := by decide +kernel
theorem dX0_one_33 : decode cX0_one 33 = .ok (.iconst 1, 1) := dk_4 (dk_at dksX0_one_1 10 rfl rfl)
theorem dX0_one_34 : decode cX0_one 34 = .ok (.ireturn, 1) := dk_172 (dk_at dksX0_one_1 11 rfl rfl)
abbrev cX0_close : ByteArray := prog_2_method_10_code
def yX0_close : MethodName := ⟨RX0, "close", "()I"⟩
def dkwX0_close_0 : List UInt8 := [42, 3, 181, 0, 38, 42, 180, 0, 12, 42, 180, 0, 18, 3, 185, 0, 54, 3, 0, 172]
abbrev dktX0_close_0 : List UInt8 := dkwX0_close_0 ++ []
theorem dksX0_close_0 : cX0_close.data.toList.drop 0 = dktX0_close_0 := by decide +kernel
theorem dX0_close_0 : decode cX0_close 0 = .ok (.aload_n 0, 1) := dk_42 (dk_at dksX0_close_0 0 rfl rfl)
theorem dX0_close_1 : decode cX0_close 1 = .ok (.iconst 0, 1) := dk_3 (dk_at dksX0_close_0 1 rfl rfl)
theorem dX0_close_2 : decode cX0_close 2 = .ok (.putfield 38, 3) := dk_181 0 38 (dk_at dksX0_close_0 2 rfl rfl)
theorem dX0_close_5 : decode cX0_close 5 = .ok (.aload_n 0, 1) := dk_42 (dk_at dksX0_close_0 5 rfl rfl)
theorem dX0_close_6 : decode cX0_close 6 = .ok (.getfield 12, 3) := dk_180 0 12 (dk_at dksX0_close_0 6 rfl rfl)
theorem dX0_close_9 : decode cX0_close 9 = .ok (.aload_n 0, 1) := dk_42 (dk_at dksX0_close_0 9 rfl rfl)
theorem dX0_close_10 : decode cX0_close 10 = .ok (.getfield 18, 3) := dk_180 0 18 (dk_at dksX0_close_0 10 rfl rfl)
theorem dX0_close_13 : decode cX0_close 13 = .ok (.iconst 0, 1) := dk_3 (dk_at dksX0_close_0 13 rfl rfl)
theorem dX0_close_14 : decode cX0_close 14 = .ok (.invokeinterface 54 3, 5) := by decide +kernel
theorem dX0_close_19 : decode cX0_close 19 = .ok (.ireturn, 1) := dk_172 (dk_at dksX0_close_0 19 rfl rfl)
abbrev cX0_drop : ByteArray := prog_2_method_11_code
def yX0_drop : MethodName := ⟨RX0, "drop", "()V"⟩
def dkwX0_drop_0 : List UInt8 := [42, 180, 0, 12, 185, 0, 58, 1, 0, 42, 3, 181, 0, 38, 177]
abbrev dktX0_drop_0 : List UInt8 := dkwX0_drop_0 ++ []
theorem dksX0_drop_0 : cX0_drop.data.toList.drop 0 = dktX0_drop_0 := by decide +kernel
theorem dX0_drop_0 : decode cX0_drop 0 = .ok (.aload_n 0, 1) := dk_42 (dk_at dksX0_drop_0 0 rfl rfl)
theorem dX0_drop_1 : decode cX0_drop 1 = .ok (.getfield 12, 3) := dk_180 0 12 (dk_at dksX0_drop_0 1 rfl rfl)
theorem dX0_drop_4 : decode cX0_drop 4 = .ok (.invokeinterface 58 1, 5) := by decide +kernel
theorem dX0_drop_9 : decode cX0_drop 9 = .ok (.aload_n 0, 1) := dk_42 (dk_at dksX0_drop_0 9 rfl rfl)
theorem dX0_drop_10 : decode cX0_drop 10 = .ok (.iconst 0, 1) := dk_3 (dk_at dksX0_drop_0 10 rfl rfl)
theorem dX0_drop_11 : decode cX0_drop 11 = .ok (.putfield 38, 3) := dk_181 0 38 (dk_at dksX0_drop_0 11 rfl rfl)
theorem dX0_drop_14 : decode cX0_drop 14 = .ok (.return_, 1) := dk_177 (dk_at dksX0_drop_0 14 rfl rfl)
abbrev cX0_out : ByteArray := prog_2_method_12_code
def yX0_out : MethodName := ⟨RX0, "out", "(I)I"⟩
def dkwX0_out_0 : List UInt8 := [42, 180, 0, 18, 27, 18, 37, 126, 16, 32, 112, 51, 17, 0, 255, 126, 172]
abbrev dktX0_out_0 : List UInt8 := dkwX0_out_0 ++ []
theorem dksX0_out_0 : cX0_out.data.toList.drop 0 = dktX0_out_0 := by decide +kernel
theorem dX0_out_0 : decode cX0_out 0 = .ok (.aload_n 0, 1) := dk_42 (dk_at dksX0_out_0 0 rfl rfl)
theorem dX0_out_1 : decode cX0_out 1 = .ok (.getfield 18, 3) := dk_180 0 18 (dk_at dksX0_out_0 1 rfl rfl)
theorem dX0_out_4 : decode cX0_out 4 = .ok (.iload_n 1, 1) := dk_27 (dk_at dksX0_out_0 4 rfl rfl)
theorem dX0_out_5 : decode cX0_out 5 = .ok (.ldc 37, 2) := dk_18 37 (dk_at dksX0_out_0 5 rfl rfl)
theorem dX0_out_7 : decode cX0_out 7 = .ok (.iand, 1) := dk_126 (dk_at dksX0_out_0 7 rfl rfl)
theorem dX0_out_8 : decode cX0_out 8 = .ok (.bipush 32, 2) := dk_16 32 (dk_at dksX0_out_0 8 rfl rfl)
theorem dX0_out_10 : decode cX0_out 10 = .ok (.irem, 1) := dk_112 (dk_at dksX0_out_0 10 rfl rfl)
theorem dX0_out_11 : decode cX0_out 11 = .ok (.baload, 1) := dk_51 (dk_at dksX0_out_0 11 rfl rfl)
theorem dX0_out_12 : decode cX0_out 12 = .ok (.sipush 255, 3) := dk_17 0 255 (dk_at dksX0_out_0 12 rfl rfl)
theorem dX0_out_15 : decode cX0_out 15 = .ok (.iand, 1) := dk_126 (dk_at dksX0_out_0 15 rfl rfl)
theorem dX0_out_16 : decode cX0_out 16 = .ok (.ireturn, 1) := dk_172 (dk_at dksX0_out_0 16 rfl rfl)
theorem q15 : (Jvm.Cond.initialized "BlakeShortDesk") ∈ lw_all := lw_g (lw_at lw_m1 1 rfl) rfl
theorem q34 : (Jvm.Cond.instantiable "BlakeShortDesk" (5 : Nat)) ∈ lw_all := lw_g (lw_at lw_m1 20 rfl) rfl
theorem q36 : (Jvm.Cond.instanceMethod ({ cls := "BlakeShortDesk", name := "<init>", desc := "()V" } : Jvm.MethodName)) ∈ lw_all := lw_g (lw_at lw_m1 22 rfl) rfl
theorem q37 : (Jvm.Cond.code ({ cls := "BlakeShortDesk", name := "<init>", desc := "()V" } : Jvm.MethodName) prog_2_method_1_code (1 : Nat) (Option.none : Option Jvm.ClassFile.FieldType)) ∈ lw_all := lw_g (lw_at lw_m1 23 rfl) rfl
theorem q38 : (Jvm.Cond.methodLink "BlakeShortDesk" (1 : Nat) ({ cls := "java/lang/Object", name := "<init>", desc := "()V" } : Jvm.MethodName)) ∈ lw_all := lw_g (lw_at lw_m1 24 rfl) rfl
theorem q41 : (Jvm.Cond.classLink "BlakeShortDesk" (7 : Nat) "Blake2sDigest") ∈ lw_all := lw_g (lw_at lw_m1 27 rfl) rfl
theorem q43 : (Jvm.Cond.methodLink "BlakeShortDesk" (9 : Nat) ({ cls := "Blake2sDigest", name := "<init>", desc := "(I)V" } : Jvm.MethodName)) ∈ lw_all := lw_g (lw_at lw_m1 29 rfl) rfl
theorem q199 : (Jvm.Cond.fieldLink "BlakeShortDesk" (12 : Nat) "BlakeShortDesk" "run" "LDigest;") ∈ lw_all := lw_g (lw_at lw_m1 185 rfl) rfl
theorem q200 : (Jvm.Cond.fieldLink "BlakeShortDesk" (18 : Nat) "BlakeShortDesk" "out" "[B") ∈ lw_all := lw_g (lw_at lw_m1 186 rfl) rfl
theorem q201 : (Jvm.Cond.fieldLink "BlakeShortDesk" (38 : Nat) "BlakeShortDesk" "fed" "I") ∈ lw_all := lw_g (lw_at lw_m1 187 rfl) rfl
theorem q202 : (Jvm.Cond.fieldLink "BlakeShortDesk" (22 : Nat) "BlakeShortDesk" "text" "[B") ∈ lw_all := lw_g (lw_at lw_m1 188 rfl) rfl
theorem q203 : (Jvm.Cond.fieldLink "BlakeShortDesk" (25 : Nat) "BlakeShortDesk" "size" "I") ∈ lw_all := lw_g (lw_at lw_m1 189 rfl) rfl
theorem q204 : (Jvm.Cond.lays "BlakeShortDesk" "BlakeShortDesk" "run" "LDigest;") ∈ lw_all := lw_g (lw_at lw_m1 190 rfl) rfl
theorem q205 : (Jvm.Cond.soleField "BlakeShortDesk" "run") ∈ lw_all := lw_g (lw_at lw_m1 191 rfl) rfl
theorem q206 : (Jvm.Cond.laysFinal "BlakeShortDesk" "BlakeShortDesk" "out" "[B") ∈ lw_all := lw_g (lw_at lw_m1 192 rfl) rfl
theorem q207 : (Jvm.Cond.soleField "BlakeShortDesk" "out") ∈ lw_all := lw_g (lw_at lw_m1 193 rfl) rfl
theorem q208 : (Jvm.Cond.lays "BlakeShortDesk" "BlakeShortDesk" "fed" "I") ∈ lw_all := lw_g (lw_at lw_m1 194 rfl) rfl
theorem q209 : (Jvm.Cond.soleField "BlakeShortDesk" "fed") ∈ lw_all := lw_g (lw_at lw_m1 195 rfl) rfl
theorem q210 : (Jvm.Cond.laysFinal "BlakeShortDesk" "BlakeShortDesk" "text" "[B") ∈ lw_all := lw_g (lw_at lw_m1 196 rfl) rfl
theorem q211 : (Jvm.Cond.soleField "BlakeShortDesk" "text") ∈ lw_all := lw_g (lw_at lw_m1 197 rfl) rfl
theorem q212 : (Jvm.Cond.lays "BlakeShortDesk" "BlakeShortDesk" "size" "I") ∈ lw_all := lw_g (lw_at lw_m1 198 rfl) rfl
theorem q213 : (Jvm.Cond.soleField "BlakeShortDesk" "size") ∈ lw_all := lw_g (lw_at lw_m1 199 rfl) rfl
theorem q214 : (Jvm.Cond.superclass "BlakeShortDesk" "java/lang/Object") ∈ lw_all := lw_g (lw_at lw_m1 200 rfl) rfl
theorem q216 : (Jvm.Cond.instanceMethod ({ cls := "BlakeShortDesk", name := "put", desc := "(IIII)Z" } : Jvm.MethodName)) ∈ lw_all := lw_g (lw_at lw_m1 202 rfl) rfl
theorem q217 : (Jvm.Cond.selects "BlakeShortDesk" ({ cls := "BlakeShortDesk", name := "put", desc := "(IIII)Z" } : Jvm.MethodName) ({ cls := "BlakeShortDesk", name := "put", desc := "(IIII)Z" } : Jvm.MethodName)) ∈ lw_all := lw_g (lw_at lw_m1 203 rfl) rfl
theorem q218 : (Jvm.Cond.code ({ cls := "BlakeShortDesk", name := "put", desc := "(IIII)Z" } : Jvm.MethodName) prog_2_method_2_code (5 : Nat) (Option.some Jvm.ClassFile.FieldType.boolean)) ∈ lw_all := lw_g (lw_at lw_m1 204 rfl) rfl
theorem q219 : (Jvm.Cond.methodLink "BlakeShortDesk" (29 : Nat) ({ cls := "BlakeShortDesk", name := "word", desc := "(II)V" } : Jvm.MethodName)) ∈ lw_all := lw_g (lw_at lw_m1 205 rfl) rfl
theorem q220 : (Jvm.Cond.privateMethod ({ cls := "BlakeShortDesk", name := "word", desc := "(II)V" } : Jvm.MethodName)) ∈ lw_tbl := lw_at lw_m1 206 rfl
theorem q221 : (Jvm.Cond.instanceMethod ({ cls := "BlakeShortDesk", name := "word", desc := "(II)V" } : Jvm.MethodName)) ∈ lw_all := lw_g (lw_at lw_m1 207 rfl) rfl
theorem q222 : (Jvm.Cond.code ({ cls := "BlakeShortDesk", name := "word", desc := "(II)V" } : Jvm.MethodName) prog_2_method_3_code (3 : Nat) (Option.none : Option Jvm.ClassFile.FieldType)) ∈ lw_all := lw_g (lw_at lw_m1 208 rfl) rfl
theorem q224 : (Jvm.Cond.instanceMethod ({ cls := "BlakeShortDesk", name := "trim", desc := "(I)V" } : Jvm.MethodName)) ∈ lw_all := lw_g (lw_at lw_m1 210 rfl) rfl
theorem q225 : (Jvm.Cond.selects "BlakeShortDesk" ({ cls := "BlakeShortDesk", name := "trim", desc := "(I)V" } : Jvm.MethodName) ({ cls := "BlakeShortDesk", name := "trim", desc := "(I)V" } : Jvm.MethodName)) ∈ lw_all := lw_g (lw_at lw_m1 211 rfl) rfl
theorem q226 : (Jvm.Cond.code ({ cls := "BlakeShortDesk", name := "trim", desc := "(I)V" } : Jvm.MethodName) prog_2_method_4_code (2 : Nat) (Option.none : Option Jvm.ClassFile.FieldType)) ∈ lw_all := lw_g (lw_at lw_m1 212 rfl) rfl
theorem q227 : (Jvm.Cond.methodLink "BlakeShortDesk" (33 : Nat) ({ cls := "BlakeShortDesk", name := "from", desc := "(I)I" } : Jvm.MethodName)) ∈ lw_all := lw_g (lw_at lw_m1 213 rfl) rfl
theorem q228 : (Jvm.Cond.privateMethod ({ cls := "BlakeShortDesk", name := "from", desc := "(I)I" } : Jvm.MethodName)) ∈ lw_tbl := lw_at lw_m1 214 rfl
theorem q229 : (Jvm.Cond.instanceMethod ({ cls := "BlakeShortDesk", name := "from", desc := "(I)I" } : Jvm.MethodName)) ∈ lw_all := lw_g (lw_at lw_m1 215 rfl) rfl
theorem q230 : (Jvm.Cond.code ({ cls := "BlakeShortDesk", name := "from", desc := "(I)I" } : Jvm.MethodName) prog_2_method_5_code (2 : Nat) (Option.some Jvm.ClassFile.FieldType.int)) ∈ lw_all := lw_g (lw_at lw_m1 216 rfl) rfl
theorem q231 : (Jvm.Cond.constant "BlakeShortDesk" (37 : Nat) (2147483647 : Int32)) ∈ lw_all := lw_g (lw_at lw_m1 217 rfl) rfl
theorem q233 : (Jvm.Cond.instanceMethod ({ cls := "BlakeShortDesk", name := "begin", desc := "(I)V" } : Jvm.MethodName)) ∈ lw_all := lw_g (lw_at lw_m1 219 rfl) rfl
theorem q234 : (Jvm.Cond.selects "BlakeShortDesk" ({ cls := "BlakeShortDesk", name := "begin", desc := "(I)V" } : Jvm.MethodName) ({ cls := "BlakeShortDesk", name := "begin", desc := "(I)V" } : Jvm.MethodName)) ∈ lw_all := lw_g (lw_at lw_m1 220 rfl) rfl
theorem q235 : (Jvm.Cond.code ({ cls := "BlakeShortDesk", name := "begin", desc := "(I)V" } : Jvm.MethodName) prog_2_method_7_code (3 : Nat) (Option.none : Option Jvm.ClassFile.FieldType)) ∈ lw_all := lw_g (lw_at lw_m1 221 rfl) rfl
theorem q237 : (Jvm.Cond.instanceMethod ({ cls := "BlakeShortDesk", name := "feed", desc := "(II)Z" } : Jvm.MethodName)) ∈ lw_all := lw_g (lw_at lw_m1 223 rfl) rfl
theorem q238 : (Jvm.Cond.selects "BlakeShortDesk" ({ cls := "BlakeShortDesk", name := "feed", desc := "(II)Z" } : Jvm.MethodName) ({ cls := "BlakeShortDesk", name := "feed", desc := "(II)Z" } : Jvm.MethodName)) ∈ lw_all := lw_g (lw_at lw_m1 224 rfl) rfl
theorem q239 : (Jvm.Cond.code ({ cls := "BlakeShortDesk", name := "feed", desc := "(II)Z" } : Jvm.MethodName) prog_2_method_8_code (5 : Nat) (Option.some Jvm.ClassFile.FieldType.boolean)) ∈ lw_all := lw_g (lw_at lw_m1 225 rfl) rfl
theorem q240 : (Jvm.Cond.methodLink "BlakeShortDesk" (41 : Nat) ({ cls := "BlakeShortDesk", name := "count", desc := "(II)I" } : Jvm.MethodName)) ∈ lw_all := lw_g (lw_at lw_m1 226 rfl) rfl
theorem q241 : (Jvm.Cond.privateMethod ({ cls := "BlakeShortDesk", name := "count", desc := "(II)I" } : Jvm.MethodName)) ∈ lw_tbl := lw_at lw_m1 227 rfl
theorem q242 : (Jvm.Cond.instanceMethod ({ cls := "BlakeShortDesk", name := "count", desc := "(II)I" } : Jvm.MethodName)) ∈ lw_all := lw_g (lw_at lw_m1 228 rfl) rfl
theorem q243 : (Jvm.Cond.code ({ cls := "BlakeShortDesk", name := "count", desc := "(II)I" } : Jvm.MethodName) prog_2_method_6_code (3 : Nat) (Option.some Jvm.ClassFile.FieldType.int)) ∈ lw_all := lw_g (lw_at lw_m1 229 rfl) rfl
theorem q244 : (Jvm.Cond.interfaceEntry "BlakeShortDesk" (45 : Nat)) ∈ lw_tbl := lw_at lw_m1 230 rfl
theorem q245 : (Jvm.Cond.methodLink "BlakeShortDesk" (45 : Nat) ({ cls := "Digest", name := "update", desc := "([BII)V" } : Jvm.MethodName)) ∈ lw_all := lw_g (lw_at lw_m1 231 rfl) rfl
theorem q296 : (Jvm.Cond.instanceMethod ({ cls := "BlakeShortDesk", name := "one", desc := "(I)Z" } : Jvm.MethodName)) ∈ lw_all := lw_g (lw_at lw_m2 42 rfl) rfl
theorem q297 : (Jvm.Cond.selects "BlakeShortDesk" ({ cls := "BlakeShortDesk", name := "one", desc := "(I)Z" } : Jvm.MethodName) ({ cls := "BlakeShortDesk", name := "one", desc := "(I)Z" } : Jvm.MethodName)) ∈ lw_all := lw_g (lw_at lw_m2 43 rfl) rfl
theorem q298 : (Jvm.Cond.code ({ cls := "BlakeShortDesk", name := "one", desc := "(I)Z" } : Jvm.MethodName) prog_2_method_9_code (2 : Nat) (Option.some Jvm.ClassFile.FieldType.boolean)) ∈ lw_all := lw_g (lw_at lw_m2 44 rfl) rfl
theorem q299 : (Jvm.Cond.interfaceEntry "BlakeShortDesk" (51 : Nat)) ∈ lw_tbl := lw_at lw_m2 45 rfl
theorem q300 : (Jvm.Cond.methodLink "BlakeShortDesk" (51 : Nat) ({ cls := "Digest", name := "update", desc := "(B)V" } : Jvm.MethodName)) ∈ lw_all := lw_g (lw_at lw_m2 46 rfl) rfl
theorem q309 : (Jvm.Cond.instanceMethod ({ cls := "BlakeShortDesk", name := "close", desc := "()I" } : Jvm.MethodName)) ∈ lw_all := lw_g (lw_at lw_m2 55 rfl) rfl
theorem q310 : (Jvm.Cond.selects "BlakeShortDesk" ({ cls := "BlakeShortDesk", name := "close", desc := "()I" } : Jvm.MethodName) ({ cls := "BlakeShortDesk", name := "close", desc := "()I" } : Jvm.MethodName)) ∈ lw_all := lw_g (lw_at lw_m2 56 rfl) rfl
theorem q311 : (Jvm.Cond.code ({ cls := "BlakeShortDesk", name := "close", desc := "()I" } : Jvm.MethodName) prog_2_method_10_code (1 : Nat) (Option.some Jvm.ClassFile.FieldType.int)) ∈ lw_all := lw_g (lw_at lw_m2 57 rfl) rfl
theorem q312 : (Jvm.Cond.interfaceEntry "BlakeShortDesk" (54 : Nat)) ∈ lw_tbl := lw_at lw_m2 58 rfl
theorem q313 : (Jvm.Cond.methodLink "BlakeShortDesk" (54 : Nat) ({ cls := "Digest", name := "doFinal", desc := "([BI)I" } : Jvm.MethodName)) ∈ lw_all := lw_g (lw_at lw_m2 59 rfl) rfl
theorem q365 : (Jvm.Cond.instanceMethod ({ cls := "BlakeShortDesk", name := "drop", desc := "()V" } : Jvm.MethodName)) ∈ lw_all := lw_g (lw_at lw_m2 111 rfl) rfl
theorem q366 : (Jvm.Cond.selects "BlakeShortDesk" ({ cls := "BlakeShortDesk", name := "drop", desc := "()V" } : Jvm.MethodName) ({ cls := "BlakeShortDesk", name := "drop", desc := "()V" } : Jvm.MethodName)) ∈ lw_all := lw_g (lw_at lw_m2 112 rfl) rfl
theorem q367 : (Jvm.Cond.code ({ cls := "BlakeShortDesk", name := "drop", desc := "()V" } : Jvm.MethodName) prog_2_method_11_code (1 : Nat) (Option.none : Option Jvm.ClassFile.FieldType)) ∈ lw_all := lw_g (lw_at lw_m2 113 rfl) rfl
theorem q368 : (Jvm.Cond.interfaceEntry "BlakeShortDesk" (58 : Nat)) ∈ lw_tbl := lw_at lw_m2 114 rfl
theorem q369 : (Jvm.Cond.methodLink "BlakeShortDesk" (58 : Nat) ({ cls := "Digest", name := "reset", desc := "()V" } : Jvm.MethodName)) ∈ lw_all := lw_g (lw_at lw_m2 115 rfl) rfl
theorem q376 : (Jvm.Cond.instanceMethod ({ cls := "BlakeShortDesk", name := "out", desc := "(I)I" } : Jvm.MethodName)) ∈ lw_all := lw_g (lw_at lw_m2 122 rfl) rfl
theorem q377 : (Jvm.Cond.selects "BlakeShortDesk" ({ cls := "BlakeShortDesk", name := "out", desc := "(I)I" } : Jvm.MethodName) ({ cls := "BlakeShortDesk", name := "out", desc := "(I)I" } : Jvm.MethodName)) ∈ lw_all := lw_g (lw_at lw_m2 123 rfl) rfl
theorem q378 : (Jvm.Cond.code ({ cls := "BlakeShortDesk", name := "out", desc := "(I)I" } : Jvm.MethodName) prog_2_method_12_code (2 : Nat) (Option.some Jvm.ClassFile.FieldType.int)) ∈ lw_all := lw_g (lw_at lw_m2 124 rfl) rfl
theorem in_X0 : ∀ w ∈ wsX00, w ∈ lw_all := lw_in wsX00 [204, 206, 208, 210, 212] (by decide +kernel) (by decide +kernel)
end
section
/-! BlakeShortDeskModel -/
set_option maxRecDepth 100000
def RX3 : String := "BlakeShortDeskModel"
def TX3 : u_T := fun k => match k with
  | 0 => ("BlakeShortDeskModel", "text", "[I", true)
  | 1 => ("BlakeShortDeskModel", "size", "I", false)
  | 2 => ("BlakeShortDeskModel", "message", "[I", true)
  | 3 => ("BlakeShortDeskModel", "fed", "I", false)
  | 4 => ("BlakeShortDeskModel", "bytes", "I", false)
  | _ => ("BlakeShortDeskModel", "out", "[I", true)
def tyX3 : Nat → FieldType := fun k => match k with
  | 0 => .array .int
  | 1 => .int
  | 2 => .array .int
  | 3 => .int
  | 4 => .int
  | _ => .array .int
abbrev wsX30 : List Cond := u_ws RX3 TX3 6
theorem nmX3 : ∀ a, a < 6 → ∀ b, b < 6 → a ≠ b → (TX3 a).2.1 ≠ (TX3 b).2.1 := by decide +kernel
theorem tyX3_ok : ∀ k, k < 6 → parseFieldDescriptor (TX3 k).2.2.1 = some (tyX3 k) := by decide +kernel
abbrev cX3_init : ByteArray := prog_4_method_1_code
def yX3_init : MethodName := ⟨RX3, "<init>", "()V"⟩
def dkwX3_init_1 : List UInt8 := [16, 32, 181, 0, 16, 42, 16, 32, 188, 10, 181, 0, 20, 177]
abbrev dktX3_init_1 : List UInt8 := dkwX3_init_1 ++ []
def dkwX3_init_0 : List UInt8 := [42, 183, 0, 1, 42, 17, 4, 0, 188, 10, 181, 0, 7, 42, 17, 64, 0, 188, 10, 181, 0, 13, 42]
abbrev dktX3_init_0 : List UInt8 := dkwX3_init_0 ++ dktX3_init_1
theorem dksX3_init_0 : cX3_init.data.toList.drop 0 = dktX3_init_0 := by decide +kernel
theorem dksX3_init_1 : cX3_init.data.toList.drop 23 = dktX3_init_1 := dk_seg dksX3_init_0 23 rfl rfl
theorem dX3_init_0 : decode cX3_init 0 = .ok (.aload_n 0, 1) := dk_42 (dk_at dksX3_init_0 0 rfl rfl)
theorem dX3_init_1 : decode cX3_init 1 = .ok (.invokespecial 1, 3) := dk_183 0 1 (dk_at dksX3_init_0 1 rfl rfl)
theorem dX3_init_4 : decode cX3_init 4 = .ok (.aload_n 0, 1) := dk_42 (dk_at dksX3_init_0 4 rfl rfl)
theorem dX3_init_5 : decode cX3_init 5 = .ok (.sipush 1024, 3) := dk_17 4 0 (dk_at dksX3_init_0 5 rfl rfl)
theorem dX3_init_8 : decode cX3_init 8 = .ok (.newarray .int, 2) := dk_188_10 (dk_at dksX3_init_0 8 rfl rfl)
theorem dX3_init_10 : decode cX3_init 10 = .ok (.putfield 7, 3) := dk_181 0 7 (dk_at dksX3_init_0 10 rfl rfl)
theorem dX3_init_13 : decode cX3_init 13 = .ok (.aload_n 0, 1) := dk_42 (dk_at dksX3_init_0 13 rfl rfl)
theorem dX3_init_14 : decode cX3_init 14 = .ok (.sipush 16384, 3) := dk_17 64 0 (dk_at dksX3_init_0 14 rfl rfl)
theorem dX3_init_17 : decode cX3_init 17 = .ok (.newarray .int, 2) := dk_188_10 (dk_at dksX3_init_0 17 rfl rfl)
theorem dX3_init_19 : decode cX3_init 19 = .ok (.putfield 13, 3) := dk_181 0 13 (dk_at dksX3_init_0 19 rfl rfl)
theorem dX3_init_22 : decode cX3_init 22 = .ok (.aload_n 0, 1) := dk_42 (dk_at dksX3_init_0 22 rfl rfl)
theorem dX3_init_23 : decode cX3_init 23 = .ok (.bipush 32, 2) := dk_16 32 (dk_at dksX3_init_1 0 rfl rfl)
theorem dX3_init_25 : decode cX3_init 25 = .ok (.putfield 16, 3) := dk_181 0 16 (dk_at dksX3_init_1 2 rfl rfl)
theorem dX3_init_28 : decode cX3_init 28 = .ok (.aload_n 0, 1) := dk_42 (dk_at dksX3_init_1 5 rfl rfl)
theorem dX3_init_29 : decode cX3_init 29 = .ok (.bipush 32, 2) := dk_16 32 (dk_at dksX3_init_1 6 rfl rfl)
theorem dX3_init_31 : decode cX3_init 31 = .ok (.newarray .int, 2) := dk_188_10 (dk_at dksX3_init_1 8 rfl rfl)
theorem dX3_init_33 : decode cX3_init 33 = .ok (.putfield 20, 3) := dk_181 0 20 (dk_at dksX3_init_1 10 rfl rfl)
theorem dX3_init_36 : decode cX3_init 36 = .ok (.return_, 1) := dk_177 (dk_at dksX3_init_1 13 rfl rfl)
abbrev cX3_put : ByteArray := prog_4_method_8_code
def yX3_put : MethodName := ⟨RX3, "put", "(IIII)Z"⟩
def dkwX3_put_3 : List UInt8 := [181, 0, 53, 4, 172]
abbrev dktX3_put_3 : List UInt8 := dkwX3_put_3 ++ []
def dkwX3_put_2 : List UInt8 := [182, 0, 56, 42, 42, 180, 0, 53, 16, 12, 96, 21, 4, 182, 0, 56, 42, 89, 180, 0, 53, 16, 16, 96]
abbrev dktX3_put_2 : List UInt8 := dkwX3_put_2 ++ dktX3_put_3
def dkwX3_put_1 : List UInt8 := [182, 0, 56, 42, 42, 180, 0, 53, 7, 96, 28, 182, 0, 56, 42, 42, 180, 0, 53, 16, 8, 96, 29]
abbrev dktX3_put_1 : List UInt8 := dkwX3_put_1 ++ dktX3_put_2
def dkwX3_put_0 : List UInt8 := [42, 180, 0, 53, 42, 180, 0, 7, 190, 16, 16, 100, 164, 0, 5, 3, 172, 42, 42, 180, 0, 53, 27]
abbrev dktX3_put_0 : List UInt8 := dkwX3_put_0 ++ dktX3_put_1
theorem dksX3_put_0 : cX3_put.data.toList.drop 0 = dktX3_put_0 := by decide +kernel
theorem dksX3_put_1 : cX3_put.data.toList.drop 23 = dktX3_put_1 := dk_seg dksX3_put_0 23 rfl rfl
theorem dksX3_put_2 : cX3_put.data.toList.drop 46 = dktX3_put_2 := dk_seg dksX3_put_1 23 rfl rfl
theorem dksX3_put_3 : cX3_put.data.toList.drop 70 = dktX3_put_3 := dk_seg dksX3_put_2 24 rfl rfl
theorem dX3_put_0 : decode cX3_put 0 = .ok (.aload_n 0, 1) := dk_42 (dk_at dksX3_put_0 0 rfl rfl)
theorem dX3_put_1 : decode cX3_put 1 = .ok (.getfield 53, 3) := dk_180 0 53 (dk_at dksX3_put_0 1 rfl rfl)
theorem dX3_put_4 : decode cX3_put 4 = .ok (.aload_n 0, 1) := dk_42 (dk_at dksX3_put_0 4 rfl rfl)
theorem dX3_put_5 : decode cX3_put 5 = .ok (.getfield 7, 3) := dk_180 0 7 (dk_at dksX3_put_0 5 rfl rfl)
theorem dX3_put_8 : decode cX3_put 8 = .ok (.arraylength, 1) := dk_190 (dk_at dksX3_put_0 8 rfl rfl)
theorem dX3_put_9 : decode cX3_put 9 = .ok (.bipush 16, 2) := dk_16 16 (dk_at dksX3_put_0 9 rfl rfl)
theorem dX3_put_11 : decode cX3_put 11 = .ok (.isub, 1) := dk_100 (dk_at dksX3_put_0 11 rfl rfl)
theorem dX3_put_12 : decode cX3_put 12 = .ok (.if_icmp .le 5, 3) := dk_164 0 5 (dk_at dksX3_put_0 12 rfl rfl)
theorem dX3_put_15 : decode cX3_put 15 = .ok (.iconst 0, 1) := dk_3 (dk_at dksX3_put_0 15 rfl rfl)
theorem dX3_put_16 : decode cX3_put 16 = .ok (.ireturn, 1) := dk_172 (dk_at dksX3_put_0 16 rfl rfl)
theorem dX3_put_17 : decode cX3_put 17 = .ok (.aload_n 0, 1) := dk_42 (dk_at dksX3_put_0 17 rfl rfl)
theorem dX3_put_18 : decode cX3_put 18 = .ok (.aload_n 0, 1) := dk_42 (dk_at dksX3_put_0 18 rfl rfl)
theorem dX3_put_19 : decode cX3_put 19 = .ok (.getfield 53, 3) := dk_180 0 53 (dk_at dksX3_put_0 19 rfl rfl)
theorem dX3_put_22 : decode cX3_put 22 = .ok (.iload_n 1, 1) := dk_27 (dk_at dksX3_put_0 22 rfl rfl)
theorem dX3_put_23 : decode cX3_put 23 = .ok (.invokevirtual 56, 3) := dk_182 0 56 (dk_at dksX3_put_1 0 rfl rfl)
theorem dX3_put_26 : decode cX3_put 26 = .ok (.aload_n 0, 1) := dk_42 (dk_at dksX3_put_1 3 rfl rfl)
theorem dX3_put_27 : decode cX3_put 27 = .ok (.aload_n 0, 1) := dk_42 (dk_at dksX3_put_1 4 rfl rfl)
theorem dX3_put_28 : decode cX3_put 28 = .ok (.getfield 53, 3) := dk_180 0 53 (dk_at dksX3_put_1 5 rfl rfl)
theorem dX3_put_31 : decode cX3_put 31 = .ok (.iconst 4, 1) := dk_7 (dk_at dksX3_put_1 8 rfl rfl)
theorem dX3_put_32 : decode cX3_put 32 = .ok (.iadd, 1) := dk_96 (dk_at dksX3_put_1 9 rfl rfl)
theorem dX3_put_33 : decode cX3_put 33 = .ok (.iload_n 2, 1) := dk_28 (dk_at dksX3_put_1 10 rfl rfl)
theorem dX3_put_34 : decode cX3_put 34 = .ok (.invokevirtual 56, 3) := dk_182 0 56 (dk_at dksX3_put_1 11 rfl rfl)
theorem dX3_put_37 : decode cX3_put 37 = .ok (.aload_n 0, 1) := dk_42 (dk_at dksX3_put_1 14 rfl rfl)
theorem dX3_put_38 : decode cX3_put 38 = .ok (.aload_n 0, 1) := dk_42 (dk_at dksX3_put_1 15 rfl rfl)
theorem dX3_put_39 : decode cX3_put 39 = .ok (.getfield 53, 3) := dk_180 0 53 (dk_at dksX3_put_1 16 rfl rfl)
theorem dX3_put_42 : decode cX3_put 42 = .ok (.bipush 8, 2) := dk_16 8 (dk_at dksX3_put_1 19 rfl rfl)
theorem dX3_put_44 : decode cX3_put 44 = .ok (.iadd, 1) := dk_96 (dk_at dksX3_put_1 21 rfl rfl)
theorem dX3_put_45 : decode cX3_put 45 = .ok (.iload_n 3, 1) := dk_29 (dk_at dksX3_put_1 22 rfl rfl)
theorem dX3_put_46 : decode cX3_put 46 = .ok (.invokevirtual 56, 3) := dk_182 0 56 (dk_at dksX3_put_2 0 rfl rfl)
theorem dX3_put_49 : decode cX3_put 49 = .ok (.aload_n 0, 1) := dk_42 (dk_at dksX3_put_2 3 rfl rfl)
theorem dX3_put_50 : decode cX3_put 50 = .ok (.aload_n 0, 1) := dk_42 (dk_at dksX3_put_2 4 rfl rfl)
theorem dX3_put_51 : decode cX3_put 51 = .ok (.getfield 53, 3) := dk_180 0 53 (dk_at dksX3_put_2 5 rfl rfl)
theorem dX3_put_54 : decode cX3_put 54 = .ok (.bipush 12, 2) := dk_16 12 (dk_at dksX3_put_2 8 rfl rfl)
theorem dX3_put_56 : decode cX3_put 56 = .ok (.iadd, 1) := dk_96 (dk_at dksX3_put_2 10 rfl rfl)
theorem dX3_put_57 : decode cX3_put 57 = .ok (.iload 4, 2) := dk_21 4 (dk_at dksX3_put_2 11 rfl rfl)
theorem dX3_put_59 : decode cX3_put 59 = .ok (.invokevirtual 56, 3) := dk_182 0 56 (dk_at dksX3_put_2 13 rfl rfl)
theorem dX3_put_62 : decode cX3_put 62 = .ok (.aload_n 0, 1) := dk_42 (dk_at dksX3_put_2 16 rfl rfl)
theorem dX3_put_63 : decode cX3_put 63 = .ok (.dup, 1) := dk_89 (dk_at dksX3_put_2 17 rfl rfl)
theorem dX3_put_64 : decode cX3_put 64 = .ok (.getfield 53, 3) := dk_180 0 53 (dk_at dksX3_put_2 18 rfl rfl)
theorem dX3_put_67 : decode cX3_put 67 = .ok (.bipush 16, 2) := dk_16 16 (dk_at dksX3_put_2 21 rfl rfl)
theorem dX3_put_69 : decode cX3_put 69 = .ok (.iadd, 1) := dk_96 (dk_at dksX3_put_2 23 rfl rfl)
theorem dX3_put_70 : decode cX3_put 70 = .ok (.putfield 53, 3) := dk_181 0 53 (dk_at dksX3_put_3 0 rfl rfl)
theorem dX3_put_73 : decode cX3_put 73 = .ok (.iconst 1, 1) := dk_4 (dk_at dksX3_put_3 3 rfl rfl)
theorem dX3_put_74 : decode cX3_put 74 = .ok (.ireturn, 1) := dk_172 (dk_at dksX3_put_3 4 rfl rfl)
abbrev cX3_word : ByteArray := prog_4_method_7_code
def yX3_word : MethodName := ⟨RX3, "word", "(II)V"⟩
def dkwX3_word_1 : List UInt8 := [17, 0, 255, 126, 79, 132, 3, 1, 167, 255, 227, 177]
abbrev dktX3_word_1 : List UInt8 := dkwX3_word_1 ++ []
def dkwX3_word_0 : List UInt8 := [3, 62, 29, 7, 162, 0, 30, 42, 180, 0, 7, 27, 29, 96, 28, 16, 24, 16, 8, 29, 104, 100, 122]
abbrev dktX3_word_0 : List UInt8 := dkwX3_word_0 ++ dktX3_word_1
theorem dksX3_word_0 : cX3_word.data.toList.drop 0 = dktX3_word_0 := by decide +kernel
theorem dksX3_word_1 : cX3_word.data.toList.drop 23 = dktX3_word_1 := dk_seg dksX3_word_0 23 rfl rfl
theorem dX3_word_0 : decode cX3_word 0 = .ok (.iconst 0, 1) := dk_3 (dk_at dksX3_word_0 0 rfl rfl)
theorem dX3_word_1 : decode cX3_word 1 = .ok (.istore_n 3, 1) := dk_62 (dk_at dksX3_word_0 1 rfl rfl)
theorem dX3_word_2 : decode cX3_word 2 = .ok (.iload_n 3, 1) := dk_29 (dk_at dksX3_word_0 2 rfl rfl)
theorem dX3_word_3 : decode cX3_word 3 = .ok (.iconst 4, 1) := dk_7 (dk_at dksX3_word_0 3 rfl rfl)
theorem dX3_word_4 : decode cX3_word 4 = .ok (.if_icmp .ge 30, 3) := dk_162 0 30 (dk_at dksX3_word_0 4 rfl rfl)
theorem dX3_word_7 : decode cX3_word 7 = .ok (.aload_n 0, 1) := dk_42 (dk_at dksX3_word_0 7 rfl rfl)
theorem dX3_word_8 : decode cX3_word 8 = .ok (.getfield 7, 3) := dk_180 0 7 (dk_at dksX3_word_0 8 rfl rfl)
theorem dX3_word_11 : decode cX3_word 11 = .ok (.iload_n 1, 1) := dk_27 (dk_at dksX3_word_0 11 rfl rfl)
theorem dX3_word_12 : decode cX3_word 12 = .ok (.iload_n 3, 1) := dk_29 (dk_at dksX3_word_0 12 rfl rfl)
theorem dX3_word_13 : decode cX3_word 13 = .ok (.iadd, 1) := dk_96 (dk_at dksX3_word_0 13 rfl rfl)
theorem dX3_word_14 : decode cX3_word 14 = .ok (.iload_n 2, 1) := dk_28 (dk_at dksX3_word_0 14 rfl rfl)
theorem dX3_word_15 : decode cX3_word 15 = .ok (.bipush 24, 2) := dk_16 24 (dk_at dksX3_word_0 15 rfl rfl)
theorem dX3_word_17 : decode cX3_word 17 = .ok (.bipush 8, 2) := dk_16 8 (dk_at dksX3_word_0 17 rfl rfl)
theorem dX3_word_19 : decode cX3_word 19 = .ok (.iload_n 3, 1) := dk_29 (dk_at dksX3_word_0 19 rfl rfl)
theorem dX3_word_20 : decode cX3_word 20 = .ok (.imul, 1) := dk_104 (dk_at dksX3_word_0 20 rfl rfl)
theorem dX3_word_21 : decode cX3_word 21 = .ok (.isub, 1) := dk_100 (dk_at dksX3_word_0 21 rfl rfl)
theorem dX3_word_22 : decode cX3_word 22 = .ok (.ishr, 1) := dk_122 (dk_at dksX3_word_0 22 rfl rfl)
theorem dX3_word_23 : decode cX3_word 23 = .ok (.sipush 255, 3) := dk_17 0 255 (dk_at dksX3_word_1 0 rfl rfl)
theorem dX3_word_26 : decode cX3_word 26 = .ok (.iand, 1) := dk_126 (dk_at dksX3_word_1 3 rfl rfl)
theorem dX3_word_27 : decode cX3_word 27 = .ok (.iastore, 1) := dk_79 (dk_at dksX3_word_1 4 rfl rfl)
theorem dX3_word_28 : decode cX3_word 28 = .ok (.iinc 3 1, 3) := dk_132 3 1 (dk_at dksX3_word_1 5 rfl rfl)
theorem dX3_word_31 : decode cX3_word 31 = .ok (.goto (-29), 3) := dk_167 255 227 (dk_at dksX3_word_1 8 rfl rfl)
theorem dX3_word_34 : decode cX3_word 34 = .ok (.return_, 1) := dk_177 (dk_at dksX3_word_1 11 rfl rfl)
abbrev cX3_trim : ByteArray := prog_4_method_10_code
def yX3_trim : MethodName := ⟨RX3, "trim", "(I)V"⟩
def dkwX3_trim_0 : List UInt8 := [42, 42, 27, 182, 0, 61, 181, 0, 53, 177]
abbrev dktX3_trim_0 : List UInt8 := dkwX3_trim_0 ++ []
theorem dksX3_trim_0 : cX3_trim.data.toList.drop 0 = dktX3_trim_0 := by decide +kernel
theorem dX3_trim_0 : decode cX3_trim 0 = .ok (.aload_n 0, 1) := dk_42 (dk_at dksX3_trim_0 0 rfl rfl)
theorem dX3_trim_1 : decode cX3_trim 1 = .ok (.aload_n 0, 1) := dk_42 (dk_at dksX3_trim_0 1 rfl rfl)
theorem dX3_trim_2 : decode cX3_trim 2 = .ok (.iload_n 1, 1) := dk_27 (dk_at dksX3_trim_0 2 rfl rfl)
theorem dX3_trim_3 : decode cX3_trim 3 = .ok (.invokevirtual 61, 3) := dk_182 0 61 (dk_at dksX3_trim_0 3 rfl rfl)
theorem dX3_trim_6 : decode cX3_trim 6 = .ok (.putfield 53, 3) := dk_181 0 53 (dk_at dksX3_trim_0 6 rfl rfl)
theorem dX3_trim_9 : decode cX3_trim 9 = .ok (.return_, 1) := dk_177 (dk_at dksX3_trim_0 9 rfl rfl)
abbrev cX3_from : ByteArray := prog_4_method_9_code
def yX3_from : MethodName := ⟨RX3, "from", "(I)I"⟩
def dkwX3_from_0 : List UInt8 := [27, 18, 60, 126, 42, 180, 0, 53, 4, 96, 112, 172]
abbrev dktX3_from_0 : List UInt8 := dkwX3_from_0 ++ []
theorem dksX3_from_0 : cX3_from.data.toList.drop 0 = dktX3_from_0 := by decide +kernel
theorem dX3_from_0 : decode cX3_from 0 = .ok (.iload_n 1, 1) := dk_27 (dk_at dksX3_from_0 0 rfl rfl)
theorem dX3_from_1 : decode cX3_from 1 = .ok (.ldc 60, 2) := dk_18 60 (dk_at dksX3_from_0 1 rfl rfl)
theorem dX3_from_3 : decode cX3_from 3 = .ok (.iand, 1) := dk_126 (dk_at dksX3_from_0 3 rfl rfl)
theorem dX3_from_4 : decode cX3_from 4 = .ok (.aload_n 0, 1) := dk_42 (dk_at dksX3_from_0 4 rfl rfl)
theorem dX3_from_5 : decode cX3_from 5 = .ok (.getfield 53, 3) := dk_180 0 53 (dk_at dksX3_from_0 5 rfl rfl)
theorem dX3_from_8 : decode cX3_from 8 = .ok (.iconst 1, 1) := dk_4 (dk_at dksX3_from_0 8 rfl rfl)
theorem dX3_from_9 : decode cX3_from 9 = .ok (.iadd, 1) := dk_96 (dk_at dksX3_from_0 9 rfl rfl)
theorem dX3_from_10 : decode cX3_from 10 = .ok (.irem, 1) := dk_112 (dk_at dksX3_from_0 10 rfl rfl)
theorem dX3_from_11 : decode cX3_from 11 = .ok (.ireturn, 1) := dk_172 (dk_at dksX3_from_0 11 rfl rfl)
abbrev cX3_begin : ByteArray := prog_4_method_11_code
def yX3_begin : MethodName := ⟨RX3, "begin", "(I)V"⟩
def dkwX3_begin_0 : List UInt8 := [42, 178, 0, 64, 27, 18, 60, 126, 7, 112, 46, 181, 0, 16, 42, 3, 181, 0, 27, 177]
abbrev dktX3_begin_0 : List UInt8 := dkwX3_begin_0 ++ []
theorem dksX3_begin_0 : cX3_begin.data.toList.drop 0 = dktX3_begin_0 := by decide +kernel
theorem dX3_begin_0 : decode cX3_begin 0 = .ok (.aload_n 0, 1) := dk_42 (dk_at dksX3_begin_0 0 rfl rfl)
theorem dX3_begin_1 : decode cX3_begin 1 = .ok (.getstatic 64, 3) := dk_178 0 64 (dk_at dksX3_begin_0 1 rfl rfl)
theorem dX3_begin_4 : decode cX3_begin 4 = .ok (.iload_n 1, 1) := dk_27 (dk_at dksX3_begin_0 4 rfl rfl)
theorem dX3_begin_5 : decode cX3_begin 5 = .ok (.ldc 60, 2) := dk_18 60 (dk_at dksX3_begin_0 5 rfl rfl)
theorem dX3_begin_7 : decode cX3_begin 7 = .ok (.iand, 1) := dk_126 (dk_at dksX3_begin_0 7 rfl rfl)
theorem dX3_begin_8 : decode cX3_begin 8 = .ok (.iconst 4, 1) := dk_7 (dk_at dksX3_begin_0 8 rfl rfl)
theorem dX3_begin_9 : decode cX3_begin 9 = .ok (.irem, 1) := dk_112 (dk_at dksX3_begin_0 9 rfl rfl)
theorem dX3_begin_10 : decode cX3_begin 10 = .ok (.iaload, 1) := dk_46 (dk_at dksX3_begin_0 10 rfl rfl)
theorem dX3_begin_11 : decode cX3_begin 11 = .ok (.putfield 16, 3) := dk_181 0 16 (dk_at dksX3_begin_0 11 rfl rfl)
theorem dX3_begin_14 : decode cX3_begin 14 = .ok (.aload_n 0, 1) := dk_42 (dk_at dksX3_begin_0 14 rfl rfl)
theorem dX3_begin_15 : decode cX3_begin 15 = .ok (.iconst 0, 1) := dk_3 (dk_at dksX3_begin_0 15 rfl rfl)
theorem dX3_begin_16 : decode cX3_begin 16 = .ok (.putfield 27, 3) := dk_181 0 27 (dk_at dksX3_begin_0 16 rfl rfl)
theorem dX3_begin_19 : decode cX3_begin 19 = .ok (.return_, 1) := dk_177 (dk_at dksX3_begin_0 19 rfl rfl)
abbrev cX3_feed : ByteArray := prog_4_method_12_code
def yX3_feed : MethodName := ⟨RX3, "feed", "(II)Z"⟩
def dkwX3_feed_3 : List UInt8 := [167, 255, 225, 42, 89, 180, 0, 27, 21, 4, 96, 181, 0, 27, 4, 172]
abbrev dktX3_feed_3 : List UInt8 := dkwX3_feed_3 ++ []
def dkwX3_feed_2 : List UInt8 := [42, 180, 0, 13, 42, 180, 0, 27, 21, 5, 96, 42, 180, 0, 7, 29, 21, 5, 96, 46, 79, 132, 5, 1]
abbrev dktX3_feed_2 : List UInt8 := dkwX3_feed_2 ++ dktX3_feed_3
def dkwX3_feed_1 : List UInt8 := [180, 0, 27, 21, 4, 96, 17, 64, 0, 164, 0, 5, 3, 172, 3, 54, 5, 21, 5, 21, 4, 162, 0, 30]
abbrev dktX3_feed_1 : List UInt8 := dkwX3_feed_1 ++ dktX3_feed_2
def dkwX3_feed_0 : List UInt8 := [42, 27, 182, 0, 61, 62, 28, 18, 60, 126, 42, 180, 0, 53, 29, 100, 4, 96, 112, 54, 4, 42]
abbrev dktX3_feed_0 : List UInt8 := dkwX3_feed_0 ++ dktX3_feed_1
theorem dksX3_feed_0 : cX3_feed.data.toList.drop 0 = dktX3_feed_0 := by decide +kernel
theorem dksX3_feed_1 : cX3_feed.data.toList.drop 22 = dktX3_feed_1 := dk_seg dksX3_feed_0 22 rfl rfl
theorem dksX3_feed_2 : cX3_feed.data.toList.drop 46 = dktX3_feed_2 := dk_seg dksX3_feed_1 24 rfl rfl
theorem dksX3_feed_3 : cX3_feed.data.toList.drop 70 = dktX3_feed_3 := dk_seg dksX3_feed_2 24 rfl rfl
theorem dX3_feed_0 : decode cX3_feed 0 = .ok (.aload_n 0, 1) := dk_42 (dk_at dksX3_feed_0 0 rfl rfl)
theorem dX3_feed_1 : decode cX3_feed 1 = .ok (.iload_n 1, 1) := dk_27 (dk_at dksX3_feed_0 1 rfl rfl)
theorem dX3_feed_2 : decode cX3_feed 2 = .ok (.invokevirtual 61, 3) := dk_182 0 61 (dk_at dksX3_feed_0 2 rfl rfl)
theorem dX3_feed_5 : decode cX3_feed 5 = .ok (.istore_n 3, 1) := dk_62 (dk_at dksX3_feed_0 5 rfl rfl)
theorem dX3_feed_6 : decode cX3_feed 6 = .ok (.iload_n 2, 1) := dk_28 (dk_at dksX3_feed_0 6 rfl rfl)
theorem dX3_feed_7 : decode cX3_feed 7 = .ok (.ldc 60, 2) := dk_18 60 (dk_at dksX3_feed_0 7 rfl rfl)
theorem dX3_feed_9 : decode cX3_feed 9 = .ok (.iand, 1) := dk_126 (dk_at dksX3_feed_0 9 rfl rfl)
theorem dX3_feed_10 : decode cX3_feed 10 = .ok (.aload_n 0, 1) := dk_42 (dk_at dksX3_feed_0 10 rfl rfl)
theorem dX3_feed_11 : decode cX3_feed 11 = .ok (.getfield 53, 3) := dk_180 0 53 (dk_at dksX3_feed_0 11 rfl rfl)
theorem dX3_feed_14 : decode cX3_feed 14 = .ok (.iload_n 3, 1) := dk_29 (dk_at dksX3_feed_0 14 rfl rfl)
theorem dX3_feed_15 : decode cX3_feed 15 = .ok (.isub, 1) := dk_100 (dk_at dksX3_feed_0 15 rfl rfl)
theorem dX3_feed_16 : decode cX3_feed 16 = .ok (.iconst 1, 1) := dk_4 (dk_at dksX3_feed_0 16 rfl rfl)
theorem dX3_feed_17 : decode cX3_feed 17 = .ok (.iadd, 1) := dk_96 (dk_at dksX3_feed_0 17 rfl rfl)
theorem dX3_feed_18 : decode cX3_feed 18 = .ok (.irem, 1) := dk_112 (dk_at dksX3_feed_0 18 rfl rfl)
theorem dX3_feed_19 : decode cX3_feed 19 = .ok (.istore 4, 2) := dk_54 4 (dk_at dksX3_feed_0 19 rfl rfl)
theorem dX3_feed_21 : decode cX3_feed 21 = .ok (.aload_n 0, 1) := dk_42 (dk_at dksX3_feed_0 21 rfl rfl)
theorem dX3_feed_22 : decode cX3_feed 22 = .ok (.getfield 27, 3) := dk_180 0 27 (dk_at dksX3_feed_1 0 rfl rfl)
theorem dX3_feed_25 : decode cX3_feed 25 = .ok (.iload 4, 2) := dk_21 4 (dk_at dksX3_feed_1 3 rfl rfl)
theorem dX3_feed_27 : decode cX3_feed 27 = .ok (.iadd, 1) := dk_96 (dk_at dksX3_feed_1 5 rfl rfl)
theorem dX3_feed_28 : decode cX3_feed 28 = .ok (.sipush 16384, 3) := dk_17 64 0 (dk_at dksX3_feed_1 6 rfl rfl)
theorem dX3_feed_31 : decode cX3_feed 31 = .ok (.if_icmp .le 5, 3) := dk_164 0 5 (dk_at dksX3_feed_1 9 rfl rfl)
theorem dX3_feed_34 : decode cX3_feed 34 = .ok (.iconst 0, 1) := dk_3 (dk_at dksX3_feed_1 12 rfl rfl)
theorem dX3_feed_35 : decode cX3_feed 35 = .ok (.ireturn, 1) := dk_172 (dk_at dksX3_feed_1 13 rfl rfl)
theorem dX3_feed_36 : decode cX3_feed 36 = .ok (.iconst 0, 1) := dk_3 (dk_at dksX3_feed_1 14 rfl rfl)
theorem dX3_feed_37 : decode cX3_feed 37 = .ok (.istore 5, 2) := dk_54 5 (dk_at dksX3_feed_1 15 rfl rfl)
theorem dX3_feed_39 : decode cX3_feed 39 = .ok (.iload 5, 2) := dk_21 5 (dk_at dksX3_feed_1 17 rfl rfl)
theorem dX3_feed_41 : decode cX3_feed 41 = .ok (.iload 4, 2) := dk_21 4 (dk_at dksX3_feed_1 19 rfl rfl)
theorem dX3_feed_43 : decode cX3_feed 43 = .ok (.if_icmp .ge 30, 3) := dk_162 0 30 (dk_at dksX3_feed_1 21 rfl rfl)
theorem dX3_feed_46 : decode cX3_feed 46 = .ok (.aload_n 0, 1) := dk_42 (dk_at dksX3_feed_2 0 rfl rfl)
theorem dX3_feed_47 : decode cX3_feed 47 = .ok (.getfield 13, 3) := dk_180 0 13 (dk_at dksX3_feed_2 1 rfl rfl)
theorem dX3_feed_50 : decode cX3_feed 50 = .ok (.aload_n 0, 1) := dk_42 (dk_at dksX3_feed_2 4 rfl rfl)
theorem dX3_feed_51 : decode cX3_feed 51 = .ok (.getfield 27, 3) := dk_180 0 27 (dk_at dksX3_feed_2 5 rfl rfl)
theorem dX3_feed_54 : decode cX3_feed 54 = .ok (.iload 5, 2) := dk_21 5 (dk_at dksX3_feed_2 8 rfl rfl)
theorem dX3_feed_56 : decode cX3_feed 56 = .ok (.iadd, 1) := dk_96 (dk_at dksX3_feed_2 10 rfl rfl)
theorem dX3_feed_57 : decode cX3_feed 57 = .ok (.aload_n 0, 1) := dk_42 (dk_at dksX3_feed_2 11 rfl rfl)
theorem dX3_feed_58 : decode cX3_feed 58 = .ok (.getfield 7, 3) := dk_180 0 7 (dk_at dksX3_feed_2 12 rfl rfl)
theorem dX3_feed_61 : decode cX3_feed 61 = .ok (.iload_n 3, 1) := dk_29 (dk_at dksX3_feed_2 15 rfl rfl)
theorem dX3_feed_62 : decode cX3_feed 62 = .ok (.iload 5, 2) := dk_21 5 (dk_at dksX3_feed_2 16 rfl rfl)
theorem dX3_feed_64 : decode cX3_feed 64 = .ok (.iadd, 1) := dk_96 (dk_at dksX3_feed_2 18 rfl rfl)
theorem dX3_feed_65 : decode cX3_feed 65 = .ok (.iaload, 1) := dk_46 (dk_at dksX3_feed_2 19 rfl rfl)
theorem dX3_feed_66 : decode cX3_feed 66 = .ok (.iastore, 1) := dk_79 (dk_at dksX3_feed_2 20 rfl rfl)
theorem dX3_feed_67 : decode cX3_feed 67 = .ok (.iinc 5 1, 3) := dk_132 5 1 (dk_at dksX3_feed_2 21 rfl rfl)
theorem dX3_feed_70 : decode cX3_feed 70 = .ok (.goto (-31), 3) := dk_167 255 225 (dk_at dksX3_feed_3 0 rfl rfl)
theorem dX3_feed_73 : decode cX3_feed 73 = .ok (.aload_n 0, 1) := dk_42 (dk_at dksX3_feed_3 3 rfl rfl)
theorem dX3_feed_74 : decode cX3_feed 74 = .ok (.dup, 1) := dk_89 (dk_at dksX3_feed_3 4 rfl rfl)
theorem dX3_feed_75 : decode cX3_feed 75 = .ok (.getfield 27, 3) := dk_180 0 27 (dk_at dksX3_feed_3 5 rfl rfl)
theorem dX3_feed_78 : decode cX3_feed 78 = .ok (.iload 4, 2) := dk_21 4 (dk_at dksX3_feed_3 8 rfl rfl)
theorem dX3_feed_80 : decode cX3_feed 80 = .ok (.iadd, 1) := dk_96 (dk_at dksX3_feed_3 10 rfl rfl)
theorem dX3_feed_81 : decode cX3_feed 81 = .ok (.putfield 27, 3) := dk_181 0 27 (dk_at dksX3_feed_3 11 rfl rfl)
theorem dX3_feed_84 : decode cX3_feed 84 = .ok (.iconst 1, 1) := dk_4 (dk_at dksX3_feed_3 14 rfl rfl)
theorem dX3_feed_85 : decode cX3_feed 85 = .ok (.ireturn, 1) := dk_172 (dk_at dksX3_feed_3 15 rfl rfl)
abbrev cX3_one : ByteArray := prog_4_method_13_code
def yX3_one : MethodName := ⟨RX3, "one", "(I)Z"⟩
def dkwX3_one_1 : List UInt8 := [126, 79, 42, 89, 180, 0, 27, 4, 96, 181, 0, 27, 4, 172]
abbrev dktX3_one_1 : List UInt8 := dkwX3_one_1 ++ []
def dkwX3_one_0 : List UInt8 := [42, 180, 0, 27, 17, 64, 0, 160, 0, 5, 3, 172, 42, 180, 0, 13, 42, 180, 0, 27, 27, 17, 0, 255]
abbrev dktX3_one_0 : List UInt8 := dkwX3_one_0 ++ dktX3_one_1
theorem dksX3_one_0 : cX3_one.data.toList.drop 0 = dktX3_one_0 := by decide +kernel
theorem dksX3_one_1 : cX3_one.data.toList.drop 24 = dktX3_one_1 := dk_seg dksX3_one_0 24 rfl rfl
theorem dX3_one_0 : decode cX3_one 0 = .ok (.aload_n 0, 1) := dk_42 (dk_at dksX3_one_0 0 rfl rfl)
theorem dX3_one_1 : decode cX3_one 1 = .ok (.getfield 27, 3) := dk_180 0 27 (dk_at dksX3_one_0 1 rfl rfl)
theorem dX3_one_4 : decode cX3_one 4 = .ok (.sipush 16384, 3) := dk_17 64 0 (dk_at dksX3_one_0 4 rfl rfl)
theorem dX3_one_7 : decode cX3_one 7 = .ok (.if_icmp .ne 5, 3) := dk_160 0 5 (dk_at dksX3_one_0 7 rfl rfl)
theorem dX3_one_10 : decode cX3_one 10 = .ok (.iconst 0, 1) := dk_3 (dk_at dksX3_one_0 10 rfl rfl)
theorem dX3_one_11 : decode cX3_one 11 = .ok (.ireturn, 1) := dk_172 (dk_at dksX3_one_0 11 rfl rfl)
theorem dX3_one_12 : decode cX3_one 12 = .ok (.aload_n 0, 1) := dk_42 (dk_at dksX3_one_0 12 rfl rfl)
theorem dX3_one_13 : decode cX3_one 13 = .ok (.getfield 13, 3) := dk_180 0 13 (dk_at dksX3_one_0 13 rfl rfl)
theorem dX3_one_16 : decode cX3_one 16 = .ok (.aload_n 0, 1) := dk_42 (dk_at dksX3_one_0 16 rfl rfl)
theorem dX3_one_17 : decode cX3_one 17 = .ok (.getfield 27, 3) := dk_180 0 27 (dk_at dksX3_one_0 17 rfl rfl)
theorem dX3_one_20 : decode cX3_one 20 = .ok (.iload_n 1, 1) := dk_27 (dk_at dksX3_one_0 20 rfl rfl)
theorem dX3_one_21 : decode cX3_one 21 = .ok (.sipush 255, 3) := dk_17 0 255 (dk_at dksX3_one_0 21 rfl rfl)
theorem dX3_one_24 : decode cX3_one 24 = .ok (.iand, 1) := dk_126 (dk_at dksX3_one_1 0 rfl rfl)
theorem dX3_one_25 : decode cX3_one 25 = .ok (.iastore, 1) := dk_79 (dk_at dksX3_one_1 1 rfl rfl)
theorem dX3_one_26 : decode cX3_one 26 = .ok (.aload_n 0, 1) := dk_42 (dk_at dksX3_one_1 2 rfl rfl)
theorem dX3_one_27 : decode cX3_one 27 = .ok (.dup, 1) := dk_89 (dk_at dksX3_one_1 3 rfl rfl)
theorem dX3_one_28 : decode cX3_one 28 = .ok (.getfield 27, 3) := dk_180 0 27 (dk_at dksX3_one_1 4 rfl rfl)
theorem dX3_one_31 : decode cX3_one 31 = .ok (.iconst 1, 1) := dk_4 (dk_at dksX3_one_1 7 rfl rfl)
theorem dX3_one_32 : decode cX3_one 32 = .ok (.iadd, 1) := dk_96 (dk_at dksX3_one_1 8 rfl rfl)
theorem dX3_one_33 : decode cX3_one 33 = .ok (.putfield 27, 3) := dk_181 0 27 (dk_at dksX3_one_1 9 rfl rfl)
theorem dX3_one_36 : decode cX3_one 36 = .ok (.iconst 1, 1) := dk_4 (dk_at dksX3_one_1 12 rfl rfl)
theorem dX3_one_37 : decode cX3_one 37 = .ok (.ireturn, 1) := dk_172 (dk_at dksX3_one_1 13 rfl rfl)
abbrev cX3_close : ByteArray := prog_4_method_14_code
def yX3_close : MethodName := ⟨RX3, "close", "()I"⟩
def dkwX3_close_2 : List UInt8 := [42, 180, 0, 16, 172]
abbrev dktX3_close_2 : List UInt8 := dkwX3_close_2 ++ []
def dkwX3_close_1 : List UInt8 := [46, 16, 8, 28, 7, 112, 104, 124, 17, 0, 255, 126, 79, 132, 2, 1, 167, 255, 223, 42, 3, 181, 0, 27]
abbrev dktX3_close_1 : List UInt8 := dkwX3_close_1 ++ dktX3_close_2
def dkwX3_close_0 : List UInt8 := [42, 182, 0, 67, 76, 3, 61, 28, 42, 180, 0, 16, 162, 0, 31, 42, 180, 0, 20, 28, 43, 28, 7, 108]
abbrev dktX3_close_0 : List UInt8 := dkwX3_close_0 ++ dktX3_close_1
theorem dksX3_close_0 : cX3_close.data.toList.drop 0 = dktX3_close_0 := by decide +kernel
theorem dksX3_close_1 : cX3_close.data.toList.drop 24 = dktX3_close_1 := dk_seg dksX3_close_0 24 rfl rfl
theorem dksX3_close_2 : cX3_close.data.toList.drop 48 = dktX3_close_2 := dk_seg dksX3_close_1 24 rfl rfl
theorem dX3_close_0 : decode cX3_close 0 = .ok (.aload_n 0, 1) := dk_42 (dk_at dksX3_close_0 0 rfl rfl)
theorem dX3_close_1 : decode cX3_close 1 = .ok (.invokevirtual 67, 3) := dk_182 0 67 (dk_at dksX3_close_0 1 rfl rfl)
theorem dX3_close_4 : decode cX3_close 4 = .ok (.astore_n 1, 1) := dk_76 (dk_at dksX3_close_0 4 rfl rfl)
theorem dX3_close_5 : decode cX3_close 5 = .ok (.iconst 0, 1) := dk_3 (dk_at dksX3_close_0 5 rfl rfl)
theorem dX3_close_6 : decode cX3_close 6 = .ok (.istore_n 2, 1) := dk_61 (dk_at dksX3_close_0 6 rfl rfl)
theorem dX3_close_7 : decode cX3_close 7 = .ok (.iload_n 2, 1) := dk_28 (dk_at dksX3_close_0 7 rfl rfl)
theorem dX3_close_8 : decode cX3_close 8 = .ok (.aload_n 0, 1) := dk_42 (dk_at dksX3_close_0 8 rfl rfl)
theorem dX3_close_9 : decode cX3_close 9 = .ok (.getfield 16, 3) := dk_180 0 16 (dk_at dksX3_close_0 9 rfl rfl)
theorem dX3_close_12 : decode cX3_close 12 = .ok (.if_icmp .ge 31, 3) := dk_162 0 31 (dk_at dksX3_close_0 12 rfl rfl)
theorem dX3_close_15 : decode cX3_close 15 = .ok (.aload_n 0, 1) := dk_42 (dk_at dksX3_close_0 15 rfl rfl)
theorem dX3_close_16 : decode cX3_close 16 = .ok (.getfield 20, 3) := dk_180 0 20 (dk_at dksX3_close_0 16 rfl rfl)
theorem dX3_close_19 : decode cX3_close 19 = .ok (.iload_n 2, 1) := dk_28 (dk_at dksX3_close_0 19 rfl rfl)
theorem dX3_close_20 : decode cX3_close 20 = .ok (.aload_n 1, 1) := dk_43 (dk_at dksX3_close_0 20 rfl rfl)
theorem dX3_close_21 : decode cX3_close 21 = .ok (.iload_n 2, 1) := dk_28 (dk_at dksX3_close_0 21 rfl rfl)
theorem dX3_close_22 : decode cX3_close 22 = .ok (.iconst 4, 1) := dk_7 (dk_at dksX3_close_0 22 rfl rfl)
theorem dX3_close_23 : decode cX3_close 23 = .ok (.idiv, 1) := dk_108 (dk_at dksX3_close_0 23 rfl rfl)
theorem dX3_close_24 : decode cX3_close 24 = .ok (.iaload, 1) := dk_46 (dk_at dksX3_close_1 0 rfl rfl)
theorem dX3_close_25 : decode cX3_close 25 = .ok (.bipush 8, 2) := dk_16 8 (dk_at dksX3_close_1 1 rfl rfl)
theorem dX3_close_27 : decode cX3_close 27 = .ok (.iload_n 2, 1) := dk_28 (dk_at dksX3_close_1 3 rfl rfl)
theorem dX3_close_28 : decode cX3_close 28 = .ok (.iconst 4, 1) := dk_7 (dk_at dksX3_close_1 4 rfl rfl)
theorem dX3_close_29 : decode cX3_close 29 = .ok (.irem, 1) := dk_112 (dk_at dksX3_close_1 5 rfl rfl)
theorem dX3_close_30 : decode cX3_close 30 = .ok (.imul, 1) := dk_104 (dk_at dksX3_close_1 6 rfl rfl)
theorem dX3_close_31 : decode cX3_close 31 = .ok (.iushr, 1) := dk_124 (dk_at dksX3_close_1 7 rfl rfl)
theorem dX3_close_32 : decode cX3_close 32 = .ok (.sipush 255, 3) := dk_17 0 255 (dk_at dksX3_close_1 8 rfl rfl)
theorem dX3_close_35 : decode cX3_close 35 = .ok (.iand, 1) := dk_126 (dk_at dksX3_close_1 11 rfl rfl)
theorem dX3_close_36 : decode cX3_close 36 = .ok (.iastore, 1) := dk_79 (dk_at dksX3_close_1 12 rfl rfl)
theorem dX3_close_37 : decode cX3_close 37 = .ok (.iinc 2 1, 3) := dk_132 2 1 (dk_at dksX3_close_1 13 rfl rfl)
theorem dX3_close_40 : decode cX3_close 40 = .ok (.goto (-33), 3) := dk_167 255 223 (dk_at dksX3_close_1 16 rfl rfl)
theorem dX3_close_43 : decode cX3_close 43 = .ok (.aload_n 0, 1) := dk_42 (dk_at dksX3_close_1 19 rfl rfl)
theorem dX3_close_44 : decode cX3_close 44 = .ok (.iconst 0, 1) := dk_3 (dk_at dksX3_close_1 20 rfl rfl)
theorem dX3_close_45 : decode cX3_close 45 = .ok (.putfield 27, 3) := dk_181 0 27 (dk_at dksX3_close_1 21 rfl rfl)
theorem dX3_close_48 : decode cX3_close 48 = .ok (.aload_n 0, 1) := dk_42 (dk_at dksX3_close_2 0 rfl rfl)
theorem dX3_close_49 : decode cX3_close 49 = .ok (.getfield 16, 3) := dk_180 0 16 (dk_at dksX3_close_2 1 rfl rfl)
theorem dX3_close_52 : decode cX3_close 52 = .ok (.ireturn, 1) := dk_172 (dk_at dksX3_close_2 4 rfl rfl)
abbrev cX3_digest : ByteArray := prog_4_method_6_code
def yX3_digest : MethodName := ⟨RX3, "digest", "()[I"⟩
def dkwX3_digest_3 : List UInt8 := [28, 42, 180, 0, 27, 4, 182, 0, 49, 43, 176]
abbrev dktX3_digest_3 : List UInt8 := dkwX3_digest_3 ++ []
def dkwX3_digest_2 : List UInt8 := [16, 64, 164, 0, 20, 42, 43, 28, 28, 16, 64, 96, 3, 182, 0, 49, 132, 2, 64, 167, 255, 231, 42, 43]
abbrev dktX3_digest_2 : List UInt8 := dkwX3_digest_2 ++ dktX3_digest_3
def dkwX3_digest_1 : List UInt8 := [167, 255, 239, 43, 3, 92, 46, 18, 48, 42, 180, 0, 16, 130, 130, 79, 3, 61, 42, 180, 0, 27, 28, 100]
abbrev dktX3_digest_1 : List UInt8 := dkwX3_digest_1 ++ dktX3_digest_2
def dkwX3_digest_0 : List UInt8 := [16, 8, 188, 10, 76, 3, 61, 28, 16, 8, 162, 0, 17, 43, 28, 178, 0, 34, 28, 46, 79, 132, 2, 1]
abbrev dktX3_digest_0 : List UInt8 := dkwX3_digest_0 ++ dktX3_digest_1
theorem dksX3_digest_0 : cX3_digest.data.toList.drop 0 = dktX3_digest_0 := by decide +kernel
theorem dksX3_digest_1 : cX3_digest.data.toList.drop 24 = dktX3_digest_1 := dk_seg dksX3_digest_0 24 rfl rfl
theorem dksX3_digest_2 : cX3_digest.data.toList.drop 48 = dktX3_digest_2 := dk_seg dksX3_digest_1 24 rfl rfl
theorem dksX3_digest_3 : cX3_digest.data.toList.drop 72 = dktX3_digest_3 := dk_seg dksX3_digest_2 24 rfl rfl
theorem dX3_digest_0 : decode cX3_digest 0 = .ok (.bipush 8, 2) := dk_16 8 (dk_at dksX3_digest_0 0 rfl rfl)
theorem dX3_digest_2 : decode cX3_digest 2 = .ok (.newarray .int, 2) := dk_188_10 (dk_at dksX3_digest_0 2 rfl rfl)
theorem dX3_digest_4 : decode cX3_digest 4 = .ok (.astore_n 1, 1) := dk_76 (dk_at dksX3_digest_0 4 rfl rfl)
theorem dX3_digest_5 : decode cX3_digest 5 = .ok (.iconst 0, 1) := dk_3 (dk_at dksX3_digest_0 5 rfl rfl)
theorem dX3_digest_6 : decode cX3_digest 6 = .ok (.istore_n 2, 1) := dk_61 (dk_at dksX3_digest_0 6 rfl rfl)
theorem dX3_digest_7 : decode cX3_digest 7 = .ok (.iload_n 2, 1) := dk_28 (dk_at dksX3_digest_0 7 rfl rfl)
theorem dX3_digest_8 : decode cX3_digest 8 = .ok (.bipush 8, 2) := dk_16 8 (dk_at dksX3_digest_0 8 rfl rfl)
theorem dX3_digest_10 : decode cX3_digest 10 = .ok (.if_icmp .ge 17, 3) := dk_162 0 17 (dk_at dksX3_digest_0 10 rfl rfl)
theorem dX3_digest_13 : decode cX3_digest 13 = .ok (.aload_n 1, 1) := dk_43 (dk_at dksX3_digest_0 13 rfl rfl)
theorem dX3_digest_14 : decode cX3_digest 14 = .ok (.iload_n 2, 1) := dk_28 (dk_at dksX3_digest_0 14 rfl rfl)
theorem dX3_digest_15 : decode cX3_digest 15 = .ok (.getstatic 34, 3) := dk_178 0 34 (dk_at dksX3_digest_0 15 rfl rfl)
theorem dX3_digest_18 : decode cX3_digest 18 = .ok (.iload_n 2, 1) := dk_28 (dk_at dksX3_digest_0 18 rfl rfl)
theorem dX3_digest_19 : decode cX3_digest 19 = .ok (.iaload, 1) := dk_46 (dk_at dksX3_digest_0 19 rfl rfl)
theorem dX3_digest_20 : decode cX3_digest 20 = .ok (.iastore, 1) := dk_79 (dk_at dksX3_digest_0 20 rfl rfl)
theorem dX3_digest_21 : decode cX3_digest 21 = .ok (.iinc 2 1, 3) := dk_132 2 1 (dk_at dksX3_digest_0 21 rfl rfl)
theorem dX3_digest_24 : decode cX3_digest 24 = .ok (.goto (-17), 3) := dk_167 255 239 (dk_at dksX3_digest_1 0 rfl rfl)
theorem dX3_digest_27 : decode cX3_digest 27 = .ok (.aload_n 1, 1) := dk_43 (dk_at dksX3_digest_1 3 rfl rfl)
theorem dX3_digest_28 : decode cX3_digest 28 = .ok (.iconst 0, 1) := dk_3 (dk_at dksX3_digest_1 4 rfl rfl)
theorem dX3_digest_29 : decode cX3_digest 29 = .ok (.dup2, 1) := dk_92 (dk_at dksX3_digest_1 5 rfl rfl)
theorem dX3_digest_30 : decode cX3_digest 30 = .ok (.iaload, 1) := dk_46 (dk_at dksX3_digest_1 6 rfl rfl)
theorem dX3_digest_31 : decode cX3_digest 31 = .ok (.ldc 48, 2) := dk_18 48 (dk_at dksX3_digest_1 7 rfl rfl)
theorem dX3_digest_33 : decode cX3_digest 33 = .ok (.aload_n 0, 1) := dk_42 (dk_at dksX3_digest_1 9 rfl rfl)
theorem dX3_digest_34 : decode cX3_digest 34 = .ok (.getfield 16, 3) := dk_180 0 16 (dk_at dksX3_digest_1 10 rfl rfl)
theorem dX3_digest_37 : decode cX3_digest 37 = .ok (.ixor, 1) := dk_130 (dk_at dksX3_digest_1 13 rfl rfl)
theorem dX3_digest_38 : decode cX3_digest 38 = .ok (.ixor, 1) := dk_130 (dk_at dksX3_digest_1 14 rfl rfl)
theorem dX3_digest_39 : decode cX3_digest 39 = .ok (.iastore, 1) := dk_79 (dk_at dksX3_digest_1 15 rfl rfl)
theorem dX3_digest_40 : decode cX3_digest 40 = .ok (.iconst 0, 1) := dk_3 (dk_at dksX3_digest_1 16 rfl rfl)
theorem dX3_digest_41 : decode cX3_digest 41 = .ok (.istore_n 2, 1) := dk_61 (dk_at dksX3_digest_1 17 rfl rfl)
theorem dX3_digest_42 : decode cX3_digest 42 = .ok (.aload_n 0, 1) := dk_42 (dk_at dksX3_digest_1 18 rfl rfl)
theorem dX3_digest_43 : decode cX3_digest 43 = .ok (.getfield 27, 3) := dk_180 0 27 (dk_at dksX3_digest_1 19 rfl rfl)
theorem dX3_digest_46 : decode cX3_digest 46 = .ok (.iload_n 2, 1) := dk_28 (dk_at dksX3_digest_1 22 rfl rfl)
theorem dX3_digest_47 : decode cX3_digest 47 = .ok (.isub, 1) := dk_100 (dk_at dksX3_digest_1 23 rfl rfl)
theorem dX3_digest_48 : decode cX3_digest 48 = .ok (.bipush 64, 2) := dk_16 64 (dk_at dksX3_digest_2 0 rfl rfl)
theorem dX3_digest_50 : decode cX3_digest 50 = .ok (.if_icmp .le 20, 3) := dk_164 0 20 (dk_at dksX3_digest_2 2 rfl rfl)
theorem dX3_digest_53 : decode cX3_digest 53 = .ok (.aload_n 0, 1) := dk_42 (dk_at dksX3_digest_2 5 rfl rfl)
theorem dX3_digest_54 : decode cX3_digest 54 = .ok (.aload_n 1, 1) := dk_43 (dk_at dksX3_digest_2 6 rfl rfl)
theorem dX3_digest_55 : decode cX3_digest 55 = .ok (.iload_n 2, 1) := dk_28 (dk_at dksX3_digest_2 7 rfl rfl)
theorem dX3_digest_56 : decode cX3_digest 56 = .ok (.iload_n 2, 1) := dk_28 (dk_at dksX3_digest_2 8 rfl rfl)
theorem dX3_digest_57 : decode cX3_digest 57 = .ok (.bipush 64, 2) := dk_16 64 (dk_at dksX3_digest_2 9 rfl rfl)
theorem dX3_digest_59 : decode cX3_digest 59 = .ok (.iadd, 1) := dk_96 (dk_at dksX3_digest_2 11 rfl rfl)
theorem dX3_digest_60 : decode cX3_digest 60 = .ok (.iconst 0, 1) := dk_3 (dk_at dksX3_digest_2 12 rfl rfl)
theorem dX3_digest_61 : decode cX3_digest 61 = .ok (.invokevirtual 49, 3) := dk_182 0 49 (dk_at dksX3_digest_2 13 rfl rfl)
theorem dX3_digest_64 : decode cX3_digest 64 = .ok (.iinc 2 64, 3) := dk_132 2 64 (dk_at dksX3_digest_2 16 rfl rfl)
theorem dX3_digest_67 : decode cX3_digest 67 = .ok (.goto (-25), 3) := dk_167 255 231 (dk_at dksX3_digest_2 19 rfl rfl)
theorem dX3_digest_70 : decode cX3_digest 70 = .ok (.aload_n 0, 1) := dk_42 (dk_at dksX3_digest_2 22 rfl rfl)
theorem dX3_digest_71 : decode cX3_digest 71 = .ok (.aload_n 1, 1) := dk_43 (dk_at dksX3_digest_2 23 rfl rfl)
theorem dX3_digest_72 : decode cX3_digest 72 = .ok (.iload_n 2, 1) := dk_28 (dk_at dksX3_digest_3 0 rfl rfl)
theorem dX3_digest_73 : decode cX3_digest 73 = .ok (.aload_n 0, 1) := dk_42 (dk_at dksX3_digest_3 1 rfl rfl)
theorem dX3_digest_74 : decode cX3_digest 74 = .ok (.getfield 27, 3) := dk_180 0 27 (dk_at dksX3_digest_3 2 rfl rfl)
theorem dX3_digest_77 : decode cX3_digest 77 = .ok (.iconst 1, 1) := dk_4 (dk_at dksX3_digest_3 5 rfl rfl)
theorem dX3_digest_78 : decode cX3_digest 78 = .ok (.invokevirtual 49, 3) := dk_182 0 49 (dk_at dksX3_digest_3 6 rfl rfl)
theorem dX3_digest_81 : decode cX3_digest 81 = .ok (.aload_n 1, 1) := dk_43 (dk_at dksX3_digest_3 9 rfl rfl)
theorem dX3_digest_82 : decode cX3_digest 82 = .ok (.areturn, 1) := dk_176 (dk_at dksX3_digest_3 10 rfl rfl)
abbrev cX3_compresses : ByteArray := prog_4_method_5_code
def yX3_compresses : MethodName := ⟨RX3, "compresses", "([IIIZ)V"⟩
def dkwX3_compresses_9 : List UInt8 := [132, 7, 1, 167, 255, 225, 177]
abbrev dktX3_compresses_9 : List UInt8 := dkwX3_compresses_9 ++ []
def dkwX3_compresses_8 : List UInt8 := [162, 0, 30, 43, 21, 7, 92, 46, 25, 6, 21, 7, 46, 25, 6, 21, 7, 16, 8, 96, 46, 130, 130, 79]
abbrev dktX3_compresses_8 : List UInt8 := dkwX3_compresses_8 ++ dktX3_compresses_9
def dkwX3_compresses_7 : List UInt8 := [184, 0, 44, 132, 11, 1, 167, 255, 213, 132, 9, 1, 167, 255, 190, 3, 54, 7, 21, 7, 16, 8]
abbrev dktX3_compresses_7 : List UInt8 := dkwX3_compresses_7 ++ dktX3_compresses_8
def dkwX3_compresses_6 : List UInt8 := [50, 25, 5, 25, 10, 5, 21, 11, 104, 46, 46, 25, 5, 25, 10, 5, 21, 11, 104, 4, 96, 46, 46]
abbrev dktX3_compresses_6 : List UInt8 := dkwX3_compresses_6 ++ dktX3_compresses_7
def dkwX3_compresses_5 : List UInt8 := [25, 7, 21, 9, 50, 58, 10, 3, 54, 11, 21, 11, 16, 8, 162, 0, 42, 25, 6, 178, 0, 41, 21, 11]
abbrev dktX3_compresses_5 : List UInt8 := dkwX3_compresses_5 ++ dktX3_compresses_6
def dkwX3_compresses_4 : List UInt8 := [3, 130, 79, 178, 0, 37, 58, 7, 25, 7, 190, 54, 8, 3, 54, 9, 21, 9, 21, 8, 162, 0, 65]
abbrev dktX3_compresses_4 : List UInt8 := dkwX3_compresses_4 ++ dktX3_compresses_5
def dkwX3_compresses_3 : List UInt8 := [25, 6, 16, 12, 92, 46, 29, 130, 79, 25, 6, 16, 14, 92, 46, 21, 4, 153, 0, 7, 2, 167, 0, 4]
abbrev dktX3_compresses_3 : List UInt8 := dkwX3_compresses_3 ++ dktX3_compresses_4
def dkwX3_compresses_2 : List UInt8 := [43, 21, 7, 46, 167, 0, 12, 178, 0, 34, 21, 7, 16, 8, 100, 46, 79, 132, 7, 1, 167, 255, 203]
abbrev dktX3_compresses_2 : List UInt8 := dkwX3_compresses_2 ++ dktX3_compresses_3
def dkwX3_compresses_1 : List UInt8 := [21, 7, 42, 28, 7, 21, 7, 104, 96, 182, 0, 30, 79, 25, 6, 21, 7, 21, 7, 16, 8, 162, 0, 10]
abbrev dktX3_compresses_1 : List UInt8 := dkwX3_compresses_1 ++ dktX3_compresses_2
def dkwX3_compresses_0 : List UInt8 := [16, 16, 188, 10, 58, 5, 16, 16, 188, 10, 58, 6, 3, 54, 7, 21, 7, 16, 16, 162, 0, 52, 25, 5]
abbrev dktX3_compresses_0 : List UInt8 := dkwX3_compresses_0 ++ dktX3_compresses_1
theorem dksX3_compresses_0 : cX3_compresses.data.toList.drop 0 = dktX3_compresses_0 := by decide +kernel
theorem dksX3_compresses_1 : cX3_compresses.data.toList.drop 24 = dktX3_compresses_1 := dk_seg dksX3_compresses_0 24 rfl rfl
theorem dksX3_compresses_2 : cX3_compresses.data.toList.drop 48 = dktX3_compresses_2 := dk_seg dksX3_compresses_1 24 rfl rfl
theorem dksX3_compresses_3 : cX3_compresses.data.toList.drop 71 = dktX3_compresses_3 := dk_seg dksX3_compresses_2 23 rfl rfl
theorem dksX3_compresses_4 : cX3_compresses.data.toList.drop 95 = dktX3_compresses_4 := dk_seg dksX3_compresses_3 24 rfl rfl
theorem dksX3_compresses_5 : cX3_compresses.data.toList.drop 118 = dktX3_compresses_5 := dk_seg dksX3_compresses_4 23 rfl rfl
theorem dksX3_compresses_6 : cX3_compresses.data.toList.drop 142 = dktX3_compresses_6 := dk_seg dksX3_compresses_5 24 rfl rfl
theorem dksX3_compresses_7 : cX3_compresses.data.toList.drop 165 = dktX3_compresses_7 := dk_seg dksX3_compresses_6 23 rfl rfl
theorem dksX3_compresses_8 : cX3_compresses.data.toList.drop 187 = dktX3_compresses_8 := dk_seg dksX3_compresses_7 22 rfl rfl
theorem dksX3_compresses_9 : cX3_compresses.data.toList.drop 211 = dktX3_compresses_9 := dk_seg dksX3_compresses_8 24 rfl rfl
theorem dX3_compresses_0 : decode cX3_compresses 0 = .ok (.bipush 16, 2) := dk_16 16 (dk_at dksX3_compresses_0 0 rfl rfl)
theorem dX3_compresses_2 : decode cX3_compresses 2 = .ok (.newarray .int, 2) := dk_188_10 (dk_at dksX3_compresses_0 2 rfl rfl)
theorem dX3_compresses_4 : decode cX3_compresses 4 = .ok (.astore 5, 2) := dk_58 5 (dk_at dksX3_compresses_0 4 rfl rfl)
theorem dX3_compresses_6 : decode cX3_compresses 6 = .ok (.bipush 16, 2) := dk_16 16 (dk_at dksX3_compresses_0 6 rfl rfl)
theorem dX3_compresses_8 : decode cX3_compresses 8 = .ok (.newarray .int, 2) := dk_188_10 (dk_at dksX3_compresses_0 8 rfl rfl)
theorem dX3_compresses_10 : decode cX3_compresses 10 = .ok (.astore 6, 2) := dk_58 6 (dk_at dksX3_compresses_0 10 rfl rfl)
theorem dX3_compresses_12 : decode cX3_compresses 12 = .ok (.iconst 0, 1) := dk_3 (dk_at dksX3_compresses_0 12 rfl rfl)
theorem dX3_compresses_13 : decode cX3_compresses 13 = .ok (.istore 7, 2) := dk_54 7 (dk_at dksX3_compresses_0 13 rfl rfl)
theorem dX3_compresses_15 : decode cX3_compresses 15 = .ok (.iload 7, 2) := dk_21 7 (dk_at dksX3_compresses_0 15 rfl rfl)
theorem dX3_compresses_17 : decode cX3_compresses 17 = .ok (.bipush 16, 2) := dk_16 16 (dk_at dksX3_compresses_0 17 rfl rfl)
theorem dX3_compresses_19 : decode cX3_compresses 19 = .ok (.if_icmp .ge 52, 3) := dk_162 0 52 (dk_at dksX3_compresses_0 19 rfl rfl)
theorem dX3_compresses_22 : decode cX3_compresses 22 = .ok (.aload 5, 2) := dk_25 5 (dk_at dksX3_compresses_0 22 rfl rfl)
theorem dX3_compresses_24 : decode cX3_compresses 24 = .ok (.iload 7, 2) := dk_21 7 (dk_at dksX3_compresses_1 0 rfl rfl)
theorem dX3_compresses_26 : decode cX3_compresses 26 = .ok (.aload_n 0, 1) := dk_42 (dk_at dksX3_compresses_1 2 rfl rfl)
theorem dX3_compresses_27 : decode cX3_compresses 27 = .ok (.iload_n 2, 1) := dk_28 (dk_at dksX3_compresses_1 3 rfl rfl)
theorem dX3_compresses_28 : decode cX3_compresses 28 = .ok (.iconst 4, 1) := dk_7 (dk_at dksX3_compresses_1 4 rfl rfl)
theorem dX3_compresses_29 : decode cX3_compresses 29 = .ok (.iload 7, 2) := dk_21 7 (dk_at dksX3_compresses_1 5 rfl rfl)
theorem dX3_compresses_31 : decode cX3_compresses 31 = .ok (.imul, 1) := dk_104 (dk_at dksX3_compresses_1 7 rfl rfl)
theorem dX3_compresses_32 : decode cX3_compresses 32 = .ok (.iadd, 1) := dk_96 (dk_at dksX3_compresses_1 8 rfl rfl)
theorem dX3_compresses_33 : decode cX3_compresses 33 = .ok (.invokevirtual 30, 3) := dk_182 0 30 (dk_at dksX3_compresses_1 9 rfl rfl)
theorem dX3_compresses_36 : decode cX3_compresses 36 = .ok (.iastore, 1) := dk_79 (dk_at dksX3_compresses_1 12 rfl rfl)
theorem dX3_compresses_37 : decode cX3_compresses 37 = .ok (.aload 6, 2) := dk_25 6 (dk_at dksX3_compresses_1 13 rfl rfl)
theorem dX3_compresses_39 : decode cX3_compresses 39 = .ok (.iload 7, 2) := dk_21 7 (dk_at dksX3_compresses_1 15 rfl rfl)
theorem dX3_compresses_41 : decode cX3_compresses 41 = .ok (.iload 7, 2) := dk_21 7 (dk_at dksX3_compresses_1 17 rfl rfl)
theorem dX3_compresses_43 : decode cX3_compresses 43 = .ok (.bipush 8, 2) := dk_16 8 (dk_at dksX3_compresses_1 19 rfl rfl)
theorem dX3_compresses_45 : decode cX3_compresses 45 = .ok (.if_icmp .ge 10, 3) := dk_162 0 10 (dk_at dksX3_compresses_1 21 rfl rfl)
theorem dX3_compresses_48 : decode cX3_compresses 48 = .ok (.aload_n 1, 1) := dk_43 (dk_at dksX3_compresses_2 0 rfl rfl)
theorem dX3_compresses_49 : decode cX3_compresses 49 = .ok (.iload 7, 2) := dk_21 7 (dk_at dksX3_compresses_2 1 rfl rfl)
theorem dX3_compresses_51 : decode cX3_compresses 51 = .ok (.iaload, 1) := dk_46 (dk_at dksX3_compresses_2 3 rfl rfl)
theorem dX3_compresses_52 : decode cX3_compresses 52 = .ok (.goto 12, 3) := dk_167 0 12 (dk_at dksX3_compresses_2 4 rfl rfl)
theorem dX3_compresses_55 : decode cX3_compresses 55 = .ok (.getstatic 34, 3) := dk_178 0 34 (dk_at dksX3_compresses_2 7 rfl rfl)
theorem dX3_compresses_58 : decode cX3_compresses 58 = .ok (.iload 7, 2) := dk_21 7 (dk_at dksX3_compresses_2 10 rfl rfl)
theorem dX3_compresses_60 : decode cX3_compresses 60 = .ok (.bipush 8, 2) := dk_16 8 (dk_at dksX3_compresses_2 12 rfl rfl)
theorem dX3_compresses_62 : decode cX3_compresses 62 = .ok (.isub, 1) := dk_100 (dk_at dksX3_compresses_2 14 rfl rfl)
theorem dX3_compresses_63 : decode cX3_compresses 63 = .ok (.iaload, 1) := dk_46 (dk_at dksX3_compresses_2 15 rfl rfl)
theorem dX3_compresses_64 : decode cX3_compresses 64 = .ok (.iastore, 1) := dk_79 (dk_at dksX3_compresses_2 16 rfl rfl)
theorem dX3_compresses_65 : decode cX3_compresses 65 = .ok (.iinc 7 1, 3) := dk_132 7 1 (dk_at dksX3_compresses_2 17 rfl rfl)
theorem dX3_compresses_68 : decode cX3_compresses 68 = .ok (.goto (-53), 3) := dk_167 255 203 (dk_at dksX3_compresses_2 20 rfl rfl)
theorem dX3_compresses_71 : decode cX3_compresses 71 = .ok (.aload 6, 2) := dk_25 6 (dk_at dksX3_compresses_3 0 rfl rfl)
theorem dX3_compresses_73 : decode cX3_compresses 73 = .ok (.bipush 12, 2) := dk_16 12 (dk_at dksX3_compresses_3 2 rfl rfl)
theorem dX3_compresses_75 : decode cX3_compresses 75 = .ok (.dup2, 1) := dk_92 (dk_at dksX3_compresses_3 4 rfl rfl)
theorem dX3_compresses_76 : decode cX3_compresses 76 = .ok (.iaload, 1) := dk_46 (dk_at dksX3_compresses_3 5 rfl rfl)
theorem dX3_compresses_77 : decode cX3_compresses 77 = .ok (.iload_n 3, 1) := dk_29 (dk_at dksX3_compresses_3 6 rfl rfl)
theorem dX3_compresses_78 : decode cX3_compresses 78 = .ok (.ixor, 1) := dk_130 (dk_at dksX3_compresses_3 7 rfl rfl)
theorem dX3_compresses_79 : decode cX3_compresses 79 = .ok (.iastore, 1) := dk_79 (dk_at dksX3_compresses_3 8 rfl rfl)
theorem dX3_compresses_80 : decode cX3_compresses 80 = .ok (.aload 6, 2) := dk_25 6 (dk_at dksX3_compresses_3 9 rfl rfl)
theorem dX3_compresses_82 : decode cX3_compresses 82 = .ok (.bipush 14, 2) := dk_16 14 (dk_at dksX3_compresses_3 11 rfl rfl)
theorem dX3_compresses_84 : decode cX3_compresses 84 = .ok (.dup2, 1) := dk_92 (dk_at dksX3_compresses_3 13 rfl rfl)
theorem dX3_compresses_85 : decode cX3_compresses 85 = .ok (.iaload, 1) := dk_46 (dk_at dksX3_compresses_3 14 rfl rfl)
theorem dX3_compresses_86 : decode cX3_compresses 86 = .ok (.iload 4, 2) := dk_21 4 (dk_at dksX3_compresses_3 15 rfl rfl)
theorem dX3_compresses_88 : decode cX3_compresses 88 = .ok (.ifCond .eq 7, 3) := dk_153 0 7 (dk_at dksX3_compresses_3 17 rfl rfl)
theorem dX3_compresses_91 : decode cX3_compresses 91 = .ok (.iconst (-1), 1) := dk_2 (dk_at dksX3_compresses_3 20 rfl rfl)
theorem dX3_compresses_92 : decode cX3_compresses 92 = .ok (.goto 4, 3) := dk_167 0 4 (dk_at dksX3_compresses_3 21 rfl rfl)
theorem dX3_compresses_95 : decode cX3_compresses 95 = .ok (.iconst 0, 1) := dk_3 (dk_at dksX3_compresses_4 0 rfl rfl)
theorem dX3_compresses_96 : decode cX3_compresses 96 = .ok (.ixor, 1) := dk_130 (dk_at dksX3_compresses_4 1 rfl rfl)
theorem dX3_compresses_97 : decode cX3_compresses 97 = .ok (.iastore, 1) := dk_79 (dk_at dksX3_compresses_4 2 rfl rfl)
theorem dX3_compresses_98 : decode cX3_compresses 98 = .ok (.getstatic 37, 3) := dk_178 0 37 (dk_at dksX3_compresses_4 3 rfl rfl)
theorem dX3_compresses_101 : decode cX3_compresses 101 = .ok (.astore 7, 2) := dk_58 7 (dk_at dksX3_compresses_4 6 rfl rfl)
theorem dX3_compresses_103 : decode cX3_compresses 103 = .ok (.aload 7, 2) := dk_25 7 (dk_at dksX3_compresses_4 8 rfl rfl)
theorem dX3_compresses_105 : decode cX3_compresses 105 = .ok (.arraylength, 1) := dk_190 (dk_at dksX3_compresses_4 10 rfl rfl)
theorem dX3_compresses_106 : decode cX3_compresses 106 = .ok (.istore 8, 2) := dk_54 8 (dk_at dksX3_compresses_4 11 rfl rfl)
theorem dX3_compresses_108 : decode cX3_compresses 108 = .ok (.iconst 0, 1) := dk_3 (dk_at dksX3_compresses_4 13 rfl rfl)
theorem dX3_compresses_109 : decode cX3_compresses 109 = .ok (.istore 9, 2) := dk_54 9 (dk_at dksX3_compresses_4 14 rfl rfl)
theorem dX3_compresses_111 : decode cX3_compresses 111 = .ok (.iload 9, 2) := dk_21 9 (dk_at dksX3_compresses_4 16 rfl rfl)
theorem dX3_compresses_113 : decode cX3_compresses 113 = .ok (.iload 8, 2) := dk_21 8 (dk_at dksX3_compresses_4 18 rfl rfl)
theorem dX3_compresses_115 : decode cX3_compresses 115 = .ok (.if_icmp .ge 65, 3) := dk_162 0 65 (dk_at dksX3_compresses_4 20 rfl rfl)
theorem dX3_compresses_118 : decode cX3_compresses 118 = .ok (.aload 7, 2) := dk_25 7 (dk_at dksX3_compresses_5 0 rfl rfl)
theorem dX3_compresses_120 : decode cX3_compresses 120 = .ok (.iload 9, 2) := dk_21 9 (dk_at dksX3_compresses_5 2 rfl rfl)
theorem dX3_compresses_122 : decode cX3_compresses 122 = .ok (.aaload, 1) := dk_50 (dk_at dksX3_compresses_5 4 rfl rfl)
theorem dX3_compresses_123 : decode cX3_compresses 123 = .ok (.astore 10, 2) := dk_58 10 (dk_at dksX3_compresses_5 5 rfl rfl)
theorem dX3_compresses_125 : decode cX3_compresses 125 = .ok (.iconst 0, 1) := dk_3 (dk_at dksX3_compresses_5 7 rfl rfl)
theorem dX3_compresses_126 : decode cX3_compresses 126 = .ok (.istore 11, 2) := dk_54 11 (dk_at dksX3_compresses_5 8 rfl rfl)
theorem dX3_compresses_128 : decode cX3_compresses 128 = .ok (.iload 11, 2) := dk_21 11 (dk_at dksX3_compresses_5 10 rfl rfl)
theorem dX3_compresses_130 : decode cX3_compresses 130 = .ok (.bipush 8, 2) := dk_16 8 (dk_at dksX3_compresses_5 12 rfl rfl)
theorem dX3_compresses_132 : decode cX3_compresses 132 = .ok (.if_icmp .ge 42, 3) := dk_162 0 42 (dk_at dksX3_compresses_5 14 rfl rfl)
theorem dX3_compresses_135 : decode cX3_compresses 135 = .ok (.aload 6, 2) := dk_25 6 (dk_at dksX3_compresses_5 17 rfl rfl)
theorem dX3_compresses_137 : decode cX3_compresses 137 = .ok (.getstatic 41, 3) := dk_178 0 41 (dk_at dksX3_compresses_5 19 rfl rfl)
theorem dX3_compresses_140 : decode cX3_compresses 140 = .ok (.iload 11, 2) := dk_21 11 (dk_at dksX3_compresses_5 22 rfl rfl)
theorem dX3_compresses_142 : decode cX3_compresses 142 = .ok (.aaload, 1) := dk_50 (dk_at dksX3_compresses_6 0 rfl rfl)
theorem dX3_compresses_143 : decode cX3_compresses 143 = .ok (.aload 5, 2) := dk_25 5 (dk_at dksX3_compresses_6 1 rfl rfl)
theorem dX3_compresses_145 : decode cX3_compresses 145 = .ok (.aload 10, 2) := dk_25 10 (dk_at dksX3_compresses_6 3 rfl rfl)
theorem dX3_compresses_147 : decode cX3_compresses 147 = .ok (.iconst 2, 1) := dk_5 (dk_at dksX3_compresses_6 5 rfl rfl)
theorem dX3_compresses_148 : decode cX3_compresses 148 = .ok (.iload 11, 2) := dk_21 11 (dk_at dksX3_compresses_6 6 rfl rfl)
theorem dX3_compresses_150 : decode cX3_compresses 150 = .ok (.imul, 1) := dk_104 (dk_at dksX3_compresses_6 8 rfl rfl)
theorem dX3_compresses_151 : decode cX3_compresses 151 = .ok (.iaload, 1) := dk_46 (dk_at dksX3_compresses_6 9 rfl rfl)
theorem dX3_compresses_152 : decode cX3_compresses 152 = .ok (.iaload, 1) := dk_46 (dk_at dksX3_compresses_6 10 rfl rfl)
theorem dX3_compresses_153 : decode cX3_compresses 153 = .ok (.aload 5, 2) := dk_25 5 (dk_at dksX3_compresses_6 11 rfl rfl)
theorem dX3_compresses_155 : decode cX3_compresses 155 = .ok (.aload 10, 2) := dk_25 10 (dk_at dksX3_compresses_6 13 rfl rfl)
theorem dX3_compresses_157 : decode cX3_compresses 157 = .ok (.iconst 2, 1) := dk_5 (dk_at dksX3_compresses_6 15 rfl rfl)
theorem dX3_compresses_158 : decode cX3_compresses 158 = .ok (.iload 11, 2) := dk_21 11 (dk_at dksX3_compresses_6 16 rfl rfl)
theorem dX3_compresses_160 : decode cX3_compresses 160 = .ok (.imul, 1) := dk_104 (dk_at dksX3_compresses_6 18 rfl rfl)
theorem dX3_compresses_161 : decode cX3_compresses 161 = .ok (.iconst 1, 1) := dk_4 (dk_at dksX3_compresses_6 19 rfl rfl)
theorem dX3_compresses_162 : decode cX3_compresses 162 = .ok (.iadd, 1) := dk_96 (dk_at dksX3_compresses_6 20 rfl rfl)
theorem dX3_compresses_163 : decode cX3_compresses 163 = .ok (.iaload, 1) := dk_46 (dk_at dksX3_compresses_6 21 rfl rfl)
theorem dX3_compresses_164 : decode cX3_compresses 164 = .ok (.iaload, 1) := dk_46 (dk_at dksX3_compresses_6 22 rfl rfl)
theorem dX3_compresses_165 : decode cX3_compresses 165 = .ok (.invokestatic 44, 3) := dk_184 0 44 (dk_at dksX3_compresses_7 0 rfl rfl)
theorem dX3_compresses_168 : decode cX3_compresses 168 = .ok (.iinc 11 1, 3) := dk_132 11 1 (dk_at dksX3_compresses_7 3 rfl rfl)
theorem dX3_compresses_171 : decode cX3_compresses 171 = .ok (.goto (-43), 3) := dk_167 255 213 (dk_at dksX3_compresses_7 6 rfl rfl)
theorem dX3_compresses_174 : decode cX3_compresses 174 = .ok (.iinc 9 1, 3) := dk_132 9 1 (dk_at dksX3_compresses_7 9 rfl rfl)
theorem dX3_compresses_177 : decode cX3_compresses 177 = .ok (.goto (-66), 3) := dk_167 255 190 (dk_at dksX3_compresses_7 12 rfl rfl)
theorem dX3_compresses_180 : decode cX3_compresses 180 = .ok (.iconst 0, 1) := dk_3 (dk_at dksX3_compresses_7 15 rfl rfl)
theorem dX3_compresses_181 : decode cX3_compresses 181 = .ok (.istore 7, 2) := dk_54 7 (dk_at dksX3_compresses_7 16 rfl rfl)
theorem dX3_compresses_183 : decode cX3_compresses 183 = .ok (.iload 7, 2) := dk_21 7 (dk_at dksX3_compresses_7 18 rfl rfl)
theorem dX3_compresses_185 : decode cX3_compresses 185 = .ok (.bipush 8, 2) := dk_16 8 (dk_at dksX3_compresses_7 20 rfl rfl)
theorem dX3_compresses_187 : decode cX3_compresses 187 = .ok (.if_icmp .ge 30, 3) := dk_162 0 30 (dk_at dksX3_compresses_8 0 rfl rfl)
theorem dX3_compresses_190 : decode cX3_compresses 190 = .ok (.aload_n 1, 1) := dk_43 (dk_at dksX3_compresses_8 3 rfl rfl)
theorem dX3_compresses_191 : decode cX3_compresses 191 = .ok (.iload 7, 2) := dk_21 7 (dk_at dksX3_compresses_8 4 rfl rfl)
theorem dX3_compresses_193 : decode cX3_compresses 193 = .ok (.dup2, 1) := dk_92 (dk_at dksX3_compresses_8 6 rfl rfl)
theorem dX3_compresses_194 : decode cX3_compresses 194 = .ok (.iaload, 1) := dk_46 (dk_at dksX3_compresses_8 7 rfl rfl)
theorem dX3_compresses_195 : decode cX3_compresses 195 = .ok (.aload 6, 2) := dk_25 6 (dk_at dksX3_compresses_8 8 rfl rfl)
theorem dX3_compresses_197 : decode cX3_compresses 197 = .ok (.iload 7, 2) := dk_21 7 (dk_at dksX3_compresses_8 10 rfl rfl)
theorem dX3_compresses_199 : decode cX3_compresses 199 = .ok (.iaload, 1) := dk_46 (dk_at dksX3_compresses_8 12 rfl rfl)
theorem dX3_compresses_200 : decode cX3_compresses 200 = .ok (.aload 6, 2) := dk_25 6 (dk_at dksX3_compresses_8 13 rfl rfl)
theorem dX3_compresses_202 : decode cX3_compresses 202 = .ok (.iload 7, 2) := dk_21 7 (dk_at dksX3_compresses_8 15 rfl rfl)
theorem dX3_compresses_204 : decode cX3_compresses 204 = .ok (.bipush 8, 2) := dk_16 8 (dk_at dksX3_compresses_8 17 rfl rfl)
theorem dX3_compresses_206 : decode cX3_compresses 206 = .ok (.iadd, 1) := dk_96 (dk_at dksX3_compresses_8 19 rfl rfl)
theorem dX3_compresses_207 : decode cX3_compresses 207 = .ok (.iaload, 1) := dk_46 (dk_at dksX3_compresses_8 20 rfl rfl)
theorem dX3_compresses_208 : decode cX3_compresses 208 = .ok (.ixor, 1) := dk_130 (dk_at dksX3_compresses_8 21 rfl rfl)
theorem dX3_compresses_209 : decode cX3_compresses 209 = .ok (.ixor, 1) := dk_130 (dk_at dksX3_compresses_8 22 rfl rfl)
theorem dX3_compresses_210 : decode cX3_compresses 210 = .ok (.iastore, 1) := dk_79 (dk_at dksX3_compresses_8 23 rfl rfl)
theorem dX3_compresses_211 : decode cX3_compresses 211 = .ok (.iinc 7 1, 3) := dk_132 7 1 (dk_at dksX3_compresses_9 0 rfl rfl)
theorem dX3_compresses_214 : decode cX3_compresses 214 = .ok (.goto (-31), 3) := dk_167 255 225 (dk_at dksX3_compresses_9 3 rfl rfl)
theorem dX3_compresses_217 : decode cX3_compresses 217 = .ok (.return_, 1) := dk_177 (dk_at dksX3_compresses_9 6 rfl rfl)
abbrev cX3_wordAt : ByteArray := prog_4_method_4_code
def yX3_wordAt : MethodName := ⟨RX3, "wordAt", "(I)I"⟩
def dkwX3_wordAt_1 : List UInt8 := [27, 29, 96, 46, 16, 8, 29, 104, 120, 167, 0, 4, 3, 128, 61, 132, 3, 1, 167, 255, 218, 28, 172]
abbrev dktX3_wordAt_1 : List UInt8 := dkwX3_wordAt_1 ++ []
def dkwX3_wordAt_0 : List UInt8 := [3, 61, 3, 62, 29, 7, 162, 0, 39, 28, 27, 29, 96, 42, 180, 0, 27, 162, 0, 19, 42, 180, 0, 13]
abbrev dktX3_wordAt_0 : List UInt8 := dkwX3_wordAt_0 ++ dktX3_wordAt_1
theorem dksX3_wordAt_0 : cX3_wordAt.data.toList.drop 0 = dktX3_wordAt_0 := by decide +kernel
theorem dksX3_wordAt_1 : cX3_wordAt.data.toList.drop 24 = dktX3_wordAt_1 := dk_seg dksX3_wordAt_0 24 rfl rfl
theorem dX3_wordAt_0 : decode cX3_wordAt 0 = .ok (.iconst 0, 1) := dk_3 (dk_at dksX3_wordAt_0 0 rfl rfl)
theorem dX3_wordAt_1 : decode cX3_wordAt 1 = .ok (.istore_n 2, 1) := dk_61 (dk_at dksX3_wordAt_0 1 rfl rfl)
theorem dX3_wordAt_2 : decode cX3_wordAt 2 = .ok (.iconst 0, 1) := dk_3 (dk_at dksX3_wordAt_0 2 rfl rfl)
theorem dX3_wordAt_3 : decode cX3_wordAt 3 = .ok (.istore_n 3, 1) := dk_62 (dk_at dksX3_wordAt_0 3 rfl rfl)
theorem dX3_wordAt_4 : decode cX3_wordAt 4 = .ok (.iload_n 3, 1) := dk_29 (dk_at dksX3_wordAt_0 4 rfl rfl)
theorem dX3_wordAt_5 : decode cX3_wordAt 5 = .ok (.iconst 4, 1) := dk_7 (dk_at dksX3_wordAt_0 5 rfl rfl)
theorem dX3_wordAt_6 : decode cX3_wordAt 6 = .ok (.if_icmp .ge 39, 3) := dk_162 0 39 (dk_at dksX3_wordAt_0 6 rfl rfl)
theorem dX3_wordAt_9 : decode cX3_wordAt 9 = .ok (.iload_n 2, 1) := dk_28 (dk_at dksX3_wordAt_0 9 rfl rfl)
theorem dX3_wordAt_10 : decode cX3_wordAt 10 = .ok (.iload_n 1, 1) := dk_27 (dk_at dksX3_wordAt_0 10 rfl rfl)
theorem dX3_wordAt_11 : decode cX3_wordAt 11 = .ok (.iload_n 3, 1) := dk_29 (dk_at dksX3_wordAt_0 11 rfl rfl)
theorem dX3_wordAt_12 : decode cX3_wordAt 12 = .ok (.iadd, 1) := dk_96 (dk_at dksX3_wordAt_0 12 rfl rfl)
theorem dX3_wordAt_13 : decode cX3_wordAt 13 = .ok (.aload_n 0, 1) := dk_42 (dk_at dksX3_wordAt_0 13 rfl rfl)
theorem dX3_wordAt_14 : decode cX3_wordAt 14 = .ok (.getfield 27, 3) := dk_180 0 27 (dk_at dksX3_wordAt_0 14 rfl rfl)
theorem dX3_wordAt_17 : decode cX3_wordAt 17 = .ok (.if_icmp .ge 19, 3) := dk_162 0 19 (dk_at dksX3_wordAt_0 17 rfl rfl)
theorem dX3_wordAt_20 : decode cX3_wordAt 20 = .ok (.aload_n 0, 1) := dk_42 (dk_at dksX3_wordAt_0 20 rfl rfl)
theorem dX3_wordAt_21 : decode cX3_wordAt 21 = .ok (.getfield 13, 3) := dk_180 0 13 (dk_at dksX3_wordAt_0 21 rfl rfl)
theorem dX3_wordAt_24 : decode cX3_wordAt 24 = .ok (.iload_n 1, 1) := dk_27 (dk_at dksX3_wordAt_1 0 rfl rfl)
theorem dX3_wordAt_25 : decode cX3_wordAt 25 = .ok (.iload_n 3, 1) := dk_29 (dk_at dksX3_wordAt_1 1 rfl rfl)
theorem dX3_wordAt_26 : decode cX3_wordAt 26 = .ok (.iadd, 1) := dk_96 (dk_at dksX3_wordAt_1 2 rfl rfl)
theorem dX3_wordAt_27 : decode cX3_wordAt 27 = .ok (.iaload, 1) := dk_46 (dk_at dksX3_wordAt_1 3 rfl rfl)
theorem dX3_wordAt_28 : decode cX3_wordAt 28 = .ok (.bipush 8, 2) := dk_16 8 (dk_at dksX3_wordAt_1 4 rfl rfl)
theorem dX3_wordAt_30 : decode cX3_wordAt 30 = .ok (.iload_n 3, 1) := dk_29 (dk_at dksX3_wordAt_1 6 rfl rfl)
theorem dX3_wordAt_31 : decode cX3_wordAt 31 = .ok (.imul, 1) := dk_104 (dk_at dksX3_wordAt_1 7 rfl rfl)
theorem dX3_wordAt_32 : decode cX3_wordAt 32 = .ok (.ishl, 1) := dk_120 (dk_at dksX3_wordAt_1 8 rfl rfl)
theorem dX3_wordAt_33 : decode cX3_wordAt 33 = .ok (.goto 4, 3) := dk_167 0 4 (dk_at dksX3_wordAt_1 9 rfl rfl)
theorem dX3_wordAt_36 : decode cX3_wordAt 36 = .ok (.iconst 0, 1) := dk_3 (dk_at dksX3_wordAt_1 12 rfl rfl)
theorem dX3_wordAt_37 : decode cX3_wordAt 37 = .ok (.ior, 1) := dk_128 (dk_at dksX3_wordAt_1 13 rfl rfl)
theorem dX3_wordAt_38 : decode cX3_wordAt 38 = .ok (.istore_n 2, 1) := dk_61 (dk_at dksX3_wordAt_1 14 rfl rfl)
theorem dX3_wordAt_39 : decode cX3_wordAt 39 = .ok (.iinc 3 1, 3) := dk_132 3 1 (dk_at dksX3_wordAt_1 15 rfl rfl)
theorem dX3_wordAt_42 : decode cX3_wordAt 42 = .ok (.goto (-38), 3) := dk_167 255 218 (dk_at dksX3_wordAt_1 18 rfl rfl)
theorem dX3_wordAt_45 : decode cX3_wordAt 45 = .ok (.iload_n 2, 1) := dk_28 (dk_at dksX3_wordAt_1 21 rfl rfl)
theorem dX3_wordAt_46 : decode cX3_wordAt 46 = .ok (.ireturn, 1) := dk_172 (dk_at dksX3_wordAt_1 22 rfl rfl)
abbrev cX3_mixes : ByteArray := prog_4_method_3_code
def yX3_mixes : MethodName := ⟨RX3, "mixes", "([I[III)V"⟩
def dkwX3_mixes_5 : List UInt8 := [43, 4, 46, 42, 43, 4, 46, 46, 42, 43, 5, 46, 46, 130, 16, 7, 184, 0, 23, 79, 177]
abbrev dktX3_mixes_5 : List UInt8 := dkwX3_mixes_5 ++ []
def dkwX3_mixes_4 : List UInt8 := [3, 46, 46, 130, 16, 8, 184, 0, 23, 79, 42, 43, 5, 46, 92, 46, 42, 43, 6, 46, 46, 96, 79, 42]
abbrev dktX3_mixes_4 : List UInt8 := dkwX3_mixes_4 ++ dktX3_mixes_5
def dkwX3_mixes_3 : List UInt8 := [3, 46, 92, 46, 42, 43, 4, 46, 46, 29, 96, 96, 79, 42, 43, 6, 46, 42, 43, 6, 46, 46, 42, 43]
abbrev dktX3_mixes_3 : List UInt8 := dkwX3_mixes_3 ++ dktX3_mixes_4
def dkwX3_mixes_2 : List UInt8 := [79, 42, 43, 4, 46, 42, 43, 4, 46, 46, 42, 43, 5, 46, 46, 130, 16, 12, 184, 0, 23, 79, 42, 43]
abbrev dktX3_mixes_2 : List UInt8 := dkwX3_mixes_2 ++ dktX3_mixes_3
def dkwX3_mixes_1 : List UInt8 := [42, 43, 3, 46, 46, 130, 16, 16, 184, 0, 23, 79, 42, 43, 5, 46, 92, 46, 42, 43, 6, 46, 46, 96]
abbrev dktX3_mixes_1 : List UInt8 := dkwX3_mixes_1 ++ dktX3_mixes_2
def dkwX3_mixes_0 : List UInt8 := [42, 43, 3, 46, 92, 46, 42, 43, 4, 46, 46, 28, 96, 96, 79, 42, 43, 6, 46, 42, 43, 6, 46, 46]
abbrev dktX3_mixes_0 : List UInt8 := dkwX3_mixes_0 ++ dktX3_mixes_1
theorem dksX3_mixes_0 : cX3_mixes.data.toList.drop 0 = dktX3_mixes_0 := by decide +kernel
theorem dksX3_mixes_1 : cX3_mixes.data.toList.drop 24 = dktX3_mixes_1 := dk_seg dksX3_mixes_0 24 rfl rfl
theorem dksX3_mixes_2 : cX3_mixes.data.toList.drop 48 = dktX3_mixes_2 := dk_seg dksX3_mixes_1 24 rfl rfl
theorem dksX3_mixes_3 : cX3_mixes.data.toList.drop 72 = dktX3_mixes_3 := dk_seg dksX3_mixes_2 24 rfl rfl
theorem dksX3_mixes_4 : cX3_mixes.data.toList.drop 96 = dktX3_mixes_4 := dk_seg dksX3_mixes_3 24 rfl rfl
theorem dksX3_mixes_5 : cX3_mixes.data.toList.drop 120 = dktX3_mixes_5 := dk_seg dksX3_mixes_4 24 rfl rfl
theorem dX3_mixes_0 : decode cX3_mixes 0 = .ok (.aload_n 0, 1) := dk_42 (dk_at dksX3_mixes_0 0 rfl rfl)
theorem dX3_mixes_1 : decode cX3_mixes 1 = .ok (.aload_n 1, 1) := dk_43 (dk_at dksX3_mixes_0 1 rfl rfl)
theorem dX3_mixes_2 : decode cX3_mixes 2 = .ok (.iconst 0, 1) := dk_3 (dk_at dksX3_mixes_0 2 rfl rfl)
theorem dX3_mixes_3 : decode cX3_mixes 3 = .ok (.iaload, 1) := dk_46 (dk_at dksX3_mixes_0 3 rfl rfl)
theorem dX3_mixes_4 : decode cX3_mixes 4 = .ok (.dup2, 1) := dk_92 (dk_at dksX3_mixes_0 4 rfl rfl)
theorem dX3_mixes_5 : decode cX3_mixes 5 = .ok (.iaload, 1) := dk_46 (dk_at dksX3_mixes_0 5 rfl rfl)
theorem dX3_mixes_6 : decode cX3_mixes 6 = .ok (.aload_n 0, 1) := dk_42 (dk_at dksX3_mixes_0 6 rfl rfl)
theorem dX3_mixes_7 : decode cX3_mixes 7 = .ok (.aload_n 1, 1) := dk_43 (dk_at dksX3_mixes_0 7 rfl rfl)
theorem dX3_mixes_8 : decode cX3_mixes 8 = .ok (.iconst 1, 1) := dk_4 (dk_at dksX3_mixes_0 8 rfl rfl)
theorem dX3_mixes_9 : decode cX3_mixes 9 = .ok (.iaload, 1) := dk_46 (dk_at dksX3_mixes_0 9 rfl rfl)
theorem dX3_mixes_10 : decode cX3_mixes 10 = .ok (.iaload, 1) := dk_46 (dk_at dksX3_mixes_0 10 rfl rfl)
theorem dX3_mixes_11 : decode cX3_mixes 11 = .ok (.iload_n 2, 1) := dk_28 (dk_at dksX3_mixes_0 11 rfl rfl)
theorem dX3_mixes_12 : decode cX3_mixes 12 = .ok (.iadd, 1) := dk_96 (dk_at dksX3_mixes_0 12 rfl rfl)
theorem dX3_mixes_13 : decode cX3_mixes 13 = .ok (.iadd, 1) := dk_96 (dk_at dksX3_mixes_0 13 rfl rfl)
theorem dX3_mixes_14 : decode cX3_mixes 14 = .ok (.iastore, 1) := dk_79 (dk_at dksX3_mixes_0 14 rfl rfl)
theorem dX3_mixes_15 : decode cX3_mixes 15 = .ok (.aload_n 0, 1) := dk_42 (dk_at dksX3_mixes_0 15 rfl rfl)
theorem dX3_mixes_16 : decode cX3_mixes 16 = .ok (.aload_n 1, 1) := dk_43 (dk_at dksX3_mixes_0 16 rfl rfl)
theorem dX3_mixes_17 : decode cX3_mixes 17 = .ok (.iconst 3, 1) := dk_6 (dk_at dksX3_mixes_0 17 rfl rfl)
theorem dX3_mixes_18 : decode cX3_mixes 18 = .ok (.iaload, 1) := dk_46 (dk_at dksX3_mixes_0 18 rfl rfl)
theorem dX3_mixes_19 : decode cX3_mixes 19 = .ok (.aload_n 0, 1) := dk_42 (dk_at dksX3_mixes_0 19 rfl rfl)
theorem dX3_mixes_20 : decode cX3_mixes 20 = .ok (.aload_n 1, 1) := dk_43 (dk_at dksX3_mixes_0 20 rfl rfl)
theorem dX3_mixes_21 : decode cX3_mixes 21 = .ok (.iconst 3, 1) := dk_6 (dk_at dksX3_mixes_0 21 rfl rfl)
theorem dX3_mixes_22 : decode cX3_mixes 22 = .ok (.iaload, 1) := dk_46 (dk_at dksX3_mixes_0 22 rfl rfl)
theorem dX3_mixes_23 : decode cX3_mixes 23 = .ok (.iaload, 1) := dk_46 (dk_at dksX3_mixes_0 23 rfl rfl)
theorem dX3_mixes_24 : decode cX3_mixes 24 = .ok (.aload_n 0, 1) := dk_42 (dk_at dksX3_mixes_1 0 rfl rfl)
theorem dX3_mixes_25 : decode cX3_mixes 25 = .ok (.aload_n 1, 1) := dk_43 (dk_at dksX3_mixes_1 1 rfl rfl)
theorem dX3_mixes_26 : decode cX3_mixes 26 = .ok (.iconst 0, 1) := dk_3 (dk_at dksX3_mixes_1 2 rfl rfl)
theorem dX3_mixes_27 : decode cX3_mixes 27 = .ok (.iaload, 1) := dk_46 (dk_at dksX3_mixes_1 3 rfl rfl)
theorem dX3_mixes_28 : decode cX3_mixes 28 = .ok (.iaload, 1) := dk_46 (dk_at dksX3_mixes_1 4 rfl rfl)
theorem dX3_mixes_29 : decode cX3_mixes 29 = .ok (.ixor, 1) := dk_130 (dk_at dksX3_mixes_1 5 rfl rfl)
theorem dX3_mixes_30 : decode cX3_mixes 30 = .ok (.bipush 16, 2) := dk_16 16 (dk_at dksX3_mixes_1 6 rfl rfl)
theorem dX3_mixes_32 : decode cX3_mixes 32 = .ok (.invokestatic 23, 3) := dk_184 0 23 (dk_at dksX3_mixes_1 8 rfl rfl)
theorem dX3_mixes_35 : decode cX3_mixes 35 = .ok (.iastore, 1) := dk_79 (dk_at dksX3_mixes_1 11 rfl rfl)
theorem dX3_mixes_36 : decode cX3_mixes 36 = .ok (.aload_n 0, 1) := dk_42 (dk_at dksX3_mixes_1 12 rfl rfl)
theorem dX3_mixes_37 : decode cX3_mixes 37 = .ok (.aload_n 1, 1) := dk_43 (dk_at dksX3_mixes_1 13 rfl rfl)
theorem dX3_mixes_38 : decode cX3_mixes 38 = .ok (.iconst 2, 1) := dk_5 (dk_at dksX3_mixes_1 14 rfl rfl)
theorem dX3_mixes_39 : decode cX3_mixes 39 = .ok (.iaload, 1) := dk_46 (dk_at dksX3_mixes_1 15 rfl rfl)
theorem dX3_mixes_40 : decode cX3_mixes 40 = .ok (.dup2, 1) := dk_92 (dk_at dksX3_mixes_1 16 rfl rfl)
theorem dX3_mixes_41 : decode cX3_mixes 41 = .ok (.iaload, 1) := dk_46 (dk_at dksX3_mixes_1 17 rfl rfl)
theorem dX3_mixes_42 : decode cX3_mixes 42 = .ok (.aload_n 0, 1) := dk_42 (dk_at dksX3_mixes_1 18 rfl rfl)
theorem dX3_mixes_43 : decode cX3_mixes 43 = .ok (.aload_n 1, 1) := dk_43 (dk_at dksX3_mixes_1 19 rfl rfl)
theorem dX3_mixes_44 : decode cX3_mixes 44 = .ok (.iconst 3, 1) := dk_6 (dk_at dksX3_mixes_1 20 rfl rfl)
theorem dX3_mixes_45 : decode cX3_mixes 45 = .ok (.iaload, 1) := dk_46 (dk_at dksX3_mixes_1 21 rfl rfl)
theorem dX3_mixes_46 : decode cX3_mixes 46 = .ok (.iaload, 1) := dk_46 (dk_at dksX3_mixes_1 22 rfl rfl)
theorem dX3_mixes_47 : decode cX3_mixes 47 = .ok (.iadd, 1) := dk_96 (dk_at dksX3_mixes_1 23 rfl rfl)
theorem dX3_mixes_48 : decode cX3_mixes 48 = .ok (.iastore, 1) := dk_79 (dk_at dksX3_mixes_2 0 rfl rfl)
theorem dX3_mixes_49 : decode cX3_mixes 49 = .ok (.aload_n 0, 1) := dk_42 (dk_at dksX3_mixes_2 1 rfl rfl)
theorem dX3_mixes_50 : decode cX3_mixes 50 = .ok (.aload_n 1, 1) := dk_43 (dk_at dksX3_mixes_2 2 rfl rfl)
theorem dX3_mixes_51 : decode cX3_mixes 51 = .ok (.iconst 1, 1) := dk_4 (dk_at dksX3_mixes_2 3 rfl rfl)
theorem dX3_mixes_52 : decode cX3_mixes 52 = .ok (.iaload, 1) := dk_46 (dk_at dksX3_mixes_2 4 rfl rfl)
theorem dX3_mixes_53 : decode cX3_mixes 53 = .ok (.aload_n 0, 1) := dk_42 (dk_at dksX3_mixes_2 5 rfl rfl)
theorem dX3_mixes_54 : decode cX3_mixes 54 = .ok (.aload_n 1, 1) := dk_43 (dk_at dksX3_mixes_2 6 rfl rfl)
theorem dX3_mixes_55 : decode cX3_mixes 55 = .ok (.iconst 1, 1) := dk_4 (dk_at dksX3_mixes_2 7 rfl rfl)
theorem dX3_mixes_56 : decode cX3_mixes 56 = .ok (.iaload, 1) := dk_46 (dk_at dksX3_mixes_2 8 rfl rfl)
theorem dX3_mixes_57 : decode cX3_mixes 57 = .ok (.iaload, 1) := dk_46 (dk_at dksX3_mixes_2 9 rfl rfl)
theorem dX3_mixes_58 : decode cX3_mixes 58 = .ok (.aload_n 0, 1) := dk_42 (dk_at dksX3_mixes_2 10 rfl rfl)
theorem dX3_mixes_59 : decode cX3_mixes 59 = .ok (.aload_n 1, 1) := dk_43 (dk_at dksX3_mixes_2 11 rfl rfl)
theorem dX3_mixes_60 : decode cX3_mixes 60 = .ok (.iconst 2, 1) := dk_5 (dk_at dksX3_mixes_2 12 rfl rfl)
theorem dX3_mixes_61 : decode cX3_mixes 61 = .ok (.iaload, 1) := dk_46 (dk_at dksX3_mixes_2 13 rfl rfl)
theorem dX3_mixes_62 : decode cX3_mixes 62 = .ok (.iaload, 1) := dk_46 (dk_at dksX3_mixes_2 14 rfl rfl)
theorem dX3_mixes_63 : decode cX3_mixes 63 = .ok (.ixor, 1) := dk_130 (dk_at dksX3_mixes_2 15 rfl rfl)
theorem dX3_mixes_64 : decode cX3_mixes 64 = .ok (.bipush 12, 2) := dk_16 12 (dk_at dksX3_mixes_2 16 rfl rfl)
theorem dX3_mixes_66 : decode cX3_mixes 66 = .ok (.invokestatic 23, 3) := dk_184 0 23 (dk_at dksX3_mixes_2 18 rfl rfl)
theorem dX3_mixes_69 : decode cX3_mixes 69 = .ok (.iastore, 1) := dk_79 (dk_at dksX3_mixes_2 21 rfl rfl)
theorem dX3_mixes_70 : decode cX3_mixes 70 = .ok (.aload_n 0, 1) := dk_42 (dk_at dksX3_mixes_2 22 rfl rfl)
theorem dX3_mixes_71 : decode cX3_mixes 71 = .ok (.aload_n 1, 1) := dk_43 (dk_at dksX3_mixes_2 23 rfl rfl)
theorem dX3_mixes_72 : decode cX3_mixes 72 = .ok (.iconst 0, 1) := dk_3 (dk_at dksX3_mixes_3 0 rfl rfl)
theorem dX3_mixes_73 : decode cX3_mixes 73 = .ok (.iaload, 1) := dk_46 (dk_at dksX3_mixes_3 1 rfl rfl)
theorem dX3_mixes_74 : decode cX3_mixes 74 = .ok (.dup2, 1) := dk_92 (dk_at dksX3_mixes_3 2 rfl rfl)
theorem dX3_mixes_75 : decode cX3_mixes 75 = .ok (.iaload, 1) := dk_46 (dk_at dksX3_mixes_3 3 rfl rfl)
theorem dX3_mixes_76 : decode cX3_mixes 76 = .ok (.aload_n 0, 1) := dk_42 (dk_at dksX3_mixes_3 4 rfl rfl)
theorem dX3_mixes_77 : decode cX3_mixes 77 = .ok (.aload_n 1, 1) := dk_43 (dk_at dksX3_mixes_3 5 rfl rfl)
theorem dX3_mixes_78 : decode cX3_mixes 78 = .ok (.iconst 1, 1) := dk_4 (dk_at dksX3_mixes_3 6 rfl rfl)
theorem dX3_mixes_79 : decode cX3_mixes 79 = .ok (.iaload, 1) := dk_46 (dk_at dksX3_mixes_3 7 rfl rfl)
theorem dX3_mixes_80 : decode cX3_mixes 80 = .ok (.iaload, 1) := dk_46 (dk_at dksX3_mixes_3 8 rfl rfl)
theorem dX3_mixes_81 : decode cX3_mixes 81 = .ok (.iload_n 3, 1) := dk_29 (dk_at dksX3_mixes_3 9 rfl rfl)
theorem dX3_mixes_82 : decode cX3_mixes 82 = .ok (.iadd, 1) := dk_96 (dk_at dksX3_mixes_3 10 rfl rfl)
theorem dX3_mixes_83 : decode cX3_mixes 83 = .ok (.iadd, 1) := dk_96 (dk_at dksX3_mixes_3 11 rfl rfl)
theorem dX3_mixes_84 : decode cX3_mixes 84 = .ok (.iastore, 1) := dk_79 (dk_at dksX3_mixes_3 12 rfl rfl)
theorem dX3_mixes_85 : decode cX3_mixes 85 = .ok (.aload_n 0, 1) := dk_42 (dk_at dksX3_mixes_3 13 rfl rfl)
theorem dX3_mixes_86 : decode cX3_mixes 86 = .ok (.aload_n 1, 1) := dk_43 (dk_at dksX3_mixes_3 14 rfl rfl)
theorem dX3_mixes_87 : decode cX3_mixes 87 = .ok (.iconst 3, 1) := dk_6 (dk_at dksX3_mixes_3 15 rfl rfl)
theorem dX3_mixes_88 : decode cX3_mixes 88 = .ok (.iaload, 1) := dk_46 (dk_at dksX3_mixes_3 16 rfl rfl)
theorem dX3_mixes_89 : decode cX3_mixes 89 = .ok (.aload_n 0, 1) := dk_42 (dk_at dksX3_mixes_3 17 rfl rfl)
theorem dX3_mixes_90 : decode cX3_mixes 90 = .ok (.aload_n 1, 1) := dk_43 (dk_at dksX3_mixes_3 18 rfl rfl)
theorem dX3_mixes_91 : decode cX3_mixes 91 = .ok (.iconst 3, 1) := dk_6 (dk_at dksX3_mixes_3 19 rfl rfl)
theorem dX3_mixes_92 : decode cX3_mixes 92 = .ok (.iaload, 1) := dk_46 (dk_at dksX3_mixes_3 20 rfl rfl)
theorem dX3_mixes_93 : decode cX3_mixes 93 = .ok (.iaload, 1) := dk_46 (dk_at dksX3_mixes_3 21 rfl rfl)
theorem dX3_mixes_94 : decode cX3_mixes 94 = .ok (.aload_n 0, 1) := dk_42 (dk_at dksX3_mixes_3 22 rfl rfl)
theorem dX3_mixes_95 : decode cX3_mixes 95 = .ok (.aload_n 1, 1) := dk_43 (dk_at dksX3_mixes_3 23 rfl rfl)
theorem dX3_mixes_96 : decode cX3_mixes 96 = .ok (.iconst 0, 1) := dk_3 (dk_at dksX3_mixes_4 0 rfl rfl)
theorem dX3_mixes_97 : decode cX3_mixes 97 = .ok (.iaload, 1) := dk_46 (dk_at dksX3_mixes_4 1 rfl rfl)
theorem dX3_mixes_98 : decode cX3_mixes 98 = .ok (.iaload, 1) := dk_46 (dk_at dksX3_mixes_4 2 rfl rfl)
theorem dX3_mixes_99 : decode cX3_mixes 99 = .ok (.ixor, 1) := dk_130 (dk_at dksX3_mixes_4 3 rfl rfl)
theorem dX3_mixes_100 : decode cX3_mixes 100 = .ok (.bipush 8, 2) := dk_16 8 (dk_at dksX3_mixes_4 4 rfl rfl)
theorem dX3_mixes_102 : decode cX3_mixes 102 = .ok (.invokestatic 23, 3) := dk_184 0 23 (dk_at dksX3_mixes_4 6 rfl rfl)
theorem dX3_mixes_105 : decode cX3_mixes 105 = .ok (.iastore, 1) := dk_79 (dk_at dksX3_mixes_4 9 rfl rfl)
theorem dX3_mixes_106 : decode cX3_mixes 106 = .ok (.aload_n 0, 1) := dk_42 (dk_at dksX3_mixes_4 10 rfl rfl)
theorem dX3_mixes_107 : decode cX3_mixes 107 = .ok (.aload_n 1, 1) := dk_43 (dk_at dksX3_mixes_4 11 rfl rfl)
theorem dX3_mixes_108 : decode cX3_mixes 108 = .ok (.iconst 2, 1) := dk_5 (dk_at dksX3_mixes_4 12 rfl rfl)
theorem dX3_mixes_109 : decode cX3_mixes 109 = .ok (.iaload, 1) := dk_46 (dk_at dksX3_mixes_4 13 rfl rfl)
theorem dX3_mixes_110 : decode cX3_mixes 110 = .ok (.dup2, 1) := dk_92 (dk_at dksX3_mixes_4 14 rfl rfl)
theorem dX3_mixes_111 : decode cX3_mixes 111 = .ok (.iaload, 1) := dk_46 (dk_at dksX3_mixes_4 15 rfl rfl)
theorem dX3_mixes_112 : decode cX3_mixes 112 = .ok (.aload_n 0, 1) := dk_42 (dk_at dksX3_mixes_4 16 rfl rfl)
theorem dX3_mixes_113 : decode cX3_mixes 113 = .ok (.aload_n 1, 1) := dk_43 (dk_at dksX3_mixes_4 17 rfl rfl)
theorem dX3_mixes_114 : decode cX3_mixes 114 = .ok (.iconst 3, 1) := dk_6 (dk_at dksX3_mixes_4 18 rfl rfl)
theorem dX3_mixes_115 : decode cX3_mixes 115 = .ok (.iaload, 1) := dk_46 (dk_at dksX3_mixes_4 19 rfl rfl)
theorem dX3_mixes_116 : decode cX3_mixes 116 = .ok (.iaload, 1) := dk_46 (dk_at dksX3_mixes_4 20 rfl rfl)
theorem dX3_mixes_117 : decode cX3_mixes 117 = .ok (.iadd, 1) := dk_96 (dk_at dksX3_mixes_4 21 rfl rfl)
theorem dX3_mixes_118 : decode cX3_mixes 118 = .ok (.iastore, 1) := dk_79 (dk_at dksX3_mixes_4 22 rfl rfl)
theorem dX3_mixes_119 : decode cX3_mixes 119 = .ok (.aload_n 0, 1) := dk_42 (dk_at dksX3_mixes_4 23 rfl rfl)
theorem dX3_mixes_120 : decode cX3_mixes 120 = .ok (.aload_n 1, 1) := dk_43 (dk_at dksX3_mixes_5 0 rfl rfl)
theorem dX3_mixes_121 : decode cX3_mixes 121 = .ok (.iconst 1, 1) := dk_4 (dk_at dksX3_mixes_5 1 rfl rfl)
theorem dX3_mixes_122 : decode cX3_mixes 122 = .ok (.iaload, 1) := dk_46 (dk_at dksX3_mixes_5 2 rfl rfl)
theorem dX3_mixes_123 : decode cX3_mixes 123 = .ok (.aload_n 0, 1) := dk_42 (dk_at dksX3_mixes_5 3 rfl rfl)
theorem dX3_mixes_124 : decode cX3_mixes 124 = .ok (.aload_n 1, 1) := dk_43 (dk_at dksX3_mixes_5 4 rfl rfl)
theorem dX3_mixes_125 : decode cX3_mixes 125 = .ok (.iconst 1, 1) := dk_4 (dk_at dksX3_mixes_5 5 rfl rfl)
theorem dX3_mixes_126 : decode cX3_mixes 126 = .ok (.iaload, 1) := dk_46 (dk_at dksX3_mixes_5 6 rfl rfl)
theorem dX3_mixes_127 : decode cX3_mixes 127 = .ok (.iaload, 1) := dk_46 (dk_at dksX3_mixes_5 7 rfl rfl)
theorem dX3_mixes_128 : decode cX3_mixes 128 = .ok (.aload_n 0, 1) := dk_42 (dk_at dksX3_mixes_5 8 rfl rfl)
theorem dX3_mixes_129 : decode cX3_mixes 129 = .ok (.aload_n 1, 1) := dk_43 (dk_at dksX3_mixes_5 9 rfl rfl)
theorem dX3_mixes_130 : decode cX3_mixes 130 = .ok (.iconst 2, 1) := dk_5 (dk_at dksX3_mixes_5 10 rfl rfl)
theorem dX3_mixes_131 : decode cX3_mixes 131 = .ok (.iaload, 1) := dk_46 (dk_at dksX3_mixes_5 11 rfl rfl)
theorem dX3_mixes_132 : decode cX3_mixes 132 = .ok (.iaload, 1) := dk_46 (dk_at dksX3_mixes_5 12 rfl rfl)
theorem dX3_mixes_133 : decode cX3_mixes 133 = .ok (.ixor, 1) := dk_130 (dk_at dksX3_mixes_5 13 rfl rfl)
theorem dX3_mixes_134 : decode cX3_mixes 134 = .ok (.bipush 7, 2) := dk_16 7 (dk_at dksX3_mixes_5 14 rfl rfl)
theorem dX3_mixes_136 : decode cX3_mixes 136 = .ok (.invokestatic 23, 3) := dk_184 0 23 (dk_at dksX3_mixes_5 16 rfl rfl)
theorem dX3_mixes_139 : decode cX3_mixes 139 = .ok (.iastore, 1) := dk_79 (dk_at dksX3_mixes_5 19 rfl rfl)
theorem dX3_mixes_140 : decode cX3_mixes 140 = .ok (.return_, 1) := dk_177 (dk_at dksX3_mixes_5 20 rfl rfl)
abbrev cX3_turned : ByteArray := prog_4_method_2_code
def yX3_turned : MethodName := ⟨RX3, "turned", "(II)I"⟩
def dkwX3_turned_0 : List UInt8 := [26, 27, 124, 26, 16, 32, 27, 100, 120, 128, 172]
abbrev dktX3_turned_0 : List UInt8 := dkwX3_turned_0 ++ []
theorem dksX3_turned_0 : cX3_turned.data.toList.drop 0 = dktX3_turned_0 := by decide +kernel
theorem dX3_turned_0 : decode cX3_turned 0 = .ok (.iload_n 0, 1) := dk_26 (dk_at dksX3_turned_0 0 rfl rfl)
theorem dX3_turned_1 : decode cX3_turned 1 = .ok (.iload_n 1, 1) := dk_27 (dk_at dksX3_turned_0 1 rfl rfl)
theorem dX3_turned_2 : decode cX3_turned 2 = .ok (.iushr, 1) := dk_124 (dk_at dksX3_turned_0 2 rfl rfl)
theorem dX3_turned_3 : decode cX3_turned 3 = .ok (.iload_n 0, 1) := dk_26 (dk_at dksX3_turned_0 3 rfl rfl)
theorem dX3_turned_4 : decode cX3_turned 4 = .ok (.bipush 32, 2) := dk_16 32 (dk_at dksX3_turned_0 4 rfl rfl)
theorem dX3_turned_6 : decode cX3_turned 6 = .ok (.iload_n 1, 1) := dk_27 (dk_at dksX3_turned_0 6 rfl rfl)
theorem dX3_turned_7 : decode cX3_turned 7 = .ok (.isub, 1) := dk_100 (dk_at dksX3_turned_0 7 rfl rfl)
theorem dX3_turned_8 : decode cX3_turned 8 = .ok (.ishl, 1) := dk_120 (dk_at dksX3_turned_0 8 rfl rfl)
theorem dX3_turned_9 : decode cX3_turned 9 = .ok (.ior, 1) := dk_128 (dk_at dksX3_turned_0 9 rfl rfl)
theorem dX3_turned_10 : decode cX3_turned 10 = .ok (.ireturn, 1) := dk_172 (dk_at dksX3_turned_0 10 rfl rfl)
abbrev cX3_drop : ByteArray := prog_4_method_15_code
def yX3_drop : MethodName := ⟨RX3, "drop", "()V"⟩
def dkwX3_drop_0 : List UInt8 := [42, 3, 181, 0, 27, 177]
abbrev dktX3_drop_0 : List UInt8 := dkwX3_drop_0 ++ []
theorem dksX3_drop_0 : cX3_drop.data.toList.drop 0 = dktX3_drop_0 := by decide +kernel
theorem dX3_drop_0 : decode cX3_drop 0 = .ok (.aload_n 0, 1) := dk_42 (dk_at dksX3_drop_0 0 rfl rfl)
theorem dX3_drop_1 : decode cX3_drop 1 = .ok (.iconst 0, 1) := dk_3 (dk_at dksX3_drop_0 1 rfl rfl)
theorem dX3_drop_2 : decode cX3_drop 2 = .ok (.putfield 27, 3) := dk_181 0 27 (dk_at dksX3_drop_0 2 rfl rfl)
theorem dX3_drop_5 : decode cX3_drop 5 = .ok (.return_, 1) := dk_177 (dk_at dksX3_drop_0 5 rfl rfl)
abbrev cX3_out : ByteArray := prog_4_method_16_code
def yX3_out : MethodName := ⟨RX3, "out", "(I)I"⟩
def dkwX3_out_0 : List UInt8 := [42, 180, 0, 20, 27, 18, 60, 126, 16, 32, 112, 46, 172]
abbrev dktX3_out_0 : List UInt8 := dkwX3_out_0 ++ []
theorem dksX3_out_0 : cX3_out.data.toList.drop 0 = dktX3_out_0 := by decide +kernel
theorem dX3_out_0 : decode cX3_out 0 = .ok (.aload_n 0, 1) := dk_42 (dk_at dksX3_out_0 0 rfl rfl)
theorem dX3_out_1 : decode cX3_out 1 = .ok (.getfield 20, 3) := dk_180 0 20 (dk_at dksX3_out_0 1 rfl rfl)
theorem dX3_out_4 : decode cX3_out 4 = .ok (.iload_n 1, 1) := dk_27 (dk_at dksX3_out_0 4 rfl rfl)
theorem dX3_out_5 : decode cX3_out 5 = .ok (.ldc 60, 2) := dk_18 60 (dk_at dksX3_out_0 5 rfl rfl)
theorem dX3_out_7 : decode cX3_out 7 = .ok (.iand, 1) := dk_126 (dk_at dksX3_out_0 7 rfl rfl)
theorem dX3_out_8 : decode cX3_out 8 = .ok (.bipush 32, 2) := dk_16 32 (dk_at dksX3_out_0 8 rfl rfl)
theorem dX3_out_10 : decode cX3_out 10 = .ok (.irem, 1) := dk_112 (dk_at dksX3_out_0 10 rfl rfl)
theorem dX3_out_11 : decode cX3_out 11 = .ok (.iaload, 1) := dk_46 (dk_at dksX3_out_0 11 rfl rfl)
theorem dX3_out_12 : decode cX3_out 12 = .ok (.ireturn, 1) := dk_172 (dk_at dksX3_out_0 12 rfl rfl)
theorem q25 : (Jvm.Cond.initialized "BlakeShortDeskModel") ∈ lw_all := lw_g (lw_at lw_m1 11 rfl) rfl
theorem q380 : (Jvm.Cond.instantiable "BlakeShortDeskModel" (6 : Nat)) ∈ lw_all := lw_g (lw_at lw_m2 126 rfl) rfl
theorem q382 : (Jvm.Cond.instanceMethod ({ cls := "BlakeShortDeskModel", name := "<init>", desc := "()V" } : Jvm.MethodName)) ∈ lw_all := lw_g (lw_at lw_m2 128 rfl) rfl
theorem q383 : (Jvm.Cond.code ({ cls := "BlakeShortDeskModel", name := "<init>", desc := "()V" } : Jvm.MethodName) prog_4_method_1_code (1 : Nat) (Option.none : Option Jvm.ClassFile.FieldType)) ∈ lw_all := lw_g (lw_at lw_m2 129 rfl) rfl
theorem q384 : (Jvm.Cond.methodLink "BlakeShortDeskModel" (1 : Nat) ({ cls := "java/lang/Object", name := "<init>", desc := "()V" } : Jvm.MethodName)) ∈ lw_all := lw_g (lw_at lw_m2 130 rfl) rfl
theorem q385 : (Jvm.Cond.fieldLink "BlakeShortDeskModel" (7 : Nat) "BlakeShortDeskModel" "text" "[I") ∈ lw_all := lw_g (lw_at lw_m2 131 rfl) rfl
theorem q386 : (Jvm.Cond.fieldLink "BlakeShortDeskModel" (53 : Nat) "BlakeShortDeskModel" "size" "I") ∈ lw_all := lw_g (lw_at lw_m2 132 rfl) rfl
theorem q387 : (Jvm.Cond.fieldLink "BlakeShortDeskModel" (13 : Nat) "BlakeShortDeskModel" "message" "[I") ∈ lw_all := lw_g (lw_at lw_m2 133 rfl) rfl
theorem q388 : (Jvm.Cond.fieldLink "BlakeShortDeskModel" (27 : Nat) "BlakeShortDeskModel" "fed" "I") ∈ lw_all := lw_g (lw_at lw_m2 134 rfl) rfl
theorem q389 : (Jvm.Cond.fieldLink "BlakeShortDeskModel" (16 : Nat) "BlakeShortDeskModel" "bytes" "I") ∈ lw_all := lw_g (lw_at lw_m2 135 rfl) rfl
theorem q390 : (Jvm.Cond.fieldLink "BlakeShortDeskModel" (20 : Nat) "BlakeShortDeskModel" "out" "[I") ∈ lw_all := lw_g (lw_at lw_m2 136 rfl) rfl
theorem q391 : (Jvm.Cond.laysFinal "BlakeShortDeskModel" "BlakeShortDeskModel" "text" "[I") ∈ lw_all := lw_g (lw_at lw_m2 137 rfl) rfl
theorem q392 : (Jvm.Cond.soleField "BlakeShortDeskModel" "text") ∈ lw_all := lw_g (lw_at lw_m2 138 rfl) rfl
theorem q393 : (Jvm.Cond.lays "BlakeShortDeskModel" "BlakeShortDeskModel" "size" "I") ∈ lw_all := lw_g (lw_at lw_m2 139 rfl) rfl
theorem q394 : (Jvm.Cond.soleField "BlakeShortDeskModel" "size") ∈ lw_all := lw_g (lw_at lw_m2 140 rfl) rfl
theorem q395 : (Jvm.Cond.laysFinal "BlakeShortDeskModel" "BlakeShortDeskModel" "message" "[I") ∈ lw_all := lw_g (lw_at lw_m2 141 rfl) rfl
theorem q396 : (Jvm.Cond.soleField "BlakeShortDeskModel" "message") ∈ lw_all := lw_g (lw_at lw_m2 142 rfl) rfl
theorem q397 : (Jvm.Cond.lays "BlakeShortDeskModel" "BlakeShortDeskModel" "fed" "I") ∈ lw_all := lw_g (lw_at lw_m2 143 rfl) rfl
theorem q398 : (Jvm.Cond.soleField "BlakeShortDeskModel" "fed") ∈ lw_all := lw_g (lw_at lw_m2 144 rfl) rfl
theorem q399 : (Jvm.Cond.lays "BlakeShortDeskModel" "BlakeShortDeskModel" "bytes" "I") ∈ lw_all := lw_g (lw_at lw_m2 145 rfl) rfl
theorem q400 : (Jvm.Cond.soleField "BlakeShortDeskModel" "bytes") ∈ lw_all := lw_g (lw_at lw_m2 146 rfl) rfl
theorem q401 : (Jvm.Cond.laysFinal "BlakeShortDeskModel" "BlakeShortDeskModel" "out" "[I") ∈ lw_all := lw_g (lw_at lw_m2 147 rfl) rfl
theorem q402 : (Jvm.Cond.soleField "BlakeShortDeskModel" "out") ∈ lw_all := lw_g (lw_at lw_m2 148 rfl) rfl
theorem q403 : (Jvm.Cond.superclass "BlakeShortDeskModel" "java/lang/Object") ∈ lw_all := lw_g (lw_at lw_m2 149 rfl) rfl
theorem q405 : (Jvm.Cond.instanceMethod ({ cls := "BlakeShortDeskModel", name := "put", desc := "(IIII)Z" } : Jvm.MethodName)) ∈ lw_all := lw_g (lw_at lw_m2 151 rfl) rfl
theorem q406 : (Jvm.Cond.selects "BlakeShortDeskModel" ({ cls := "BlakeShortDeskModel", name := "put", desc := "(IIII)Z" } : Jvm.MethodName) ({ cls := "BlakeShortDeskModel", name := "put", desc := "(IIII)Z" } : Jvm.MethodName)) ∈ lw_all := lw_g (lw_at lw_m2 152 rfl) rfl
theorem q407 : (Jvm.Cond.code ({ cls := "BlakeShortDeskModel", name := "put", desc := "(IIII)Z" } : Jvm.MethodName) prog_4_method_8_code (5 : Nat) (Option.some Jvm.ClassFile.FieldType.boolean)) ∈ lw_all := lw_g (lw_at lw_m2 153 rfl) rfl
theorem q408 : (Jvm.Cond.methodLink "BlakeShortDeskModel" (56 : Nat) ({ cls := "BlakeShortDeskModel", name := "word", desc := "(II)V" } : Jvm.MethodName)) ∈ lw_all := lw_g (lw_at lw_m2 154 rfl) rfl
theorem q409 : (Jvm.Cond.privateMethod ({ cls := "BlakeShortDeskModel", name := "word", desc := "(II)V" } : Jvm.MethodName)) ∈ lw_tbl := lw_at lw_m2 155 rfl
theorem q410 : (Jvm.Cond.instanceMethod ({ cls := "BlakeShortDeskModel", name := "word", desc := "(II)V" } : Jvm.MethodName)) ∈ lw_all := lw_g (lw_at lw_m2 156 rfl) rfl
theorem q411 : (Jvm.Cond.code ({ cls := "BlakeShortDeskModel", name := "word", desc := "(II)V" } : Jvm.MethodName) prog_4_method_7_code (4 : Nat) (Option.none : Option Jvm.ClassFile.FieldType)) ∈ lw_all := lw_g (lw_at lw_m2 157 rfl) rfl
theorem q413 : (Jvm.Cond.instanceMethod ({ cls := "BlakeShortDeskModel", name := "trim", desc := "(I)V" } : Jvm.MethodName)) ∈ lw_all := lw_g (lw_at lw_m2 159 rfl) rfl
theorem q414 : (Jvm.Cond.selects "BlakeShortDeskModel" ({ cls := "BlakeShortDeskModel", name := "trim", desc := "(I)V" } : Jvm.MethodName) ({ cls := "BlakeShortDeskModel", name := "trim", desc := "(I)V" } : Jvm.MethodName)) ∈ lw_all := lw_g (lw_at lw_m2 160 rfl) rfl
theorem q415 : (Jvm.Cond.code ({ cls := "BlakeShortDeskModel", name := "trim", desc := "(I)V" } : Jvm.MethodName) prog_4_method_10_code (2 : Nat) (Option.none : Option Jvm.ClassFile.FieldType)) ∈ lw_all := lw_g (lw_at lw_m2 161 rfl) rfl
theorem q416 : (Jvm.Cond.methodLink "BlakeShortDeskModel" (61 : Nat) ({ cls := "BlakeShortDeskModel", name := "from", desc := "(I)I" } : Jvm.MethodName)) ∈ lw_all := lw_g (lw_at lw_m2 162 rfl) rfl
theorem q417 : (Jvm.Cond.privateMethod ({ cls := "BlakeShortDeskModel", name := "from", desc := "(I)I" } : Jvm.MethodName)) ∈ lw_tbl := lw_at lw_m2 163 rfl
theorem q418 : (Jvm.Cond.instanceMethod ({ cls := "BlakeShortDeskModel", name := "from", desc := "(I)I" } : Jvm.MethodName)) ∈ lw_all := lw_g (lw_at lw_m2 164 rfl) rfl
theorem q419 : (Jvm.Cond.code ({ cls := "BlakeShortDeskModel", name := "from", desc := "(I)I" } : Jvm.MethodName) prog_4_method_9_code (2 : Nat) (Option.some Jvm.ClassFile.FieldType.int)) ∈ lw_all := lw_g (lw_at lw_m2 165 rfl) rfl
theorem q420 : (Jvm.Cond.constant "BlakeShortDeskModel" (60 : Nat) (2147483647 : Int32)) ∈ lw_all := lw_g (lw_at lw_m2 166 rfl) rfl
theorem q422 : (Jvm.Cond.instanceMethod ({ cls := "BlakeShortDeskModel", name := "begin", desc := "(I)V" } : Jvm.MethodName)) ∈ lw_all := lw_g (lw_at lw_m2 168 rfl) rfl
theorem q423 : (Jvm.Cond.selects "BlakeShortDeskModel" ({ cls := "BlakeShortDeskModel", name := "begin", desc := "(I)V" } : Jvm.MethodName) ({ cls := "BlakeShortDeskModel", name := "begin", desc := "(I)V" } : Jvm.MethodName)) ∈ lw_all := lw_g (lw_at lw_m2 169 rfl) rfl
theorem q424 : (Jvm.Cond.code ({ cls := "BlakeShortDeskModel", name := "begin", desc := "(I)V" } : Jvm.MethodName) prog_4_method_11_code (2 : Nat) (Option.none : Option Jvm.ClassFile.FieldType)) ∈ lw_all := lw_g (lw_at lw_m2 170 rfl) rfl
theorem q425 : (Jvm.Cond.fieldLink "BlakeShortDeskModel" (64 : Nat) "BlakeShortDeskModel" "SIZES" "[I") ∈ lw_all := lw_g (lw_at lw_m2 171 rfl) rfl
theorem q426 : (Jvm.Cond.laysStatic "BlakeShortDeskModel" "SIZES" "[I") ∈ lw_tbl := lw_at lw_m2 172 rfl
theorem q428 : (Jvm.Cond.instanceMethod ({ cls := "BlakeShortDeskModel", name := "feed", desc := "(II)Z" } : Jvm.MethodName)) ∈ lw_all := lw_g (lw_at lw_m2 174 rfl) rfl
theorem q429 : (Jvm.Cond.selects "BlakeShortDeskModel" ({ cls := "BlakeShortDeskModel", name := "feed", desc := "(II)Z" } : Jvm.MethodName) ({ cls := "BlakeShortDeskModel", name := "feed", desc := "(II)Z" } : Jvm.MethodName)) ∈ lw_all := lw_g (lw_at lw_m2 175 rfl) rfl
theorem q430 : (Jvm.Cond.code ({ cls := "BlakeShortDeskModel", name := "feed", desc := "(II)Z" } : Jvm.MethodName) prog_4_method_12_code (6 : Nat) (Option.some Jvm.ClassFile.FieldType.boolean)) ∈ lw_all := lw_g (lw_at lw_m2 176 rfl) rfl
theorem q432 : (Jvm.Cond.instanceMethod ({ cls := "BlakeShortDeskModel", name := "one", desc := "(I)Z" } : Jvm.MethodName)) ∈ lw_all := lw_g (lw_at lw_m2 178 rfl) rfl
theorem q433 : (Jvm.Cond.selects "BlakeShortDeskModel" ({ cls := "BlakeShortDeskModel", name := "one", desc := "(I)Z" } : Jvm.MethodName) ({ cls := "BlakeShortDeskModel", name := "one", desc := "(I)Z" } : Jvm.MethodName)) ∈ lw_all := lw_g (lw_at lw_m2 179 rfl) rfl
theorem q434 : (Jvm.Cond.code ({ cls := "BlakeShortDeskModel", name := "one", desc := "(I)Z" } : Jvm.MethodName) prog_4_method_13_code (2 : Nat) (Option.some Jvm.ClassFile.FieldType.boolean)) ∈ lw_all := lw_g (lw_at lw_m2 180 rfl) rfl
theorem q436 : (Jvm.Cond.instanceMethod ({ cls := "BlakeShortDeskModel", name := "close", desc := "()I" } : Jvm.MethodName)) ∈ lw_all := lw_g (lw_at lw_m2 182 rfl) rfl
theorem q437 : (Jvm.Cond.selects "BlakeShortDeskModel" ({ cls := "BlakeShortDeskModel", name := "close", desc := "()I" } : Jvm.MethodName) ({ cls := "BlakeShortDeskModel", name := "close", desc := "()I" } : Jvm.MethodName)) ∈ lw_all := lw_g (lw_at lw_m2 183 rfl) rfl
theorem q438 : (Jvm.Cond.code ({ cls := "BlakeShortDeskModel", name := "close", desc := "()I" } : Jvm.MethodName) prog_4_method_14_code (3 : Nat) (Option.some Jvm.ClassFile.FieldType.int)) ∈ lw_all := lw_g (lw_at lw_m2 184 rfl) rfl
theorem q439 : (Jvm.Cond.methodLink "BlakeShortDeskModel" (67 : Nat) ({ cls := "BlakeShortDeskModel", name := "digest", desc := "()[I" } : Jvm.MethodName)) ∈ lw_all := lw_g (lw_at lw_m2 185 rfl) rfl
theorem q440 : (Jvm.Cond.privateMethod ({ cls := "BlakeShortDeskModel", name := "digest", desc := "()[I" } : Jvm.MethodName)) ∈ lw_tbl := lw_at lw_m2 186 rfl
theorem q441 : (Jvm.Cond.instanceMethod ({ cls := "BlakeShortDeskModel", name := "digest", desc := "()[I" } : Jvm.MethodName)) ∈ lw_all := lw_g (lw_at lw_m2 187 rfl) rfl
theorem q442 : (Jvm.Cond.code ({ cls := "BlakeShortDeskModel", name := "digest", desc := "()[I" } : Jvm.MethodName) prog_4_method_6_code (3 : Nat) (Option.some (Jvm.ClassFile.FieldType.array Jvm.ClassFile.FieldType.int))) ∈ lw_all := lw_g (lw_at lw_m2 188 rfl) rfl
theorem q443 : (Jvm.Cond.fieldLink "BlakeShortDeskModel" (34 : Nat) "BlakeShortDeskModel" "FIRST" "[I") ∈ lw_all := lw_g (lw_at lw_m2 189 rfl) rfl
theorem q444 : (Jvm.Cond.laysStatic "BlakeShortDeskModel" "FIRST" "[I") ∈ lw_tbl := lw_at lw_m2 190 rfl
theorem q445 : (Jvm.Cond.constant "BlakeShortDeskModel" (48 : Nat) (16842752 : Int32)) ∈ lw_all := lw_g (lw_at lw_m2 191 rfl) rfl
theorem q446 : (Jvm.Cond.methodLink "BlakeShortDeskModel" (49 : Nat) ({ cls := "BlakeShortDeskModel", name := "compresses", desc := "([IIIZ)V" } : Jvm.MethodName)) ∈ lw_all := lw_g (lw_at lw_m2 192 rfl) rfl
theorem q447 : (Jvm.Cond.privateMethod ({ cls := "BlakeShortDeskModel", name := "compresses", desc := "([IIIZ)V" } : Jvm.MethodName)) ∈ lw_tbl := lw_at lw_m2 193 rfl
theorem q448 : (Jvm.Cond.instanceMethod ({ cls := "BlakeShortDeskModel", name := "compresses", desc := "([IIIZ)V" } : Jvm.MethodName)) ∈ lw_all := lw_g (lw_at lw_m2 194 rfl) rfl
theorem q449 : (Jvm.Cond.code ({ cls := "BlakeShortDeskModel", name := "compresses", desc := "([IIIZ)V" } : Jvm.MethodName) prog_4_method_5_code (12 : Nat) (Option.none : Option Jvm.ClassFile.FieldType)) ∈ lw_all := lw_g (lw_at lw_m2 195 rfl) rfl
theorem q450 : (Jvm.Cond.methodLink "BlakeShortDeskModel" (30 : Nat) ({ cls := "BlakeShortDeskModel", name := "wordAt", desc := "(I)I" } : Jvm.MethodName)) ∈ lw_all := lw_g (lw_at lw_m2 196 rfl) rfl
theorem q451 : (Jvm.Cond.privateMethod ({ cls := "BlakeShortDeskModel", name := "wordAt", desc := "(I)I" } : Jvm.MethodName)) ∈ lw_tbl := lw_at lw_m2 197 rfl
theorem q452 : (Jvm.Cond.instanceMethod ({ cls := "BlakeShortDeskModel", name := "wordAt", desc := "(I)I" } : Jvm.MethodName)) ∈ lw_all := lw_g (lw_at lw_m2 198 rfl) rfl
theorem q453 : (Jvm.Cond.code ({ cls := "BlakeShortDeskModel", name := "wordAt", desc := "(I)I" } : Jvm.MethodName) prog_4_method_4_code (4 : Nat) (Option.some Jvm.ClassFile.FieldType.int)) ∈ lw_all := lw_g (lw_at lw_m2 199 rfl) rfl
theorem q454 : (Jvm.Cond.fieldLink "BlakeShortDeskModel" (37 : Nat) "BlakeShortDeskModel" "ORDERS" "[[I") ∈ lw_all := lw_g (lw_at lw_m2 200 rfl) rfl
theorem q455 : (Jvm.Cond.laysStatic "BlakeShortDeskModel" "ORDERS" "[[I") ∈ lw_tbl := lw_at lw_m2 201 rfl
theorem q456 : (Jvm.Cond.fieldLink "BlakeShortDeskModel" (41 : Nat) "BlakeShortDeskModel" "WORDS" "[[I") ∈ lw_all := lw_g (lw_at lw_m2 202 rfl) rfl
theorem q457 : (Jvm.Cond.laysStatic "BlakeShortDeskModel" "WORDS" "[[I") ∈ lw_tbl := lw_at lw_m2 203 rfl
theorem q458 : (Jvm.Cond.methodLink "BlakeShortDeskModel" (44 : Nat) ({ cls := "BlakeShortDeskModel", name := "mixes", desc := "([I[III)V" } : Jvm.MethodName)) ∈ lw_all := lw_g (lw_at lw_m2 204 rfl) rfl
theorem q459 : (Jvm.Cond.static ({ cls := "BlakeShortDeskModel", name := "mixes", desc := "([I[III)V" } : Jvm.MethodName)) ∈ lw_all := lw_g (lw_at lw_m2 205 rfl) rfl
theorem q460 : (Jvm.Cond.code ({ cls := "BlakeShortDeskModel", name := "mixes", desc := "([I[III)V" } : Jvm.MethodName) prog_4_method_3_code (4 : Nat) (Option.none : Option Jvm.ClassFile.FieldType)) ∈ lw_all := lw_g (lw_at lw_m2 206 rfl) rfl
theorem q461 : (Jvm.Cond.methodLink "BlakeShortDeskModel" (23 : Nat) ({ cls := "BlakeShortDeskModel", name := "turned", desc := "(II)I" } : Jvm.MethodName)) ∈ lw_all := lw_g (lw_at lw_m2 207 rfl) rfl
theorem q462 : (Jvm.Cond.static ({ cls := "BlakeShortDeskModel", name := "turned", desc := "(II)I" } : Jvm.MethodName)) ∈ lw_all := lw_g (lw_at lw_m2 208 rfl) rfl
theorem q463 : (Jvm.Cond.code ({ cls := "BlakeShortDeskModel", name := "turned", desc := "(II)I" } : Jvm.MethodName) prog_4_method_2_code (2 : Nat) (Option.some Jvm.ClassFile.FieldType.int)) ∈ lw_all := lw_g (lw_at lw_m2 209 rfl) rfl
theorem q465 : (Jvm.Cond.instanceMethod ({ cls := "BlakeShortDeskModel", name := "drop", desc := "()V" } : Jvm.MethodName)) ∈ lw_all := lw_g (lw_at lw_m2 211 rfl) rfl
theorem q466 : (Jvm.Cond.selects "BlakeShortDeskModel" ({ cls := "BlakeShortDeskModel", name := "drop", desc := "()V" } : Jvm.MethodName) ({ cls := "BlakeShortDeskModel", name := "drop", desc := "()V" } : Jvm.MethodName)) ∈ lw_all := lw_g (lw_at lw_m2 212 rfl) rfl
theorem q467 : (Jvm.Cond.code ({ cls := "BlakeShortDeskModel", name := "drop", desc := "()V" } : Jvm.MethodName) prog_4_method_15_code (1 : Nat) (Option.none : Option Jvm.ClassFile.FieldType)) ∈ lw_all := lw_g (lw_at lw_m2 213 rfl) rfl
theorem q469 : (Jvm.Cond.instanceMethod ({ cls := "BlakeShortDeskModel", name := "out", desc := "(I)I" } : Jvm.MethodName)) ∈ lw_all := lw_g (lw_at lw_m2 215 rfl) rfl
theorem q470 : (Jvm.Cond.selects "BlakeShortDeskModel" ({ cls := "BlakeShortDeskModel", name := "out", desc := "(I)I" } : Jvm.MethodName) ({ cls := "BlakeShortDeskModel", name := "out", desc := "(I)I" } : Jvm.MethodName)) ∈ lw_all := lw_g (lw_at lw_m2 216 rfl) rfl
theorem q471 : (Jvm.Cond.code ({ cls := "BlakeShortDeskModel", name := "out", desc := "(I)I" } : Jvm.MethodName) prog_4_method_16_code (2 : Nat) (Option.some Jvm.ClassFile.FieldType.int)) ∈ lw_all := lw_g (lw_at lw_m2 217 rfl) rfl
theorem in_X3 : ∀ w ∈ wsX30, w ∈ lw_all := lw_in wsX30 [391, 393, 395, 397, 399, 401] (by decide +kernel) (by decide +kernel)
end
section
/-! the law's own entry -/
set_option maxRecDepth 100000
abbrev cL_law : ByteArray := code
def dkwL_law_11 : List UInt8 := [46, 182, 0, 50, 159, 0, 5, 3, 172, 132, 3, 6, 167, 254, 249, 4, 172]
abbrev dktL_law_11 : List UInt8 := dkwL_law_11 ++ []
def dkwL_law_10 : List UInt8 := [182, 0, 42, 44, 182, 0, 45, 167, 0, 26, 43, 42, 29, 4, 96, 46, 182, 0, 46, 44, 42, 29, 4, 96]
abbrev dktL_law_10 : List UInt8 := dkwL_law_10 ++ dktL_law_11
def dkwL_law_9 : List UInt8 := [182, 0, 36, 159, 0, 52, 3, 172, 43, 182, 0, 37, 44, 182, 0, 41, 159, 0, 39, 3, 172, 43]
abbrev dktL_law_9 : List UInt8 := dkwL_law_9 ++ dktL_law_10
def dkwL_law_8 : List UInt8 := [46, 182, 0, 31, 159, 0, 75, 3, 172, 43, 42, 29, 4, 96, 46, 182, 0, 32, 44, 42, 29, 4, 96, 46]
abbrev dktL_law_8 : List UInt8 := dkwL_law_8 ++ dktL_law_9
def dkwL_law_7 : List UInt8 := [43, 42, 29, 4, 96, 46, 42, 29, 5, 96, 46, 182, 0, 27, 44, 42, 29, 4, 96, 46, 42, 29, 5, 96]
abbrev dktL_law_7 : List UInt8 := dkwL_law_7 ++ dktL_law_8
def dkwL_law_6 : List UInt8 := [167, 0, 127, 43, 42, 29, 4, 96, 46, 182, 0, 23, 44, 42, 29, 4, 96, 46, 182, 0, 26, 167, 0, 106]
abbrev dktL_law_6 : List UInt8 := dkwL_law_6 ++ dktL_law_7
def dkwL_law_5 : List UInt8 := [159, 0, 150, 3, 172, 43, 42, 29, 4, 96, 46, 182, 0, 18, 44, 42, 29, 4, 96, 46, 182, 0, 22]
abbrev dktL_law_5 : List UInt8 := dkwL_law_5 ++ dktL_law_6
def dkwL_law_4 : List UInt8 := [44, 42, 29, 4, 96, 46, 42, 29, 5, 96, 46, 42, 29, 6, 96, 46, 42, 29, 7, 96, 46, 182, 0, 17]
abbrev dktL_law_4 : List UInt8 := dkwL_law_4 ++ dktL_law_5
def dkwL_law_3 : List UInt8 := [43, 42, 29, 4, 96, 46, 42, 29, 5, 96, 46, 42, 29, 6, 96, 46, 42, 29, 7, 96, 46, 182, 0, 13]
abbrev dktL_law_3 : List UInt8 := dkwL_law_3 ++ dktL_law_4
def dkwL_law_2 : List UInt8 := [170, 0, 0, 0, 0, 0, 245, 0, 0, 0, 0, 0, 0, 0, 7, 0, 0, 0, 47, 0, 0, 0, 100, 0, 0, 0, 121, 0, 0, 0, 142, 0, 0, 0, 175, 0, 0, 0, 198, 0, 0, 0, 211, 0, 0, 0, 222]
abbrev dktL_law_2 : List UInt8 := dkwL_law_2 ++ dktL_law_3
def dkwL_law_1 : List UInt8 := [163, 1, 4, 42, 29, 46, 16, 7, 126]
abbrev dktL_law_1 : List UInt8 := dkwL_law_1 ++ dktL_law_2
def dkwL_law_0 : List UInt8 := [187, 0, 7, 89, 183, 0, 9, 76, 187, 0, 10, 89, 183, 0, 12, 77, 3, 62, 29, 42, 190, 16, 6, 100]
abbrev dktL_law_0 : List UInt8 := dkwL_law_0 ++ dktL_law_1
theorem dksL_law_0 : cL_law.data.toList.drop 0 = dktL_law_0 := by decide +kernel
theorem dksL_law_1 : cL_law.data.toList.drop 24 = dktL_law_1 := dk_seg dksL_law_0 24 rfl rfl
theorem dksL_law_2 : cL_law.data.toList.drop 33 = dktL_law_2 := dk_seg dksL_law_1 9 rfl rfl
theorem dksL_law_3 : cL_law.data.toList.drop 80 = dktL_law_3 := dk_seg dksL_law_2 47 rfl rfl
theorem dksL_law_4 : cL_law.data.toList.drop 104 = dktL_law_4 := dk_seg dksL_law_3 24 rfl rfl
theorem dksL_law_5 : cL_law.data.toList.drop 128 = dktL_law_5 := dk_seg dksL_law_4 24 rfl rfl
theorem dksL_law_6 : cL_law.data.toList.drop 151 = dktL_law_6 := dk_seg dksL_law_5 23 rfl rfl
theorem dksL_law_7 : cL_law.data.toList.drop 175 = dktL_law_7 := dk_seg dksL_law_6 24 rfl rfl
theorem dksL_law_8 : cL_law.data.toList.drop 199 = dktL_law_8 := dk_seg dksL_law_7 24 rfl rfl
theorem dksL_law_9 : cL_law.data.toList.drop 223 = dktL_law_9 := dk_seg dksL_law_8 24 rfl rfl
theorem dksL_law_10 : cL_law.data.toList.drop 245 = dktL_law_10 := dk_seg dksL_law_9 22 rfl rfl
theorem dksL_law_11 : cL_law.data.toList.drop 269 = dktL_law_11 := dk_seg dksL_law_10 24 rfl rfl
theorem dL_law_0 : decode cL_law 0 = .ok (.new 7, 3) := dk_187 0 7 (dk_at dksL_law_0 0 rfl rfl)
theorem dL_law_3 : decode cL_law 3 = .ok (.dup, 1) := dk_89 (dk_at dksL_law_0 3 rfl rfl)
theorem dL_law_4 : decode cL_law 4 = .ok (.invokespecial 9, 3) := dk_183 0 9 (dk_at dksL_law_0 4 rfl rfl)
theorem dL_law_7 : decode cL_law 7 = .ok (.astore_n 1, 1) := dk_76 (dk_at dksL_law_0 7 rfl rfl)
theorem dL_law_8 : decode cL_law 8 = .ok (.new 10, 3) := dk_187 0 10 (dk_at dksL_law_0 8 rfl rfl)
theorem dL_law_11 : decode cL_law 11 = .ok (.dup, 1) := dk_89 (dk_at dksL_law_0 11 rfl rfl)
theorem dL_law_12 : decode cL_law 12 = .ok (.invokespecial 12, 3) := dk_183 0 12 (dk_at dksL_law_0 12 rfl rfl)
theorem dL_law_15 : decode cL_law 15 = .ok (.astore_n 2, 1) := dk_77 (dk_at dksL_law_0 15 rfl rfl)
theorem dL_law_16 : decode cL_law 16 = .ok (.iconst 0, 1) := dk_3 (dk_at dksL_law_0 16 rfl rfl)
theorem dL_law_17 : decode cL_law 17 = .ok (.istore_n 3, 1) := dk_62 (dk_at dksL_law_0 17 rfl rfl)
theorem dL_law_18 : decode cL_law 18 = .ok (.iload_n 3, 1) := dk_29 (dk_at dksL_law_0 18 rfl rfl)
theorem dL_law_19 : decode cL_law 19 = .ok (.aload_n 0, 1) := dk_42 (dk_at dksL_law_0 19 rfl rfl)
theorem dL_law_20 : decode cL_law 20 = .ok (.arraylength, 1) := dk_190 (dk_at dksL_law_0 20 rfl rfl)
theorem dL_law_21 : decode cL_law 21 = .ok (.bipush 6, 2) := dk_16 6 (dk_at dksL_law_0 21 rfl rfl)
theorem dL_law_23 : decode cL_law 23 = .ok (.isub, 1) := dk_100 (dk_at dksL_law_0 23 rfl rfl)
theorem dL_law_24 : decode cL_law 24 = .ok (.if_icmp .gt 260, 3) := dk_163 1 4 (dk_at dksL_law_1 0 rfl rfl)
theorem dL_law_27 : decode cL_law 27 = .ok (.aload_n 0, 1) := dk_42 (dk_at dksL_law_1 3 rfl rfl)
theorem dL_law_28 : decode cL_law 28 = .ok (.iload_n 3, 1) := dk_29 (dk_at dksL_law_1 4 rfl rfl)
theorem dL_law_29 : decode cL_law 29 = .ok (.iaload, 1) := dk_46 (dk_at dksL_law_1 5 rfl rfl)
theorem dL_law_30 : decode cL_law 30 = .ok (.bipush 7, 2) := dk_16 7 (dk_at dksL_law_1 6 rfl rfl)
theorem dL_law_32 : decode cL_law 32 = .ok (.iand, 1) := dk_126 (dk_at dksL_law_1 8 rfl rfl)
theorem dL_law_33 : decode cL_law 33 = .ok (.tableswitch 245 0 7 #[47, 100, 121, 142, 175, 198, 211, 222], 47) := by decide +kernel
theorem dL_law_80 : decode cL_law 80 = .ok (.aload_n 1, 1) := dk_43 (dk_at dksL_law_3 0 rfl rfl)
theorem dL_law_81 : decode cL_law 81 = .ok (.aload_n 0, 1) := dk_42 (dk_at dksL_law_3 1 rfl rfl)
theorem dL_law_82 : decode cL_law 82 = .ok (.iload_n 3, 1) := dk_29 (dk_at dksL_law_3 2 rfl rfl)
theorem dL_law_83 : decode cL_law 83 = .ok (.iconst 1, 1) := dk_4 (dk_at dksL_law_3 3 rfl rfl)
theorem dL_law_84 : decode cL_law 84 = .ok (.iadd, 1) := dk_96 (dk_at dksL_law_3 4 rfl rfl)
theorem dL_law_85 : decode cL_law 85 = .ok (.iaload, 1) := dk_46 (dk_at dksL_law_3 5 rfl rfl)
theorem dL_law_86 : decode cL_law 86 = .ok (.aload_n 0, 1) := dk_42 (dk_at dksL_law_3 6 rfl rfl)
theorem dL_law_87 : decode cL_law 87 = .ok (.iload_n 3, 1) := dk_29 (dk_at dksL_law_3 7 rfl rfl)
theorem dL_law_88 : decode cL_law 88 = .ok (.iconst 2, 1) := dk_5 (dk_at dksL_law_3 8 rfl rfl)
theorem dL_law_89 : decode cL_law 89 = .ok (.iadd, 1) := dk_96 (dk_at dksL_law_3 9 rfl rfl)
theorem dL_law_90 : decode cL_law 90 = .ok (.iaload, 1) := dk_46 (dk_at dksL_law_3 10 rfl rfl)
theorem dL_law_91 : decode cL_law 91 = .ok (.aload_n 0, 1) := dk_42 (dk_at dksL_law_3 11 rfl rfl)
theorem dL_law_92 : decode cL_law 92 = .ok (.iload_n 3, 1) := dk_29 (dk_at dksL_law_3 12 rfl rfl)
theorem dL_law_93 : decode cL_law 93 = .ok (.iconst 3, 1) := dk_6 (dk_at dksL_law_3 13 rfl rfl)
theorem dL_law_94 : decode cL_law 94 = .ok (.iadd, 1) := dk_96 (dk_at dksL_law_3 14 rfl rfl)
theorem dL_law_95 : decode cL_law 95 = .ok (.iaload, 1) := dk_46 (dk_at dksL_law_3 15 rfl rfl)
theorem dL_law_96 : decode cL_law 96 = .ok (.aload_n 0, 1) := dk_42 (dk_at dksL_law_3 16 rfl rfl)
theorem dL_law_97 : decode cL_law 97 = .ok (.iload_n 3, 1) := dk_29 (dk_at dksL_law_3 17 rfl rfl)
theorem dL_law_98 : decode cL_law 98 = .ok (.iconst 4, 1) := dk_7 (dk_at dksL_law_3 18 rfl rfl)
theorem dL_law_99 : decode cL_law 99 = .ok (.iadd, 1) := dk_96 (dk_at dksL_law_3 19 rfl rfl)
theorem dL_law_100 : decode cL_law 100 = .ok (.iaload, 1) := dk_46 (dk_at dksL_law_3 20 rfl rfl)
theorem dL_law_101 : decode cL_law 101 = .ok (.invokevirtual 13, 3) := dk_182 0 13 (dk_at dksL_law_3 21 rfl rfl)
theorem dL_law_104 : decode cL_law 104 = .ok (.aload_n 2, 1) := dk_44 (dk_at dksL_law_4 0 rfl rfl)
theorem dL_law_105 : decode cL_law 105 = .ok (.aload_n 0, 1) := dk_42 (dk_at dksL_law_4 1 rfl rfl)
theorem dL_law_106 : decode cL_law 106 = .ok (.iload_n 3, 1) := dk_29 (dk_at dksL_law_4 2 rfl rfl)
theorem dL_law_107 : decode cL_law 107 = .ok (.iconst 1, 1) := dk_4 (dk_at dksL_law_4 3 rfl rfl)
theorem dL_law_108 : decode cL_law 108 = .ok (.iadd, 1) := dk_96 (dk_at dksL_law_4 4 rfl rfl)
theorem dL_law_109 : decode cL_law 109 = .ok (.iaload, 1) := dk_46 (dk_at dksL_law_4 5 rfl rfl)
theorem dL_law_110 : decode cL_law 110 = .ok (.aload_n 0, 1) := dk_42 (dk_at dksL_law_4 6 rfl rfl)
theorem dL_law_111 : decode cL_law 111 = .ok (.iload_n 3, 1) := dk_29 (dk_at dksL_law_4 7 rfl rfl)
theorem dL_law_112 : decode cL_law 112 = .ok (.iconst 2, 1) := dk_5 (dk_at dksL_law_4 8 rfl rfl)
theorem dL_law_113 : decode cL_law 113 = .ok (.iadd, 1) := dk_96 (dk_at dksL_law_4 9 rfl rfl)
theorem dL_law_114 : decode cL_law 114 = .ok (.iaload, 1) := dk_46 (dk_at dksL_law_4 10 rfl rfl)
theorem dL_law_115 : decode cL_law 115 = .ok (.aload_n 0, 1) := dk_42 (dk_at dksL_law_4 11 rfl rfl)
theorem dL_law_116 : decode cL_law 116 = .ok (.iload_n 3, 1) := dk_29 (dk_at dksL_law_4 12 rfl rfl)
theorem dL_law_117 : decode cL_law 117 = .ok (.iconst 3, 1) := dk_6 (dk_at dksL_law_4 13 rfl rfl)
theorem dL_law_118 : decode cL_law 118 = .ok (.iadd, 1) := dk_96 (dk_at dksL_law_4 14 rfl rfl)
theorem dL_law_119 : decode cL_law 119 = .ok (.iaload, 1) := dk_46 (dk_at dksL_law_4 15 rfl rfl)
theorem dL_law_120 : decode cL_law 120 = .ok (.aload_n 0, 1) := dk_42 (dk_at dksL_law_4 16 rfl rfl)
theorem dL_law_121 : decode cL_law 121 = .ok (.iload_n 3, 1) := dk_29 (dk_at dksL_law_4 17 rfl rfl)
theorem dL_law_122 : decode cL_law 122 = .ok (.iconst 4, 1) := dk_7 (dk_at dksL_law_4 18 rfl rfl)
theorem dL_law_123 : decode cL_law 123 = .ok (.iadd, 1) := dk_96 (dk_at dksL_law_4 19 rfl rfl)
theorem dL_law_124 : decode cL_law 124 = .ok (.iaload, 1) := dk_46 (dk_at dksL_law_4 20 rfl rfl)
theorem dL_law_125 : decode cL_law 125 = .ok (.invokevirtual 17, 3) := dk_182 0 17 (dk_at dksL_law_4 21 rfl rfl)
theorem dL_law_128 : decode cL_law 128 = .ok (.if_icmp .eq 150, 3) := dk_159 0 150 (dk_at dksL_law_5 0 rfl rfl)
theorem dL_law_131 : decode cL_law 131 = .ok (.iconst 0, 1) := dk_3 (dk_at dksL_law_5 3 rfl rfl)
theorem dL_law_132 : decode cL_law 132 = .ok (.ireturn, 1) := dk_172 (dk_at dksL_law_5 4 rfl rfl)
theorem dL_law_133 : decode cL_law 133 = .ok (.aload_n 1, 1) := dk_43 (dk_at dksL_law_5 5 rfl rfl)
theorem dL_law_134 : decode cL_law 134 = .ok (.aload_n 0, 1) := dk_42 (dk_at dksL_law_5 6 rfl rfl)
theorem dL_law_135 : decode cL_law 135 = .ok (.iload_n 3, 1) := dk_29 (dk_at dksL_law_5 7 rfl rfl)
theorem dL_law_136 : decode cL_law 136 = .ok (.iconst 1, 1) := dk_4 (dk_at dksL_law_5 8 rfl rfl)
theorem dL_law_137 : decode cL_law 137 = .ok (.iadd, 1) := dk_96 (dk_at dksL_law_5 9 rfl rfl)
theorem dL_law_138 : decode cL_law 138 = .ok (.iaload, 1) := dk_46 (dk_at dksL_law_5 10 rfl rfl)
theorem dL_law_139 : decode cL_law 139 = .ok (.invokevirtual 18, 3) := dk_182 0 18 (dk_at dksL_law_5 11 rfl rfl)
theorem dL_law_142 : decode cL_law 142 = .ok (.aload_n 2, 1) := dk_44 (dk_at dksL_law_5 14 rfl rfl)
theorem dL_law_143 : decode cL_law 143 = .ok (.aload_n 0, 1) := dk_42 (dk_at dksL_law_5 15 rfl rfl)
theorem dL_law_144 : decode cL_law 144 = .ok (.iload_n 3, 1) := dk_29 (dk_at dksL_law_5 16 rfl rfl)
theorem dL_law_145 : decode cL_law 145 = .ok (.iconst 1, 1) := dk_4 (dk_at dksL_law_5 17 rfl rfl)
theorem dL_law_146 : decode cL_law 146 = .ok (.iadd, 1) := dk_96 (dk_at dksL_law_5 18 rfl rfl)
theorem dL_law_147 : decode cL_law 147 = .ok (.iaload, 1) := dk_46 (dk_at dksL_law_5 19 rfl rfl)
theorem dL_law_148 : decode cL_law 148 = .ok (.invokevirtual 22, 3) := dk_182 0 22 (dk_at dksL_law_5 20 rfl rfl)
theorem dL_law_151 : decode cL_law 151 = .ok (.goto 127, 3) := dk_167 0 127 (dk_at dksL_law_6 0 rfl rfl)
theorem dL_law_154 : decode cL_law 154 = .ok (.aload_n 1, 1) := dk_43 (dk_at dksL_law_6 3 rfl rfl)
theorem dL_law_155 : decode cL_law 155 = .ok (.aload_n 0, 1) := dk_42 (dk_at dksL_law_6 4 rfl rfl)
theorem dL_law_156 : decode cL_law 156 = .ok (.iload_n 3, 1) := dk_29 (dk_at dksL_law_6 5 rfl rfl)
theorem dL_law_157 : decode cL_law 157 = .ok (.iconst 1, 1) := dk_4 (dk_at dksL_law_6 6 rfl rfl)
theorem dL_law_158 : decode cL_law 158 = .ok (.iadd, 1) := dk_96 (dk_at dksL_law_6 7 rfl rfl)
theorem dL_law_159 : decode cL_law 159 = .ok (.iaload, 1) := dk_46 (dk_at dksL_law_6 8 rfl rfl)
theorem dL_law_160 : decode cL_law 160 = .ok (.invokevirtual 23, 3) := dk_182 0 23 (dk_at dksL_law_6 9 rfl rfl)
theorem dL_law_163 : decode cL_law 163 = .ok (.aload_n 2, 1) := dk_44 (dk_at dksL_law_6 12 rfl rfl)
theorem dL_law_164 : decode cL_law 164 = .ok (.aload_n 0, 1) := dk_42 (dk_at dksL_law_6 13 rfl rfl)
theorem dL_law_165 : decode cL_law 165 = .ok (.iload_n 3, 1) := dk_29 (dk_at dksL_law_6 14 rfl rfl)
theorem dL_law_166 : decode cL_law 166 = .ok (.iconst 1, 1) := dk_4 (dk_at dksL_law_6 15 rfl rfl)
theorem dL_law_167 : decode cL_law 167 = .ok (.iadd, 1) := dk_96 (dk_at dksL_law_6 16 rfl rfl)
theorem dL_law_168 : decode cL_law 168 = .ok (.iaload, 1) := dk_46 (dk_at dksL_law_6 17 rfl rfl)
theorem dL_law_169 : decode cL_law 169 = .ok (.invokevirtual 26, 3) := dk_182 0 26 (dk_at dksL_law_6 18 rfl rfl)
theorem dL_law_172 : decode cL_law 172 = .ok (.goto 106, 3) := dk_167 0 106 (dk_at dksL_law_6 21 rfl rfl)
theorem dL_law_175 : decode cL_law 175 = .ok (.aload_n 1, 1) := dk_43 (dk_at dksL_law_7 0 rfl rfl)
theorem dL_law_176 : decode cL_law 176 = .ok (.aload_n 0, 1) := dk_42 (dk_at dksL_law_7 1 rfl rfl)
theorem dL_law_177 : decode cL_law 177 = .ok (.iload_n 3, 1) := dk_29 (dk_at dksL_law_7 2 rfl rfl)
theorem dL_law_178 : decode cL_law 178 = .ok (.iconst 1, 1) := dk_4 (dk_at dksL_law_7 3 rfl rfl)
theorem dL_law_179 : decode cL_law 179 = .ok (.iadd, 1) := dk_96 (dk_at dksL_law_7 4 rfl rfl)
theorem dL_law_180 : decode cL_law 180 = .ok (.iaload, 1) := dk_46 (dk_at dksL_law_7 5 rfl rfl)
theorem dL_law_181 : decode cL_law 181 = .ok (.aload_n 0, 1) := dk_42 (dk_at dksL_law_7 6 rfl rfl)
theorem dL_law_182 : decode cL_law 182 = .ok (.iload_n 3, 1) := dk_29 (dk_at dksL_law_7 7 rfl rfl)
theorem dL_law_183 : decode cL_law 183 = .ok (.iconst 2, 1) := dk_5 (dk_at dksL_law_7 8 rfl rfl)
theorem dL_law_184 : decode cL_law 184 = .ok (.iadd, 1) := dk_96 (dk_at dksL_law_7 9 rfl rfl)
theorem dL_law_185 : decode cL_law 185 = .ok (.iaload, 1) := dk_46 (dk_at dksL_law_7 10 rfl rfl)
theorem dL_law_186 : decode cL_law 186 = .ok (.invokevirtual 27, 3) := dk_182 0 27 (dk_at dksL_law_7 11 rfl rfl)
theorem dL_law_189 : decode cL_law 189 = .ok (.aload_n 2, 1) := dk_44 (dk_at dksL_law_7 14 rfl rfl)
theorem dL_law_190 : decode cL_law 190 = .ok (.aload_n 0, 1) := dk_42 (dk_at dksL_law_7 15 rfl rfl)
theorem dL_law_191 : decode cL_law 191 = .ok (.iload_n 3, 1) := dk_29 (dk_at dksL_law_7 16 rfl rfl)
theorem dL_law_192 : decode cL_law 192 = .ok (.iconst 1, 1) := dk_4 (dk_at dksL_law_7 17 rfl rfl)
theorem dL_law_193 : decode cL_law 193 = .ok (.iadd, 1) := dk_96 (dk_at dksL_law_7 18 rfl rfl)
theorem dL_law_194 : decode cL_law 194 = .ok (.iaload, 1) := dk_46 (dk_at dksL_law_7 19 rfl rfl)
theorem dL_law_195 : decode cL_law 195 = .ok (.aload_n 0, 1) := dk_42 (dk_at dksL_law_7 20 rfl rfl)
theorem dL_law_196 : decode cL_law 196 = .ok (.iload_n 3, 1) := dk_29 (dk_at dksL_law_7 21 rfl rfl)
theorem dL_law_197 : decode cL_law 197 = .ok (.iconst 2, 1) := dk_5 (dk_at dksL_law_7 22 rfl rfl)
theorem dL_law_198 : decode cL_law 198 = .ok (.iadd, 1) := dk_96 (dk_at dksL_law_7 23 rfl rfl)
theorem dL_law_199 : decode cL_law 199 = .ok (.iaload, 1) := dk_46 (dk_at dksL_law_8 0 rfl rfl)
theorem dL_law_200 : decode cL_law 200 = .ok (.invokevirtual 31, 3) := dk_182 0 31 (dk_at dksL_law_8 1 rfl rfl)
theorem dL_law_203 : decode cL_law 203 = .ok (.if_icmp .eq 75, 3) := dk_159 0 75 (dk_at dksL_law_8 4 rfl rfl)
theorem dL_law_206 : decode cL_law 206 = .ok (.iconst 0, 1) := dk_3 (dk_at dksL_law_8 7 rfl rfl)
theorem dL_law_207 : decode cL_law 207 = .ok (.ireturn, 1) := dk_172 (dk_at dksL_law_8 8 rfl rfl)
theorem dL_law_208 : decode cL_law 208 = .ok (.aload_n 1, 1) := dk_43 (dk_at dksL_law_8 9 rfl rfl)
theorem dL_law_209 : decode cL_law 209 = .ok (.aload_n 0, 1) := dk_42 (dk_at dksL_law_8 10 rfl rfl)
theorem dL_law_210 : decode cL_law 210 = .ok (.iload_n 3, 1) := dk_29 (dk_at dksL_law_8 11 rfl rfl)
theorem dL_law_211 : decode cL_law 211 = .ok (.iconst 1, 1) := dk_4 (dk_at dksL_law_8 12 rfl rfl)
theorem dL_law_212 : decode cL_law 212 = .ok (.iadd, 1) := dk_96 (dk_at dksL_law_8 13 rfl rfl)
theorem dL_law_213 : decode cL_law 213 = .ok (.iaload, 1) := dk_46 (dk_at dksL_law_8 14 rfl rfl)
theorem dL_law_214 : decode cL_law 214 = .ok (.invokevirtual 32, 3) := dk_182 0 32 (dk_at dksL_law_8 15 rfl rfl)
theorem dL_law_217 : decode cL_law 217 = .ok (.aload_n 2, 1) := dk_44 (dk_at dksL_law_8 18 rfl rfl)
theorem dL_law_218 : decode cL_law 218 = .ok (.aload_n 0, 1) := dk_42 (dk_at dksL_law_8 19 rfl rfl)
theorem dL_law_219 : decode cL_law 219 = .ok (.iload_n 3, 1) := dk_29 (dk_at dksL_law_8 20 rfl rfl)
theorem dL_law_220 : decode cL_law 220 = .ok (.iconst 1, 1) := dk_4 (dk_at dksL_law_8 21 rfl rfl)
theorem dL_law_221 : decode cL_law 221 = .ok (.iadd, 1) := dk_96 (dk_at dksL_law_8 22 rfl rfl)
theorem dL_law_222 : decode cL_law 222 = .ok (.iaload, 1) := dk_46 (dk_at dksL_law_8 23 rfl rfl)
theorem dL_law_223 : decode cL_law 223 = .ok (.invokevirtual 36, 3) := dk_182 0 36 (dk_at dksL_law_9 0 rfl rfl)
theorem dL_law_226 : decode cL_law 226 = .ok (.if_icmp .eq 52, 3) := dk_159 0 52 (dk_at dksL_law_9 3 rfl rfl)
theorem dL_law_229 : decode cL_law 229 = .ok (.iconst 0, 1) := dk_3 (dk_at dksL_law_9 6 rfl rfl)
theorem dL_law_230 : decode cL_law 230 = .ok (.ireturn, 1) := dk_172 (dk_at dksL_law_9 7 rfl rfl)
theorem dL_law_231 : decode cL_law 231 = .ok (.aload_n 1, 1) := dk_43 (dk_at dksL_law_9 8 rfl rfl)
theorem dL_law_232 : decode cL_law 232 = .ok (.invokevirtual 37, 3) := dk_182 0 37 (dk_at dksL_law_9 9 rfl rfl)
theorem dL_law_235 : decode cL_law 235 = .ok (.aload_n 2, 1) := dk_44 (dk_at dksL_law_9 12 rfl rfl)
theorem dL_law_236 : decode cL_law 236 = .ok (.invokevirtual 41, 3) := dk_182 0 41 (dk_at dksL_law_9 13 rfl rfl)
theorem dL_law_239 : decode cL_law 239 = .ok (.if_icmp .eq 39, 3) := dk_159 0 39 (dk_at dksL_law_9 16 rfl rfl)
theorem dL_law_242 : decode cL_law 242 = .ok (.iconst 0, 1) := dk_3 (dk_at dksL_law_9 19 rfl rfl)
theorem dL_law_243 : decode cL_law 243 = .ok (.ireturn, 1) := dk_172 (dk_at dksL_law_9 20 rfl rfl)
theorem dL_law_244 : decode cL_law 244 = .ok (.aload_n 1, 1) := dk_43 (dk_at dksL_law_9 21 rfl rfl)
theorem dL_law_245 : decode cL_law 245 = .ok (.invokevirtual 42, 3) := dk_182 0 42 (dk_at dksL_law_10 0 rfl rfl)
theorem dL_law_248 : decode cL_law 248 = .ok (.aload_n 2, 1) := dk_44 (dk_at dksL_law_10 3 rfl rfl)
theorem dL_law_249 : decode cL_law 249 = .ok (.invokevirtual 45, 3) := dk_182 0 45 (dk_at dksL_law_10 4 rfl rfl)
theorem dL_law_252 : decode cL_law 252 = .ok (.goto 26, 3) := dk_167 0 26 (dk_at dksL_law_10 7 rfl rfl)
theorem dL_law_255 : decode cL_law 255 = .ok (.aload_n 1, 1) := dk_43 (dk_at dksL_law_10 10 rfl rfl)
theorem dL_law_256 : decode cL_law 256 = .ok (.aload_n 0, 1) := dk_42 (dk_at dksL_law_10 11 rfl rfl)
theorem dL_law_257 : decode cL_law 257 = .ok (.iload_n 3, 1) := dk_29 (dk_at dksL_law_10 12 rfl rfl)
theorem dL_law_258 : decode cL_law 258 = .ok (.iconst 1, 1) := dk_4 (dk_at dksL_law_10 13 rfl rfl)
theorem dL_law_259 : decode cL_law 259 = .ok (.iadd, 1) := dk_96 (dk_at dksL_law_10 14 rfl rfl)
theorem dL_law_260 : decode cL_law 260 = .ok (.iaload, 1) := dk_46 (dk_at dksL_law_10 15 rfl rfl)
theorem dL_law_261 : decode cL_law 261 = .ok (.invokevirtual 46, 3) := dk_182 0 46 (dk_at dksL_law_10 16 rfl rfl)
theorem dL_law_264 : decode cL_law 264 = .ok (.aload_n 2, 1) := dk_44 (dk_at dksL_law_10 19 rfl rfl)
theorem dL_law_265 : decode cL_law 265 = .ok (.aload_n 0, 1) := dk_42 (dk_at dksL_law_10 20 rfl rfl)
theorem dL_law_266 : decode cL_law 266 = .ok (.iload_n 3, 1) := dk_29 (dk_at dksL_law_10 21 rfl rfl)
theorem dL_law_267 : decode cL_law 267 = .ok (.iconst 1, 1) := dk_4 (dk_at dksL_law_10 22 rfl rfl)
theorem dL_law_268 : decode cL_law 268 = .ok (.iadd, 1) := dk_96 (dk_at dksL_law_10 23 rfl rfl)
theorem dL_law_269 : decode cL_law 269 = .ok (.iaload, 1) := dk_46 (dk_at dksL_law_11 0 rfl rfl)
theorem dL_law_270 : decode cL_law 270 = .ok (.invokevirtual 50, 3) := dk_182 0 50 (dk_at dksL_law_11 1 rfl rfl)
theorem dL_law_273 : decode cL_law 273 = .ok (.if_icmp .eq 5, 3) := dk_159 0 5 (dk_at dksL_law_11 4 rfl rfl)
theorem dL_law_276 : decode cL_law 276 = .ok (.iconst 0, 1) := dk_3 (dk_at dksL_law_11 7 rfl rfl)
theorem dL_law_277 : decode cL_law 277 = .ok (.ireturn, 1) := dk_172 (dk_at dksL_law_11 8 rfl rfl)
theorem dL_law_278 : decode cL_law 278 = .ok (.iinc 3 6, 3) := dk_132 3 6 (dk_at dksL_law_11 9 rfl rfl)
theorem dL_law_281 : decode cL_law 281 = .ok (.goto (-263), 3) := dk_167 254 249 (dk_at dksL_law_11 12 rfl rfl)
theorem dL_law_284 : decode cL_law 284 = .ok (.iconst 1, 1) := dk_4 (dk_at dksL_law_11 15 rfl rfl)
theorem dL_law_285 : decode cL_law 285 = .ok (.ireturn, 1) := dk_172 (dk_at dksL_law_11 16 rfl rfl)
end
section
/-! THE PURE PICTURE: BLAKE2s over functions Nat → Int32; no program in sight -/
def ivF (j : Nat) : Int32 := match j with
  | 0 => 1779033703
  | 1 => -1150833019
  | 2 => 1013904242
  | 3 => -1521486534
  | 4 => 1359893119
  | 5 => -1694144372
  | 6 => 528734635
  | 7 => 1541459225
  | _ => 0
def sgL : List (List Nat) := [[0, 1, 2, 3, 4, 5, 6, 7, 8, 9, 10, 11, 12, 13, 14, 15], [14, 10, 4, 8, 9, 15, 13, 6, 1, 12, 0, 2, 11, 7, 5, 3], [11, 8, 12, 0, 5, 2, 15, 13, 10, 14, 3, 6, 7, 1, 9, 4], [7, 9, 3, 1, 13, 12, 11, 14, 2, 6, 5, 10, 4, 0, 15, 8], [9, 0, 5, 7, 2, 4, 10, 15, 14, 1, 11, 12, 6, 8, 3, 13], [2, 12, 6, 10, 0, 11, 8, 3, 4, 13, 7, 5, 15, 14, 1, 9], [12, 5, 1, 15, 14, 13, 4, 10, 0, 7, 6, 3, 9, 2, 8, 11], [13, 11, 7, 14, 12, 1, 3, 9, 5, 0, 15, 4, 8, 6, 2, 10], [6, 15, 14, 9, 11, 3, 0, 8, 12, 2, 13, 7, 1, 4, 10, 5], [10, 2, 8, 4, 7, 6, 1, 5, 15, 11, 9, 14, 3, 12, 13, 0]]
def sgF (r k : Nat) : Nat := (sgL.getD r []).getD k 0
def wdL : List (List Nat) := [[0, 4, 8, 12], [1, 5, 9, 13], [2, 6, 10, 14], [3, 7, 11, 15], [0, 5, 10, 15], [1, 6, 11, 12], [2, 7, 8, 13], [3, 4, 9, 14]]
def wdF (k i : Nat) : Nat := (wdL.getD k []).getD i 0
def szF (k : Nat) : Nat := ([32, 16, 20, 28] : List Nat).getD k 0
theorem sgF_lt : ∀ r, r < 10 → ∀ k, k < 16 → sgF r k < 16 := by decide +kernel
theorem wdF_lt : ∀ k, k < 8 → ∀ i, i < 4 → wdF k i < 16 := by decide +kernel
/-- a word turned to the right -/
def rotR (x d : Int32) : Int32 := (x.toUInt32 >>> (d.toUInt32 &&& Int32.toUInt32 31)).toInt32 ||| (x <<< ((-d) &&& 31))
theorem rotR_16 : ((nI 32 - nI 16) &&& 31 : Int32) = (-(nI 16)) &&& 31 := by decide +kernel
theorem rotR_12 : ((nI 32 - nI 12) &&& 31 : Int32) = (-(nI 12)) &&& 31 := by decide +kernel
theorem rotR_8 : ((nI 32 - nI 8) &&& 31 : Int32) = (-(nI 8)) &&& 31 := by decide +kernel
theorem rotR_7 : ((nI 32 - nI 7) &&& 31 : Int32) = (-(nI 7)) &&& 31 := by decide +kernel
/-- the steps of a mixing -/
def gA (v : Nat → Int32) (x : Int32) (a b : Nat) : Nat → Int32 := upd v a (v a + v b + x)
def gR (v : Nat → Int32) (d a : Nat) (n : Nat) : Nat → Int32 := upd v d (rotR (v d ^^^ v a) (nI n))
def gC (v : Nat → Int32) (c d : Nat) : Nat → Int32 := upd v c (v c + v d)
def gF (v : Nat → Int32) (x y : Int32) (a b c d : Nat) : Nat → Int32 := gR (gC (gR (gA (gR (gC (gR (gA v x a b) d a 16) c d) b c 12) y a b) d a 8) c d) b c 7
def mixF (m : Nat → Int32) (r k : Nat) (v : Nat → Int32) : Nat → Int32 := gF v (m (sgF r (2 * k))) (m (sgF r (2 * k + 1))) (wdF k 0) (wdF k 1) (wdF k 2) (wdF k 3)
def rndN (m : Nat → Int32) (r : Nat) : Nat → (Nat → Int32) → Nat → Int32
  | 0, v => v
  | k + 1, v => mixF m r k (rndN m r k v)
def allN (m : Nat → Int32) : Nat → (Nat → Int32) → Nat → Int32
  | 0, v => v
  | r + 1, v => rndN m r 8 (allN m r v)
def v0F (h : Nat → Int32) (t f : Int32) : Nat → Int32 := fun j => if j < 8 then h j else if j < 12 then ivF (j - 8) else if j = 12 then t ^^^ ivF 4 else if j = 13 then ivF 5 else if j = 14 then f ^^^ ivF 6 else if j = 15 then ivF 7 else 0
def cmpF (h m : Nat → Int32) (t f : Int32) : Nat → Int32 := fun j => if j < 8 then h j ^^^ (allN m 10 (v0F h t f) j ^^^ allN m 10 (v0F h t f) (j + 8)) else 0
/-- the first state -/
def ivH (d : Nat) : Nat → Int32 := fun j => if j = 0 then ivF 0 ^^^ (16842752 ^^^ nI d) else if j < 8 then ivF j else 0
/-- four bytes, the lowest first -/
def leF (b0 b1 b2 b3 : Int32) : Int32 := b0 &&& nI 255 ||| (b1 &&& nI 255) <<< (nI 8 &&& 31) ||| (b2 &&& nI 255) <<< (nI 16 &&& 31) ||| b3 <<< (nI 24 &&& 31)
def wrdF (f : Nat → Int32) (o : Nat) : Nat → Int32 := fun k => if k < 16 then leF (f (o + 4 * k)) (f (o + 4 * k + 1)) (f (o + 4 * k + 2)) (f (o + 4 * k + 3)) else 0
theorem wrdF_congr {f g : Nat → Int32} {o o' : Nat} (h : ∀ j, j < 64 → f (o + j) = g (o' + j)) : wrdF f o = wrdF g o' := by
  funext k
  unfold wrdF
  by_cases hk : k < 16
  · rw [if_pos hk, if_pos hk, h (4 * k) (by omega), Nat.add_assoc o, h (4 * k + 1) (by omega), Nat.add_assoc o, h (4 * k + 2) (by omega), Nat.add_assoc o, h (4 * k + 3) (by omega)]
    simp only [Nat.add_assoc]
  · rw [if_neg hk, if_neg hk]
/-- the message from o on, 0 behind its end -/
def padF (mf : Nat → Int32) (fed o : Nat) : Nat → Int32 := fun j => if o + j < fed then mf (o + j) else 0
/-- the state behind n whole blocks -/
def chN (d : Nat) (mf : Nat → Int32) : Nat → Nat → Int32
  | 0 => ivH d
  | n + 1 => cmpF (chN d mf n) (wrdF mf (64 * n)) (nI (64 * (n + 1))) (nI 0)
theorem chN_congr {d : Nat} {mf mg : Nat → Int32} : ∀ n, (∀ j, j < 64 * n → mf j = mg j) → chN d mf n = chN d mg n
  | 0, _ => rfl
  | n + 1, h => by
    show cmpF (chN d mf n) (wrdF mf (64 * n)) _ _ = cmpF (chN d mg n) (wrdF mg (64 * n)) _ _
    rw [chN_congr n (fun j hj => h j (by omega)), wrdF_congr (f := mf) (g := mg) (fun j hj => h (64 * n + j) (by omega))]
/-- the digest of the first fed bytes of mf -/
def dgF (d : Nat) (mf : Nat → Int32) (fed : Nat) : Nat → Int32 := cmpF (chN d mf ((fed - 1) / 64)) (wrdF (padF mf fed (64 * ((fed - 1) / 64))) 0) (nI fed) (-1)
/-- a digest's insides: n blocks are pressed, p bytes wait in the buffer -/
def bkOK (d : Nat) (mf : Nat → Int32) (fed n p : Nat) (buf ch : Nat → Int32) : Prop := fed = 64 * n + p ∧ p ≤ 64 ∧ (p = 0 → n = 0) ∧ ch = chN d mf n ∧ ∀ j, j < 64 → buf j = if j < p then mf (64 * n + j) else 0
/-- byte k of a state -/
def obF (g : Nat → Int32) (k : Nat) : Int32 := ((g (k / 4)).toUInt32 >>> ((nI (8 * (k % 4))).toUInt32 &&& Int32.toUInt32 31)).toInt32
/-- the first d bytes of a state laid over f -/
def outF (f g : Nat → Int32) (d : Nat) : Nat → Int32 := fun k => if k < d then (obF g k).toInt8.toInt32 else f k
/-- a number without its sign -/
def fN (f : Int32) : Nat := f.toBitVec.toNat % 2 ^ 31
theorem fN_and (f : Int32) : f &&& 2147483647 = nI (fN f) := pk_and f 31 (by decide +kernel)
theorem fN_lt (f : Int32) : fN f < 2147483648 := Nat.mod_lt _ (by decide)
/-- byte i of a word, the highest first, as an int -/
def wbF (w : Int32) (i : Nat) : Int32 := w >>> (nI (24 - 8 * i) &&& 31)
/-- four bytes laid over f from o on (desk), and the same without signs (model) -/
def pwF (f : Nat → Int32) (o : Nat) (w : Int32) : Nat → Int32 := fun j => if o ≤ j ∧ j < o + 4 then (wbF w (j - o)).toInt8.toInt32 else f j
def pmF (f : Nat → Int32) (o : Nat) (w : Int32) : Nat → Int32 := fun j => if o ≤ j ∧ j < o + 4 then wbF w (j - o) &&& nI 255 else f j
/-! ===== Int32 by its bits: bt x i ===== -/
def bt (x : Int32) (i : Nat) : Bool := x.toBitVec.getLsbD i
theorem b_ext {x y : Int32} (h : ∀ i, i < 32 → bt x i = bt y i) : x = y := Int32.toBitVec_inj.mp (BitVec.eq_of_getLsbD_eq (fun i hi => h i hi))
theorem b_or (x y : Int32) (i : Nat) : bt (x ||| y) i = (bt x i || bt y i) := by unfold bt; rw [Int32.toBitVec_or, BitVec.getLsbD_or]
theorem b_and (x y : Int32) (i : Nat) : bt (x &&& y) i = (bt x i && bt y i) := by unfold bt; rw [Int32.toBitVec_and, BitVec.getLsbD_and]
theorem b_xor (x y : Int32) (i : Nat) : bt (x ^^^ y) i = (bt x i ^^ bt y i) := by unfold bt; rw [Int32.toBitVec_xor, BitVec.getLsbD_xor]
theorem b_big {x : Int32} {i : Nat} (h : 32 ≤ i) : bt x i = false := BitVec.getLsbD_of_ge _ _ h
theorem b_255 (i : Nat) : bt 255 i = decide (i < 8) := by
  rcases Nat.lt_or_ge i 32 with h | h
  · exact (by decide +kernel : ∀ i, i < 32 → bt 255 i = decide (i < 8)) i h
  · rw [b_big h, decide_eq_false (by omega)]
theorem b_65535 (i : Nat) : bt 65535 i = decide (i < 16) := by
  rcases Nat.lt_or_ge i 32 with h | h
  · exact (by decide +kernel : ∀ i, i < 32 → bt 65535 i = decide (i < 16)) i h
  · rw [b_big h, decide_eq_false (by omega)]
theorem b_m1 : ∀ i, i < 32 → bt (-1) i = true := by decide +kernel
theorem b_0 (i : Nat) : bt 0 i = false := BitVec.getLsbD_zero
theorem s_l : ∀ n, n < 32 → ((nI n &&& 31).toBitVec.smod 32).toNat = n := by decide +kernel
theorem s_u : ∀ n, n < 32 → (((nI n).toUInt32 &&& Int32.toUInt32 31).toBitVec % 32).toNat = n := by decide +kernel
theorem b_shl (n : Nat) (hn : n < 32) (x : Int32) {i : Nat} (hi : i < 32) : bt (x <<< (nI n &&& 31)) i = (decide (n ≤ i) && bt x (i - n)) := by
  unfold bt
  rw [Int32.toBitVec_shiftLeft]
  show (x.toBitVec <<< ((nI n &&& 31).toBitVec.smod 32).toNat).getLsbD i = _
  rw [s_l n hn, BitVec.getLsbD_shiftLeft]
  rcases Nat.lt_or_ge i n with h | h
  · simp [h, Nat.not_le.mpr h]
  · simp [hi, h, Nat.not_lt.mpr h]
theorem b_ushr (n : Nat) (hn : n < 32) (x : Int32) (i : Nat) : bt ((x.toUInt32 >>> ((nI n).toUInt32 &&& Int32.toUInt32 31)).toInt32) i = bt x (n + i) := by
  show (x.toUInt32 >>> ((nI n).toUInt32 &&& Int32.toUInt32 31)).toBitVec.getLsbD i = x.toUInt32.toBitVec.getLsbD (n + i)
  rw [UInt32.toBitVec_shiftRight]
  show (x.toUInt32.toBitVec >>> (((nI n).toUInt32 &&& Int32.toUInt32 31).toBitVec % 32).toNat).getLsbD i = _
  rw [s_u n hn, BitVec.getLsbD_ushiftRight]
theorem b_sshr (n : Nat) (hn : n < 32) (x : Int32) {i : Nat} (hi : i < 32) : bt (x >>> (nI n &&& 31)) i = if n + i < 32 then bt x (n + i) else bt x 31 := by
  unfold bt
  rw [Int32.toBitVec_shiftRight]
  show (x.toBitVec.sshiftRight ((nI n &&& 31).toBitVec.smod 32).toNat).getLsbD i = _
  rw [s_l n hn, BitVec.getLsbD_sshiftRight, BitVec.msb_eq_getLsbD_last]
  simp [hi]
theorem b_shl8 (x : Int32) {i : Nat} (hi : i < 32) : bt (x <<< ((8 : Int32) &&& 31)) i = (decide (8 ≤ i) && bt x (i - 8)) := b_shl 8 (by omega) x hi
theorem b_shl16 (x : Int32) {i : Nat} (hi : i < 32) : bt (x <<< ((16 : Int32) &&& 31)) i = (decide (16 ≤ i) && bt x (i - 16)) := b_shl 16 (by omega) x hi
theorem b_shl24 (x : Int32) {i : Nat} (hi : i < 32) : bt (x <<< ((24 : Int32) &&& 31)) i = (decide (24 ≤ i) && bt x (i - 24)) := b_shl 24 (by omega) x hi
theorem b_sshr8 (x : Int32) {i : Nat} (hi : i < 32) : bt (x >>> ((8 : Int32) &&& 31)) i = if 8 + i < 32 then bt x (8 + i) else bt x 31 := b_sshr 8 (by omega) x hi
/-! ===== a byte read unsigned ===== -/
theorem bp_b (x : Int32) : x.toInt8.toInt32 &&& 255 = x &&& 255 := by
  apply Int32.toBitVec_inj.mp
  rw [Int32.toBitVec_and, Int32.toBitVec_and, Int8.toBitVec_toInt32, Int32.toBitVec_toInt8]
  apply BitVec.eq_of_getLsbD_eq
  intro i hi
  rw [BitVec.getLsbD_and, BitVec.getLsbD_and]
  have hm : ∀ i < 32, 8 ≤ i → (255 : Int32).toBitVec.getLsbD i = false := by decide
  rcases Nat.lt_or_ge i 8 with z | z
  · rw [BitVec.getLsbD_signExtend, BitVec.getLsbD_signExtend, if_pos z, if_pos hi]
    simp only [z, hi, decide_true, Bool.true_and]
  · rw [hm i hi z]; simp
theorem bp_n (x : Int32) : x.toInt8.toInt32 &&& nI 255 = x &&& nI 255 := bp_b x
/-! ===== the model's words ===== -/
def orN (b : Nat → Int32) : Nat → Int32
  | 0 => nI 0
  | k + 1 => orN b k ||| b k
def xbF (ms : Nat → Int32) (fed o : Nat) : Nat → Int32 := fun k => if o + k < fed then ms (o + k) <<< (nI (8 * k) &&& 31) else nI 0
theorem b_nI255 (i : Nat) : bt (nI 255) i = decide (i < 8) := b_255 i
theorem le_sh0 (x : Int32) : (x &&& nI 255) <<< (nI (8 * 0) &&& 31) = x &&& nI 255 := by
  apply b_ext
  intro i hi
  rw [b_shl (8 * 0) (by omega) _ hi]
  simp
theorem le_sh3 (x : Int32) : (x &&& nI 255) <<< (nI (8 * 3) &&& 31) = x <<< (nI 24 &&& 31) := by
  apply b_ext
  intro i hi
  rw [b_shl (8 * 3) (by omega) _ hi, b_shl 24 (by omega) _ hi, b_and, b_nI255]
  by_cases h : 24 ≤ i
  · rw [decide_eq_true (show i - 8 * 3 < 8 by omega), Bool.and_true]
  · rw [decide_eq_false (show ¬ 8 * 3 ≤ i by omega)]
    rfl
theorem le_0or (x : Int32) : nI 0 ||| x = x := by
  apply b_ext
  intro i hi
  rw [b_or, show bt (nI 0) i = false from b_0 i, Bool.false_or]
theorem xb_eq {ms mf : Nat → Int32} {fed : Nat} (hm : ∀ j, j < fed → ms j = mf j &&& nI 255) (o k : Nat) : xbF ms fed o k = ((padF mf fed o k) &&& nI 255) <<< (nI (8 * k) &&& 31) := by
  unfold xbF padF
  by_cases h : o + k < fed
  · rw [if_pos h, if_pos h, hm _ h]
  · rw [if_neg h, if_neg h]
    have e : ((0 : Int32) &&& nI 255) = nI 0 := by decide +kernel
    rw [e]
    apply Int32.toBitVec_inj.mp
    rw [Int32.toBitVec_shiftLeft]
    show (0#32) = (0#32) <<< _
    simp
theorem or_le {ms mf : Nat → Int32} {fed : Nat} (hm : ∀ j, j < fed → ms j = mf j &&& nI 255) (o : Nat) : orN (xbF ms fed o) 4 = leF (padF mf fed o 0) (padF mf fed o 1) (padF mf fed o 2) (padF mf fed o 3) := by
  show ((((nI 0 ||| xbF ms fed o 0) ||| xbF ms fed o 1) ||| xbF ms fed o 2) ||| xbF ms fed o 3) = _
  rw [xb_eq hm, xb_eq hm, xb_eq hm, xb_eq hm, le_0or, le_sh0, le_sh3]
  rfl
/-- word k of the block from o on, as the model makes it -/
theorem md_wrd {ms mf : Nat → Int32} {fed : Nat} (hm : ∀ j, j < fed → ms j = mf j &&& nI 255) (o k : Nat) (hk : k < 16) : orN (xbF ms fed (o + 4 * k)) 4 = wrdF (padF mf fed o) 0 k := by
  rw [or_le hm]
  unfold wrdF padF
  rw [if_pos hk]
  simp only [Nat.zero_add, Nat.add_zero, Nat.add_assoc]
theorem pad_full {mf : Nat → Int32} {fed o : Nat} (h : o + 64 ≤ fed) : wrdF (padF mf fed o) 0 = wrdF mf o := by
  refine wrdF_congr (fun j hj => ?_)
  unfold padF
  rw [Nat.zero_add, if_pos (by omega)]
/-! ===== the digest's insides, step by step ===== -/
def apF (mf : Nat → Int32) (fed : Nat) (g : Nat → Int32) (o : Nat) : Nat → Int32 := fun j => if j < fed then mf j else g (o + (j - fed))
theorem bk_0 (d : Nat) (mf : Nat → Int32) : bkOK d mf 0 0 0 (fun _ => 0) (ivH d) := ⟨rfl, by decide, fun _ => rfl, rfl, fun j _ => by rw [if_neg (Nat.not_lt_zero j)]⟩
theorem bk_buf {d : Nat} {mf : Nat → Int32} {fed n p : Nat} {buf buf' ch : Nat → Int32} (h : bkOK d mf fed n p buf ch) (hb : ∀ j, j < 64 → buf' j = buf j) : bkOK d mf fed n p buf' ch :=
  ⟨h.1, h.2.1, h.2.2.1, h.2.2.2.1, fun j hj => by rw [hb j hj]; exact h.2.2.2.2 j hj⟩
theorem ap_lo {mf : Nat → Int32} {fed : Nat} {g : Nat → Int32} {o j : Nat} (h : j < fed) : apF mf fed g o j = mf j := if_pos h
theorem ap_hi {mf : Nat → Int32} {fed : Nat} {g : Nat → Int32} {o j : Nat} (h : fed ≤ j) : apF mf fed g o j = g (o + (j - fed)) := if_neg (by omega)
theorem bk_fill {d : Nat} {mf : Nat → Int32} {fed n p : Nat} {buf ch : Nat → Int32} (h : bkOK d mf fed n p buf ch) (tx : Nat → Int32) (o c : Nat) (hc : 0 < c) (hp : p + c ≤ 64) : bkOK d (apF mf fed tx o) (fed + c) n (p + c) (va_cpy tx buf o p c) ch := by
  obtain ⟨h1, h2, h3, h4, h5⟩ := h
  refine ⟨by omega, hp, fun z => by omega, ?_, fun j hj => ?_⟩
  · rw [h4]
    exact chN_congr n (fun j hj => (ap_lo (by omega)).symm)
  · by_cases a : j < p
    · rw [pk_cpy_out (Or.inl a), h5 j hj, if_pos a, if_pos (by omega), ap_lo (by omega)]
    · by_cases b : j < p + c
      · rw [pk_cpy_in (by omega) b, if_pos b, ap_hi (by omega)]
        congr 1
        omega
      · rw [pk_cpy_out (Or.inr (by omega)), h5 j hj, if_neg a, if_neg b]
/-- the buffer is filled up and pressed -/
theorem bk_press {d : Nat} {mf : Nat → Int32} {fed n p : Nat} {buf ch : Nat → Int32} (h : bkOK d mf fed n p buf ch) (tx : Nat → Int32) (o : Nat) : cmpF ch (wrdF (va_cpy tx buf o p (64 - p)) 0) (nI (64 * n + 64)) (nI 0) = chN d (apF mf fed tx o) (n + 1) := by
  obtain ⟨h1, h2, h3, h4, h5⟩ := h
  show _ = cmpF (chN d (apF mf fed tx o) n) (wrdF (apF mf fed tx o) (64 * n)) (nI (64 * (n + 1))) (nI 0)
  have e1 : ch = chN d (apF mf fed tx o) n := by
    rw [h4]
    exact chN_congr n (fun j hj => (ap_lo (by omega)).symm)
  have e2 : wrdF (va_cpy tx buf o p (64 - p)) 0 = wrdF (apF mf fed tx o) (64 * n) := by
    refine wrdF_congr (fun j hj => ?_)
    rw [Nat.zero_add]
    by_cases a : j < p
    · rw [pk_cpy_out (Or.inl a), h5 j hj, if_pos a, ap_lo (by omega)]
    · rw [pk_cpy_in (by omega) (by omega), ap_hi (by omega)]
      congr 1
      omega
  rw [e1, e2, show 64 * (n + 1) = 64 * n + 64 by omega]
/-- a block is pressed out of the text -/
theorem bk_block {d : Nat} {mf : Nat → Int32} {fed n i o : Nat} {tx ch : Nat → Int32} (h1 : 64 * n = fed + i) (h4 : ch = chN d (apF mf fed tx o) n) : cmpF ch (wrdF tx (o + i)) (nI (64 * n + 64)) (nI 0) = chN d (apF mf fed tx o) (n + 1) := by
  show _ = cmpF (chN d (apF mf fed tx o) n) (wrdF (apF mf fed tx o) (64 * n)) (nI (64 * (n + 1))) (nI 0)
  rw [← h4, show 64 * (n + 1) = 64 * n + 64 by omega]
  congr 1
  refine wrdF_congr (fun j hj => ?_)
  rw [ap_hi (by omega)]
  congr 1
  omega
/-- what is left goes into the empty buffer -/
theorem bk_tail {d : Nat} {mf : Nat → Int32} {fed n i o c : Nat} {tx buf ch : Nat → Int32} (h1 : 64 * n = fed + i) (hi : i < c) (hc : c - i ≤ 64) (h4 : ch = chN d (apF mf fed tx o) n) (hb : ∀ j, j < 64 → buf j = 0) : bkOK d (apF mf fed tx o) (fed + c) n (c - i) (va_cpy tx buf (o + i) 0 (c - i)) ch := by
  refine ⟨by omega, hc, fun z => by omega, h4, fun j hj => ?_⟩
  by_cases b : j < c - i
  · rw [pk_cpy_in (by omega) (by omega), if_pos b, ap_hi (by omega)]
    congr 1
    omega
  · rw [pk_cpy_out (Or.inr (by omega)), hb j hj, if_neg b]
/-- one more byte, the buffer not yet full -/
theorem bk_one {d : Nat} {mf : Nat → Int32} {fed n p : Nat} {buf ch : Nat → Int32} (h : bkOK d mf fed n p buf ch) (hp : p < 64) (b : Int32) : bkOK d (upd mf fed b) (fed + 1) n (p + 1) (upd buf p b) ch := by
  obtain ⟨h1, h2, h3, h4, h5⟩ := h
  refine ⟨by omega, by omega, fun z => by omega, ?_, fun j hj => ?_⟩
  · rw [h4]
    exact chN_congr n (fun j hj => (pk_un (by omega)).symm)
  · by_cases a : j = p
    · subst a
      rw [pk_us, if_pos (by omega), ← h1, pk_us]
    · rw [pk_un a, h5 j hj]
      by_cases q : j < p
      · rw [if_pos q, if_pos (by omega), pk_un (by omega)]
      · rw [if_neg q, if_neg (by omega)]
/-- one more byte, the buffer full -/
theorem bk_one64 {d : Nat} {mf : Nat → Int32} {fed n : Nat} {buf ch : Nat → Int32} (h : bkOK d mf fed n 64 buf ch) (b : Int32) (buf' : Nat → Int32) (hb : ∀ j, j < 64 → buf' j = 0) : bkOK d (upd mf fed b) (fed + 1) (n + 1) 1 (upd buf' 0 b) (cmpF ch (wrdF buf 0) (nI (64 * n + 64)) (nI 0)) := by
  obtain ⟨h1, h2, h3, h4, h5⟩ := h
  refine ⟨by omega, by omega, fun z => by omega, ?_, fun j hj => ?_⟩
  · show _ = cmpF (chN d (upd mf fed b) n) (wrdF (upd mf fed b) (64 * n)) (nI (64 * (n + 1))) (nI 0)
    have e1 : ch = chN d (upd mf fed b) n := by
      rw [h4]
      exact chN_congr n (fun j hj => (pk_un (by omega)).symm)
    have e2 : wrdF buf 0 = wrdF (upd mf fed b) (64 * n) := by
      refine wrdF_congr (fun j hj => ?_)
      rw [Nat.zero_add, h5 j hj, if_pos hj, pk_un (by omega)]
    rw [e1, e2, show 64 * (n + 1) = 64 * n + 64 by omega]
  · by_cases a : j = 0
    · subst a
      rw [pk_us, if_pos (by omega), show 64 * (n + 1) + 0 = fed by omega, pk_us]
    · rw [pk_un a, hb j hj, if_neg (by omega)]
/-- the end -/
theorem bk_end {d : Nat} {mf : Nat → Int32} {fed n p : Nat} {buf ch : Nat → Int32} (h : bkOK d mf fed n p buf ch) : cmpF ch (wrdF buf 0) (nI fed) (-1) = dgF d mf fed := by
  obtain ⟨h1, h2, h3, h4, h5⟩ := h
  have e : (fed - 1) / 64 = n := by omega
  unfold dgF
  rw [e, h4]
  congr 1
  refine wrdF_congr (fun j hj => ?_)
  unfold padF
  rw [Nat.zero_add, h5 j hj]
  by_cases a : j < p
  · rw [if_pos a, if_pos (by omega)]
  · rw [if_neg a, if_neg (by omega)]
/-! ===== small steps of loops ===== -/
theorem up_lt {g F : Nat → Int32} {i : Nat} {x : Int32} (h : ∀ j, j < i → g j = F j) (hx : x = F i) : ∀ j, j < i + 1 → upd g i x j = F j := by
  intro j hj
  by_cases q : j = i
  · rw [q, pk_us, hx]
  · rw [pk_un q]
    exact h j (by omega)
def stF (f : Nat → Int32) (o : Nat) (x : Int32) : Nat → Int32 := upd (upd (upd (upd f o x.toInt8.toInt32) (o + 1) (x.toUInt32 >>> ((nI 8).toUInt32 &&& Int32.toUInt32 31)).toInt32.toInt8.toInt32) (o + 1 + 1) (x.toUInt32 >>> ((nI 16).toUInt32 &&& Int32.toUInt32 31)).toInt32.toInt8.toInt32) (o + 1 + 1 + 1) (x.toUInt32 >>> ((nI 24).toUInt32 &&& Int32.toUInt32 31)).toInt32.toInt8.toInt32
theorem ush0 (x : Int32) : (x.toUInt32 >>> ((nI (8 * 0)).toUInt32 &&& Int32.toUInt32 31)).toInt32 = x := by
  apply b_ext
  intro i hi
  rw [b_ushr (8 * 0) (by omega)]
  congr 1
  omega
theorem ob_at (g : Nat → Int32) (i r : Nat) (hr : r < 4) : obF g (4 * i + r) = ((g i).toUInt32 >>> ((nI (8 * r)).toUInt32 &&& Int32.toUInt32 31)).toInt32 := by
  unfold obF
  rw [show (4 * i + r) / 4 = i by omega, show (4 * i + r) % 4 = r by omega]
theorem st_out {f g h : Nat → Int32} {i : Nat} (hg : ∀ j, j < 32 → h j = outF f g (4 * i) j) : ∀ j, j < 32 → stF h (0 + 4 * i) (g (0 + i)) j = outF f g (4 * (i + 1)) j := by
  intro j hj
  rw [Nat.zero_add, Nat.zero_add]
  unfold stF
  by_cases q3 : j = 4 * i + 1 + 1 + 1
  · rw [q3, pk_us]
    unfold outF
    rw [if_pos (by omega), show 4 * i + 1 + 1 + 1 = 4 * i + 3 by omega, ob_at g i 3 (by omega)]
  · rw [pk_un q3]
    by_cases q2 : j = 4 * i + 1 + 1
    · rw [q2, pk_us]
      unfold outF
      rw [if_pos (by omega), show 4 * i + 1 + 1 = 4 * i + 2 by omega, ob_at g i 2 (by omega)]
    · rw [pk_un q2]
      by_cases q1 : j = 4 * i + 1
      · rw [q1, pk_us]
        unfold outF
        rw [if_pos (by omega), ob_at g i 1 (by omega)]
      · rw [pk_un q1]
        by_cases q0 : j = 4 * i
        · rw [q0, pk_us]
          unfold outF
          rw [if_pos (by omega)]
          have e := ob_at g i 0 (by omega)
          rw [Nat.add_zero, ush0] at e
          rw [e]
        · rw [pk_un q0, hg j hj]
          unfold outF
          by_cases c : j < 4 * i
          · rw [if_pos c, if_pos (by omega)]
          · rw [if_neg c, if_neg (by omega)]
/-- the lengths that a digest may have -/
def dOK (d : Nat) : Prop := d = 32 ∨ d = 16 ∨ d = 20 ∨ d = 28
theorem dOK_le {d : Nat} (h : dOK d) : d ≤ 32 ∧ 16 ≤ d ∧ 4 * (d / 4) = d := by unfold dOK at h; omega
theorem iis_eq (ch v : Nat → Int32) (t f : Int32) : ∀ j, j < 16 → upd (upd (upd (upd (va_cpy ivF (va_cpy ch v 0 0 8) 0 8 4) 12 (t ^^^ ivF 4)) 13 (nI 0 ^^^ ivF 5)) 14 (f ^^^ ivF 6)) 15 (nI 0 ^^^ ivF 7) j = v0F ch t f j := by
  intro j hj
  have z5 : nI 0 ^^^ ivF 5 = ivF 5 := by decide +kernel
  have z7 : nI 0 ^^^ ivF 7 = ivF 7 := by decide +kernel
  rw [z5, z7]
  unfold v0F
  by_cases a : j < 8
  · rw [if_pos a, pk_un (by omega), pk_un (by omega), pk_un (by omega), pk_un (by omega), pk_cpy_out (Or.inl a), pk_cpy_in (by omega) (by omega)]
    congr 1
    omega
  · rw [if_neg a]
    by_cases b : j < 12
    · rw [if_pos b, pk_un (by omega), pk_un (by omega), pk_un (by omega), pk_un (by omega), pk_cpy_in (by omega) (by omega), Nat.zero_add]
    · rw [if_neg b]
      have hc : j = 12 ∨ j = 13 ∨ j = 14 ∨ j = 15 := by omega
      rcases hc with rfl | rfl | rfl | rfl
      · rw [pk_un (by omega), pk_un (by omega), pk_un (by omega), pk_us, if_pos rfl]
      · rw [pk_un (by omega), pk_un (by omega), pk_us, if_neg (by omega), if_pos rfl]
      · rw [pk_un (by omega), pk_us, if_neg (by omega), if_neg (by omega), if_pos rfl]
      · rw [pk_us, if_neg (by omega), if_neg (by omega), if_neg (by omega), if_pos rfl]
theorem cu_no {t k : Nat} (h : t + k < 2147483648) : 0 ≤ (if nI (t + k) + (-2147483648) < nI k + (-2147483648) then (-1 : Int32) else if nI (t + k) + (-2147483648) = nI k + (-2147483648) then 0 else 1) := by
  have key : ∀ n : Nat, n < 2147483648 → (nI n + (-2147483648)).toInt = (n : Int) - 2147483648 := by
    intro n hn
    rw [Int32.toInt_add, nI_toInt hn, show (-2147483648 : Int32).toInt = -2147483648 by decide]
    rw [Int.bmod_def]
    omega
  rw [if_neg]
  · split <;> decide
  · rw [Int32.lt_iff_toInt_lt, key _ h, key k (by omega)]
    omega
/-! ===== the first state; the text's end; small numbers ===== -/
theorem bk_none {d : Nat} {mf : Nat → Int32} {fed n p : Nat} {buf ch : Nat → Int32} (h : bkOK d mf fed n p buf ch) {tx : Nat → Int32} {o : Nat} : bkOK d (apF mf fed tx o) (fed + 0) n p buf ch := by
  obtain ⟨h1, h2, h3, h4, h5⟩ := h
  refine ⟨h1, h2, h3, ?_, fun j hj => ?_⟩
  · rw [h4]
    exact chN_congr n (fun j hj => (ap_lo (by omega)).symm)
  · rw [h5 j hj]
    by_cases a : j < p
    · rw [if_pos a, if_pos a, ap_lo (by omega)]
    · rw [if_neg a, if_neg a]
theorem ge_m64 {a b : Nat} (h : b ≤ a + 64) (ha : a < 1073741824) (hb : b < 1073741824) : nI b - nI 64 ≤ nI a := by
  rw [Int32.le_iff_toInt_le, pk_sub_toInt hb (by decide), nI_toInt (by omega)]
  omega
theorem lt_m64 {a b : Nat} (h : a + 64 < b) (ha : a < 1073741824) (hb : b < 1073741824) : ¬ nI b - nI 64 ≤ nI a := by
  rw [Int32.le_iff_toInt_le, pk_sub_toInt hb (by decide), nI_toInt (by omega)]
  omega
theorem fin_and {d : Nat} (h : dOK d) : nI d &&& nI 3 = nI 0 := by
  rcases h with rfl | rfl | rfl | rfl <;> decide +kernel
theorem ini_eq {d : Nat} (hd : dOK d) (ch : Nat → Int32) : ∀ j, j < 8 → (upd (upd (upd (upd (upd (upd (upd (upd ch 0 (ivF 0 ^^^ (nI d ||| nI 0 <<< (nI 8 &&& 31) ||| (nI 1 <<< (nI 16 &&& 31) ||| nI 1 <<< (nI 24 &&& 31))))) 1 (ivF 1 ^^^ nI 0)) 2 (ivF 2 ^^^ (0 : Int64).toInt32)) 3 (ivF 3 ^^^ (((0 : Int64) >>> ((nI 32).toInt64 &&& 63)).toInt32 ||| nI 0 <<< (nI 16 &&& 31) ||| nI 0 <<< (nI 24 &&& 31)))) 4 (ivF 4)) 5 (ivF 5)) 6 (ivF 6)) 7 (ivF 7)) j = ivH d j := by
  intro j hj
  have a0 : ivF 0 ^^^ (nI d ||| nI 0 <<< (nI 8 &&& 31) ||| (nI 1 <<< (nI 16 &&& 31) ||| nI 1 <<< (nI 24 &&& 31))) = ivF 0 ^^^ (16842752 ^^^ nI d) := by
    rcases hd with rfl | rfl | rfl | rfl <;> decide +kernel
  have a1 : ivF 1 ^^^ nI 0 = ivF 1 := by decide +kernel
  have a2 : ivF 2 ^^^ (0 : Int64).toInt32 = ivF 2 := by decide +kernel
  have a3 : ivF 3 ^^^ (((0 : Int64) >>> ((nI 32).toInt64 &&& 63)).toInt32 ||| nI 0 <<< (nI 16 &&& 31) ||| nI 0 <<< (nI 24 &&& 31)) = ivF 3 := by decide +kernel
  rw [a0, a1, a2, a3]
  unfold ivH
  rcases (by omega : j = 0 ∨ j = 1 ∨ j = 2 ∨ j = 3 ∨ j = 4 ∨ j = 5 ∨ j = 6 ∨ j = 7) with rfl | rfl | rfl | rfl | rfl | rfl | rfl | rfl
  · rw [pk_un (by decide), pk_un (by decide), pk_un (by decide), pk_un (by decide), pk_un (by decide), pk_un (by decide), pk_un (by decide), pk_us, if_pos rfl]
  · rw [pk_un (by decide), pk_un (by decide), pk_un (by decide), pk_un (by decide), pk_un (by decide), pk_un (by decide), pk_us, if_neg (by decide), if_pos (by decide)]
  · rw [pk_un (by decide), pk_un (by decide), pk_un (by decide), pk_un (by decide), pk_un (by decide), pk_us, if_neg (by decide), if_pos (by decide)]
  · rw [pk_un (by decide), pk_un (by decide), pk_un (by decide), pk_un (by decide), pk_us, if_neg (by decide), if_pos (by decide)]
  · rw [pk_un (by decide), pk_un (by decide), pk_un (by decide), pk_us, if_neg (by decide), if_pos (by decide)]
  · rw [pk_un (by decide), pk_un (by decide), pk_us, if_neg (by decide), if_pos (by decide)]
  · rw [pk_un (by decide), pk_us, if_neg (by decide), if_pos (by decide)]
  · rw [pk_us, if_neg (by decide), if_pos (by decide)]
/-! ===== the law's plain side: what desk and model hold ===== -/
theorem sb_fitPw {f : Nat → Int32} (h : sb_Fit f) (o : Nat) (w : Int32) : sb_Fit (pwF f o w) := by
  intro j
  unfold pwF
  by_cases a : o ≤ j ∧ j < o + 4
  · rw [if_pos a]
    exact pk_fb _
  · rw [if_neg a]
    exact h j
theorem pw_pm {f g : Nat → Int32} (h : ∀ j, g j = f j &&& nI 255) (o : Nat) (w : Int32) : ∀ j, pmF g o w j = pwF f o w j &&& nI 255 := by
  intro j
  unfold pwF pmF
  by_cases a : o ≤ j ∧ j < o + 4
  · rw [if_pos a, if_pos a, bp_n]
  · rw [if_neg a, if_neg a, h j]
/-! ===== four words of text ===== -/
theorem sh_0 (x : Int32) : x >>> (nI (24 - 8 * 3) &&& 31) = x := by
  apply b_ext
  intro i hi
  rw [b_sshr (24 - 8 * 3) (by omega) x hi, if_pos (by omega)]
  congr 1
  omega
theorem pw_eq (tx : Nat → Int32) (o : Nat) (w : Int32) : ∀ j, upd (upd (upd (upd tx o (w >>> (nI 24 &&& 31)).toInt8.toInt32) (o + 1) (w >>> (nI 16 &&& 31)).toInt8.toInt32) (o + 2) (w >>> (nI 8 &&& 31)).toInt8.toInt32) (o + 3) w.toInt8.toInt32 j = pwF tx o w j := by
  intro j
  unfold pwF
  by_cases q3 : j = o + 3
  · subst q3
    rw [pk_us, if_pos (by omega), show o + 3 - o = 3 by omega]
    unfold wbF
    rw [sh_0]
  · rw [pk_un q3]
    by_cases q2 : j = o + 2
    · subst q2
      rw [pk_us, if_pos (by omega), show o + 2 - o = 2 by omega]
      rfl
    · rw [pk_un q2]
      by_cases q1 : j = o + 1
      · subst q1
        rw [pk_us, if_pos (by omega), show o + 1 - o = 1 by omega]
        rfl
      · rw [pk_un q1]
        by_cases q0 : j = o
        · subst q0
          rw [pk_us, if_pos (by omega), Nat.sub_self]
          rfl
        · rw [pk_un q0, if_neg (by omega)]
def pw4 (f : Nat → Int32) (k : Nat) (w1 w2 w3 w4 : Int32) : Nat → Int32 := pwF (pwF (pwF (pwF f k w1) (k + 4) w2) (k + 8) w3) (k + 12) w4
def pm4 (f : Nat → Int32) (k : Nat) (w1 w2 w3 w4 : Int32) : Nat → Int32 := pmF (pmF (pmF (pmF f k w1) (k + 4) w2) (k + 8) w3) (k + 12) w4
theorem pw4_fit {f : Nat → Int32} (h : sb_Fit f) (k : Nat) (w1 w2 w3 w4 : Int32) : sb_Fit (pw4 f k w1 w2 w3 w4) := sb_fitPw (sb_fitPw (sb_fitPw (sb_fitPw h k w1) (k + 4) w2) (k + 8) w3) (k + 12) w4
theorem pw4_pm4 {f g : Nat → Int32} (h : ∀ j, g j = f j &&& nI 255) (k : Nat) (w1 w2 w3 w4 : Int32) : ∀ j, pm4 g k w1 w2 w3 w4 j = pw4 f k w1 w2 w3 w4 j &&& nI 255 := pw_pm (pw_pm (pw_pm (pw_pm h k w1) (k + 4) w2) (k + 8) w3) (k + 12) w4
/-- part of a word laid into the model's text -/
def pmN (f : Nat → Int32) (o : Nat) (w : Int32) (i : Nat) : Nat → Int32 := fun j => if o ≤ j ∧ j < o + i then wbF w (j - o) &&& nI 255 else f j
theorem pmN_up {f g : Nat → Int32} {o i : Nat} {w : Int32} (h : ∀ j, g j = pmN f o w i j) : ∀ j, upd g (o + i) (w >>> (nI (24 - 8 * i) &&& 31) &&& nI 255) j = pmN f o w (i + 1) j := by
  intro j
  unfold pmN
  by_cases q : j = o + i
  · subst q
    rw [pk_us, if_pos (by omega), show o + i - o = i by omega]
    rfl
  · rw [pk_un q, h j]
    unfold pmN
    by_cases a : o ≤ j ∧ j < o + i
    · rw [if_pos a, if_pos (by omega)]
    · rw [if_neg a, if_neg (by omega)]
/-- the model's first words of a block's state -/
def mvF (h : Nat → Int32) (i : Nat) : Int32 := if i < 8 then h i else ivF (i - 8)
theorem mv_eq {h g : Nat → Int32} {t f : Int32} (hg : ∀ j, j < 16 → g j = mvF h j) : ∀ j, j < 16 → upd (upd g 12 (g 12 ^^^ t)) 14 (upd g 12 (g 12 ^^^ t) 14 ^^^ f) j = v0F h t f j := by
  intro j hj
  have h14 : upd g 12 (g 12 ^^^ t) 14 = ivF 6 := by rw [pk_un (by decide), hg 14 (by decide)]; rfl
  have h12 : g 12 = ivF 4 := by rw [hg 12 (by decide)]; rfl
  rw [h14]
  unfold v0F
  by_cases q14 : j = 14
  · subst q14
    rw [pk_us, if_neg (by decide), if_neg (by decide), if_neg (by decide), if_neg (by decide), if_pos rfl, Int32.xor_comm]
  · rw [pk_un q14]
    by_cases q12 : j = 12
    · subst q12
      rw [pk_us, h12, if_neg (by decide), if_neg (by decide), if_pos rfl, Int32.xor_comm]
    · rw [pk_un q12, hg j hj]
      unfold mvF
      by_cases a : j < 8
      · rw [if_pos a, if_pos a]
      · rw [if_neg a, if_neg a]
        by_cases b : j < 12
        · rw [if_pos b]
        · rw [if_neg b, if_neg q12]
          rcases (by omega : j = 13 ∨ j = 15) with rfl | rfl
          · rw [if_pos rfl]
          · rw [if_neg (by decide), if_neg (by decide), if_pos rfl]
theorem iv_st {d : Nat} {g : Nat → Int32} (hg : ∀ j, j < 8 → g j = ivF j) : ∀ j, j < 8 → upd g 0 (g 0 ^^^ (16842752 ^^^ nI d)) j = ivH d j := by
  intro j hj
  unfold ivH
  by_cases q : j = 0
  · subst q
    rw [pk_us, if_pos rfl, hg 0 (by decide)]
  · rw [pk_un q, if_neg q, if_pos hj, hg j hj]
/-- text laid into the model's message -/
def fdN (ms mt : Nat → Int32) (fed o i : Nat) : Nat → Int32 := fun j => if fed ≤ j ∧ j < fed + i then mt (o + (j - fed)) else ms j
theorem fdN_up {ms mt g : Nat → Int32} {fed o i : Nat} (h : ∀ j, g j = fdN ms mt fed o i j) : ∀ j, upd g (fed + i) (mt (o + i)) j = fdN ms mt fed o (i + 1) j := by
  intro j
  unfold fdN
  by_cases q : j = fed + i
  · subst q
    rw [pk_us, if_pos (by omega), show fed + i - fed = i by omega]
  · rw [pk_un q, h j]
    unfold fdN
    by_cases a : fed ≤ j ∧ j < fed + i
    · rw [if_pos a, if_pos (by omega)]
    · rw [if_neg a, if_neg (by omega)]
/-- the model's answer bytes -/
def omN (mo g : Nat → Int32) (i : Nat) : Nat → Int32 := fun k => if k < i then obF g k &&& nI 255 else mo k
theorem omN_up {mo g f : Nat → Int32} {i : Nat} (h : ∀ j, f j = omN mo g i j) : ∀ j, upd f i (((g (i / 4)).toUInt32 >>> ((nI (8 * (i % 4))).toUInt32 &&& Int32.toUInt32 31)).toInt32 &&& nI 255) j = omN mo g (i + 1) j := by
  intro j
  unfold omN
  by_cases q : j = i
  · subst q
    rw [pk_us, if_pos (by omega)]
    rfl
  · rw [pk_un q, h j]
    unfold omN
    by_cases a : j < i
    · rw [if_pos a, if_pos (by omega)]
    · rw [if_neg a, if_neg (by omega)]
theorem om_out {mo fo g : Nat → Int32} {d : Nat} (h : ∀ j, mo j = fo j &&& nI 255) : ∀ j, omN mo g d j = outF fo g d j &&& nI 255 := by
  intro j
  unfold omN outF
  by_cases a : j < d
  · rw [if_pos a, if_pos a, bp_n]
  · rw [if_neg a, if_neg a, h j]
theorem fd_rel {ms mf mt tx : Nat → Int32} {fed : Nat} (hm : ∀ j, j < fed → ms j = mf j &&& nI 255) (ht : ∀ j, mt j = tx j &&& nI 255) (o c : Nat) : ∀ j, j < fed + c → fdN ms mt fed o c j = apF mf fed tx o j &&& nI 255 := by
  intro j hj
  unfold fdN
  by_cases a : j < fed
  · rw [if_neg (by omega), ap_lo a, hm j a]
  · rw [if_pos (by omega), ap_hi (by omega), ht]
theorem one_rel {ms mf : Nat → Int32} {fed : Nat} (hm : ∀ j, j < fed → ms j = mf j &&& nI 255) (x : Int32) : ∀ j, j < fed + 1 → upd ms fed (x &&& nI 255) j = upd mf fed x.toInt8.toInt32 j &&& nI 255 := by
  intro j hj
  by_cases a : j = fed
  · rw [a, pk_us, pk_us, bp_n]
  · rw [pk_un a, pk_un a, hm j (by omega)]
end
section
/-! OUR OWN ROWS: the classes, the statics, contracts of one form, calls of one form -/
abbrev vwCl : List vw_C := [(RX0, TX0, 5), (RX1, TX1, 21), (RX3, TX3, 6)]
/-- class numbers and field places, the class of byte[], the class of int[] -/
abbrev wd_G : Type := va_G × ClassId × ClassId
abbrev wd_K (G : wd_G) (U : State) : Prop := va_K G.1 vwCl [(G.2.1, .byte), (G.2.2, .int)] U
abbrev cl_I (G : wd_G) (a n : Nat) (f : Nat → Int32) : Nat × va_E := (a, .inl (G.2.2, n, .inl f))
abbrev cl_B (G : wd_G) (a n : Nat) (f : Nat → Int32) : Nat × va_E := (a, .inl (G.2.1, n, .inl f))
abbrev cl_O (a ci : Nat) (fs : List Value) : Nat × va_E := (a, .inr (ci, fs))
abbrev bk_fs (dl bp t0 f0 : Int32) (hb hi hc pu : Nat) : List Value := [.int dl, .int (nI 0), .null, .null, .null, .int (nI 1), .int (nI 1), .int (nI 0), .long 0, .int (nI 0), .int (nI 0), .int (nI 0), .ref hb, .int bp, .ref hi, .ref hc, .int t0, .int (nI 0), .int f0, .int (nI 0), .ref pu]
abbrev dk_fs (run out text : Nat) (fed size : Int32) : List Value := [.ref run, .ref out, .int fed, .ref text, .int size]
abbrev md_fs (text msg out : Nat) (size fed byt : Int32) : List Value := [.ref text, .int size, .ref msg, .int fed, .int byt, .ref out]
/-! statics: an array of numbers, an array of such arrays -/
def st_1 (C n d : String) (ty : FieldType) (N : Nat) (f : Nat → Value) (A : Nat → Prop) (U : State) (H : Heap) : Prop := ∃ t : Nat, va_Z C n d (.ref t) A U H ∧ va_T ty t N f A U H
def st_2 (C n d : String) (ty : FieldType) (N M : Nat) (f : Nat → Nat → Value) (A : Nat → Prop) (U : State) (H : Heap) : Prop := ∃ (t : Nat) (r : Nat → Nat), va_Z C n d (.ref t) A U H ∧ va_T (.array ty) t N (fun j => .ref (r j)) A U H ∧ ∀ j : Nat, j < N → va_T ty (r j) M (f j) A U H
theorem st_1.moved {C n d : String} {ty : FieldType} {N : Nat} {f : Nat → Value} {A : Nat → Prop} {u U : State} {H : Heap} (hvm : u.vm.Alike U.vm) (h : st_1 C n d ty N f A u H) : st_1 C n d ty N f A U H := by
  obtain ⟨t, h1, h2⟩ := h
  exact ⟨t, va_Z.moved hvm h1, va_T.moved hvm h2⟩
theorem st_1.kept {C n d : String} {ty : FieldType} {N : Nat} {f : Nat → Value} {A : Nat → Prop} {U : State} {H H1 : Heap} (h : st_1 C n d ty N f A U H) (hq : ∀ a : Nat, a < H.size → ¬ A a → H1[a]? = H[a]?) : st_1 C n d ty N f A U H1 := by
  obtain ⟨t, h1, h2⟩ := h
  exact ⟨t, h1.kept hq, h2.kept hq⟩
theorem st_1.narrow {C n d : String} {ty : FieldType} {N : Nat} {f : Nat → Value} {A B : Nat → Prop} {U : State} {H : Heap} (h : st_1 C n d ty N f A U H) (hAB : ∀ q, B q → A q) : st_1 C n d ty N f B U H := by
  obtain ⟨t, h1, h2⟩ := h
  exact ⟨t, h1.narrow hAB, h2.narrow hAB⟩
theorem st_2.moved {C n d : String} {ty : FieldType} {N M : Nat} {f : Nat → Nat → Value} {A : Nat → Prop} {u U : State} {H : Heap} (hvm : u.vm.Alike U.vm) (h : st_2 C n d ty N M f A u H) : st_2 C n d ty N M f A U H := by
  obtain ⟨t, r, h1, h2, h3⟩ := h
  exact ⟨t, r, va_Z.moved hvm h1, va_T.moved hvm h2, fun j hj => va_T.moved hvm (h3 j hj)⟩
theorem st_2.kept {C n d : String} {ty : FieldType} {N M : Nat} {f : Nat → Nat → Value} {A : Nat → Prop} {U : State} {H H1 : Heap} (h : st_2 C n d ty N M f A U H) (hq : ∀ a : Nat, a < H.size → ¬ A a → H1[a]? = H[a]?) : st_2 C n d ty N M f A U H1 := by
  obtain ⟨t, r, h1, h2, h3⟩ := h
  exact ⟨t, r, h1.kept hq, h2.kept hq, fun j hj => (h3 j hj).kept hq⟩
theorem st_2.narrow {C n d : String} {ty : FieldType} {N M : Nat} {f : Nat → Nat → Value} {A B : Nat → Prop} {U : State} {H : Heap} (h : st_2 C n d ty N M f A U H) (hAB : ∀ q, B q → A q) : st_2 C n d ty N M f B U H := by
  obtain ⟨t, r, h1, h2, h3⟩ := h
  exact ⟨t, r, h1.narrow hAB, h2.narrow hAB, fun j hj => (h3 j hj).narrow hAB⟩
def st_R (C n d : String) (A : Nat → Prop) (U : State) (H : Heap) : Prop := ∃ t : Nat, va_Z C n d (.ref t) A U H
abbrev x_upd : MethodName := ⟨"Digest", "update", "([BII)V"⟩
abbrev x_upd1 : MethodName := ⟨"Digest", "update", "(B)V"⟩
abbrev x_fin : MethodName := ⟨"Digest", "doFinal", "([BI)I"⟩
abbrev x_res : MethodName := ⟨"Digest", "reset", "()V"⟩
/-- what a call through Digest asks of the tables -/
def st_F (U : State) : Prop := va_Fw RX1 x_upd yX1_update U ∧ va_Fw RX1 x_upd1 yX1_update_2 U ∧ va_Fw RX1 x_fin yX1_doFinal U ∧ va_Fw RX1 x_res yX1_reset U
theorem st_F.moved {u U : State} (hvm : u.vm.Alike U.vm) (h : st_F u) : st_F U := ⟨va_Fw.moved (by decide +kernel) hvm h.1, va_Fw.moved (by decide +kernel) hvm h.2.1, va_Fw.moved (by decide +kernel) hvm h.2.2.1, va_Fw.moved (by decide +kernel) hvm h.2.2.2⟩
/-- all the statics -/
def ST (A : Nat → Prop) (U : State) (H : Heap) : Prop :=
  st_1 "Blake2sDigest" "blake2s_IV" "[I" .int 8 (fun j => .int (ivF j)) A U H ∧
  st_2 "Blake2sDigest" "blake2s_sigma" "[[B" .byte 10 16 (fun r k => .int (nI (sgF r k))) A U H ∧
  st_1 "BlakeShortDeskModel" "FIRST" "[I" .int 8 (fun j => .int (ivF j)) A U H ∧
  st_2 "BlakeShortDeskModel" "ORDERS" "[[I" .int 10 16 (fun r k => .int (nI (sgF r k))) A U H ∧
  st_2 "BlakeShortDeskModel" "WORDS" "[[I" .int 8 4 (fun r k => .int (nI (wdF r k))) A U H ∧
  st_1 "BlakeShortDeskModel" "SIZES" "[I" .int 4 (fun j => .int (nI (szF j))) A U H ∧
  st_R "CryptoServicePurpose" "ANY" "LCryptoServicePurpose;" A U H ∧ st_F U
theorem ST.moved {A : Nat → Prop} {u U : State} {H : Heap} (hvm : u.vm.Alike U.vm) (h : ST A u H) : ST A U H := by
  obtain ⟨h1, h2, h3, h4, h5, h6, ⟨t, h7⟩, h8⟩ := h
  exact ⟨h1.moved hvm, h2.moved hvm, h3.moved hvm, h4.moved hvm, h5.moved hvm, h6.moved hvm, ⟨t, va_Z.moved hvm h7⟩, h8.moved hvm⟩
theorem ST.kept {A : Nat → Prop} {U : State} {H H1 : Heap} (h : ST A U H) (hq : ∀ a : Nat, a < H.size → ¬ A a → H1[a]? = H[a]?) : ST A U H1 := by
  obtain ⟨h1, h2, h3, h4, h5, h6, ⟨t, h7⟩, h8⟩ := h
  exact ⟨h1.kept hq, h2.kept hq, h3.kept hq, h4.kept hq, h5.kept hq, h6.kept hq, ⟨t, h7.kept hq⟩, h8⟩
theorem ST.narrow {A B : Nat → Prop} {U : State} {H : Heap} (h : ST A U H) (hAB : ∀ q, B q → A q) : ST B U H := by
  obtain ⟨h1, h2, h3, h4, h5, h6, ⟨t, h7⟩, h8⟩ := h
  exact ⟨h1.narrow hAB, h2.narrow hAB, h3.narrow hAB, h4.narrow hAB, h5.narrow hAB, h6.narrow hAB, ⟨t, h7.narrow hAB⟩, h8⟩
/-! contracts -/
def wd_Pre (G : wd_G) (ws : va_W) (sz : Nat) (U : State) : Prop := U.heap.size = sz ∧ va_P G.1 vwCl ws U.heap ∧ wd_K G U ∧ va_D (fun _ => True) ws ∧ ST (va_A ws sz) U U.heap
def wd_PreR (G : wd_G) (ws : va_W) (U : State) : Prop := va_P G.1 vwCl ws U.heap ∧ wd_K G U
def wd_B (G : wd_G) (A : Nat → Prop) (w : va_W) (t : State) : Prop := va_P G.1 vwCl w t.heap ∧ va_D A w
abbrev wd_Qv {S : Type} (G : wd_G) (post : S → Prop) (w1 : S → va_W) (A : Nat → Prop) : Array Value → State → Outcome → State → Prop := va_Qv post (fun u t => wd_B G A (w1 u) t) A
abbrev wd_Qi {S : Type} (G : wd_G) (post : Int32 → S → Prop) (w1 : S → va_W) (A : Nat → Prop) : Array Value → State → Outcome → State → Prop := va_Qi post (fun u t => wd_B G A (w1 u) t) A
abbrev wd_Qr {S : Type} (G : wd_G) (post : S → Prop) (w1 : S → Nat → va_W) (A : Nat → Prop) : Array Value → State → Outcome → State → Prop := va_Qr post (fun u a t => wd_B G A (w1 u a) t) A
theorem wd_blind {av : List Value} {G : wd_G} {ws : va_W} {sz : Nat} : FrameBlind (va_Pc av (wd_Pre G ws sz)) := by
  intro a U g mk q
  obtain ⟨q0, q1, qP, qK, qD, qZ⟩ := q
  exact ⟨q0, q1, qP, va_K.moved (u := U) (U := U.calling g mk a) (Vm.Alike.refl U.vm) qK, qD, ST.moved (u := U) (U := U.calling g mk a) (Vm.Alike.refl U.vm) qZ⟩
theorem wd_blindR {av : List Value} {G : wd_G} {ws : va_W} : FrameBlind (va_Pc av (wd_PreR G ws)) := by
  intro a U g mk q
  obtain ⟨q0, qP, qK⟩ := q
  exact ⟨q0, qP, va_K.moved (u := U) (U := U.calling g mk a) (Vm.Alike.refl U.vm) qK⟩
theorem wd_psub {D : va_G} {cl : List vw_C} {ws wc : va_W} {H : Heap} (hP : va_P D cl ws H) (is : List Nat) (hC : is.map (fun i => ws[i]?) = wc.map some) : va_P D cl wc H := by
  intro k q hk
  have h1 : (is.map (fun i => ws[i]?))[k]? = some (some q) := by rw [hC, List.getElem?_map, hk]; rfl
  rw [List.getElem?_map] at h1
  cases hi : is[k]? with
  | none => rw [hi] at h1; cases h1
  | some i => rw [hi] at h1; exact hP i q (Option.some.inj h1)
section WDC
variable {G : wd_G} {A : Nat → Prop} {s : State} {H : Heap} {locs : List Loc} {ws wc wr : va_W}
theorem wd_pre (hK : wd_K G s) (hZ : ST A s s.heap) (hP : va_P G.1 vwCl ws H) (hD : va_D A ws) (hS : va_S A s.heap H locs) (hA : ∀ q : Nat, s.heap.size ≤ q → A q) (is : List Nat) (hn : va_nd is = true) (hC : is.map (fun i => ws[i]?) = wc.map some) (U : State) (hU : U.heap = H) (hW : s.WarmedH U.vm) : wd_Pre G wc H.size U := by
  refine ⟨by rw [hU], by rw [hU]; exact wd_psub hP is hC, va_K.moved hW.alike hK, (hD.sub is hn hC).weaken (fun _ _ _ _ => trivial), ?_⟩
  rw [hU]
  exact ST.narrow (ST.moved hW.alike (hZ.kept hS.2.1)) (va_free hD hS hA is hC)
theorem wd_preS (hK : wd_K G s) (hZ : ST A s s.heap) (hP : va_P G.1 vwCl ws H) (hD : va_D A ws) (hS : va_S A s.heap H locs) (hA : ∀ q : Nat, s.heap.size ≤ q → A q) (is : List Nat) (hn : va_nd is = true) (hC : is.map (fun i => ws[i]?) = wc.map some) {As : List Value} : PreS s H (va_Pc As (wd_Pre G wc H.size)) As :=
  ⟨wd_blind, fun U hU hW => ⟨rfl, wd_pre hK hZ hP hD hS hA is hn hC U hU hW⟩⟩
theorem wd_preV (hK : wd_K G s) (hZ : ST A s s.heap) (hP : va_P G.1 vwCl ws H) (hD : va_D A ws) (hS : va_S A s.heap H locs) (hA : ∀ q : Nat, s.heap.size ≤ q → A q) (is : List Nat) (hn : va_nd is = true) (hC : is.map (fun i => ws[i]?) = wc.map some) {As : List Value} (q0 ci : Nat) {b : Nat} {q : vw_C} {fs : List Value} (hc : vwCl[ci]? = some q) (he : ws[q0]? = some (b, .inr (ci, fs))) : PreV s H q.1 b (va_Pc (.ref b :: As) (wd_Pre G wc H.size)) As :=
  ⟨wd_blind, va_recv hK hP hc he, fun U hU hW => ⟨rfl, wd_pre hK hZ hP hD hS hA is hn hC U hU hW⟩⟩
theorem wd_preSR (hK : wd_K G s) (hP : va_P G.1 vwCl ws H) (is : List Nat) (hC : is.map (fun i => ws[i]?) = wc.map some) {As : List Value} : PreS s H (va_Pc As (wd_PreR G wc)) As :=
  ⟨wd_blindR, fun U hU hW => ⟨rfl, by rw [hU]; exact wd_psub hP is hC, va_K.moved hW.alike hK⟩⟩
theorem wd_preVR (hK : wd_K G s) (hP : va_P G.1 vwCl ws H) (is : List Nat) (hC : is.map (fun i => ws[i]?) = wc.map some) {As : List Value} (q0 ci : Nat) {b : Nat} {q : vw_C} {fs : List Value} (hc : vwCl[ci]? = some q) (he : ws[q0]? = some (b, .inr (ci, fs))) : PreV s H q.1 b (va_Pc (.ref b :: As) (wd_PreR G wc)) As :=
  ⟨wd_blindR, va_recv hK hP hc he, fun U hU hW => ⟨rfl, by rw [hU]; exact wd_psub hP is hC, va_K.moved hW.alike hK⟩⟩
/-- the class of a receiver, for calls through an interface -/
theorem wd_at (hK : wd_K G s) (ci : Nat) {q : vw_C} (hc : vwCl[ci]? = some q) : ClassAt s q.1 (G.1.1 ci) := by
  obtain ⟨-, hfc, kC, hkC, hkind⟩ := hK.1 ci _ hc
  exact ⟨hfc, kC, hkC, hkind⟩
/-- an array's contents may be told otherwise, if they are the same within it -/
theorem wd_lab {D : va_G} {cl : List vw_C} {q0 a : Nat} {cA : ClassId} {n : Nat} {f : Nat → Int32} (hP : va_P D cl ws H) (hD : va_D A ws) (he : ws[q0]? = some (a, .inl (cA, n, .inl f))) (g : Nat → Int32) (h : ∀ j, j < n → f j = g j) : va_P D cl (ws.set q0 (a, .inl (cA, n, .inl g))) H ∧ va_D A (ws.set q0 (a, .inl (cA, n, .inl g))) := by
  refine ⟨hP.set hD he ?_ (fun _ _ => rfl), hD.set he⟩
  have h1 : H[a]? = some (vp_cell cA (n, .inl f)) := hP q0 _ he
  show H[a]? = some (vp_cell cA (n, .inl g))
  rw [h1, vp_cell_i, vp_cell_i]
  unfold arrV
  have e : (Array.ofFn (n := n) fun j => Value.int (f j.val)) = Array.ofFn (n := n) fun j => Value.int (g j.val) := by
    congr 1
    funext j
    rw [h j.val j.isLt]
  rw [e]
end WDC
/-- a contract's start -/
theorem wd_ofW {l : Launch} {y : MethodName} {rm : Room} {av : List Value} {G : wd_G} {ws : va_W} {sz : Nat} {Qc : (Nat → Prop) → Array Value → State → Outcome → State → Prop} {mc ms : Nat} {cc : ByteArray} {maxL : Nat} {ret : Option FieldType}
    (hy : plainName y.cls = true) (hlen : (lg_sl av).length ≤ maxL)
    (body : ∀ (p : Program) (e : Env) (s : State) (m : MethodId) (below : List Frame) (meth : Method) (c : Code) (A : Nat → Prop) (ls : Array Slot), p.tables.exec = Jvm.exec → c.code = cc → meth.sig.returnType = ret → c.maxLocals = maxL → s.vm.findClass y.cls = some m.cls → meth.locks = false → meth.name = y.name → (∀ w ∈ lw_all, w.before av.toArray s = true) → wd_K G s → ST A s s.heap → va_P G.1 vwCl ws s.heap → va_D A ws → va_S A s.heap s.heap [] → (∀ q : Nat, s.heap.size ≤ q → A q) → lv_has ls maxL (lv_args 0 av) →
      W p l e rm s m av.toArray below meth c s.heap [] 0 0 (MQ below (Qc A) av.toArray s mc ms A) (F0 m 0 ls [])) :
    Met l y (ws_ y cc maxL ret) rm (va_Pc av (wd_Pre G ws sz)) (Qc (va_A ws sz)) mc ms (va_A ws sz) := by
  refine Met.ofW (cc := cc) (maxL := maxL) (ret := ret) hy rfl ?_
  intro p e s m args below meth c s₁ B hml hv
  obtain ⟨rfl, hsz, hP, hK, hD0, hZ⟩ := hv
  have hts := atoms_spec (ws := ws_ y cc maxL ret) B.pre
  have hts : ∀ w ∈ lw_all, w.before av.toArray s = true := fun w h => hts w (List.mem_cons_of_mem _ h)
  subst hsz
  have hD := hD0.self (sz := s.heap.size)
  have hl := lv_entry av (n := maxL) hlen
  rw [lg_entry_eq]
  exact body p e s m below meth c _ _ B.exec B.bytes B.returns hml (findClass_of_methodNamed B.named) B.notSynchronized (name_of_methodNamed B.named B.method).1 hts hK hZ hP hD va_S.rf (fun q h => Or.inr h) hl
/-- the start of a contract that only reads -/
theorem wd_ofR {l : Launch} {y : MethodName} {rm : Room} {av : List Value} {G : wd_G} {ws : va_W} {post : Int32 → Prop} {cc : ByteArray} {maxL : Nat} {ret : Option FieldType}
    (hy : plainName y.cls = true) (hlen : (lg_sl av).length ≤ maxL)
    (body : ∀ (p : Program) (e : Env) (s : State) (m : MethodId) (below : List Frame) (meth : Method) (c : Code) (ls : Array Slot), p.tables.exec = Jvm.exec → c.code = cc → meth.sig.returnType = ret → c.maxLocals = maxL → s.vm.findClass y.cls = some m.cls → meth.locks = false → (∀ w ∈ lw_all, w.before av.toArray s = true) → wd_K G s → va_P G.1 vwCl ws s.heap → lv_has ls maxL (lv_args 0 av) →
      W p l e rm s m av.toArray below meth c s.heap [] 0 0 (MQ below (vp_Si post) av.toArray s 0 0 (fun _ => False)) (F0 m 0 ls [])) :
    Met l y (ws_ y cc maxL ret) rm (va_Pc av (wd_PreR G ws)) (vp_Si post) 0 0 (fun _ => False) := by
  refine Met.ofW (cc := cc) (maxL := maxL) (ret := ret) hy rfl ?_
  intro p e s m args below meth c s₁ B hml hv
  obtain ⟨rfl, hP, hK⟩ := hv
  have hts := atoms_spec (ws := ws_ y cc maxL ret) B.pre
  have hts : ∀ w ∈ lw_all, w.before av.toArray s = true := fun w h => hts w (List.mem_cons_of_mem _ h)
  have hl := lv_entry av (n := maxL) hlen
  rw [lg_entry_eq]
  exact body p e s m below meth c _ B.exec B.bytes B.returns hml (findClass_of_methodNamed B.named) B.notSynchronized hts hK hP hl
theorem wd_inc (i n : Nat) : nI i + Int32.ofInt (n : Int) = nI (i + n) := by
  have e : Int32.ofInt (n : Int) = nI n := by
    apply Int32.toBitVec_inj.mp
    show BitVec.ofInt 32 (n : Int) = BitVec.ofNat 32 n
    exact BitVec.ofInt_natCast 32 n
  rw [e]
  exact nI_add i n
section WDR
variable {p : Program} {l : Launch} {e : Env} {R : Room} {s : State} {m : MethodId} {args : Array Value} {below : List Frame} {meth : Method} {c : Code} {H : Heap} {locs : List Loc} {cells slots : Nat} {Q : State → Prop}
variable {cc : ByteArray} {pc : Nat} {ls : Array Slot} {rest st0 : List Value} {G : wd_G} {A : Nat → Prop} {a : Nat} {ws wc wr : va_W} {H0 : Heap}
theorem lv_eqi {x y : Int32} (h : x = y) (k : W p l e R s m args below meth c H locs cells slots Q (F0 m pc ls (.int y :: rest))) : W p l e R s m args below meth c H locs cells slots Q (F0 m pc ls (.int x :: rest)) := by
  rw [h]
  exact k
theorem wd_iaddN (hexec : p.tables.exec = Jvm.exec) (hb : c.code = cc) {x y : Nat} (hdg : decode cc pc = .ok (.iadd, 1)) (k : W p l e R s m args below meth c H locs cells slots Q (F0 m (pc + 1) ls (.int (nI (x + y)) :: rest))) : W p l e R s m args below meth c H locs cells slots Q (F0 m pc ls (.int (nI y) :: .int (nI x) :: rest)) := lv_iadd hexec hb hdg (lv_eqi (nI_add x y) k)
theorem wd_imulN (hexec : p.tables.exec = Jvm.exec) (hb : c.code = cc) {x y : Nat} (hdg : decode cc pc = .ok (.imul, 1)) (k : W p l e R s m args below meth c H locs cells slots Q (F0 m (pc + 1) ls (.int (nI (x * y)) :: rest))) : W p l e R s m args below meth c H locs cells slots Q (F0 m pc ls (.int (nI y) :: .int (nI x) :: rest)) := lv_imul hexec hb hdg (lv_eqi (pk_mul x y) k)
theorem wd_isubN (hexec : p.tables.exec = Jvm.exec) (hb : c.code = cc) {x y : Nat} (hdg : decode cc pc = .ok (.isub, 1)) (hle : y ≤ x) (k : W p l e R s m args below meth c H locs cells slots Q (F0 m (pc + 1) ls (.int (nI (x - y)) :: rest))) : W p l e R s m args below meth c H locs cells slots Q (F0 m pc ls (.int (nI y) :: .int (nI x) :: rest)) := lv_isub hexec hb hdg (lv_eqi (pk_sub hle) k)
theorem wd_iremN (hexec : p.tables.exec = Jvm.exec) (hb : c.code = cc) {x y : Nat} (hdg : decode cc pc = .ok (.irem, 1)) (hx : x < 2147483648) (h0 : 0 < y) (hy : y < 2147483648) (k : W p l e R s m args below meth c H locs cells slots Q (F0 m (pc + 1) ls (.int (nI (x % y)) :: rest))) : W p l e R s m args below meth c H locs cells slots Q (F0 m pc ls (.int (nI y) :: .int (nI x) :: rest)) := lv_irem hexec hb hdg (nI_ne0 h0 hy) (lv_eqi (pk_rem hx h0 hy) k)
theorem wd_idivN (hexec : p.tables.exec = Jvm.exec) (hb : c.code = cc) {x y : Nat} (hdg : decode cc pc = .ok (.idiv, 1)) (hx : x < 2147483648) (h0 : 0 < y) (hy : y < 2147483648) (k : W p l e R s m args below meth c H locs cells slots Q (F0 m (pc + 1) ls (.int (nI (x / y)) :: rest))) : W p l e R s m args below meth c H locs cells slots Q (F0 m pc ls (.int (nI y) :: .int (nI x) :: rest)) := lv_idiv hexec hb hdg (nI_ne0 h0 hy) (lv_eqi (pk_div hx h0 hy) k)
theorem wd_ild (hexec : p.tables.exec = Jvm.exec) (hb : c.code = cc) (hK : wd_K G s) (hP : va_P G.1 vwCl ws H) (q0 : Nat) {n : Nat} {f : Nat → Int32} (ha : ws[q0]? = some (a, .inl (G.2.2, n, .inl f))) (k : Nat) (hk : k < n) (hn : n < 2147483648) (hdg : decode cc pc = .ok (.iaload, 1)) (kk : W p l e R s m args below meth c H locs cells slots Q (F0 m (pc + 1) ls (.int (f k) :: rest))) : W p l e R s m args below meth c H locs cells slots Q (F0 m pc ls (.int (nI k) :: .ref a :: rest)) := by
  refine va_iald hexec hb hK hP q0 1 ha rfl (vp_in_nI hk hn) hdg ?_
  rw [nI_clamp (Nat.lt_trans hk hn)]
  exact kk
theorem wd_bld (hexec : p.tables.exec = Jvm.exec) (hb : c.code = cc) (hK : wd_K G s) (hP : va_P G.1 vwCl ws H) (q0 : Nat) {n : Nat} {f : Nat → Int32} (ha : ws[q0]? = some (a, .inl (G.2.1, n, .inl f))) (k : Nat) (hk : k < n) (hn : n < 2147483648) (hdg : decode cc pc = .ok (.baload, 1)) (kk : W p l e R s m args below meth c H locs cells slots Q (F0 m (pc + 1) ls (.int (f k) :: rest))) : W p l e R s m args below meth c H locs cells slots Q (F0 m pc ls (.int (nI k) :: .ref a :: rest)) := by
  refine va_bald hexec hb hK hP q0 0 ha rfl (vp_in_nI hk hn) hdg ?_
  rw [nI_clamp (Nat.lt_trans hk hn)]
  exact kk
theorem wd_ist (hexec : p.tables.exec = Jvm.exec) (hb : c.code = cc) (hK : wd_K G s) (hP : va_P G.1 vwCl ws H) (hD : va_D A ws) (hS : va_S A H0 H locs) (q0 : Nat) {n : Nat} {f : Nat → Int32} (ha : ws[q0]? = some (a, .inl (G.2.2, n, .inl f))) (k : Nat) (hk : k < n) (hn : n < 2147483648) {x : Int32} (hdg : decode cc pc = .ok (.iastore, 1))
    (kk : ∀ g : Nat → Int32, g = upd f k x → ∀ (H1 : Heap) (locs1 : List Loc), va_P G.1 vwCl (ws.set q0 (a, .inl (G.2.2, n, .inl g))) H1 → va_D A (ws.set q0 (a, .inl (G.2.2, n, .inl g))) → va_S A H0 H1 locs1 → W p l e R s m args below meth c H1 locs1 cells slots Q (F0 m (pc + 1) ls rest)) : W p l e R s m args below meth c H locs cells slots Q (F0 m pc ls (.int x :: .int (nI k) :: .ref a :: rest)) := by
  refine va_iast hexec hb hK hP hD hS q0 1 ha rfl (vp_in_nI hk hn) hdg ?_
  rw [nI_clamp (Nat.lt_trans hk hn)]
  exact kk _ rfl
theorem wd_bst (hexec : p.tables.exec = Jvm.exec) (hb : c.code = cc) (hK : wd_K G s) (hP : va_P G.1 vwCl ws H) (hD : va_D A ws) (hS : va_S A H0 H locs) (q0 : Nat) {n : Nat} {f : Nat → Int32} (ha : ws[q0]? = some (a, .inl (G.2.1, n, .inl f))) (k : Nat) (hk : k < n) (hn : n < 2147483648) {x : Int32} (hx : vp_nar .byte x = x) (hdg : decode cc pc = .ok (.bastore, 1))
    (kk : ∀ g : Nat → Int32, g = upd f k x → ∀ (H1 : Heap) (locs1 : List Loc), va_P G.1 vwCl (ws.set q0 (a, .inl (G.2.1, n, .inl g))) H1 → va_D A (ws.set q0 (a, .inl (G.2.1, n, .inl g))) → va_S A H0 H1 locs1 → W p l e R s m args below meth c H1 locs1 cells slots Q (F0 m (pc + 1) ls rest)) : W p l e R s m args below meth c H locs cells slots Q (F0 m pc ls (.int x :: .int (nI k) :: .ref a :: rest)) := by
  refine va_bast hexec hb hK hP hD hS q0 0 ha rfl (vp_in_nI hk hn) hdg ?_
  rw [nI_clamp (Nat.lt_trans hk hn), hx]
  exact kk _ rfl
/-- a new array of ints, of bytes: its class is the fixed one -/
theorem wd_newI (hexec : p.tables.exec = Jvm.exec) (hb : c.code = cc) (harr : (Cond.arrayClass .int).before args s = true) (hK : wd_K G s) (hP : va_P G.1 vwCl ws H) (hD : va_D A ws) (hS : va_S A H0 H locs) (hA : ∀ q : Nat, H0.size ≤ q → A q) {N : Nat} (hN : N < 100000000) (hcells : cells + 1 ≤ R.cells) (hslots : slots + N ≤ R.slots) (hdg : decode cc pc = .ok (.newarray .int, 2))
    (kk : ∀ (q : Nat) (H1 : Heap), va_P G.1 vwCl (ws ++ [cl_I G q N (fun _ => 0)]) H1 → va_D A (ws ++ [cl_I G q N (fun _ => 0)]) → va_S A H0 H1 locs → W p l e R s m args below meth c H1 locs (cells + 1) (slots + N) Q (F0 m (pc + 2) ls (.ref q :: rest))) : W p l e R s m args below meth c H locs cells slots Q (F0 m pc ls (.int (nI N) :: rest)) := by
  refine va_newa (atype := .int) (ty := .int) (a0 := (N, .inl (fun _ => 0))) hexec hb harr rfl hK hP hD hS hA (fun cA => rfl) (nI_pos (by omega)) (nI_clamp (by omega)) (by show N * 4 ≤ _; omega) hcells hslots hdg ?_
  intro q cA H1 hK1 hP1 hD1 hS1
  have e : cA = G.2.2 := by
    have h1 : s.vm.findClass ("[" ++ FieldType.int.toString) = some cA := (hK1.2 2 (cA, .int) rfl).2
    have h2 : s.vm.findClass ("[" ++ FieldType.int.toString) = some G.2.2 := (hK.2 1 (G.2.2, .int) rfl).2
    exact Option.some.inj (h1.symm.trans h2)
  subst e
  exact kk q H1 hP1 hD1 hS1
theorem wd_newB (hexec : p.tables.exec = Jvm.exec) (hb : c.code = cc) (harr : (Cond.arrayClass .byte).before args s = true) (hK : wd_K G s) (hP : va_P G.1 vwCl ws H) (hD : va_D A ws) (hS : va_S A H0 H locs) (hA : ∀ q : Nat, H0.size ≤ q → A q) {N : Nat} (hN : N < 100000000) (hcells : cells + 1 ≤ R.cells) (hslots : slots + N ≤ R.slots) (hdg : decode cc pc = .ok (.newarray .byte, 2))
    (kk : ∀ (q : Nat) (H1 : Heap), va_P G.1 vwCl (ws ++ [cl_B G q N (fun _ => 0)]) H1 → va_D A (ws ++ [cl_B G q N (fun _ => 0)]) → va_S A H0 H1 locs → W p l e R s m args below meth c H1 locs (cells + 1) (slots + N) Q (F0 m (pc + 2) ls (.ref q :: rest))) : W p l e R s m args below meth c H locs cells slots Q (F0 m pc ls (.int (nI N) :: rest)) := by
  refine va_newa (atype := .byte) (ty := .byte) (a0 := (N, .inl (fun _ => 0))) hexec hb harr rfl hK hP hD hS hA (fun cA => rfl) (nI_pos (by omega)) (nI_clamp (by omega)) (by show N * 1 ≤ _; omega) hcells hslots hdg ?_
  intro q cA H1 hK1 hP1 hD1 hS1
  have e : cA = G.2.1 := by
    have h1 : s.vm.findClass ("[" ++ FieldType.byte.toString) = some cA := (hK1.2 2 (cA, .byte) rfl).2
    have h2 : s.vm.findClass ("[" ++ FieldType.byte.toString) = some G.2.1 := (hK.2 0 (G.2.1, .byte) rfl).2
    exact Option.some.inj (h1.symm.trans h2)
  subst e
  exact kk q H1 hP1 hD1 hS1
/-- places of the static tables -/
theorem wd_ti {t N : Nat} {f : Nat → Value} (hexec : p.tables.exec = Jvm.exec) (hb : c.code = cc) (hT : va_T .int t N f A s s.heap) (hS : va_S A s.heap H locs) (k : Nat) (hk : k < N) (hN : N < 2147483648) (hdg : decode cc pc = .ok (.iaload, 1)) (kk : W p l e R s m args below meth c H locs cells slots Q (F0 m (pc + 1) ls (f k :: rest))) : W p l e R s m args below meth c H locs cells slots Q (F0 m pc ls (.int (nI k) :: .ref t :: rest)) :=
  va_ti hexec hb hT hS (vp_in_nI hk hN) (by rw [nI_clamp (Nat.lt_trans hk hN)]) hdg kk
theorem wd_tb {t N : Nat} {f : Nat → Value} (hexec : p.tables.exec = Jvm.exec) (hb : c.code = cc) (hT : va_T .byte t N f A s s.heap) (hS : va_S A s.heap H locs) (k : Nat) (hk : k < N) (hN : N < 2147483648) (hdg : decode cc pc = .ok (.baload, 1)) (kk : W p l e R s m args below meth c H locs cells slots Q (F0 m (pc + 1) ls (f k :: rest))) : W p l e R s m args below meth c H locs cells slots Q (F0 m pc ls (.int (nI k) :: .ref t :: rest)) :=
  va_tb hexec hb hT hS (vp_in_nI hk hN) (by rw [nI_clamp (Nat.lt_trans hk hN)]) hdg kk
theorem wd_tq {t N : Nat} {f : Nat → Value} {ty : FieldType} (hexec : p.tables.exec = Jvm.exec) (hb : c.code = cc) (hT : va_T (.array ty) t N f A s s.heap) (hS : va_S A s.heap H locs) (k : Nat) (hk : k < N) (hN : N < 2147483648) (hdg : decode cc pc = .ok (.aaload, 1)) (kk : W p l e R s m args below meth c H locs cells slots Q (F0 m (pc + 1) ls (f k :: rest))) : W p l e R s m args below meth c H locs cells slots Q (F0 m pc ls (.int (nI k) :: .ref t :: rest)) := by
  obtain ⟨cell, h1, h2, h3, h4, h5, h6, h7⟩ := hT
  have hin' : ¬ (nI k < 0 ∨ cell.slots.size ≤ (nI k).toNatClampNeg) := by
    have hin := vp_in_nI hk hN
    rw [nI_clamp (Nat.lt_trans hk hN)]
    intro q
    rcases q with q | q
    · exact hin (Or.inl q)
    · omega
  exact W.aald (v := f k) (ty := .array ty) hexec hb (by rw [hS.2.1 t (Array.getElem?_eq_some_iff.mp h1).1 h7]; exact h1) h2 rfl h3 hin' (by rw [nI_clamp (Nat.lt_trans hk hN)]; exact h6 k hk) rfl rfl hdg kk
/-! ends -/
theorem wd_vret {S : Type} {post : S → Prop} {w1 : S → va_W} (hexec : p.tables.exec = Jvm.exec) (hb : c.code = cc) (hr : meth.sig.returnType = none) (hlk : meth.locks = false) (u : S) (hu : post u) (hP : va_P G.1 vwCl (w1 u) H) (hD : va_D A (w1 u)) (hS : va_S A s.heap H locs) (hdg : decode cc pc = .ok (.return_, 1)) : W p l e R s m args below meth c H locs cells slots (MQ below (wd_Qv G post w1 A) args s cells slots A) (F0 m pc ls []) :=
  W.vret hexec hb hr (fun t ht _ => ⟨⟨u, rfl, hu, by rw [ht]; exact hP, hD⟩, hS.F ht⟩) hS.2.2 hdg
theorem wd_iret {S : Type} {post : Int32 → S → Prop} {w1 : S → va_W} {v : Int32} (hexec : p.tables.exec = Jvm.exec) (hb : c.code = cc) (hr : meth.sig.returnType = some .int) (hlk : meth.locks = false) (u : S) (hu : post v u) (hP : va_P G.1 vwCl (w1 u) H) (hD : va_D A (w1 u)) (hS : va_S A s.heap H locs) (hdg : decode cc pc = .ok (.ireturn, 1)) : W p l e R s m args below meth c H locs cells slots (MQ below (wd_Qi G post w1 A) args s cells slots A) (F0 m pc ls [.int v]) :=
  W.iret hexec hb hr (fun t ht _ => ⟨⟨v, u, rfl, hu, by rw [ht]; exact hP, hD⟩, hS.F ht⟩) hS.2.2 hdg
theorem wd_zret {S : Type} {post : Int32 → S → Prop} {w1 : S → va_W} {v : Int32} (hexec : p.tables.exec = Jvm.exec) (hb : c.code = cc) (hr : meth.sig.returnType = some .boolean) (hlk : meth.locks = false) (hn : narrow .boolean (.int v) = .int v) (u : S) (hu : post v u) (hP : va_P G.1 vwCl (w1 u) H) (hD : va_D A (w1 u)) (hS : va_S A s.heap H locs) (hdg : decode cc pc = .ok (.ireturn, 1)) : W p l e R s m args below meth c H locs cells slots (MQ below (wd_Qi G post w1 A) args s cells slots A) (F0 m pc ls [.int v]) :=
  W.zret hexec hb hr hn (fun t ht _ => ⟨⟨v, u, rfl, hu, by rw [ht]; exact hP, hD⟩, hS.F ht⟩) hS.2.2 hdg
theorem wd_aret {S : Type} {post : S → Prop} {w1 : S → Nat → va_W} {rt : FieldType} (hexec : p.tables.exec = Jvm.exec) (hb : c.code = cc) (hr : meth.sig.returnType = some rt) (hrt : (∃ n, rt = .object n) ∨ ∃ t, rt = .array t) (hlk : meth.locks = false) (u : S) (hu : post u) (hP : va_P G.1 vwCl (w1 u a) H) (hD : va_D A (w1 u a)) (hS : va_S A s.heap H locs) (hdg : decode cc pc = .ok (.areturn, 1)) : W p l e R s m args below meth c H locs cells slots (MQ below (wd_Qr G post w1 A) args s cells slots A) (F0 m pc ls [.ref a]) :=
  W.aret hexec hb hr hrt (Or.inr ⟨a, rfl⟩) (fun t ht _ => ⟨⟨u, a, rfl, hu, by rw [ht]; exact hP, hD⟩, hS.F ht⟩) hS.2.2 hdg
/-- the end of a method that only reads -/
theorem wd_rret {post : Int32 → Prop} {v : Int32} (hexec : p.tables.exec = Jvm.exec) (hb : c.code = cc) (hr : meth.sig.returnType = some .int) (hlk : meth.locks = false) (hu : post v) (hdg : decode cc pc = .ok (.ireturn, 1)) : W p l e R s m args below meth c s.heap [] cells slots (MQ below (vp_Si post) args s cells slots (fun _ => False)) (F0 m pc ls [.int v]) :=
  W.iret hexec hb hr (fun t ht _ => ⟨v, rfl, hu, ht⟩) (fun q h => by cases h) hdg
/-! behind a call -/
theorem wd_callv {S : Type} {post : S → Prop} {w1 : S → va_W} {av : Array Value} {mc ms : Nat} (hr : va_Run p l e R s m args below meth c H locs cells slots mc ms (F0 m pc ls st0) rest (wd_Qv G post w1 (va_A wc H.size) av) (va_A wc H.size)) (hP : va_P G.1 vwCl ws H) (hD : va_D A ws) (hS : va_S A s.heap H locs) (hA : ∀ q : Nat, s.heap.size ≤ q → A q) (isC isR : List Nat) (hC : isC.map (fun i => ws[i]?) = wc.map some) (hR : isR.map (fun i => ws[i]?) = wr.map some) (hn : va_nd isR = true) (hdis : ∀ i ∈ isR, i ∉ isC)
    (kk : ∀ (u : S), post u → ∀ (H1 : Heap) (locs1 : List Loc), va_P G.1 vwCl (wr ++ w1 u) H1 → va_D A (wr ++ w1 u) → va_S A s.heap H1 locs1 → W p l e R s m args below meth c H1 locs1 (cells + mc) (slots + ms) Q (F0 m (pc + 3) ls rest)) : W p l e R s m args below meth c H locs cells slots Q (F0 m pc ls st0) := by
  have hF := va_free hD hS hA isC hC
  refine va_callv hr hS (fun q _ h => hF q h) hF (fun u t H1 locs1 ht hvm hw hB hz hk hS1 => ?_)
  obtain ⟨hP1, hD1⟩ := hB
  rw [ht] at hP1
  obtain ⟨hP2, hD2⟩ := va_join hP hD isC isR hC hR hn hdis hk hF hP1 hD1
  exact kk u hw H1 locs1 hP2 hD2 hS1
theorem wd_calli {S : Type} {post : Int32 → S → Prop} {w1 : S → va_W} {av : Array Value} {mc ms : Nat} (hr : va_Run p l e R s m args below meth c H locs cells slots mc ms (F0 m pc ls st0) rest (wd_Qi G post w1 (va_A wc H.size) av) (va_A wc H.size)) (hP : va_P G.1 vwCl ws H) (hD : va_D A ws) (hS : va_S A s.heap H locs) (hA : ∀ q : Nat, s.heap.size ≤ q → A q) (isC isR : List Nat) (hC : isC.map (fun i => ws[i]?) = wc.map some) (hR : isR.map (fun i => ws[i]?) = wr.map some) (hn : va_nd isR = true) (hdis : ∀ i ∈ isR, i ∉ isC)
    (kk : ∀ (r : Int32) (u : S), post r u → ∀ (H1 : Heap) (locs1 : List Loc), va_P G.1 vwCl (wr ++ w1 u) H1 → va_D A (wr ++ w1 u) → va_S A s.heap H1 locs1 → W p l e R s m args below meth c H1 locs1 (cells + mc) (slots + ms) Q (F0 m (pc + 3) ls (.int r :: rest))) : W p l e R s m args below meth c H locs cells slots Q (F0 m pc ls st0) := by
  have hF := va_free hD hS hA isC hC
  refine va_calli hr hS (fun q _ h => hF q h) hF (fun r u t H1 locs1 ht hvm hw hB hz hk hS1 => ?_)
  obtain ⟨hP1, hD1⟩ := hB
  rw [ht] at hP1
  obtain ⟨hP2, hD2⟩ := va_join hP hD isC isR hC hR hn hdis hk hF hP1 hD1
  exact kk r u hw H1 locs1 hP2 hD2 hS1
theorem wd_callr {S : Type} {post : S → Prop} {w1 : S → Nat → va_W} {av : Array Value} {mc ms : Nat} (hr : va_Run p l e R s m args below meth c H locs cells slots mc ms (F0 m pc ls st0) rest (wd_Qr G post w1 (va_A wc H.size) av) (va_A wc H.size)) (hP : va_P G.1 vwCl ws H) (hD : va_D A ws) (hS : va_S A s.heap H locs) (hA : ∀ q : Nat, s.heap.size ≤ q → A q) (isC isR : List Nat) (hC : isC.map (fun i => ws[i]?) = wc.map some) (hR : isR.map (fun i => ws[i]?) = wr.map some) (hn : va_nd isR = true) (hdis : ∀ i ∈ isR, i ∉ isC)
    (kk : ∀ (u : S) (ra : Nat), post u → ∀ (H1 : Heap) (locs1 : List Loc), va_P G.1 vwCl (wr ++ w1 u ra) H1 → va_D A (wr ++ w1 u ra) → va_S A s.heap H1 locs1 → W p l e R s m args below meth c H1 locs1 (cells + mc) (slots + ms) Q (F0 m (pc + 3) ls (.ref ra :: rest))) : W p l e R s m args below meth c H locs cells slots Q (F0 m pc ls st0) := by
  have hF := va_free hD hS hA isC hC
  refine va_callr hr hS (fun q _ h => hF q h) hF (fun u ra t H1 locs1 ht hvm hw hB hz hk hS1 => ?_)
  obtain ⟨hP1, hD1⟩ := hB
  rw [ht] at hP1
  obtain ⟨hP2, hD2⟩ := va_join hP hD isC isR hC hR hn hdis hk hF hP1 hD1
  exact kk u ra hw H1 locs1 hP2 hD2 hS1
theorem wd_callFv {S : Type} {post : S → Prop} {w1 : S → va_W} {av : Array Value} {mc ms : Nat} (hr : va_Run5 p l e R s m args below meth c H locs cells slots mc ms (F0 m pc ls st0) rest (wd_Qv G post w1 (va_A wc H.size) av) (va_A wc H.size)) (hP : va_P G.1 vwCl ws H) (hD : va_D A ws) (hS : va_S A s.heap H locs) (hA : ∀ q : Nat, s.heap.size ≤ q → A q) (isC isR : List Nat) (hC : isC.map (fun i => ws[i]?) = wc.map some) (hR : isR.map (fun i => ws[i]?) = wr.map some) (hn : va_nd isR = true) (hdis : ∀ i ∈ isR, i ∉ isC)
    (kk : ∀ (u : S), post u → ∀ (H1 : Heap) (locs1 : List Loc), va_P G.1 vwCl (wr ++ w1 u) H1 → va_D A (wr ++ w1 u) → va_S A s.heap H1 locs1 → W p l e R s m args below meth c H1 locs1 (cells + mc) (slots + ms) Q (F0 m (pc + 5) ls rest)) : W p l e R s m args below meth c H locs cells slots Q (F0 m pc ls st0) := by
  have hF := va_free hD hS hA isC hC
  refine va_callFv hr hS (fun q _ h => hF q h) hF (fun u t H1 locs1 ht hvm hw hB hz hk hS1 => ?_)
  obtain ⟨hP1, hD1⟩ := hB
  rw [ht] at hP1
  obtain ⟨hP2, hD2⟩ := va_join hP hD isC isR hC hR hn hdis hk hF hP1 hD1
  exact kk u hw H1 locs1 hP2 hD2 hS1
theorem wd_callFi {S : Type} {post : Int32 → S → Prop} {w1 : S → va_W} {av : Array Value} {mc ms : Nat} (hr : va_Run5 p l e R s m args below meth c H locs cells slots mc ms (F0 m pc ls st0) rest (wd_Qi G post w1 (va_A wc H.size) av) (va_A wc H.size)) (hP : va_P G.1 vwCl ws H) (hD : va_D A ws) (hS : va_S A s.heap H locs) (hA : ∀ q : Nat, s.heap.size ≤ q → A q) (isC isR : List Nat) (hC : isC.map (fun i => ws[i]?) = wc.map some) (hR : isR.map (fun i => ws[i]?) = wr.map some) (hn : va_nd isR = true) (hdis : ∀ i ∈ isR, i ∉ isC)
    (kk : ∀ (r : Int32) (u : S), post r u → ∀ (H1 : Heap) (locs1 : List Loc), va_P G.1 vwCl (wr ++ w1 u) H1 → va_D A (wr ++ w1 u) → va_S A s.heap H1 locs1 → W p l e R s m args below meth c H1 locs1 (cells + mc) (slots + ms) Q (F0 m (pc + 5) ls (.int r :: rest))) : W p l e R s m args below meth c H locs cells slots Q (F0 m pc ls st0) := by
  have hF := va_free hD hS hA isC hC
  refine va_callFi hr hS (fun q _ h => hF q h) hF (fun r u t H1 locs1 ht hvm hw hB hz hk hS1 => ?_)
  obtain ⟨hP1, hD1⟩ := hB
  rw [ht] at hP1
  obtain ⟨hP2, hD2⟩ := va_join hP hD isC isR hC hR hn hdis hk hF hP1 hD1
  exact kk r u hw H1 locs1 hP2 hD2 hS1
end WDR
end
section
/-! arraycopy with numbers; branches on numbers -/
section WDY
variable {p : Program} {l : Launch} {e : Env} {R : Room} {s : State} {m : MethodId} {args : Array Value} {below : List Frame} {meth : Method} {c : Code} {H : Heap} {locs : List Loc} {cells slots : Nat} {Q : State → Prop}
variable {cc : ByteArray} {pc : Nat} {ls : Array Slot} {rest st0 : List Value} {G : wd_G} {A : Nat → Prop} {a : Nat} {ws wc wr : va_W} {H0 : Heap}
theorem wd_cpyB (hexec : p.tables.exec = Jvm.exec) (hb : c.code = cc) (hml : c.maxLocals = ls.size) {own : String} {index : Nat} (hown : s.vm.findClass own = some m.cls) (hlink : (Cond.methodLink own index arraycopyName).before args s = true) (hnat : (Cond.native arraycopyName).before args s = true) (hstat : (Cond.static arraycopyName).before args s = true) (hini : (Cond.initialized "java/lang/System").before args s = true)
    (hK : wd_K G s) (hP : va_P G.1 vwCl ws H) (hD : va_D A ws) (hS : va_S A H0 H locs) (q0 q1 : Nat) {a0 n0 n1 : Nat} {f g : Nat → Int32} (ha0 : ws[q0]? = some (a0, .inl (G.2.1, n0, .inl f))) (ha1 : ws[q1]? = some (a, .inl (G.2.1, n1, .inl g)))
    {sp dp n : Nat} (h4 : sp + n ≤ n0) (h5 : dp + n ≤ n1) (b0 : n0 < 2147483648) (b1 : n1 < 2147483648) (hfit : sb_Fit f)
    (hframes : 1 ≤ R.frames) (hlocals : (rest.map fun v => v.category).sum + (nativeFrameWords "java/lang/System" "arraycopy" 5 + 11) ≤ R.locals) (hdg : decode cc pc = .ok (.invokestatic index, 3))
    (kk : ∀ g' : Nat → Int32, g' = va_cpy f g sp dp n → ∀ (H1 : Heap) (locs1 : List Loc), va_P G.1 vwCl (ws.set q1 (a, .inl (G.2.1, n1, .inl g'))) H1 → va_D A (ws.set q1 (a, .inl (G.2.1, n1, .inl g'))) → va_S A H0 H1 locs1 → W p l e R s m args below meth c H1 locs1 cells slots Q (F0 m (pc + 3) ls rest)) : W p l e R s m args below meth c H locs cells slots Q (F0 m pc ls (.int (nI n) :: .int (nI dp) :: .ref a :: .int (nI sp) :: .ref a0 :: rest)) := by
  have c1 : (nI sp).toNatClampNeg = sp := nI_clamp (by omega)
  have c2 : (nI dp).toNatClampNeg = dp := nI_clamp (by omega)
  have c3 : (nI n).toNatClampNeg = n := nI_clamp (by omega)
  refine va_copyi (ty := .byte) hexec hb hml hown hlink hnat hstat hini hK hP hD hS q0 q1 0 0 ha0 ha1 rfl rfl rfl (nI_pos (by omega)) (nI_pos (by omega)) (nI_pos (by omega)) (by rw [c1, c3]; exact h4) (by rw [c2, c3]; exact h5) (fun i _ => hfit _) hframes hlocals hdg ?_
  rw [c1, c2, c3]
  exact kk _ rfl
theorem wd_cpyI (hexec : p.tables.exec = Jvm.exec) (hb : c.code = cc) (hml : c.maxLocals = ls.size) {own : String} {index : Nat} (hown : s.vm.findClass own = some m.cls) (hlink : (Cond.methodLink own index arraycopyName).before args s = true) (hnat : (Cond.native arraycopyName).before args s = true) (hstat : (Cond.static arraycopyName).before args s = true) (hini : (Cond.initialized "java/lang/System").before args s = true)
    (hK : wd_K G s) (hP : va_P G.1 vwCl ws H) (hD : va_D A ws) (hS : va_S A H0 H locs) (q0 q1 : Nat) {a0 n0 n1 : Nat} {f g : Nat → Int32} (ha0 : ws[q0]? = some (a0, .inl (G.2.2, n0, .inl f))) (ha1 : ws[q1]? = some (a, .inl (G.2.2, n1, .inl g)))
    {sp dp n : Nat} (h4 : sp + n ≤ n0) (h5 : dp + n ≤ n1) (b0 : n0 < 2147483648) (b1 : n1 < 2147483648)
    (hframes : 1 ≤ R.frames) (hlocals : (rest.map fun v => v.category).sum + (nativeFrameWords "java/lang/System" "arraycopy" 5 + 11) ≤ R.locals) (hdg : decode cc pc = .ok (.invokestatic index, 3))
    (kk : ∀ g' : Nat → Int32, g' = va_cpy f g sp dp n → ∀ (H1 : Heap) (locs1 : List Loc), va_P G.1 vwCl (ws.set q1 (a, .inl (G.2.2, n1, .inl g'))) H1 → va_D A (ws.set q1 (a, .inl (G.2.2, n1, .inl g'))) → va_S A H0 H1 locs1 → W p l e R s m args below meth c H1 locs1 cells slots Q (F0 m (pc + 3) ls rest)) : W p l e R s m args below meth c H locs cells slots Q (F0 m pc ls (.int (nI n) :: .int (nI dp) :: .ref a :: .int (nI sp) :: .ref a0 :: rest)) := by
  have c1 : (nI sp).toNatClampNeg = sp := nI_clamp (by omega)
  have c2 : (nI dp).toNatClampNeg = dp := nI_clamp (by omega)
  have c3 : (nI n).toNatClampNeg = n := nI_clamp (by omega)
  refine va_copyi (ty := .int) hexec hb hml hown hlink hnat hstat hini hK hP hD hS q0 q1 1 1 ha0 ha1 rfl rfl rfl (nI_pos (by omega)) (nI_pos (by omega)) (nI_pos (by omega)) (by rw [c1, c3]; exact h4) (by rw [c2, c3]; exact h5) (fun i _ => rfl) hframes hlocals hdg ?_
  rw [c1, c2, c3]
  exact kk _ rfl
/-- out of a static table of ints -/
theorem wd_cpyT (hexec : p.tables.exec = Jvm.exec) (hb : c.code = cc) (hml : c.maxLocals = ls.size) {own : String} {index : Nat} (hown : s.vm.findClass own = some m.cls) (hlink : (Cond.methodLink own index arraycopyName).before args s = true) (hnat : (Cond.native arraycopyName).before args s = true) (hstat : (Cond.static arraycopyName).before args s = true) (hini : (Cond.initialized "java/lang/System").before args s = true)
    (hK : wd_K G s) (hP : va_P G.1 vwCl ws H) (hD : va_D A ws) (hS : va_S A s.heap H locs) {b0 n0 : Nat} {f : Nat → Int32} (hX : va_T .int b0 n0 (fun j => .int (f j)) A s s.heap) (q1 : Nat) {n1 : Nat} {g : Nat → Int32} (ha1 : ws[q1]? = some (a, .inl (G.2.2, n1, .inl g)))
    {sp dp n : Nat} (h4 : sp + n ≤ n0) (h5 : dp + n ≤ n1) (b2 : n0 < 2147483648) (b1 : n1 < 2147483648)
    (hframes : 1 ≤ R.frames) (hlocals : (rest.map fun v => v.category).sum + (nativeFrameWords "java/lang/System" "arraycopy" 5 + 11) ≤ R.locals) (hdg : decode cc pc = .ok (.invokestatic index, 3))
    (kk : ∀ g' : Nat → Int32, g' = va_cpy f g sp dp n → ∀ (H1 : Heap) (locs1 : List Loc), va_P G.1 vwCl (ws.set q1 (a, .inl (G.2.2, n1, .inl g'))) H1 → va_D A (ws.set q1 (a, .inl (G.2.2, n1, .inl g'))) → va_S A s.heap H1 locs1 → W p l e R s m args below meth c H1 locs1 cells slots Q (F0 m (pc + 3) ls rest)) : W p l e R s m args below meth c H locs cells slots Q (F0 m pc ls (.int (nI n) :: .int (nI dp) :: .ref a :: .int (nI sp) :: .ref b0 :: rest)) := by
  have c1 : (nI sp).toNatClampNeg = sp := nI_clamp (by omega)
  have c2 : (nI dp).toNatClampNeg = dp := nI_clamp (by omega)
  have c3 : (nI n).toNatClampNeg = n := nI_clamp (by omega)
  have i1 : (nI sp).toInt = (sp : Int) := nI_toInt (by omega)
  have i2 : (nI dp).toInt = (dp : Int) := nI_toInt (by omega)
  have i3 : (nI n).toInt = (n : Int) := nI_toInt (by omega)
  intro T hT X
  obtain ⟨scr, hs1, hs2, hs3, hs4, -, hs5, hs7⟩ := hX
  have hc0 : H[b0]? = some scr := by rw [hS.2.1 b0 (Array.getElem?_eq_some_iff.mp hs1).1 hs7]; exact hs1
  have hc1 : H[a]? = some (vp_cell G.2.2 (n1, .inl g)) := hP q1 _ ha1
  obtain ⟨hs6, k0, hk0, cm0, hkk0⟩ := hs2
  obtain ⟨-, k1, hk1, cm1, hkk1⟩ := (hK.2 1 _ rfl).1 n1 (fun j => .int (g j))
  obtain ⟨vm', X', step⟩ := X.arraycopy hexec hown hlink hnat hstat hini (src := b0) (dst := a) (cs := scr) (cd := vp_cell G.2.2 (n1, .inl g)) (srcPos := nI sp) (destPos := nI dp) (n := nI n) (by rw [hT]; exact hc0) (by rw [hT]; exact hc1)
    hs6 (fun _ h => by cases h) hs3 (fun h => by cases h) hk0 hk1 hkk0 hkk1 (by simp [refKind]) (nI_pos (by omega)) (nI_pos (by omega)) (nI_pos (by omega))
    (by rw [i1, i3]; omega)
    (by rw [i2, i3]; show ¬ _ > ((arrV G.2.2 n1 (fun j => .int (g j))).slots.size : Int); rw [arrV_size]; omega)
    (fun vm₁ _ i hi => by
      rw [c3] at hi
      have e : scr.slots.getD ((nI sp).toNatClampNeg + i) .null = .int (f (sp + i)) := by
        rw [c1, Array.getD_eq_getD_getElem?, hs5 _ (by omega)]
        rfl
      refine ⟨?_, ?_⟩
      · rw [e]
        rfl
      · rw [e]
        exact trivial)
    (g := F0 m pc ls (.int (nI n) :: .int (nI dp) :: .ref a :: .int (nI sp) :: .ref b0 :: rest)) rfl (by rw [hml]) (rest := rest) rfl (by rw [hb]; exact hdg) hframes (by show 2 * 0 + _ + _ ≤ _; omega)
  have e1 : copied scr (vp_cell G.2.2 (n1, .inl g)) (nI sp) (nI dp) (nI n) = vp_cell G.2.2 (n1, .inl (va_cpy f g (nI sp).toNatClampNeg (nI dp).toNatClampNeg (nI n).toNatClampNeg)) := va_copiedX (fun z => .int z) scr G.2.2 f g hs5 (by rw [c1, c3]; exact h4)
  rw [c1, c2, c3] at e1
  rw [e1] at X' step
  have hl : a < H.size := (Array.getElem?_eq_some_iff.mp hc1).1
  have hheap : ((T.setVm vm').setCell a (vp_cell G.2.2 (n1, .inl (va_cpy f g sp dp n)))).heap = H.setIfInBounds a (vp_cell G.2.2 (n1, .inl (va_cpy f g sp dp n))) := by rw [← hT]; rfl
  have oq : ∀ q : Nat, q ≠ a → (H.setIfInBounds a (vp_cell G.2.2 (n1, .inl (va_cpy f g sp dp n))))[q]? = H[q]? := fun q hq => by simp [Array.getElem?_setIfInBounds, Ne.symm hq]
  obtain ⟨t, a1, b1⟩ := kk _ rfl _ _ (hP.set hD ha1 (show (H.setIfInBounds a _)[a]? = some _ by simp [Array.getElem?_setIfInBounds, hl]) oq) (hD.set ha1) ⟨by simp; exact hS.1, fun q g1 g2 => by
      rw [oq q (fun e => g2 (by rw [e]; exact hD.2 q1 _ ha1))]
      exact hS.2.1 q g1 g2, fun q hq => by
      rcases List.mem_append.mp hq with h | h
      · exact hS.2.2 q h
      · obtain ⟨z, -, hz⟩ := List.mem_map.mp h
        rw [← hz]
        exact hD.2 q1 _ ha1⟩ _ hheap X'
  exact ⟨t, step t a1, b1⟩
/-! branches on numbers that are not negative -/
theorem wd_ge {x y : Nat} (hexec : p.tables.exec = Jvm.exec) (hb : c.code = cc) {off : Int} {tgt : Nat} (hdg : decode cc pc = .ok (.if_icmp .ge off, 3)) (ht : (pc : Int) + off = (tgt : Int)) (hx : x < 2147483648) (hy : y < 2147483648)
    (kt : y ≤ x → W p l e R s m args below meth c H locs cells slots Q (F0 m tgt ls rest)) (kf : x < y → W p l e R s m args below meth c H locs cells slots Q (F0 m (pc + 3) ls rest)) : W p l e R s m args below meth c H locs cells slots Q (F0 m pc ls (.int (nI y) :: .int (nI x) :: rest)) :=
  lv_icmp_ge hexec hb hdg ht (fun h => kt ((nI_leI hy hx).mp h)) (fun h => kf (Nat.not_le.mp (fun q => h ((nI_leI hy hx).mpr q))))
theorem wd_le {x y : Nat} (hexec : p.tables.exec = Jvm.exec) (hb : c.code = cc) {off : Int} {tgt : Nat} (hdg : decode cc pc = .ok (.if_icmp .le off, 3)) (ht : (pc : Int) + off = (tgt : Int)) (hx : x < 2147483648) (hy : y < 2147483648)
    (kt : x ≤ y → W p l e R s m args below meth c H locs cells slots Q (F0 m tgt ls rest)) (kf : y < x → W p l e R s m args below meth c H locs cells slots Q (F0 m (pc + 3) ls rest)) : W p l e R s m args below meth c H locs cells slots Q (F0 m pc ls (.int (nI y) :: .int (nI x) :: rest)) :=
  lv_icmp_le hexec hb hdg ht (fun h => kt ((nI_leI hx hy).mp h)) (fun h => kf (Nat.not_le.mp (fun q => h ((nI_leI hx hy).mpr q))))
theorem wd_lt {x y : Nat} (hexec : p.tables.exec = Jvm.exec) (hb : c.code = cc) {off : Int} {tgt : Nat} (hdg : decode cc pc = .ok (.if_icmp .lt off, 3)) (ht : (pc : Int) + off = (tgt : Int)) (hx : x < 2147483648) (hy : y < 2147483648)
    (kt : x < y → W p l e R s m args below meth c H locs cells slots Q (F0 m tgt ls rest)) (kf : y ≤ x → W p l e R s m args below meth c H locs cells slots Q (F0 m (pc + 3) ls rest)) : W p l e R s m args below meth c H locs cells slots Q (F0 m pc ls (.int (nI y) :: .int (nI x) :: rest)) :=
  lv_icmp_lt hexec hb hdg ht (fun h => kt ((nI_ltI hx hy).mp h)) (fun h => kf (Nat.not_lt.mp (fun q => h ((nI_ltI hx hy).mpr q))))
theorem wd_gt {x y : Nat} (hexec : p.tables.exec = Jvm.exec) (hb : c.code = cc) {off : Int} {tgt : Nat} (hdg : decode cc pc = .ok (.if_icmp .gt off, 3)) (ht : (pc : Int) + off = (tgt : Int)) (hx : x < 2147483648) (hy : y < 2147483648)
    (kt : y < x → W p l e R s m args below meth c H locs cells slots Q (F0 m tgt ls rest)) (kf : x ≤ y → W p l e R s m args below meth c H locs cells slots Q (F0 m (pc + 3) ls rest)) : W p l e R s m args below meth c H locs cells slots Q (F0 m pc ls (.int (nI y) :: .int (nI x) :: rest)) :=
  lv_icmp_gt hexec hb hdg ht (fun h => kt ((nI_ltI hy hx).mp h)) (fun h => kf (Nat.not_lt.mp (fun q => h ((nI_ltI hy hx).mpr q))))
theorem wd_ne {x y : Nat} (hexec : p.tables.exec = Jvm.exec) (hb : c.code = cc) {off : Int} {tgt : Nat} (hdg : decode cc pc = .ok (.if_icmp .ne off, 3)) (ht : (pc : Int) + off = (tgt : Int)) (hx : x < 2147483648) (hy : y < 2147483648)
    (kt : x ≠ y → W p l e R s m args below meth c H locs cells slots Q (F0 m tgt ls rest)) (kf : x = y → W p l e R s m args below meth c H locs cells slots Q (F0 m (pc + 3) ls rest)) : W p l e R s m args below meth c H locs cells slots Q (F0 m pc ls (.int (nI y) :: .int (nI x) :: rest)) :=
  lv_icmp_ne hexec hb hdg ht (fun h => kt (fun q => h ((nI_eq hx hy).mpr q))) (fun h => kf ((nI_eq hx hy).mp h))
theorem wd_ifne {x : Nat} (hexec : p.tables.exec = Jvm.exec) (hb : c.code = cc) {off : Int} {tgt : Nat} (hdg : decode cc pc = .ok (.ifCond .ne off, 3)) (ht : (pc : Int) + off = (tgt : Int)) (hx : x < 2147483648)
    (kt : x ≠ 0 → W p l e R s m args below meth c H locs cells slots Q (F0 m tgt ls rest)) (kf : x = 0 → W p l e R s m args below meth c H locs cells slots Q (F0 m (pc + 3) ls rest)) : W p l e R s m args below meth c H locs cells slots Q (F0 m pc ls (.int (nI x) :: rest)) :=
  lv_if_ne hexec hb hdg ht (fun h => kt (fun q => h (by rw [q]; exact nI_0))) (fun h => kf ((nI_eq hx (by decide)).mp (h.trans nI_0.symm)))
theorem wd_ifeq {x : Nat} (hexec : p.tables.exec = Jvm.exec) (hb : c.code = cc) {off : Int} {tgt : Nat} (hdg : decode cc pc = .ok (.ifCond .eq off, 3)) (ht : (pc : Int) + off = (tgt : Int)) (hx : x < 2147483648)
    (kt : x = 0 → W p l e R s m args below meth c H locs cells slots Q (F0 m tgt ls rest)) (kf : x ≠ 0 → W p l e R s m args below meth c H locs cells slots Q (F0 m (pc + 3) ls rest)) : W p l e R s m args below meth c H locs cells slots Q (F0 m pc ls (.int (nI x) :: rest)) :=
  lv_if_eq hexec hb hdg ht (fun h => kt ((nI_eq hx (by decide)).mp (h.trans nI_0.symm))) (fun h => kf (fun q => h (by rw [q]; exact nI_0)))
theorem wd_ifle {x : Nat} (hexec : p.tables.exec = Jvm.exec) (hb : c.code = cc) {off : Int} {tgt : Nat} (hdg : decode cc pc = .ok (.ifCond .le off, 3)) (ht : (pc : Int) + off = (tgt : Int)) (hx : x < 2147483648)
    (kt : x = 0 → W p l e R s m args below meth c H locs cells slots Q (F0 m tgt ls rest)) (kf : 0 < x → W p l e R s m args below meth c H locs cells slots Q (F0 m (pc + 3) ls rest)) : W p l e R s m args below meth c H locs cells slots Q (F0 m pc ls (.int (nI x) :: rest)) :=
  lv_if_le hexec hb hdg ht (fun h => kt (Nat.le_zero.mp ((nI_leI hx (by decide)).mp (show nI x ≤ nI 0 from h)))) (fun h => kf (Nat.pos_of_ne_zero (fun q => h (show nI x ≤ nI 0 by rw [q]; exact Int32.le_refl _))))
end WDY
/-- what a call through an interface asks: va_cwF n hts (lw_F ..) -/
theorem lw_F {own : String} {idx : Nat} {C : String} {x y : MethodName} {b : ByteArray} {L : Nat} {r : Option FieldType} (h1 : Cond.methodLink own idx x ∈ lw_all) (h2 : Cond.selects C x y ∈ lw_all) (h3 : Cond.instanceMethod y ∈ lw_all) (h4 : Cond.initialized y.cls ∈ lw_all) (h5 : Cond.code y b L r ∈ lw_all) : GoodIn lw_all (va_wsF own idx C x y (ws_ y b L r)) := by
  refine lw_app ?_ (lw_meth h5)
  intro w hw
  simp only [List.mem_cons, List.not_mem_nil, or_false] at hw
  rcases hw with e | e | e | e
  · rw [e]; exact h1
  · rw [e]; exact h2
  · rw [e]; exact h3
  · rw [e]; exact h4
end
section
/-! a contract whose start knows a row of a static table; new objects; words of text -/
def wd_PreT (G : wd_G) (ws : va_W) (sz t N : Nat) (f : Nat → Value) (U : State) : Prop := wd_Pre G ws sz U ∧ va_T .int t N f (va_A ws sz) U U.heap
theorem wd_blindT {av : List Value} {G : wd_G} {ws : va_W} {sz t N : Nat} {f : Nat → Value} : FrameBlind (va_Pc av (wd_PreT G ws sz t N f)) := by
  intro a U g mk q
  obtain ⟨q0, q1, q2⟩ := q
  have h := wd_blind (av := av) (G := G) (ws := ws) (sz := sz) a U g mk ⟨q0, q1⟩
  exact ⟨h.1, h.2, va_T.moved (u := U) (U := U.calling g mk a) (Vm.Alike.refl U.vm) q2⟩
theorem wd_ofT {l : Launch} {y : MethodName} {rm : Room} {av : List Value} {G : wd_G} {ws : va_W} {sz t N : Nat} {f : Nat → Value} {Qc : (Nat → Prop) → Array Value → State → Outcome → State → Prop} {mc ms : Nat} {cc : ByteArray} {maxL : Nat} {ret : Option FieldType}
    (hy : plainName y.cls = true) (hlen : (lg_sl av).length ≤ maxL)
    (body : ∀ (p : Program) (e : Env) (s : State) (m : MethodId) (below : List Frame) (meth : Method) (c : Code) (A : Nat → Prop) (ls : Array Slot), p.tables.exec = Jvm.exec → c.code = cc → meth.sig.returnType = ret → c.maxLocals = maxL → s.vm.findClass y.cls = some m.cls → meth.locks = false → meth.name = y.name → (∀ w ∈ lw_all, w.before av.toArray s = true) → wd_K G s → ST A s s.heap → va_P G.1 vwCl ws s.heap → va_D A ws → va_S A s.heap s.heap [] → (∀ q : Nat, s.heap.size ≤ q → A q) → va_T .int t N f A s s.heap → lv_has ls maxL (lv_args 0 av) →
      W p l e rm s m av.toArray below meth c s.heap [] 0 0 (MQ below (Qc A) av.toArray s mc ms A) (F0 m 0 ls [])) :
    Met l y (ws_ y cc maxL ret) rm (va_Pc av (wd_PreT G ws sz t N f)) (Qc (va_A ws sz)) mc ms (va_A ws sz) := by
  refine Met.ofW (cc := cc) (maxL := maxL) (ret := ret) hy rfl ?_
  intro p e s m args below meth c s₁ B hml hv
  obtain ⟨rfl, ⟨hsz, hP, hK, hD0, hZ⟩, hT⟩ := hv
  have hts := atoms_spec (ws := ws_ y cc maxL ret) B.pre
  have hts : ∀ w ∈ lw_all, w.before av.toArray s = true := fun w h => hts w (List.mem_cons_of_mem _ h)
  subst hsz
  have hD := hD0.self (sz := s.heap.size)
  have hl := lv_entry av (n := maxL) hlen
  rw [lg_entry_eq]
  exact body p e s m below meth c _ _ B.exec B.bytes B.returns hml (findClass_of_methodNamed B.named) B.notSynchronized (name_of_methodNamed B.named B.method).1 hts hK hZ hP hD va_S.rf (fun q h => Or.inr h) hT hl
theorem wd_preST {G : wd_G} {A : Nat → Prop} {s : State} {H : Heap} {locs : List Loc} {ws wc : va_W} {t N : Nat} {f : Nat → Value} (hK : wd_K G s) (hZ : ST A s s.heap) (hP : va_P G.1 vwCl ws H) (hD : va_D A ws) (hS : va_S A s.heap H locs) (hA : ∀ q : Nat, s.heap.size ≤ q → A q) (is : List Nat) (hn : va_nd is = true) (hC : is.map (fun i => ws[i]?) = wc.map some) (hT : va_T .int t N f A s s.heap) {As : List Value} : PreS s H (va_Pc As (wd_PreT G wc H.size t N f)) As :=
  ⟨wd_blindT, fun U hU hW => ⟨rfl, wd_pre hK hZ hP hD hS hA is hn hC U hU hW, by
    rw [hU]
    exact va_T.narrow (va_T.moved hW.alike (hT.kept hS.2.1)) (va_free hD hS hA is hC)⟩⟩
theorem new_X0 : ∀ j, j < 5 → defaultValue (tyX0 j) = vp_V [.null, .null, .int (nI 0), .null, .int (nI 0)] j := by
  intro j hj
  rcases (by omega : j = 0 ∨ j = 1 ∨ j = 2 ∨ j = 3 ∨ j = 4) with rfl | rfl | rfl | rfl | rfl <;> rfl
theorem new_X3 : ∀ j, j < 6 → defaultValue (tyX3 j) = vp_V [.null, .int (nI 0), .null, .int (nI 0), .int (nI 0), .null] j := by
  intro j hj
  rcases (by omega : j = 0 ∨ j = 1 ∨ j = 2 ∨ j = 3 ∨ j = 4 ∨ j = 5) with rfl | rfl | rfl | rfl | rfl | rfl <;> rfl
theorem new_X1 : ∀ j, j < 21 → defaultValue (tyX1 j) = vp_V [.int (nI 0), .int (nI 0), .null, .null, .null, .int (nI 0), .int (nI 0), .int (nI 0), .long 0, .int (nI 0), .int (nI 0), .int (nI 0), .null, .int (nI 0), .null, .null, .int (nI 0), .int (nI 0), .int (nI 0), .int (nI 0), .null] j := by
  intro j hj
  rcases (by omega : j = 0 ∨ j = 1 ∨ j = 2 ∨ j = 3 ∨ j = 4 ∨ j = 5 ∨ j = 6 ∨ j = 7 ∨ j = 8 ∨ j = 9 ∨ j = 10 ∨ j = 11 ∨ j = 12 ∨ j = 13 ∨ j = 14 ∨ j = 15 ∨ j = 16 ∨ j = 17 ∨ j = 18 ∨ j = 19 ∨ j = 20) with rfl | rfl | rfl | rfl | rfl | rfl | rfl | rfl | rfl | rfl | rfl | rfl | rfl | rfl | rfl | rfl | rfl | rfl | rfl | rfl | rfl <;> rfl
end
section
/-! LEAVES: Integers, Arrays, Pack -/
set_option maxHeartbeats 4000000 in
set_option maxRecDepth 100000 in
/-- Integer.rotateRight -/
theorem met_J4_rot (l : Launch) (G : wd_G) (x d : Int32) : Met l yJ4_rotateRight (ws_ yJ4_rotateRight cJ4_rotateRight 2 (some .int)) ({ frames := 0, cells := 0, slots := 0, locals := 0 }) (va_Pc [.int x, .int d] (wd_PreR G [])) (vp_Si (fun r => r = rotR x d)) 0 0 (fun _ => False) := by
  refine wd_ofR (by decide) (Nat.le_of_ble_eq_true rfl) ?_
  intro p e s m below meth c ls hx hb hr hml hown hlk hts hK hP hl
  replace hown : s.vm.findClass RJ4 = some m.cls := hown
  replace hl : lv_has ls 2 [(0, .int x), (1, .int d)] := hl
  refine lv_iload_n hx hb dJ4_rotateRight_0 rfl (lv_at hl 0 rfl) ?_
  refine lv_iload_n hx hb dJ4_rotateRight_1 rfl (lv_at hl 1 rfl) ?_
  refine lv_iushr hx hb dJ4_rotateRight_2 rfl ?_
  refine lv_iload_n hx hb dJ4_rotateRight_3 rfl (lv_at hl 0 rfl) ?_
  refine lv_iload_n hx hb dJ4_rotateRight_4 rfl (lv_at hl 1 rfl) ?_
  refine lv_ineg hx hb dJ4_rotateRight_5 ?_
  refine lv_ishl hx hb dJ4_rotateRight_6 ?_
  refine lv_ior hx hb dJ4_rotateRight_7 ?_
  exact wd_rret hx hb hr hlk rfl dJ4_rotateRight_8
set_option maxHeartbeats 4000000 in
set_option maxRecDepth 100000 in
/-- Integers.rotateRight -/
theorem met_X4_rot (l : Launch) (G : wd_G) (x d : Int32) : Met l yX4_rotateRight (ws_ yX4_rotateRight cX4_rotateRight 2 (some .int)) ({ frames := 1, cells := 0, slots := 0, locals := 21 }) (va_Pc [.int x, .int d] (wd_PreR G [])) (vp_Si (fun r => r = rotR x d)) 0 0 (fun _ => False) := by
  refine wd_ofR (by decide) (Nat.le_of_ble_eq_true rfl) ?_
  intro p e s m below meth c ls hx hb hr hml hown hlk hts hK hP hl
  replace hown : s.vm.findClass RX4 = some m.cls := hown
  replace hl : lv_has ls 2 [(0, .int x), (1, .int d)] := hl
  refine lv_iload_n hx hb dX4_rotateRight_0 rfl (lv_at hl 0 rfl) ?_
  refine lv_iload_n hx hb dX4_rotateRight_1 rfl (lv_at hl 1 rfl) ?_
  refine vp_callSi (va_Run.run (va_runS (As := [.int x, .int d]) (rest := []) ⟨hx, hb, hml, hown, hts⟩ (met_J4_rot l G x d) (va_cwS 2 hts (lw_S q286 q287 q27 q288) rfl rfl rfl (by decide +kernel) ⟨Nat.le_of_ble_eq_true rfl, Nat.le_of_ble_eq_true rfl⟩) (wd_preSR hK hP [] rfl) rfl rfl hl.1 rfl (lv_room (Nat.le_of_ble_eq_true rfl)) dX4_rotateRight_2 ⟨Nat.le_of_ble_eq_true rfl, Nat.le_of_ble_eq_true rfl⟩)) ?_
  intro r_1 er_1
  exact wd_rret hx hb hr hlk er_1 dX4_rotateRight_5
set_option maxHeartbeats 4000000 in
set_option maxRecDepth 100000 in
/-- Integers.compare -/
theorem met_X4_cmp (l : Launch) (G : wd_G) (x y : Int32) : Met l yX4_compare (ws_ yX4_compare cX4_compare 2 (some .int)) ({ frames := 0, cells := 0, slots := 0, locals := 0 }) (va_Pc [.int x, .int y] (wd_PreR G [])) (vp_Si (fun r => r = if x < y then -1 else if x = y then 0 else 1)) 0 0 (fun _ => False) := by
  refine wd_ofR (by decide) (Nat.le_of_ble_eq_true rfl) ?_
  intro p e s m below meth c ls hx hb hr hml hown hlk hts hK hP hl
  replace hown : s.vm.findClass RX4 = some m.cls := hown
  replace hl : lv_has ls 2 [(0, .int x), (1, .int y)] := hl
  refine lv_iload_n hx hb dX4_compare_0 rfl (lv_at hl 0 rfl) ?_
  refine lv_iload_n hx hb dX4_compare_1 rfl (lv_at hl 1 rfl) ?_
  refine lv_icmp_ge (tgt := 9) hx hb dX4_compare_2 (by decide) (fun c_1 => ?_) (fun c_1 => ?_)
  · refine lv_iload_n hx hb dX4_compare_9 rfl (lv_at hl 0 rfl) ?_
    refine lv_iload_n hx hb dX4_compare_10 rfl (lv_at hl 1 rfl) ?_
    refine lv_icmp_ne (tgt := 18) hx hb dX4_compare_11 (by decide) (fun c_2 => ?_) (fun c_2 => ?_)
    · refine lv_iconst (v := nI 1) hx hb dX4_compare_18 (by decide) ?_
      exact wd_rret hx hb hr hlk (show nI 1 = _ by rw [if_neg (Int32.not_lt.mpr c_1), if_neg c_2]; rfl) dX4_compare_19
    · refine lv_iconst (v := nI 0) hx hb dX4_compare_14 (by decide) ?_
      refine lv_goto (tgt := 19) hx hb dX4_compare_15 (by decide) ?_
      exact wd_rret hx hb hr hlk (show nI 0 = _ by rw [if_neg (Int32.not_lt.mpr c_1), if_pos c_2]; rfl) dX4_compare_19
  · refine lv_iconst (v := (-1)) hx hb dX4_compare_5 (by decide) ?_
    refine lv_goto (tgt := 19) hx hb dX4_compare_6 (by decide) ?_
    exact wd_rret hx hb hr hlk (show (-1 : Int32) = _ by rw [if_pos (Int32.not_le.mp c_1)]) dX4_compare_19
set_option maxHeartbeats 4000000 in
set_option maxRecDepth 100000 in
/-- Integers.compareUnsigned -/
theorem met_X4_cmpU (l : Launch) (G : wd_G) (x y : Int32) : Met l yX4_compareUnsigned (ws_ yX4_compareUnsigned cX4_compareUnsigned 2 (some .int)) ({ frames := 1, cells := 0, slots := 0, locals := 21 }) (va_Pc [.int x, .int y] (wd_PreR G [])) (vp_Si (fun r => r = if x + (-2147483648) < y + (-2147483648) then -1 else if x + (-2147483648) = y + (-2147483648) then 0 else 1)) 0 0 (fun _ => False) := by
  refine wd_ofR (by decide) (Nat.le_of_ble_eq_true rfl) ?_
  intro p e s m below meth c ls hx hb hr hml hown hlk hts hK hP hl
  replace hown : s.vm.findClass RX4 = some m.cls := hown
  replace hl : lv_has ls 2 [(0, .int x), (1, .int y)] := hl
  refine lv_iload_n hx hb dX4_compareUnsigned_0 rfl (lv_at hl 0 rfl) ?_
  refine lv_ldc hx hb hown (hts _ q261) dX4_compareUnsigned_1 ?_
  refine lv_iadd hx hb dX4_compareUnsigned_3 ?_
  refine lv_iload_n hx hb dX4_compareUnsigned_4 rfl (lv_at hl 1 rfl) ?_
  refine lv_ldc hx hb hown (hts _ q261) dX4_compareUnsigned_5 ?_
  refine lv_iadd hx hb dX4_compareUnsigned_7 ?_
  refine vp_callSi (va_Run.run (va_runS (As := [.int (x + (-2147483648)), .int (y + (-2147483648))]) (rest := []) ⟨hx, hb, hml, hown, hts⟩ (met_X4_cmp l G (x + (-2147483648)) (y + (-2147483648))) (va_cwS 2 hts (lw_S q262 q263 q26 q264) rfl rfl rfl (by decide +kernel) ⟨Nat.le_of_ble_eq_true rfl, Nat.le_of_ble_eq_true rfl⟩) (wd_preSR hK hP [] rfl) rfl rfl hl.1 rfl (lv_room (Nat.le_of_ble_eq_true rfl)) dX4_compareUnsigned_8 ⟨Nat.le_of_ble_eq_true rfl, Nat.le_of_ble_eq_true rfl⟩)) ?_
  intro r_2 er_2
  exact wd_rret hx hb hr hlk er_2 dX4_compareUnsigned_11
set_option maxHeartbeats 4000000 in
set_option maxRecDepth 100000 in
/-- Arrays.fill(a, 0) -/
theorem met_J5_fill (l : Launch) (G : wd_G) (a N : Nat) (hN : N < 2147483648) (f : Nat → Int32) (sz : Nat) : Met l yJ5_fill (ws_ yJ5_fill cJ5_fill 4 none) ({ frames := 0, cells := 0, slots := 0, locals := 0 }) (va_Pc [.ref a, .int (nI 0)] (wd_Pre G [cl_B G a N f] sz)) (wd_Qv G (fun _ : Unit => True) (fun _ => [cl_B G a N (fun _ => 0)]) (va_A [cl_B G a N f] sz)) 0 0 (va_A [cl_B G a N f] sz) := by
  refine wd_ofW (Qc := fun A => wd_Qv G (fun _ : Unit => True) (fun _ => [cl_B G a N (fun _ => 0)]) A) (by decide) (Nat.le_of_ble_eq_true rfl) ?_
  intro p e s m below meth c A ls hx hb hr hml hown hlk hnm hts hK hZ hP hD hS hA hl
  replace hown : s.vm.findClass RJ5 = some m.cls := hown
  replace hl : lv_has ls 4 [(0, .ref a), (1, .int (nI 0))] := hl
  refine lv_iconst (v := nI 0) hx hb dJ5_fill_0 (by decide) ?_
  refine lv_istore_n (lv' := [(2, .int (nI 0)), (0, .ref a), (1, .int (nI 0))]) hx hb dJ5_fill_1 rfl hl (by decide) rfl ?_
  clear hl; intro ls hl
  refine lv_aload_n hx hb dJ5_fill_2 rfl (lv_at hl 1 rfl) ?_
  refine va_alen (v := nI N) hx hb hK hP 0 0 rfl rfl rfl dJ5_fill_3 ?_
  refine lv_istore_n (lv' := [(3, .int (nI N)), (2, .int (nI 0)), (0, .ref a), (1, .int (nI 0))]) hx hb dJ5_fill_4 rfl hl (by decide) rfl ?_
  clear hl; intro ls hl
  have loop : ∀ (n i : Nat), i + n = N → ∀ (g : Nat → Int32), (∀ j, j < i → g j = 0) → ∀ (H : Heap) (locs : List Loc), va_P G.1 vwCl [cl_B G a N g] H → va_D A [cl_B G a N g] → va_S A s.heap H locs → ∀ (ls : Array Slot), lv_has ls 4 [(3, .int (nI N)), (2, .int (nI i)), (0, .ref a), (1, .int (nI 0))] → W p l e ({ frames := 0, cells := 0, slots := 0, locals := 0 }) s m ([.ref a, .int (nI 0)] : List Value).toArray below meth c H locs 0 0 (MQ below (wd_Qv G (fun _ : Unit => True) (fun _ => [cl_B G a N (fun _ => 0)]) A) ([.ref a, .int (nI 0)] : List Value).toArray s 0 0 A) (F0 m 5 ls []) := by
    clear hP hD hS hl
    intro n
    induction n with
    | zero =>
      intro i hi g hg H locs hP hD hS ls hl
      refine lv_iload_n hx hb dJ5_fill_5 rfl (lv_at hl 1 rfl) ?_
      refine lv_iload_n hx hb dJ5_fill_6 rfl (lv_at hl 0 rfl) ?_
      refine wd_ge (tgt := 20) hx hb dJ5_fill_7 (by decide) (by omega) (by omega) (fun c_1 => ?_) (fun c_1 => absurd c_1 (by omega))
      obtain ⟨hP, hD⟩ := wd_lab (q0 := 0) hP hD rfl (fun _ => 0) (fun j hj => hg j (by omega))
      exact wd_vret hx hb hr hlk () trivial hP hD hS dJ5_fill_20
    | succ n ih =>
      intro i hi g hg H locs hP hD hS ls hl
      refine lv_iload_n hx hb dJ5_fill_5 rfl (lv_at hl 1 rfl) ?_
      refine lv_iload_n hx hb dJ5_fill_6 rfl (lv_at hl 0 rfl) ?_
      refine wd_ge (tgt := 20) hx hb dJ5_fill_7 (by decide) (by omega) (by omega) (fun c_1 => absurd c_1 (by omega)) (fun c_1 => ?_)
      refine lv_aload_n hx hb dJ5_fill_10 rfl (lv_at hl 2 rfl) ?_
      refine lv_iload_n hx hb dJ5_fill_11 rfl (lv_at hl 1 rfl) ?_
      refine lv_iload_n hx hb dJ5_fill_12 rfl (lv_at hl 3 rfl) ?_
      refine wd_bst hx hb hK hP hD hS 0 rfl i (by omega) (by omega) (by decide) dJ5_fill_13 ?_
      clear hP hD hS; intro f_3 ef_3 H locs hP hD hS
      replace hP : va_P G.1 vwCl [cl_B G a N f_3] H := hP
      replace hD : va_D A [cl_B G a N f_3] := hD
      refine lv_iinc (v := nI (i + 1)) (lv' := [(2, .int (nI (i + 1))), (3, .int (nI N)), (0, .ref a), (1, .int (nI 0))]) hx hb dJ5_fill_14 hl (k := 1) rfl (wd_inc _ 1) (by decide) rfl ?_
      clear hl; intro ls hl
      refine lv_goto (tgt := 5) hx hb dJ5_fill_17 (by decide) ?_
      exact ih (i + 1) (by omega) f_3 (fun j hj => by rw [ef_3]; exact up_lt (F := fun _ => 0) hg rfl j hj) _ _ hP hD hS ls (lv_sub hl [1, 0, 2, 3] rfl)
  exact loop N 0 (by omega) f (fun j hj => absurd hj (Nat.not_lt_zero j)) s.heap [] hP hD hS ls hl
set_option maxHeartbeats 4000000 in
set_option maxRecDepth 100000 in
/-- OwnArrays.fill(a, 0) -/
theorem met_X5_fill (l : Launch) (G : wd_G) (a N : Nat) (hN : N < 2147483648) (f : Nat → Int32) (sz : Nat) : Met l yX5_fill (ws_ yX5_fill cX5_fill 2 none) ({ frames := 1, cells := 0, slots := 0, locals := 23 }) (va_Pc [.ref a, .int (nI 0)] (wd_Pre G [cl_B G a N f] sz)) (wd_Qv G (fun _ : Unit => True) (fun _ => [cl_B G a N (fun _ => 0)]) (va_A [cl_B G a N f] sz)) 0 0 (va_A [cl_B G a N f] sz) := by
  refine wd_ofW (Qc := fun A => wd_Qv G (fun _ : Unit => True) (fun _ => [cl_B G a N (fun _ => 0)]) A) (by decide) (Nat.le_of_ble_eq_true rfl) ?_
  intro p e s m below meth c A ls hx hb hr hml hown hlk hnm hts hK hZ hP hD hS hA hl
  replace hown : s.vm.findClass RX5 = some m.cls := hown
  replace hl : lv_has ls 2 [(0, .ref a), (1, .int (nI 0))] := hl
  refine lv_aload_n hx hb dX5_fill_0 rfl (lv_at hl 0 rfl) ?_
  refine lv_iload_n hx hb dX5_fill_1 rfl (lv_at hl 1 rfl) ?_
  refine wd_callv (wr := []) (va_runS (As := [.ref a, .int (nI 0)]) (rest := []) ⟨hx, hb, hml, hown, hts⟩ (met_J5_fill l G a N hN f s.heap.size) (va_cwS 2 hts (lw_S q292 q293 q29 q294) rfl rfl rfl (by decide +kernel) ⟨Nat.le_of_ble_eq_true rfl, Nat.le_of_ble_eq_true rfl⟩) (wd_preS hK hZ hP hD hS hA [0] (by decide) rfl) rfl rfl hl.1 rfl (lv_room (Nat.le_of_ble_eq_true rfl)) dX5_fill_2 ⟨Nat.le_of_ble_eq_true rfl, Nat.le_of_ble_eq_true rfl⟩) hP hD hS hA [0] [] rfl rfl (by decide) (by decide) ?_
  intro u_4 hu_4
  clear hP hD hS; intro H locs hP hD hS
  replace hP : va_P G.1 vwCl [cl_B G a N (fun _ => 0)] H := wd_psub hP [0] rfl
  replace hD : va_D A [cl_B G a N (fun _ => 0)] := hD.sub [0] (by decide) rfl
  exact wd_vret hx hb hr hlk () trivial hP hD hS dX5_fill_5
set_option maxHeartbeats 4000000 in
set_option maxRecDepth 100000 in
/-- Arrays.fill(a, 0) -/
theorem met_J5_fill_2 (l : Launch) (G : wd_G) (a N : Nat) (hN : N < 2147483648) (f : Nat → Int32) (sz : Nat) : Met l yJ5_fill_2 (ws_ yJ5_fill_2 cJ5_fill_2 4 none) ({ frames := 0, cells := 0, slots := 0, locals := 0 }) (va_Pc [.ref a, .int (nI 0)] (wd_Pre G [cl_I G a N f] sz)) (wd_Qv G (fun _ : Unit => True) (fun _ => [cl_I G a N (fun _ => 0)]) (va_A [cl_I G a N f] sz)) 0 0 (va_A [cl_I G a N f] sz) := by
  refine wd_ofW (Qc := fun A => wd_Qv G (fun _ : Unit => True) (fun _ => [cl_I G a N (fun _ => 0)]) A) (by decide) (Nat.le_of_ble_eq_true rfl) ?_
  intro p e s m below meth c A ls hx hb hr hml hown hlk hnm hts hK hZ hP hD hS hA hl
  replace hown : s.vm.findClass RJ5 = some m.cls := hown
  replace hl : lv_has ls 4 [(0, .ref a), (1, .int (nI 0))] := hl
  refine lv_iconst (v := nI 0) hx hb dJ5_fill_2_0 (by decide) ?_
  refine lv_istore_n (lv' := [(2, .int (nI 0)), (0, .ref a), (1, .int (nI 0))]) hx hb dJ5_fill_2_1 rfl hl (by decide) rfl ?_
  clear hl; intro ls hl
  refine lv_aload_n hx hb dJ5_fill_2_2 rfl (lv_at hl 1 rfl) ?_
  refine va_alen (v := nI N) hx hb hK hP 0 1 rfl rfl rfl dJ5_fill_2_3 ?_
  refine lv_istore_n (lv' := [(3, .int (nI N)), (2, .int (nI 0)), (0, .ref a), (1, .int (nI 0))]) hx hb dJ5_fill_2_4 rfl hl (by decide) rfl ?_
  clear hl; intro ls hl
  have loop : ∀ (n i : Nat), i + n = N → ∀ (g : Nat → Int32), (∀ j, j < i → g j = 0) → ∀ (H : Heap) (locs : List Loc), va_P G.1 vwCl [cl_I G a N g] H → va_D A [cl_I G a N g] → va_S A s.heap H locs → ∀ (ls : Array Slot), lv_has ls 4 [(3, .int (nI N)), (2, .int (nI i)), (0, .ref a), (1, .int (nI 0))] → W p l e ({ frames := 0, cells := 0, slots := 0, locals := 0 }) s m ([.ref a, .int (nI 0)] : List Value).toArray below meth c H locs 0 0 (MQ below (wd_Qv G (fun _ : Unit => True) (fun _ => [cl_I G a N (fun _ => 0)]) A) ([.ref a, .int (nI 0)] : List Value).toArray s 0 0 A) (F0 m 5 ls []) := by
    clear hP hD hS hl
    intro n
    induction n with
    | zero =>
      intro i hi g hg H locs hP hD hS ls hl
      refine lv_iload_n hx hb dJ5_fill_2_5 rfl (lv_at hl 1 rfl) ?_
      refine lv_iload_n hx hb dJ5_fill_2_6 rfl (lv_at hl 0 rfl) ?_
      refine wd_ge (tgt := 20) hx hb dJ5_fill_2_7 (by decide) (by omega) (by omega) (fun c_1 => ?_) (fun c_1 => absurd c_1 (by omega))
      obtain ⟨hP, hD⟩ := wd_lab (q0 := 0) hP hD rfl (fun _ => 0) (fun j hj => hg j (by omega))
      exact wd_vret hx hb hr hlk () trivial hP hD hS dJ5_fill_2_20
    | succ n ih =>
      intro i hi g hg H locs hP hD hS ls hl
      refine lv_iload_n hx hb dJ5_fill_2_5 rfl (lv_at hl 1 rfl) ?_
      refine lv_iload_n hx hb dJ5_fill_2_6 rfl (lv_at hl 0 rfl) ?_
      refine wd_ge (tgt := 20) hx hb dJ5_fill_2_7 (by decide) (by omega) (by omega) (fun c_1 => absurd c_1 (by omega)) (fun c_1 => ?_)
      refine lv_aload_n hx hb dJ5_fill_2_10 rfl (lv_at hl 2 rfl) ?_
      refine lv_iload_n hx hb dJ5_fill_2_11 rfl (lv_at hl 1 rfl) ?_
      refine lv_iload_n hx hb dJ5_fill_2_12 rfl (lv_at hl 3 rfl) ?_
      refine wd_ist hx hb hK hP hD hS 0 rfl i (by omega) (by omega) dJ5_fill_2_13 ?_
      clear hP hD hS; intro f_5 ef_5 H locs hP hD hS
      replace hP : va_P G.1 vwCl [cl_I G a N f_5] H := hP
      replace hD : va_D A [cl_I G a N f_5] := hD
      refine lv_iinc (v := nI (i + 1)) (lv' := [(2, .int (nI (i + 1))), (3, .int (nI N)), (0, .ref a), (1, .int (nI 0))]) hx hb dJ5_fill_2_14 hl (k := 1) rfl (wd_inc _ 1) (by decide) rfl ?_
      clear hl; intro ls hl
      refine lv_goto (tgt := 5) hx hb dJ5_fill_2_17 (by decide) ?_
      exact ih (i + 1) (by omega) f_5 (fun j hj => by rw [ef_5]; exact up_lt (F := fun _ => 0) hg rfl j hj) _ _ hP hD hS ls (lv_sub hl [1, 0, 2, 3] rfl)
  exact loop N 0 (by omega) f (fun j hj => absurd hj (Nat.not_lt_zero j)) s.heap [] hP hD hS ls hl
set_option maxHeartbeats 4000000 in
set_option maxRecDepth 100000 in
/-- OwnArrays.fill(a, 0) -/
theorem met_X5_fill_2 (l : Launch) (G : wd_G) (a N : Nat) (hN : N < 2147483648) (f : Nat → Int32) (sz : Nat) : Met l yX5_fill_2 (ws_ yX5_fill_2 cX5_fill_2 2 none) ({ frames := 1, cells := 0, slots := 0, locals := 23 }) (va_Pc [.ref a, .int (nI 0)] (wd_Pre G [cl_I G a N f] sz)) (wd_Qv G (fun _ : Unit => True) (fun _ => [cl_I G a N (fun _ => 0)]) (va_A [cl_I G a N f] sz)) 0 0 (va_A [cl_I G a N f] sz) := by
  refine wd_ofW (Qc := fun A => wd_Qv G (fun _ : Unit => True) (fun _ => [cl_I G a N (fun _ => 0)]) A) (by decide) (Nat.le_of_ble_eq_true rfl) ?_
  intro p e s m below meth c A ls hx hb hr hml hown hlk hnm hts hK hZ hP hD hS hA hl
  replace hown : s.vm.findClass RX5 = some m.cls := hown
  replace hl : lv_has ls 2 [(0, .ref a), (1, .int (nI 0))] := hl
  refine lv_aload_n hx hb dX5_fill_2_0 rfl (lv_at hl 0 rfl) ?_
  refine lv_iload_n hx hb dX5_fill_2_1 rfl (lv_at hl 1 rfl) ?_
  refine wd_callv (wr := []) (va_runS (As := [.ref a, .int (nI 0)]) (rest := []) ⟨hx, hb, hml, hown, hts⟩ (met_J5_fill_2 l G a N hN f s.heap.size) (va_cwS 2 hts (lw_S q361 q362 q29 q363) rfl rfl rfl (by decide +kernel) ⟨Nat.le_of_ble_eq_true rfl, Nat.le_of_ble_eq_true rfl⟩) (wd_preS hK hZ hP hD hS hA [0] (by decide) rfl) rfl rfl hl.1 rfl (lv_room (Nat.le_of_ble_eq_true rfl)) dX5_fill_2_2 ⟨Nat.le_of_ble_eq_true rfl, Nat.le_of_ble_eq_true rfl⟩) hP hD hS hA [0] [] rfl rfl (by decide) (by decide) ?_
  intro u_6 hu_6
  clear hP hD hS; intro H locs hP hD hS
  replace hP : va_P G.1 vwCl [cl_I G a N (fun _ => 0)] H := wd_psub hP [0] rfl
  replace hD : va_D A [cl_I G a N (fun _ => 0)] := hD.sub [0] (by decide) rfl
  exact wd_vret hx hb hr hlk () trivial hP hD hS dX5_fill_2_5
set_option maxHeartbeats 4000000 in
set_option maxRecDepth 100000 in
/-- Pack.littleEndianToInt(bs, off): four bytes, the lowest first -/
theorem met_X2_le (l : Launch) (G : wd_G) (a n o : Nat) (f : Nat → Int32) (hn : n < 2147483648) (ho : o + 4 ≤ n) : Met l yX2_littleEndianToInt (ws_ yX2_littleEndianToInt cX2_littleEndianToInt 3 (some .int)) ({ frames := 0, cells := 0, slots := 0, locals := 0 }) (va_Pc [.ref a, .int (nI o)] (wd_PreR G [cl_B G a n f])) (vp_Si (fun r => r = leF (f o) (f (o + 1)) (f (o + 2)) (f (o + 3)))) 0 0 (fun _ => False) := by
  refine wd_ofR (by decide) (Nat.le_of_ble_eq_true rfl) ?_
  intro p e s m below meth c ls hx hb hr hml hown hlk hts hK hP hl
  replace hown : s.vm.findClass RX2 = some m.cls := hown
  replace hl : lv_has ls 3 [(0, .ref a), (1, .int (nI o))] := hl
  refine lv_aload_n hx hb dX2_littleEndianToInt_0 rfl (lv_at hl 0 rfl) ?_
  refine lv_iload_n hx hb dX2_littleEndianToInt_1 rfl (lv_at hl 1 rfl) ?_
  refine wd_bld hx hb hK hP 0 rfl o (by omega) (by omega) dX2_littleEndianToInt_2 ?_
  refine lv_sipush (v := nI 255) hx hb dX2_littleEndianToInt_3 (by decide) ?_
  refine lv_iand hx hb dX2_littleEndianToInt_6 ?_
  refine lv_istore_n (lv' := [(2, .int ((f o) &&& (nI 255))), (0, .ref a), (1, .int (nI o))]) hx hb dX2_littleEndianToInt_7 rfl hl (by decide) rfl ?_
  clear hl; intro ls hl
  refine lv_iload_n hx hb dX2_littleEndianToInt_8 rfl (lv_at hl 0 rfl) ?_
  refine lv_aload_n hx hb dX2_littleEndianToInt_9 rfl (lv_at hl 1 rfl) ?_
  refine lv_iinc (v := nI (o + 1)) (lv' := [(1, .int (nI (o + 1))), (2, .int ((f o) &&& (nI 255))), (0, .ref a)]) hx hb dX2_littleEndianToInt_10 hl (k := 2) rfl (wd_inc _ 1) (by decide) rfl ?_
  clear hl; intro ls hl
  refine lv_iload_n hx hb dX2_littleEndianToInt_13 rfl (lv_at hl 0 rfl) ?_
  refine wd_bld hx hb hK hP 0 rfl (o + 1) (by omega) (by omega) dX2_littleEndianToInt_14 ?_
  refine lv_sipush (v := nI 255) hx hb dX2_littleEndianToInt_15 (by decide) ?_
  refine lv_iand hx hb dX2_littleEndianToInt_18 ?_
  refine lv_bipush (v := nI 8) hx hb dX2_littleEndianToInt_19 (by decide) ?_
  refine lv_ishl hx hb dX2_littleEndianToInt_21 ?_
  refine lv_ior hx hb dX2_littleEndianToInt_22 ?_
  refine lv_istore_n (lv' := [(2, .int (((f o) &&& (nI 255)) ||| (((f (o + 1)) &&& (nI 255)) <<< ((nI 8) &&& 31)))), (1, .int (nI (o + 1))), (0, .ref a)]) hx hb dX2_littleEndianToInt_23 rfl hl (by decide) rfl ?_
  clear hl; intro ls hl
  refine lv_iload_n hx hb dX2_littleEndianToInt_24 rfl (lv_at hl 0 rfl) ?_
  refine lv_aload_n hx hb dX2_littleEndianToInt_25 rfl (lv_at hl 2 rfl) ?_
  refine lv_iinc (v := nI (o + 1 + 1)) (lv' := [(1, .int (nI (o + 1 + 1))), (2, .int (((f o) &&& (nI 255)) ||| (((f (o + 1)) &&& (nI 255)) <<< ((nI 8) &&& 31)))), (0, .ref a)]) hx hb dX2_littleEndianToInt_26 hl (k := 1) rfl (wd_inc _ 1) (by decide) rfl ?_
  clear hl; intro ls hl
  refine lv_iload_n hx hb dX2_littleEndianToInt_29 rfl (lv_at hl 0 rfl) ?_
  refine wd_bld hx hb hK hP 0 rfl (o + 1 + 1) (by omega) (by omega) dX2_littleEndianToInt_30 ?_
  refine lv_sipush (v := nI 255) hx hb dX2_littleEndianToInt_31 (by decide) ?_
  refine lv_iand hx hb dX2_littleEndianToInt_34 ?_
  refine lv_bipush (v := nI 16) hx hb dX2_littleEndianToInt_35 (by decide) ?_
  refine lv_ishl hx hb dX2_littleEndianToInt_37 ?_
  refine lv_ior hx hb dX2_littleEndianToInt_38 ?_
  refine lv_istore_n (lv' := [(2, .int ((((f o) &&& (nI 255)) ||| (((f (o + 1)) &&& (nI 255)) <<< ((nI 8) &&& 31))) ||| (((f (o + 1 + 1)) &&& (nI 255)) <<< ((nI 16) &&& 31)))), (1, .int (nI (o + 1 + 1))), (0, .ref a)]) hx hb dX2_littleEndianToInt_39 rfl hl (by decide) rfl ?_
  clear hl; intro ls hl
  refine lv_iload_n hx hb dX2_littleEndianToInt_40 rfl (lv_at hl 0 rfl) ?_
  refine lv_aload_n hx hb dX2_littleEndianToInt_41 rfl (lv_at hl 2 rfl) ?_
  refine lv_iinc (v := nI (o + 1 + 1 + 1)) (lv' := [(1, .int (nI (o + 1 + 1 + 1))), (2, .int ((((f o) &&& (nI 255)) ||| (((f (o + 1)) &&& (nI 255)) <<< ((nI 8) &&& 31))) ||| (((f (o + 1 + 1)) &&& (nI 255)) <<< ((nI 16) &&& 31)))), (0, .ref a)]) hx hb dX2_littleEndianToInt_42 hl (k := 1) rfl (wd_inc _ 1) (by decide) rfl ?_
  clear hl; intro ls hl
  refine lv_iload_n hx hb dX2_littleEndianToInt_45 rfl (lv_at hl 0 rfl) ?_
  refine wd_bld hx hb hK hP 0 rfl (o + 1 + 1 + 1) (by omega) (by omega) dX2_littleEndianToInt_46 ?_
  refine lv_bipush (v := nI 24) hx hb dX2_littleEndianToInt_47 (by decide) ?_
  refine lv_ishl hx hb dX2_littleEndianToInt_49 ?_
  refine lv_ior hx hb dX2_littleEndianToInt_50 ?_
  refine lv_istore_n (lv' := [(2, .int (((((f o) &&& (nI 255)) ||| (((f (o + 1)) &&& (nI 255)) <<< ((nI 8) &&& 31))) ||| (((f (o + 1 + 1)) &&& (nI 255)) <<< ((nI 16) &&& 31))) ||| ((f (o + 1 + 1 + 1)) <<< ((nI 24) &&& 31)))), (1, .int (nI (o + 1 + 1 + 1))), (0, .ref a)]) hx hb dX2_littleEndianToInt_51 rfl hl (by decide) rfl ?_
  clear hl; intro ls hl
  refine lv_iload_n hx hb dX2_littleEndianToInt_52 rfl (lv_at hl 0 rfl) ?_
  exact wd_rret hx hb hr hlk rfl dX2_littleEndianToInt_53
set_option maxHeartbeats 4000000 in
set_option maxRecDepth 100000 in
/-- Pack.littleEndianToInt(bs, off, ns): sixteen words -/
theorem met_X2_les (l : Launch) (G : wd_G) (a b n o : Nat) (f g : Nat → Int32) (hn : n < 2147483648) (ho : o + 64 ≤ n) (sz : Nat) : Met l yX2_littleEndianToInt_2 (ws_ yX2_littleEndianToInt_2 cX2_littleEndianToInt_2 4 none) ({ frames := 1, cells := 0, slots := 0, locals := 22 }) (va_Pc [.ref a, .int (nI o), .ref b] (wd_Pre G [cl_B G a n f, cl_I G b 16 g] sz)) (wd_Qv G (fun u : Nat → Int32 => u = wrdF f o) (fun u => [cl_B G a n f, cl_I G b 16 u]) (va_A [cl_B G a n f, cl_I G b 16 g] sz)) 0 0 (va_A [cl_B G a n f, cl_I G b 16 g] sz) := by
  refine wd_ofW (Qc := fun A => wd_Qv G (fun u : Nat → Int32 => u = wrdF f o) (fun u => [cl_B G a n f, cl_I G b 16 u]) A) (by decide) (Nat.le_of_ble_eq_true rfl) ?_
  intro p e s m below meth c A ls hx hb hr hml hown hlk hnm hts hK hZ hP hD hS hA hl
  replace hown : s.vm.findClass RX2 = some m.cls := hown
  replace hl : lv_has ls 4 [(0, .ref a), (1, .int (nI o)), (2, .ref b)] := hl
  refine lv_iconst (v := nI 0) hx hb dX2_littleEndianToInt_2_0 (by decide) ?_
  refine lv_istore_n (lv' := [(3, .int (nI 0)), (0, .ref a), (1, .int (nI o)), (2, .ref b)]) hx hb dX2_littleEndianToInt_2_1 rfl hl (by decide) rfl ?_
  clear hl; intro ls hl
  have loop : ∀ (n9 i : Nat), i + n9 = 16 → ∀ (h : Nat → Int32), (∀ j, j < i → h j = wrdF f o j) → ∀ (H : Heap) (locs : List Loc), va_P G.1 vwCl [cl_B G a n f, cl_I G b 16 h] H → va_D A [cl_B G a n f, cl_I G b 16 h] → va_S A s.heap H locs → ∀ (ls : Array Slot), lv_has ls 4 [(3, .int (nI i)), (0, .ref a), (1, .int (nI (o + 4 * i))), (2, .ref b)] → W p l e ({ frames := 1, cells := 0, slots := 0, locals := 22 }) s m ([.ref a, .int (nI o), .ref b] : List Value).toArray below meth c H locs 0 0 (MQ below (wd_Qv G (fun u : Nat → Int32 => u = wrdF f o) (fun u => [cl_B G a n f, cl_I G b 16 u]) A) ([.ref a, .int (nI o), .ref b] : List Value).toArray s 0 0 A) (F0 m 2 ls []) := by
    clear hP hD hS hl
    intro n9
    induction n9 with
    | zero =>
      intro i hi h hg H locs hP hD hS ls hl
      refine lv_iload_n hx hb dX2_littleEndianToInt_2_2 rfl (lv_at hl 0 rfl) ?_
      refine lv_aload_n hx hb dX2_littleEndianToInt_2_3 rfl (lv_at hl 3 rfl) ?_
      refine va_alen (v := nI 16) hx hb hK hP 1 1 rfl rfl rfl dX2_littleEndianToInt_2_4 ?_
      refine wd_ge (tgt := 25) hx hb dX2_littleEndianToInt_2_5 (by decide) (by omega) (by omega) (fun c_1 => ?_) (fun c_1 => absurd c_1 (by omega))
      obtain ⟨hP, hD⟩ := wd_lab (q0 := 1) hP hD rfl (wrdF f o) (fun j hj => hg j (by omega))
      exact wd_vret hx hb hr hlk (wrdF f o) rfl hP hD hS dX2_littleEndianToInt_2_25
    | succ n9 ih =>
      intro i hi h hg H locs hP hD hS ls hl
      refine lv_iload_n hx hb dX2_littleEndianToInt_2_2 rfl (lv_at hl 0 rfl) ?_
      refine lv_aload_n hx hb dX2_littleEndianToInt_2_3 rfl (lv_at hl 3 rfl) ?_
      refine va_alen (v := nI 16) hx hb hK hP 1 1 rfl rfl rfl dX2_littleEndianToInt_2_4 ?_
      refine wd_ge (tgt := 25) hx hb dX2_littleEndianToInt_2_5 (by decide) (by omega) (by omega) (fun c_1 => absurd c_1 (by omega)) (fun c_1 => ?_)
      refine lv_aload_n hx hb dX2_littleEndianToInt_2_8 rfl (lv_at hl 3 rfl) ?_
      refine lv_iload_n hx hb dX2_littleEndianToInt_2_9 rfl (lv_at hl 0 rfl) ?_
      refine lv_aload_n hx hb dX2_littleEndianToInt_2_10 rfl (lv_at hl 1 rfl) ?_
      refine lv_iload_n hx hb dX2_littleEndianToInt_2_11 rfl (lv_at hl 2 rfl) ?_
      refine vp_callSi (va_Run.run (va_runS (As := [.ref a, .int (nI (o + 4 * i))]) (rest := [.int (nI i), .ref b]) ⟨hx, hb, hml, hown, hts⟩ (met_X2_le l G a n (o + 4 * i) f hn (by omega)) (va_cwS 2 hts (lw_S q276 q132 q24 q133) rfl rfl rfl (by decide +kernel) ⟨Nat.le_of_ble_eq_true rfl, Nat.le_of_ble_eq_true rfl⟩) (wd_preSR hK hP [0] rfl) rfl rfl hl.1 rfl (lv_room (Nat.le_of_ble_eq_true rfl)) dX2_littleEndianToInt_2_12 ⟨Nat.le_of_ble_eq_true rfl, Nat.le_of_ble_eq_true rfl⟩)) ?_
      intro r_7 er_7
      refine wd_ist hx hb hK hP hD hS 1 rfl i (by omega) (by omega) dX2_littleEndianToInt_2_15 ?_
      clear hP hD hS; intro f_8 ef_8 H locs hP hD hS
      replace hP : va_P G.1 vwCl [cl_B G a n f, cl_I G b 16 f_8] H := hP
      replace hD : va_D A [cl_B G a n f, cl_I G b 16 f_8] := hD
      refine lv_iinc (v := nI (o + 4 * i + 4)) (lv' := [(1, .int (nI (o + 4 * i + 4))), (3, .int (nI i)), (0, .ref a), (2, .ref b)]) hx hb dX2_littleEndianToInt_2_16 hl (k := 2) rfl (wd_inc _ 4) (by decide) rfl ?_
      clear hl; intro ls hl
      refine lv_iinc (v := nI (i + 1)) (lv' := [(3, .int (nI (i + 1))), (1, .int (nI (o + 4 * i + 4))), (0, .ref a), (2, .ref b)]) hx hb dX2_littleEndianToInt_2_19 hl (k := 1) rfl (wd_inc _ 1) (by decide) rfl ?_
      clear hl; intro ls hl
      refine lv_goto (tgt := 2) hx hb dX2_littleEndianToInt_2_22 (by decide) ?_
      exact ih (i + 1) (by omega) f_8 (fun j hj => by rw [ef_8]; exact up_lt hg (er_7.trans (if_pos (show i < 16 by omega)).symm) j hj) _ _ hP hD hS ls (lv_sub hl [0, 2, 1, 3] rfl)
  exact loop 16 0 (by omega) g (fun j hj => absurd hj (Nat.not_lt_zero j)) s.heap [] hP hD hS ls hl
set_option maxHeartbeats 4000000 in
set_option maxRecDepth 100000 in
/-- Pack.intToLittleEndian(x, bs, off) -/
theorem met_X2_st (l : Launch) (G : wd_G) (a n o : Nat) (x : Int32) (f : Nat → Int32) (hn : n < 2147483648) (ho : o + 4 ≤ n) (sz : Nat) : Met l yX2_intToLittleEndian_2 (ws_ yX2_intToLittleEndian_2 cX2_intToLittleEndian_2 3 none) ({ frames := 0, cells := 0, slots := 0, locals := 0 }) (va_Pc [.int x, .ref a, .int (nI o)] (wd_Pre G [cl_B G a n f] sz)) (wd_Qv G (fun u : Nat → Int32 => u = stF f o x) (fun u => [cl_B G a n u]) (va_A [cl_B G a n f] sz)) 0 0 (va_A [cl_B G a n f] sz) := by
  refine wd_ofW (Qc := fun A => wd_Qv G (fun u : Nat → Int32 => u = stF f o x) (fun u => [cl_B G a n u]) A) (by decide) (Nat.le_of_ble_eq_true rfl) ?_
  intro p e s m below meth c A ls hx hb hr hml hown hlk hnm hts hK hZ hP hD hS hA hl
  replace hown : s.vm.findClass RX2 = some m.cls := hown
  replace hl : lv_has ls 3 [(0, .int x), (1, .ref a), (2, .int (nI o))] := hl
  refine lv_aload_n hx hb dX2_intToLittleEndian_2_0 rfl (lv_at hl 1 rfl) ?_
  refine lv_iload_n hx hb dX2_intToLittleEndian_2_1 rfl (lv_at hl 2 rfl) ?_
  refine lv_iload_n hx hb dX2_intToLittleEndian_2_2 rfl (lv_at hl 0 rfl) ?_
  refine lv_i2b hx hb dX2_intToLittleEndian_2_3 rfl ?_
  refine wd_bst hx hb hK hP hD hS 0 rfl o (by omega) (by omega) (pk_vb _) dX2_intToLittleEndian_2_4 ?_
  clear hP hD hS; intro f_9 ef_9 H locs hP hD hS
  replace hP : va_P G.1 vwCl [cl_B G a n f_9] H := hP
  replace hD : va_D A [cl_B G a n f_9] := hD
  refine lv_aload_n hx hb dX2_intToLittleEndian_2_5 rfl (lv_at hl 1 rfl) ?_
  refine lv_iinc (v := nI (o + 1)) (lv' := [(2, .int (nI (o + 1))), (0, .int x), (1, .ref a)]) hx hb dX2_intToLittleEndian_2_6 hl (k := 2) rfl (wd_inc _ 1) (by decide) rfl ?_
  clear hl; intro ls hl
  refine lv_iload_n hx hb dX2_intToLittleEndian_2_9 rfl (lv_at hl 0 rfl) ?_
  refine lv_iload_n hx hb dX2_intToLittleEndian_2_10 rfl (lv_at hl 1 rfl) ?_
  refine lv_bipush (v := nI 8) hx hb dX2_intToLittleEndian_2_11 (by decide) ?_
  refine lv_iushr hx hb dX2_intToLittleEndian_2_13 rfl ?_
  refine lv_i2b hx hb dX2_intToLittleEndian_2_14 rfl ?_
  refine wd_bst hx hb hK hP hD hS 0 rfl (o + 1) (by omega) (by omega) (pk_vb _) dX2_intToLittleEndian_2_15 ?_
  clear hP hD hS; intro f_10 ef_10 H locs hP hD hS
  replace hP : va_P G.1 vwCl [cl_B G a n f_10] H := hP
  replace hD : va_D A [cl_B G a n f_10] := hD
  refine lv_aload_n hx hb dX2_intToLittleEndian_2_16 rfl (lv_at hl 2 rfl) ?_
  refine lv_iinc (v := nI (o + 1 + 1)) (lv' := [(2, .int (nI (o + 1 + 1))), (0, .int x), (1, .ref a)]) hx hb dX2_intToLittleEndian_2_17 hl (k := 0) rfl (wd_inc _ 1) (by decide) rfl ?_
  clear hl; intro ls hl
  refine lv_iload_n hx hb dX2_intToLittleEndian_2_20 rfl (lv_at hl 0 rfl) ?_
  refine lv_iload_n hx hb dX2_intToLittleEndian_2_21 rfl (lv_at hl 1 rfl) ?_
  refine lv_bipush (v := nI 16) hx hb dX2_intToLittleEndian_2_22 (by decide) ?_
  refine lv_iushr hx hb dX2_intToLittleEndian_2_24 rfl ?_
  refine lv_i2b hx hb dX2_intToLittleEndian_2_25 rfl ?_
  refine wd_bst hx hb hK hP hD hS 0 rfl (o + 1 + 1) (by omega) (by omega) (pk_vb _) dX2_intToLittleEndian_2_26 ?_
  clear hP hD hS; intro f_11 ef_11 H locs hP hD hS
  replace hP : va_P G.1 vwCl [cl_B G a n f_11] H := hP
  replace hD : va_D A [cl_B G a n f_11] := hD
  refine lv_aload_n hx hb dX2_intToLittleEndian_2_27 rfl (lv_at hl 2 rfl) ?_
  refine lv_iinc (v := nI (o + 1 + 1 + 1)) (lv' := [(2, .int (nI (o + 1 + 1 + 1))), (0, .int x), (1, .ref a)]) hx hb dX2_intToLittleEndian_2_28 hl (k := 0) rfl (wd_inc _ 1) (by decide) rfl ?_
  clear hl; intro ls hl
  refine lv_iload_n hx hb dX2_intToLittleEndian_2_31 rfl (lv_at hl 0 rfl) ?_
  refine lv_iload_n hx hb dX2_intToLittleEndian_2_32 rfl (lv_at hl 1 rfl) ?_
  refine lv_bipush (v := nI 24) hx hb dX2_intToLittleEndian_2_33 (by decide) ?_
  refine lv_iushr hx hb dX2_intToLittleEndian_2_35 rfl ?_
  refine lv_i2b hx hb dX2_intToLittleEndian_2_36 rfl ?_
  refine wd_bst hx hb hK hP hD hS 0 rfl (o + 1 + 1 + 1) (by omega) (by omega) (pk_vb _) dX2_intToLittleEndian_2_37 ?_
  clear hP hD hS; intro f_12 ef_12 H locs hP hD hS
  replace hP : va_P G.1 vwCl [cl_B G a n f_12] H := hP
  replace hD : va_D A [cl_B G a n f_12] := hD
  exact wd_vret hx hb hr hlk f_12 (by rw [ef_12, ef_11, ef_10, ef_9]; rfl) hP hD hS dX2_intToLittleEndian_2_38
set_option maxHeartbeats 4000000 in
set_option maxRecDepth 100000 in
/-- Pack.intToLittleEndian(ns, 0, L, bs, 0) -/
theorem met_X2_sts (l : Launch) (G : wd_G) (a b L : Nat) (f g : Nat → Int32) (hL : L ≤ 8) (sz : Nat) : Met l yX2_intToLittleEndian (ws_ yX2_intToLittleEndian cX2_intToLittleEndian 6 none) ({ frames := 1, cells := 0, slots := 0, locals := 22 }) (va_Pc [.ref b, .int (nI 0), .int (nI L), .ref a, .int (nI 0)] (wd_Pre G [cl_I G b 8 g, cl_B G a 32 f] sz)) (wd_Qv G (fun u : Nat → Int32 => u = outF f g (4 * L)) (fun u => [cl_I G b 8 g, cl_B G a 32 u]) (va_A [cl_I G b 8 g, cl_B G a 32 f] sz)) 0 0 (va_A [cl_I G b 8 g, cl_B G a 32 f] sz) := by
  refine wd_ofW (Qc := fun A => wd_Qv G (fun u : Nat → Int32 => u = outF f g (4 * L)) (fun u => [cl_I G b 8 g, cl_B G a 32 u]) A) (by decide) (Nat.le_of_ble_eq_true rfl) ?_
  intro p e s m below meth c A ls hx hb hr hml hown hlk hnm hts hK hZ hP hD hS hA hl
  replace hown : s.vm.findClass RX2 = some m.cls := hown
  replace hl : lv_has ls 6 [(0, .ref b), (1, .int (nI 0)), (2, .int (nI L)), (3, .ref a), (4, .int (nI 0))] := hl
  refine lv_iconst (v := nI 0) hx hb dX2_intToLittleEndian_0 (by decide) ?_
  refine lv_istore (lv' := [(5, .int (nI 0)), (0, .ref b), (1, .int (nI 0)), (2, .int (nI L)), (3, .ref a), (4, .int (nI 0))]) hx hb dX2_intToLittleEndian_1 hl (by decide) rfl ?_
  clear hl; intro ls hl
  have loop : ∀ (n9 i : Nat), i + n9 = L → ∀ (h : Nat → Int32), (∀ j, j < 32 → h j = outF f g (4 * i) j) → ∀ (H : Heap) (locs : List Loc), va_P G.1 vwCl [cl_I G b 8 g, cl_B G a 32 h] H → va_D A [cl_I G b 8 g, cl_B G a 32 h] → va_S A s.heap H locs → ∀ (ls : Array Slot), lv_has ls 6 [(5, .int (nI i)), (0, .ref b), (1, .int (nI 0)), (2, .int (nI L)), (3, .ref a), (4, .int (nI (0 + 4 * i)))] → W p l e ({ frames := 1, cells := 0, slots := 0, locals := 22 }) s m ([.ref b, .int (nI 0), .int (nI L), .ref a, .int (nI 0)] : List Value).toArray below meth c H locs 0 0 (MQ below (wd_Qv G (fun u : Nat → Int32 => u = outF f g (4 * L)) (fun u => [cl_I G b 8 g, cl_B G a 32 u]) A) ([.ref b, .int (nI 0), .int (nI L), .ref a, .int (nI 0)] : List Value).toArray s 0 0 A) (F0 m 3 ls []) := by
    clear hP hD hS hl
    intro n9
    induction n9 with
    | zero =>
      intro i hi h hg H locs hP hD hS ls hl
      refine lv_iload hx hb dX2_intToLittleEndian_3 (lv_at hl 0 rfl) ?_
      refine lv_iload_n hx hb dX2_intToLittleEndian_5 rfl (lv_at hl 3 rfl) ?_
      refine wd_ge (tgt := 30) hx hb dX2_intToLittleEndian_6 (by decide) (by omega) (by omega) (fun c_1 => ?_) (fun c_1 => absurd c_1 (by omega))
      obtain ⟨hP, hD⟩ := wd_lab (q0 := 1) hP hD rfl (outF f g (4 * L)) (fun j hj => by rw [hg j hj, show i = L by omega])
      exact wd_vret hx hb hr hlk (outF f g (4 * L)) rfl hP hD hS dX2_intToLittleEndian_30
    | succ n9 ih =>
      intro i hi h hg H locs hP hD hS ls hl
      refine lv_iload hx hb dX2_intToLittleEndian_3 (lv_at hl 0 rfl) ?_
      refine lv_iload_n hx hb dX2_intToLittleEndian_5 rfl (lv_at hl 3 rfl) ?_
      refine wd_ge (tgt := 30) hx hb dX2_intToLittleEndian_6 (by decide) (by omega) (by omega) (fun c_1 => absurd c_1 (by omega)) (fun c_1 => ?_)
      refine lv_aload_n hx hb dX2_intToLittleEndian_9 rfl (lv_at hl 1 rfl) ?_
      refine lv_iload_n hx hb dX2_intToLittleEndian_10 rfl (lv_at hl 2 rfl) ?_
      refine lv_iload hx hb dX2_intToLittleEndian_11 (lv_at hl 0 rfl) ?_
      refine wd_iaddN (x := 0) (y := i) hx hb dX2_intToLittleEndian_13 ?_
      refine wd_ild hx hb hK hP 0 rfl (0 + i) (by omega) (by omega) dX2_intToLittleEndian_14 ?_
      refine lv_aload_n hx hb dX2_intToLittleEndian_15 rfl (lv_at hl 4 rfl) ?_
      refine lv_iload hx hb dX2_intToLittleEndian_16 (lv_at hl 5 rfl) ?_
      refine wd_callv (wr := [cl_I G b 8 g]) (va_runS (As := [.int (g (0 + i)), .ref a, .int (nI (0 + 4 * i))]) (rest := []) ⟨hx, hb, hml, hown, hts⟩ (met_X2_st l G a 32 (0 + 4 * i) (g (0 + i)) h (by decide) (by omega) H.size) (va_cwS 3 hts (lw_S q348 q349 q24 q350) rfl rfl rfl (by decide +kernel) ⟨Nat.le_of_ble_eq_true rfl, Nat.le_of_ble_eq_true rfl⟩) (wd_preS hK hZ hP hD hS hA [1] (by decide) rfl) rfl rfl hl.1 rfl (lv_room (Nat.le_of_ble_eq_true rfl)) dX2_intToLittleEndian_18 ⟨Nat.le_of_ble_eq_true rfl, Nat.le_of_ble_eq_true rfl⟩) hP hD hS hA [1] [0] rfl rfl (by decide) (by decide) ?_
      intro u_13 hu_13
      clear hP hD hS; intro H locs hP hD hS
      replace hP : va_P G.1 vwCl [cl_I G b 8 g, cl_B G a 32 u_13] H := wd_psub hP [0, 1] rfl
      replace hD : va_D A [cl_I G b 8 g, cl_B G a 32 u_13] := hD.sub [0, 1] (by decide) rfl
      refine lv_iinc (v := nI (0 + 4 * i + 4)) (lv' := [(4, .int (nI (0 + 4 * i + 4))), (5, .int (nI i)), (0, .ref b), (1, .int (nI 0)), (2, .int (nI L)), (3, .ref a)]) hx hb dX2_intToLittleEndian_21 hl (k := 5) rfl (wd_inc _ 4) (by decide) rfl ?_
      clear hl; intro ls hl
      refine lv_iinc (v := nI (i + 1)) (lv' := [(5, .int (nI (i + 1))), (4, .int (nI (0 + 4 * i + 4))), (0, .ref b), (1, .int (nI 0)), (2, .int (nI L)), (3, .ref a)]) hx hb dX2_intToLittleEndian_24 hl (k := 1) rfl (wd_inc _ 1) (by decide) rfl ?_
      clear hl; intro ls hl
      refine lv_goto (tgt := 3) hx hb dX2_intToLittleEndian_27 (by decide) ?_
      exact ih (i + 1) (by omega) u_13 (fun j hj => by rw [hu_13]; exact st_out hg j hj) _ _ hP hD hS ls (lv_sub hl [0, 2, 3, 4, 5, 1] rfl)
  exact loop L 0 (by omega) f (fun j hj => (if_neg (by omega)).symm) s.heap [] hP hD hS ls hl
end
section
/-! Blake2sDigest: G, initializeInternalState, incrementCounter, compress -/
set_option maxHeartbeats 4000000 in
set_option maxRecDepth 100000 in
/-- Blake2sDigest.G: a mixing -/
theorem met_X1_G (l : Launch) (G : wd_G) (ao aB aI aC aP : Nat) (dl bp t0 f0 x y : Int32) (v : Nat → Int32) (i1 i2 i3 i4 : Nat) (h1 : i1 < 16) (h2 : i2 < 16) (h3 : i3 < 16) (h4 : i4 < 16) (sz : Nat) : Met l yX1_G (ws_ yX1_G cX1_G 7 none) ({ frames := 2, cells := 0, slots := 0, locals := 42 }) (va_Pc [.ref ao, .int x, .int y, .int (nI i1), .int (nI i2), .int (nI i3), .int (nI i4)] (wd_Pre G [cl_O ao 1 (bk_fs dl bp t0 f0 aB aI aC aP), cl_I G aI 16 v] sz)) (wd_Qv G (fun u : Nat → Int32 => u = gF v x y i1 i2 i3 i4) (fun u => [cl_O ao 1 (bk_fs dl bp t0 f0 aB aI aC aP), cl_I G aI 16 u]) (va_A [cl_O ao 1 (bk_fs dl bp t0 f0 aB aI aC aP), cl_I G aI 16 v] sz)) 0 0 (va_A [cl_O ao 1 (bk_fs dl bp t0 f0 aB aI aC aP), cl_I G aI 16 v] sz) := by
  refine wd_ofW (Qc := fun A => wd_Qv G (fun u : Nat → Int32 => u = gF v x y i1 i2 i3 i4) (fun u => [cl_O ao 1 (bk_fs dl bp t0 f0 aB aI aC aP), cl_I G aI 16 u]) A) (by decide) (Nat.le_of_ble_eq_true rfl) ?_
  intro p e s m below meth c A ls hx hb hr hml hown hlk hnm hts hK hZ hP hD hS hA hl
  replace hown : s.vm.findClass RX1 = some m.cls := hown
  replace hl : lv_has ls 7 [(0, .ref ao), (1, .int x), (2, .int y), (3, .int (nI i1)), (4, .int (nI i2)), (5, .int (nI i3)), (6, .int (nI i4))] := hl
  refine lv_aload_n hx hb dX1_G_0 rfl (lv_at hl 0 rfl) ?_
  refine va_get (D := G.1) (ci := 1) (v := .ref aI) (C := RX1) (T := TX1) (N := 21) hx hb hts in_X1 hown hK hP 0 rfl rfl 14 (by decide) (hts _ q149) (fun _ h9 => h9) rfl dX1_G_1 ?_
  refine lv_iload_n hx hb dX1_G_4 rfl (lv_at hl 3 rfl) ?_
  refine lv_aload_n hx hb dX1_G_5 rfl (lv_at hl 0 rfl) ?_
  refine va_get (D := G.1) (ci := 1) (v := .ref aI) (C := RX1) (T := TX1) (N := 21) hx hb hts in_X1 hown hK hP 0 rfl rfl 14 (by decide) (hts _ q149) (fun _ h9 => h9) rfl dX1_G_6 ?_
  refine lv_iload_n hx hb dX1_G_9 rfl (lv_at hl 3 rfl) ?_
  refine wd_ild hx hb hK hP 1 rfl i1 (by omega) (by omega) dX1_G_10 ?_
  refine lv_aload_n hx hb dX1_G_11 rfl (lv_at hl 0 rfl) ?_
  refine va_get (D := G.1) (ci := 1) (v := .ref aI) (C := RX1) (T := TX1) (N := 21) hx hb hts in_X1 hown hK hP 0 rfl rfl 14 (by decide) (hts _ q149) (fun _ h9 => h9) rfl dX1_G_12 ?_
  refine lv_iload hx hb dX1_G_15 (lv_at hl 4 rfl) ?_
  refine wd_ild hx hb hK hP 1 rfl i2 (by omega) (by omega) dX1_G_17 ?_
  refine lv_iadd hx hb dX1_G_18 ?_
  refine lv_iload_n hx hb dX1_G_19 rfl (lv_at hl 1 rfl) ?_
  refine lv_iadd hx hb dX1_G_20 ?_
  refine wd_ist hx hb hK hP hD hS 1 rfl i1 (by omega) (by omega) dX1_G_21 ?_
  clear hP hD hS; intro f_14 ef_14 H locs hP hD hS
  replace hP : va_P G.1 vwCl [cl_O ao 1 (bk_fs dl bp t0 f0 aB aI aC aP), cl_I G aI 16 f_14] H := hP
  replace hD : va_D A [cl_O ao 1 (bk_fs dl bp t0 f0 aB aI aC aP), cl_I G aI 16 f_14] := hD
  replace ef_14 : f_14 = gA v x i1 i2 := ef_14
  refine lv_aload_n hx hb dX1_G_22 rfl (lv_at hl 0 rfl) ?_
  refine va_get (D := G.1) (ci := 1) (v := .ref aI) (C := RX1) (T := TX1) (N := 21) hx hb hts in_X1 hown hK hP 0 rfl rfl 14 (by decide) (hts _ q149) (fun _ h9 => h9) rfl dX1_G_23 ?_
  refine lv_iload hx hb dX1_G_26 (lv_at hl 6 rfl) ?_
  refine lv_aload_n hx hb dX1_G_28 rfl (lv_at hl 0 rfl) ?_
  refine va_get (D := G.1) (ci := 1) (v := .ref aI) (C := RX1) (T := TX1) (N := 21) hx hb hts in_X1 hown hK hP 0 rfl rfl 14 (by decide) (hts _ q149) (fun _ h9 => h9) rfl dX1_G_29 ?_
  refine lv_iload hx hb dX1_G_32 (lv_at hl 6 rfl) ?_
  refine wd_ild hx hb hK hP 1 rfl i4 (by omega) (by omega) dX1_G_34 ?_
  refine lv_aload_n hx hb dX1_G_35 rfl (lv_at hl 0 rfl) ?_
  refine va_get (D := G.1) (ci := 1) (v := .ref aI) (C := RX1) (T := TX1) (N := 21) hx hb hts in_X1 hown hK hP 0 rfl rfl 14 (by decide) (hts _ q149) (fun _ h9 => h9) rfl dX1_G_36 ?_
  refine lv_iload_n hx hb dX1_G_39 rfl (lv_at hl 3 rfl) ?_
  refine wd_ild hx hb hK hP 1 rfl i1 (by omega) (by omega) dX1_G_40 ?_
  refine lv_ixor hx hb dX1_G_41 ?_
  refine lv_bipush (v := nI 16) hx hb dX1_G_42 (by decide) ?_
  refine vp_callSi (va_Run.run (va_runS (As := [.int ((f_14 i4) ^^^ (f_14 i1)), .int (nI 16)]) (rest := [.int (nI i4), .ref aI]) ⟨hx, hb, hml, hown, hts⟩ (met_X4_rot l G ((f_14 i4) ^^^ (f_14 i1)) (nI 16)) (va_cwS 2 hts (lw_S q283 q284 q26 q285) rfl rfl rfl (by decide +kernel) ⟨Nat.le_of_ble_eq_true rfl, Nat.le_of_ble_eq_true rfl⟩) (wd_preSR hK hP [] rfl) rfl rfl hl.1 rfl (lv_room (Nat.le_of_ble_eq_true rfl)) dX1_G_44 ⟨Nat.le_of_ble_eq_true rfl, Nat.le_of_ble_eq_true rfl⟩)) ?_
  intro r_15 er_15
  refine wd_ist hx hb hK hP hD hS 1 rfl i4 (by omega) (by omega) dX1_G_47 ?_
  clear hP hD hS; intro f_16 ef_16 H locs hP hD hS
  replace hP : va_P G.1 vwCl [cl_O ao 1 (bk_fs dl bp t0 f0 aB aI aC aP), cl_I G aI 16 f_16] H := hP
  replace hD : va_D A [cl_O ao 1 (bk_fs dl bp t0 f0 aB aI aC aP), cl_I G aI 16 f_16] := hD
  replace ef_16 : f_16 = gR f_14 i4 i1 16 := by rw [ef_16, er_15]; rfl
  refine lv_aload_n hx hb dX1_G_48 rfl (lv_at hl 0 rfl) ?_
  refine va_get (D := G.1) (ci := 1) (v := .ref aI) (C := RX1) (T := TX1) (N := 21) hx hb hts in_X1 hown hK hP 0 rfl rfl 14 (by decide) (hts _ q149) (fun _ h9 => h9) rfl dX1_G_49 ?_
  refine lv_iload hx hb dX1_G_52 (lv_at hl 5 rfl) ?_
  refine lv_aload_n hx hb dX1_G_54 rfl (lv_at hl 0 rfl) ?_
  refine va_get (D := G.1) (ci := 1) (v := .ref aI) (C := RX1) (T := TX1) (N := 21) hx hb hts in_X1 hown hK hP 0 rfl rfl 14 (by decide) (hts _ q149) (fun _ h9 => h9) rfl dX1_G_55 ?_
  refine lv_iload hx hb dX1_G_58 (lv_at hl 5 rfl) ?_
  refine wd_ild hx hb hK hP 1 rfl i3 (by omega) (by omega) dX1_G_60 ?_
  refine lv_aload_n hx hb dX1_G_61 rfl (lv_at hl 0 rfl) ?_
  refine va_get (D := G.1) (ci := 1) (v := .ref aI) (C := RX1) (T := TX1) (N := 21) hx hb hts in_X1 hown hK hP 0 rfl rfl 14 (by decide) (hts _ q149) (fun _ h9 => h9) rfl dX1_G_62 ?_
  refine lv_iload hx hb dX1_G_65 (lv_at hl 6 rfl) ?_
  refine wd_ild hx hb hK hP 1 rfl i4 (by omega) (by omega) dX1_G_67 ?_
  refine lv_iadd hx hb dX1_G_68 ?_
  refine wd_ist hx hb hK hP hD hS 1 rfl i3 (by omega) (by omega) dX1_G_69 ?_
  clear hP hD hS; intro f_17 ef_17 H locs hP hD hS
  replace hP : va_P G.1 vwCl [cl_O ao 1 (bk_fs dl bp t0 f0 aB aI aC aP), cl_I G aI 16 f_17] H := hP
  replace hD : va_D A [cl_O ao 1 (bk_fs dl bp t0 f0 aB aI aC aP), cl_I G aI 16 f_17] := hD
  replace ef_17 : f_17 = gC f_16 i3 i4 := ef_17
  refine lv_aload_n hx hb dX1_G_70 rfl (lv_at hl 0 rfl) ?_
  refine va_get (D := G.1) (ci := 1) (v := .ref aI) (C := RX1) (T := TX1) (N := 21) hx hb hts in_X1 hown hK hP 0 rfl rfl 14 (by decide) (hts _ q149) (fun _ h9 => h9) rfl dX1_G_71 ?_
  refine lv_iload hx hb dX1_G_74 (lv_at hl 4 rfl) ?_
  refine lv_aload_n hx hb dX1_G_76 rfl (lv_at hl 0 rfl) ?_
  refine va_get (D := G.1) (ci := 1) (v := .ref aI) (C := RX1) (T := TX1) (N := 21) hx hb hts in_X1 hown hK hP 0 rfl rfl 14 (by decide) (hts _ q149) (fun _ h9 => h9) rfl dX1_G_77 ?_
  refine lv_iload hx hb dX1_G_80 (lv_at hl 4 rfl) ?_
  refine wd_ild hx hb hK hP 1 rfl i2 (by omega) (by omega) dX1_G_82 ?_
  refine lv_aload_n hx hb dX1_G_83 rfl (lv_at hl 0 rfl) ?_
  refine va_get (D := G.1) (ci := 1) (v := .ref aI) (C := RX1) (T := TX1) (N := 21) hx hb hts in_X1 hown hK hP 0 rfl rfl 14 (by decide) (hts _ q149) (fun _ h9 => h9) rfl dX1_G_84 ?_
  refine lv_iload hx hb dX1_G_87 (lv_at hl 5 rfl) ?_
  refine wd_ild hx hb hK hP 1 rfl i3 (by omega) (by omega) dX1_G_89 ?_
  refine lv_ixor hx hb dX1_G_90 ?_
  refine lv_bipush (v := nI 12) hx hb dX1_G_91 (by decide) ?_
  refine vp_callSi (va_Run.run (va_runS (As := [.int ((f_17 i2) ^^^ (f_17 i3)), .int (nI 12)]) (rest := [.int (nI i2), .ref aI]) ⟨hx, hb, hml, hown, hts⟩ (met_X4_rot l G ((f_17 i2) ^^^ (f_17 i3)) (nI 12)) (va_cwS 2 hts (lw_S q283 q284 q26 q285) rfl rfl rfl (by decide +kernel) ⟨Nat.le_of_ble_eq_true rfl, Nat.le_of_ble_eq_true rfl⟩) (wd_preSR hK hP [] rfl) rfl rfl hl.1 rfl (lv_room (Nat.le_of_ble_eq_true rfl)) dX1_G_93 ⟨Nat.le_of_ble_eq_true rfl, Nat.le_of_ble_eq_true rfl⟩)) ?_
  intro r_18 er_18
  refine wd_ist hx hb hK hP hD hS 1 rfl i2 (by omega) (by omega) dX1_G_96 ?_
  clear hP hD hS; intro f_19 ef_19 H locs hP hD hS
  replace hP : va_P G.1 vwCl [cl_O ao 1 (bk_fs dl bp t0 f0 aB aI aC aP), cl_I G aI 16 f_19] H := hP
  replace hD : va_D A [cl_O ao 1 (bk_fs dl bp t0 f0 aB aI aC aP), cl_I G aI 16 f_19] := hD
  replace ef_19 : f_19 = gR f_17 i2 i3 12 := by rw [ef_19, er_18]; rfl
  refine lv_aload_n hx hb dX1_G_97 rfl (lv_at hl 0 rfl) ?_
  refine va_get (D := G.1) (ci := 1) (v := .ref aI) (C := RX1) (T := TX1) (N := 21) hx hb hts in_X1 hown hK hP 0 rfl rfl 14 (by decide) (hts _ q149) (fun _ h9 => h9) rfl dX1_G_98 ?_
  refine lv_iload_n hx hb dX1_G_101 rfl (lv_at hl 3 rfl) ?_
  refine lv_aload_n hx hb dX1_G_102 rfl (lv_at hl 0 rfl) ?_
  refine va_get (D := G.1) (ci := 1) (v := .ref aI) (C := RX1) (T := TX1) (N := 21) hx hb hts in_X1 hown hK hP 0 rfl rfl 14 (by decide) (hts _ q149) (fun _ h9 => h9) rfl dX1_G_103 ?_
  refine lv_iload_n hx hb dX1_G_106 rfl (lv_at hl 3 rfl) ?_
  refine wd_ild hx hb hK hP 1 rfl i1 (by omega) (by omega) dX1_G_107 ?_
  refine lv_aload_n hx hb dX1_G_108 rfl (lv_at hl 0 rfl) ?_
  refine va_get (D := G.1) (ci := 1) (v := .ref aI) (C := RX1) (T := TX1) (N := 21) hx hb hts in_X1 hown hK hP 0 rfl rfl 14 (by decide) (hts _ q149) (fun _ h9 => h9) rfl dX1_G_109 ?_
  refine lv_iload hx hb dX1_G_112 (lv_at hl 4 rfl) ?_
  refine wd_ild hx hb hK hP 1 rfl i2 (by omega) (by omega) dX1_G_114 ?_
  refine lv_iadd hx hb dX1_G_115 ?_
  refine lv_iload_n hx hb dX1_G_116 rfl (lv_at hl 2 rfl) ?_
  refine lv_iadd hx hb dX1_G_117 ?_
  refine wd_ist hx hb hK hP hD hS 1 rfl i1 (by omega) (by omega) dX1_G_118 ?_
  clear hP hD hS; intro f_20 ef_20 H locs hP hD hS
  replace hP : va_P G.1 vwCl [cl_O ao 1 (bk_fs dl bp t0 f0 aB aI aC aP), cl_I G aI 16 f_20] H := hP
  replace hD : va_D A [cl_O ao 1 (bk_fs dl bp t0 f0 aB aI aC aP), cl_I G aI 16 f_20] := hD
  replace ef_20 : f_20 = gA f_19 y i1 i2 := ef_20
  refine lv_aload_n hx hb dX1_G_119 rfl (lv_at hl 0 rfl) ?_
  refine va_get (D := G.1) (ci := 1) (v := .ref aI) (C := RX1) (T := TX1) (N := 21) hx hb hts in_X1 hown hK hP 0 rfl rfl 14 (by decide) (hts _ q149) (fun _ h9 => h9) rfl dX1_G_120 ?_
  refine lv_iload hx hb dX1_G_123 (lv_at hl 6 rfl) ?_
  refine lv_aload_n hx hb dX1_G_125 rfl (lv_at hl 0 rfl) ?_
  refine va_get (D := G.1) (ci := 1) (v := .ref aI) (C := RX1) (T := TX1) (N := 21) hx hb hts in_X1 hown hK hP 0 rfl rfl 14 (by decide) (hts _ q149) (fun _ h9 => h9) rfl dX1_G_126 ?_
  refine lv_iload hx hb dX1_G_129 (lv_at hl 6 rfl) ?_
  refine wd_ild hx hb hK hP 1 rfl i4 (by omega) (by omega) dX1_G_131 ?_
  refine lv_aload_n hx hb dX1_G_132 rfl (lv_at hl 0 rfl) ?_
  refine va_get (D := G.1) (ci := 1) (v := .ref aI) (C := RX1) (T := TX1) (N := 21) hx hb hts in_X1 hown hK hP 0 rfl rfl 14 (by decide) (hts _ q149) (fun _ h9 => h9) rfl dX1_G_133 ?_
  refine lv_iload_n hx hb dX1_G_136 rfl (lv_at hl 3 rfl) ?_
  refine wd_ild hx hb hK hP 1 rfl i1 (by omega) (by omega) dX1_G_137 ?_
  refine lv_ixor hx hb dX1_G_138 ?_
  refine lv_bipush (v := nI 8) hx hb dX1_G_139 (by decide) ?_
  refine vp_callSi (va_Run.run (va_runS (As := [.int ((f_20 i4) ^^^ (f_20 i1)), .int (nI 8)]) (rest := [.int (nI i4), .ref aI]) ⟨hx, hb, hml, hown, hts⟩ (met_X4_rot l G ((f_20 i4) ^^^ (f_20 i1)) (nI 8)) (va_cwS 2 hts (lw_S q283 q284 q26 q285) rfl rfl rfl (by decide +kernel) ⟨Nat.le_of_ble_eq_true rfl, Nat.le_of_ble_eq_true rfl⟩) (wd_preSR hK hP [] rfl) rfl rfl hl.1 rfl (lv_room (Nat.le_of_ble_eq_true rfl)) dX1_G_141 ⟨Nat.le_of_ble_eq_true rfl, Nat.le_of_ble_eq_true rfl⟩)) ?_
  intro r_21 er_21
  refine wd_ist hx hb hK hP hD hS 1 rfl i4 (by omega) (by omega) dX1_G_144 ?_
  clear hP hD hS; intro f_22 ef_22 H locs hP hD hS
  replace hP : va_P G.1 vwCl [cl_O ao 1 (bk_fs dl bp t0 f0 aB aI aC aP), cl_I G aI 16 f_22] H := hP
  replace hD : va_D A [cl_O ao 1 (bk_fs dl bp t0 f0 aB aI aC aP), cl_I G aI 16 f_22] := hD
  replace ef_22 : f_22 = gR f_20 i4 i1 8 := by rw [ef_22, er_21]; rfl
  refine lv_aload_n hx hb dX1_G_145 rfl (lv_at hl 0 rfl) ?_
  refine va_get (D := G.1) (ci := 1) (v := .ref aI) (C := RX1) (T := TX1) (N := 21) hx hb hts in_X1 hown hK hP 0 rfl rfl 14 (by decide) (hts _ q149) (fun _ h9 => h9) rfl dX1_G_146 ?_
  refine lv_iload hx hb dX1_G_149 (lv_at hl 5 rfl) ?_
  refine lv_aload_n hx hb dX1_G_151 rfl (lv_at hl 0 rfl) ?_
  refine va_get (D := G.1) (ci := 1) (v := .ref aI) (C := RX1) (T := TX1) (N := 21) hx hb hts in_X1 hown hK hP 0 rfl rfl 14 (by decide) (hts _ q149) (fun _ h9 => h9) rfl dX1_G_152 ?_
  refine lv_iload hx hb dX1_G_155 (lv_at hl 5 rfl) ?_
  refine wd_ild hx hb hK hP 1 rfl i3 (by omega) (by omega) dX1_G_157 ?_
  refine lv_aload_n hx hb dX1_G_158 rfl (lv_at hl 0 rfl) ?_
  refine va_get (D := G.1) (ci := 1) (v := .ref aI) (C := RX1) (T := TX1) (N := 21) hx hb hts in_X1 hown hK hP 0 rfl rfl 14 (by decide) (hts _ q149) (fun _ h9 => h9) rfl dX1_G_159 ?_
  refine lv_iload hx hb dX1_G_162 (lv_at hl 6 rfl) ?_
  refine wd_ild hx hb hK hP 1 rfl i4 (by omega) (by omega) dX1_G_164 ?_
  refine lv_iadd hx hb dX1_G_165 ?_
  refine wd_ist hx hb hK hP hD hS 1 rfl i3 (by omega) (by omega) dX1_G_166 ?_
  clear hP hD hS; intro f_23 ef_23 H locs hP hD hS
  replace hP : va_P G.1 vwCl [cl_O ao 1 (bk_fs dl bp t0 f0 aB aI aC aP), cl_I G aI 16 f_23] H := hP
  replace hD : va_D A [cl_O ao 1 (bk_fs dl bp t0 f0 aB aI aC aP), cl_I G aI 16 f_23] := hD
  replace ef_23 : f_23 = gC f_22 i3 i4 := ef_23
  refine lv_aload_n hx hb dX1_G_167 rfl (lv_at hl 0 rfl) ?_
  refine va_get (D := G.1) (ci := 1) (v := .ref aI) (C := RX1) (T := TX1) (N := 21) hx hb hts in_X1 hown hK hP 0 rfl rfl 14 (by decide) (hts _ q149) (fun _ h9 => h9) rfl dX1_G_168 ?_
  refine lv_iload hx hb dX1_G_171 (lv_at hl 4 rfl) ?_
  refine lv_aload_n hx hb dX1_G_173 rfl (lv_at hl 0 rfl) ?_
  refine va_get (D := G.1) (ci := 1) (v := .ref aI) (C := RX1) (T := TX1) (N := 21) hx hb hts in_X1 hown hK hP 0 rfl rfl 14 (by decide) (hts _ q149) (fun _ h9 => h9) rfl dX1_G_174 ?_
  refine lv_iload hx hb dX1_G_177 (lv_at hl 4 rfl) ?_
  refine wd_ild hx hb hK hP 1 rfl i2 (by omega) (by omega) dX1_G_179 ?_
  refine lv_aload_n hx hb dX1_G_180 rfl (lv_at hl 0 rfl) ?_
  refine va_get (D := G.1) (ci := 1) (v := .ref aI) (C := RX1) (T := TX1) (N := 21) hx hb hts in_X1 hown hK hP 0 rfl rfl 14 (by decide) (hts _ q149) (fun _ h9 => h9) rfl dX1_G_181 ?_
  refine lv_iload hx hb dX1_G_184 (lv_at hl 5 rfl) ?_
  refine wd_ild hx hb hK hP 1 rfl i3 (by omega) (by omega) dX1_G_186 ?_
  refine lv_ixor hx hb dX1_G_187 ?_
  refine lv_bipush (v := nI 7) hx hb dX1_G_188 (by decide) ?_
  refine vp_callSi (va_Run.run (va_runS (As := [.int ((f_23 i2) ^^^ (f_23 i3)), .int (nI 7)]) (rest := [.int (nI i2), .ref aI]) ⟨hx, hb, hml, hown, hts⟩ (met_X4_rot l G ((f_23 i2) ^^^ (f_23 i3)) (nI 7)) (va_cwS 2 hts (lw_S q283 q284 q26 q285) rfl rfl rfl (by decide +kernel) ⟨Nat.le_of_ble_eq_true rfl, Nat.le_of_ble_eq_true rfl⟩) (wd_preSR hK hP [] rfl) rfl rfl hl.1 rfl (lv_room (Nat.le_of_ble_eq_true rfl)) dX1_G_190 ⟨Nat.le_of_ble_eq_true rfl, Nat.le_of_ble_eq_true rfl⟩)) ?_
  intro r_24 er_24
  refine wd_ist hx hb hK hP hD hS 1 rfl i2 (by omega) (by omega) dX1_G_193 ?_
  clear hP hD hS; intro f_25 ef_25 H locs hP hD hS
  replace hP : va_P G.1 vwCl [cl_O ao 1 (bk_fs dl bp t0 f0 aB aI aC aP), cl_I G aI 16 f_25] H := hP
  replace hD : va_D A [cl_O ao 1 (bk_fs dl bp t0 f0 aB aI aC aP), cl_I G aI 16 f_25] := hD
  replace ef_25 : f_25 = gR f_23 i2 i3 7 := by rw [ef_25, er_24]; rfl
  exact wd_vret hx hb hr hlk f_25 (by rw [ef_25, ef_23, ef_22, ef_20, ef_19, ef_17, ef_16, ef_14]; rfl) hP hD hS dX1_G_194
set_option maxHeartbeats 4000000 in
set_option maxRecDepth 100000 in
/-- Blake2sDigest.initializeInternalState -/
theorem met_X1_iis (l : Launch) (G : wd_G) (ao aB aI aC aP : Nat) (dl bp t0 f0 : Int32) (v ch : Nat → Int32) (sz : Nat) : Met l yX1_initializeInternalState (ws_ yX1_initializeInternalState cX1_initializeInternalState 1 none) ({ frames := 1, cells := 0, slots := 0, locals := 26 }) (va_Pc [.ref ao] (wd_Pre G [cl_O ao 1 (bk_fs dl bp t0 f0 aB aI aC aP), cl_I G aI 16 v, cl_I G aC 8 ch] sz)) (wd_Qv G (fun u : Nat → Int32 => u = v0F ch t0 f0) (fun u => [cl_O ao 1 (bk_fs dl bp t0 f0 aB aI aC aP), cl_I G aI 16 u, cl_I G aC 8 ch]) (va_A [cl_O ao 1 (bk_fs dl bp t0 f0 aB aI aC aP), cl_I G aI 16 v, cl_I G aC 8 ch] sz)) 0 0 (va_A [cl_O ao 1 (bk_fs dl bp t0 f0 aB aI aC aP), cl_I G aI 16 v, cl_I G aC 8 ch] sz) := by
  refine wd_ofW (Qc := fun A => wd_Qv G (fun u : Nat → Int32 => u = v0F ch t0 f0) (fun u => [cl_O ao 1 (bk_fs dl bp t0 f0 aB aI aC aP), cl_I G aI 16 u, cl_I G aC 8 ch]) A) (by decide) (Nat.le_of_ble_eq_true rfl) ?_
  intro p e s m below meth c A ls hx hb hr hml hown hlk hnm hts hK hZ hP hD hS hA hl
  replace hown : s.vm.findClass RX1 = some m.cls := hown
  replace hl : lv_has ls 1 [(0, .ref ao)] := hl
  obtain ⟨⟨tIV, zIV, hIV⟩, ⟨tSG, rSG, zSG, hSG, hSGr⟩, ⟨tFI, zFI, hFI⟩, ⟨tOR, rOR, zOR, hOR, hORr⟩, ⟨tWO, rWO, zWO, hWO, hWOr⟩, ⟨tSZ, zSZ, hSZ⟩, ⟨tAN, zAN⟩, hFw1, hFw2, hFw3, hFw4⟩ := id hZ
  refine lv_aload_n hx hb dX1_initializeInternalState_0 rfl (lv_at hl 0 rfl) ?_
  refine va_get (D := G.1) (ci := 1) (v := .ref aC) (C := RX1) (T := TX1) (N := 21) hx hb hts in_X1 hown hK hP 0 rfl rfl 15 (by decide) (hts _ q150) (fun _ h9 => h9) rfl dX1_initializeInternalState_1 ?_
  refine lv_iconst (v := nI 0) hx hb dX1_initializeInternalState_4 (by decide) ?_
  refine lv_aload_n hx hb dX1_initializeInternalState_5 rfl (lv_at hl 0 rfl) ?_
  refine va_get (D := G.1) (ci := 1) (v := .ref aI) (C := RX1) (T := TX1) (N := 21) hx hb hts in_X1 hown hK hP 0 rfl rfl 14 (by decide) (hts _ q149) (fun _ h9 => h9) rfl dX1_initializeInternalState_6 ?_
  refine lv_iconst (v := nI 0) hx hb dX1_initializeInternalState_9 (by decide) ?_
  refine lv_aload_n hx hb dX1_initializeInternalState_10 rfl (lv_at hl 0 rfl) ?_
  refine va_get (D := G.1) (ci := 1) (v := .ref aC) (C := RX1) (T := TX1) (N := 21) hx hb hts in_X1 hown hK hP 0 rfl rfl 15 (by decide) (hts _ q150) (fun _ h9 => h9) rfl dX1_initializeInternalState_11 ?_
  refine va_alen (v := nI 8) hx hb hK hP 2 1 rfl rfl rfl dX1_initializeInternalState_14 ?_
  refine wd_cpyI hx hb (hml.trans hl.1.symm) hown (hts _ q125) (hts _ q127) (hts _ q126) (hts _ q23) hK hP hD hS 2 1 rfl rfl (by omega) (by omega) (by omega) (by omega) (Nat.le_of_ble_eq_true rfl) (Nat.le_of_ble_eq_true rfl) dX1_initializeInternalState_15 ?_
  clear hP hD hS; intro f_26 ef_26 H locs hP hD hS
  replace hP : va_P G.1 vwCl [cl_O ao 1 (bk_fs dl bp t0 f0 aB aI aC aP), cl_I G aI 16 f_26, cl_I G aC 8 ch] H := hP
  replace hD : va_D A [cl_O ao 1 (bk_fs dl bp t0 f0 aB aI aC aP), cl_I G aI 16 f_26, cl_I G aC 8 ch] := hD
  refine va_gets hx hb zIV hS hown (hts _ q128) (fun _ h9 => h9) dX1_initializeInternalState_18 ?_
  refine lv_iconst (v := nI 0) hx hb dX1_initializeInternalState_21 (by decide) ?_
  refine lv_aload_n hx hb dX1_initializeInternalState_22 rfl (lv_at hl 0 rfl) ?_
  refine va_get (D := G.1) (ci := 1) (v := .ref aI) (C := RX1) (T := TX1) (N := 21) hx hb hts in_X1 hown hK hP 0 rfl rfl 14 (by decide) (hts _ q149) (fun _ h9 => h9) rfl dX1_initializeInternalState_23 ?_
  refine lv_aload_n hx hb dX1_initializeInternalState_26 rfl (lv_at hl 0 rfl) ?_
  refine va_get (D := G.1) (ci := 1) (v := .ref aC) (C := RX1) (T := TX1) (N := 21) hx hb hts in_X1 hown hK hP 0 rfl rfl 15 (by decide) (hts _ q150) (fun _ h9 => h9) rfl dX1_initializeInternalState_27 ?_
  refine va_alen (v := nI 8) hx hb hK hP 2 1 rfl rfl rfl dX1_initializeInternalState_30 ?_
  refine lv_iconst (v := nI 4) hx hb dX1_initializeInternalState_31 (by decide) ?_
  refine wd_cpyT hx hb (hml.trans hl.1.symm) hown (hts _ q125) (hts _ q127) (hts _ q126) (hts _ q23) hK hP hD hS hIV 1 rfl (by omega) (by omega) (by decide) (by decide) (Nat.le_of_ble_eq_true rfl) (Nat.le_of_ble_eq_true rfl) dX1_initializeInternalState_32 ?_
  clear hP hD hS; intro f_27 ef_27 H locs hP hD hS
  replace hP : va_P G.1 vwCl [cl_O ao 1 (bk_fs dl bp t0 f0 aB aI aC aP), cl_I G aI 16 f_27, cl_I G aC 8 ch] H := hP
  replace hD : va_D A [cl_O ao 1 (bk_fs dl bp t0 f0 aB aI aC aP), cl_I G aI 16 f_27, cl_I G aC 8 ch] := hD
  refine lv_aload_n hx hb dX1_initializeInternalState_35 rfl (lv_at hl 0 rfl) ?_
  refine va_get (D := G.1) (ci := 1) (v := .ref aI) (C := RX1) (T := TX1) (N := 21) hx hb hts in_X1 hown hK hP 0 rfl rfl 14 (by decide) (hts _ q149) (fun _ h9 => h9) rfl dX1_initializeInternalState_36 ?_
  refine lv_bipush (v := nI 12) hx hb dX1_initializeInternalState_39 (by decide) ?_
  refine lv_aload_n hx hb dX1_initializeInternalState_41 rfl (lv_at hl 0 rfl) ?_
  refine va_get (D := G.1) (ci := 1) (v := .int t0) (C := RX1) (T := TX1) (N := 21) hx hb hts in_X1 hown hK hP 0 rfl rfl 16 (by decide) (hts _ q151) (fun _ h9 => h9) rfl dX1_initializeInternalState_42 ?_
  refine va_gets hx hb zIV hS hown (hts _ q128) (fun _ h9 => h9) dX1_initializeInternalState_45 ?_
  refine lv_iconst (v := nI 4) hx hb dX1_initializeInternalState_48 (by decide) ?_
  refine wd_ti hx hb hIV hS 4 (by omega) (by decide) dX1_initializeInternalState_49 ?_
  refine lv_ixor hx hb dX1_initializeInternalState_50 ?_
  refine wd_ist hx hb hK hP hD hS 1 rfl 12 (by omega) (by omega) dX1_initializeInternalState_51 ?_
  clear hP hD hS; intro f_28 ef_28 H locs hP hD hS
  replace hP : va_P G.1 vwCl [cl_O ao 1 (bk_fs dl bp t0 f0 aB aI aC aP), cl_I G aI 16 f_28, cl_I G aC 8 ch] H := hP
  replace hD : va_D A [cl_O ao 1 (bk_fs dl bp t0 f0 aB aI aC aP), cl_I G aI 16 f_28, cl_I G aC 8 ch] := hD
  refine lv_aload_n hx hb dX1_initializeInternalState_52 rfl (lv_at hl 0 rfl) ?_
  refine va_get (D := G.1) (ci := 1) (v := .ref aI) (C := RX1) (T := TX1) (N := 21) hx hb hts in_X1 hown hK hP 0 rfl rfl 14 (by decide) (hts _ q149) (fun _ h9 => h9) rfl dX1_initializeInternalState_53 ?_
  refine lv_bipush (v := nI 13) hx hb dX1_initializeInternalState_56 (by decide) ?_
  refine lv_aload_n hx hb dX1_initializeInternalState_58 rfl (lv_at hl 0 rfl) ?_
  refine va_get (D := G.1) (ci := 1) (v := .int (nI 0)) (C := RX1) (T := TX1) (N := 21) hx hb hts in_X1 hown hK hP 0 rfl rfl 17 (by decide) (hts _ q152) (fun _ h9 => h9) rfl dX1_initializeInternalState_59 ?_
  refine va_gets hx hb zIV hS hown (hts _ q128) (fun _ h9 => h9) dX1_initializeInternalState_62 ?_
  refine lv_iconst (v := nI 5) hx hb dX1_initializeInternalState_65 (by decide) ?_
  refine wd_ti hx hb hIV hS 5 (by omega) (by decide) dX1_initializeInternalState_66 ?_
  refine lv_ixor hx hb dX1_initializeInternalState_67 ?_
  refine wd_ist hx hb hK hP hD hS 1 rfl 13 (by omega) (by omega) dX1_initializeInternalState_68 ?_
  clear hP hD hS; intro f_29 ef_29 H locs hP hD hS
  replace hP : va_P G.1 vwCl [cl_O ao 1 (bk_fs dl bp t0 f0 aB aI aC aP), cl_I G aI 16 f_29, cl_I G aC 8 ch] H := hP
  replace hD : va_D A [cl_O ao 1 (bk_fs dl bp t0 f0 aB aI aC aP), cl_I G aI 16 f_29, cl_I G aC 8 ch] := hD
  refine lv_aload_n hx hb dX1_initializeInternalState_69 rfl (lv_at hl 0 rfl) ?_
  refine va_get (D := G.1) (ci := 1) (v := .ref aI) (C := RX1) (T := TX1) (N := 21) hx hb hts in_X1 hown hK hP 0 rfl rfl 14 (by decide) (hts _ q149) (fun _ h9 => h9) rfl dX1_initializeInternalState_70 ?_
  refine lv_bipush (v := nI 14) hx hb dX1_initializeInternalState_73 (by decide) ?_
  refine lv_aload_n hx hb dX1_initializeInternalState_75 rfl (lv_at hl 0 rfl) ?_
  refine va_get (D := G.1) (ci := 1) (v := .int f0) (C := RX1) (T := TX1) (N := 21) hx hb hts in_X1 hown hK hP 0 rfl rfl 18 (by decide) (hts _ q153) (fun _ h9 => h9) rfl dX1_initializeInternalState_76 ?_
  refine va_gets hx hb zIV hS hown (hts _ q128) (fun _ h9 => h9) dX1_initializeInternalState_79 ?_
  refine lv_bipush (v := nI 6) hx hb dX1_initializeInternalState_82 (by decide) ?_
  refine wd_ti hx hb hIV hS 6 (by omega) (by decide) dX1_initializeInternalState_84 ?_
  refine lv_ixor hx hb dX1_initializeInternalState_85 ?_
  refine wd_ist hx hb hK hP hD hS 1 rfl 14 (by omega) (by omega) dX1_initializeInternalState_86 ?_
  clear hP hD hS; intro f_30 ef_30 H locs hP hD hS
  replace hP : va_P G.1 vwCl [cl_O ao 1 (bk_fs dl bp t0 f0 aB aI aC aP), cl_I G aI 16 f_30, cl_I G aC 8 ch] H := hP
  replace hD : va_D A [cl_O ao 1 (bk_fs dl bp t0 f0 aB aI aC aP), cl_I G aI 16 f_30, cl_I G aC 8 ch] := hD
  refine lv_aload_n hx hb dX1_initializeInternalState_87 rfl (lv_at hl 0 rfl) ?_
  refine va_get (D := G.1) (ci := 1) (v := .ref aI) (C := RX1) (T := TX1) (N := 21) hx hb hts in_X1 hown hK hP 0 rfl rfl 14 (by decide) (hts _ q149) (fun _ h9 => h9) rfl dX1_initializeInternalState_88 ?_
  refine lv_bipush (v := nI 15) hx hb dX1_initializeInternalState_91 (by decide) ?_
  refine lv_aload_n hx hb dX1_initializeInternalState_93 rfl (lv_at hl 0 rfl) ?_
  refine va_get (D := G.1) (ci := 1) (v := .int (nI 0)) (C := RX1) (T := TX1) (N := 21) hx hb hts in_X1 hown hK hP 0 rfl rfl 19 (by decide) (hts _ q154) (fun _ h9 => h9) rfl dX1_initializeInternalState_94 ?_
  refine va_gets hx hb zIV hS hown (hts _ q128) (fun _ h9 => h9) dX1_initializeInternalState_97 ?_
  refine lv_bipush (v := nI 7) hx hb dX1_initializeInternalState_100 (by decide) ?_
  refine wd_ti hx hb hIV hS 7 (by omega) (by decide) dX1_initializeInternalState_102 ?_
  refine lv_ixor hx hb dX1_initializeInternalState_103 ?_
  refine wd_ist hx hb hK hP hD hS 1 rfl 15 (by omega) (by omega) dX1_initializeInternalState_104 ?_
  clear hP hD hS; intro f_31 ef_31 H locs hP hD hS
  replace hP : va_P G.1 vwCl [cl_O ao 1 (bk_fs dl bp t0 f0 aB aI aC aP), cl_I G aI 16 f_31, cl_I G aC 8 ch] H := hP
  replace hD : va_D A [cl_O ao 1 (bk_fs dl bp t0 f0 aB aI aC aP), cl_I G aI 16 f_31, cl_I G aC 8 ch] := hD
  obtain ⟨hP, hD⟩ := wd_lab (q0 := 1) hP hD rfl (v0F ch t0 f0) (fun j hj => by rw [ef_31, ef_30, ef_29, ef_28, ef_27, ef_26]; exact iis_eq ch v t0 f0 j hj)
  exact wd_vret hx hb hr hlk (v0F ch t0 f0) rfl hP hD hS dX1_initializeInternalState_105
set_option maxHeartbeats 4000000 in
set_option maxRecDepth 100000 in
/-- Blake2sDigest.incrementCounter(k) -/
theorem met_X1_inc (l : Launch) (G : wd_G) (ao aB aI aC aP : Nat) (dl bp f0 : Int32) (t k : Nat) (htk : t + k < 2147483648) (sz : Nat) : Met l yX1_incrementCounter (ws_ yX1_incrementCounter cX1_incrementCounter 2 none) ({ frames := 2, cells := 0, slots := 0, locals := 42 }) (va_Pc [.ref ao, .int (nI k)] (wd_Pre G [cl_O ao 1 (bk_fs dl bp (nI t) f0 aB aI aC aP)] sz)) (wd_Qv G (fun _ : Unit => True) (fun _ => [cl_O ao 1 (bk_fs dl bp (nI (t + k)) f0 aB aI aC aP)]) (va_A [cl_O ao 1 (bk_fs dl bp (nI t) f0 aB aI aC aP)] sz)) 0 0 (va_A [cl_O ao 1 (bk_fs dl bp (nI t) f0 aB aI aC aP)] sz) := by
  refine wd_ofW (Qc := fun A => wd_Qv G (fun _ : Unit => True) (fun _ => [cl_O ao 1 (bk_fs dl bp (nI (t + k)) f0 aB aI aC aP)]) A) (by decide) (Nat.le_of_ble_eq_true rfl) ?_
  intro p e s m below meth c A ls hx hb hr hml hown hlk hnm hts hK hZ hP hD hS hA hl
  replace hown : s.vm.findClass RX1 = some m.cls := hown
  replace hl : lv_has ls 2 [(0, .ref ao), (1, .int (nI k))] := hl
  refine lv_aload_n hx hb dX1_incrementCounter_0 rfl (lv_at hl 0 rfl) ?_
  refine lv_dup hx hb dX1_incrementCounter_1 rfl ?_
  refine va_get (D := G.1) (ci := 1) (v := .int (nI t)) (C := RX1) (T := TX1) (N := 21) hx hb hts in_X1 hown hK hP 0 rfl rfl 16 (by decide) (hts _ q151) (fun _ h9 => h9) rfl dX1_incrementCounter_2 ?_
  refine lv_iload_n hx hb dX1_incrementCounter_5 rfl (lv_at hl 1 rfl) ?_
  refine wd_iaddN (x := t) (y := k) hx hb dX1_incrementCounter_6 ?_
  refine va_put (D := G.1) (ci := 1) (v := .int (nI (t + k))) (ty := .int) (C := RX1) (T := TX1) (N := 21) hx hb hts in_X1 tyX1 tyX1_ok nmX1 hown hK hP hD hS 0 rfl rfl 16 (by decide) (hts _ q151) (fun _ h9 => h9) rfl (tyX1_ok 16 (by decide)) rfl rfl (Nat.le_of_ble_eq_true rfl) dX1_incrementCounter_7 ?_
  clear hP hD hS; intro H locs hP hD hS
  replace hP : va_P G.1 vwCl [cl_O ao 1 (bk_fs dl bp (nI (t + k)) f0 aB aI aC aP)] H := hP
  replace hD : va_D A [cl_O ao 1 (bk_fs dl bp (nI (t + k)) f0 aB aI aC aP)] := hD
  refine lv_aload_n hx hb dX1_incrementCounter_10 rfl (lv_at hl 0 rfl) ?_
  refine va_get (D := G.1) (ci := 1) (v := .int (nI (t + k))) (C := RX1) (T := TX1) (N := 21) hx hb hts in_X1 hown hK hP 0 rfl rfl 16 (by decide) (hts _ q151) (fun _ h9 => h9) rfl dX1_incrementCounter_11 ?_
  refine lv_iload_n hx hb dX1_incrementCounter_14 rfl (lv_at hl 1 rfl) ?_
  refine vp_callSi (va_Run.run (va_runS (As := [.int (nI (t + k)), .int (nI k)]) (rest := []) ⟨hx, hb, hml, hown, hts⟩ (met_X4_cmpU l G (nI (t + k)) (nI k)) (va_cwS 2 hts (lw_S q258 q259 q26 q260) rfl rfl rfl (by decide +kernel) ⟨Nat.le_of_ble_eq_true rfl, Nat.le_of_ble_eq_true rfl⟩) (wd_preSR hK hP [] rfl) rfl rfl hl.1 rfl (lv_room (Nat.le_of_ble_eq_true rfl)) dX1_incrementCounter_15 ⟨Nat.le_of_ble_eq_true rfl, Nat.le_of_ble_eq_true rfl⟩)) ?_
  intro r_32 er_32
  refine lv_if_ge (tgt := 31) hx hb dX1_incrementCounter_18 (by decide) (fun c_1 => ?_) (fun c_1 => absurd (by rw [er_32]; exact cu_no htk) c_1)
  exact wd_vret hx hb hr hlk () trivial hP hD hS dX1_incrementCounter_31
set_option maxHeartbeats 4000000 in
set_option maxRecDepth 100000 in
/-- Blake2sDigest.compress(message, o): the state goes on by a block -/
theorem met_X1_cmp (l : Launch) (G : wd_G) (ao aB aI aC aP : Nat) (am n o : Nat) (dl bp t0 f0 : Int32) (v ch f : Nat → Int32) (hn : n < 2147483648) (ho : o + 64 ≤ n) (sz : Nat) : Met l yX1_compress (ws_ yX1_compress cX1_compress 5 none) ({ frames := 3, cells := 1, slots := 16, locals := 68 }) (va_Pc [.ref ao, .ref am, .int (nI o)] (wd_Pre G [cl_O ao 1 (bk_fs dl bp t0 f0 aB aI aC aP), cl_I G aI 16 v, cl_I G aC 8 ch, cl_B G am n f] sz)) (wd_Qv G (fun u : (Nat → Int32) × (Nat → Int32) => u.2 = cmpF ch (wrdF f o) t0 f0) (fun u => [cl_O ao 1 (bk_fs dl bp t0 f0 aB aI aC aP), cl_I G aI 16 u.1, cl_I G aC 8 u.2, cl_B G am n f]) (va_A [cl_O ao 1 (bk_fs dl bp t0 f0 aB aI aC aP), cl_I G aI 16 v, cl_I G aC 8 ch, cl_B G am n f] sz)) 1 16 (va_A [cl_O ao 1 (bk_fs dl bp t0 f0 aB aI aC aP), cl_I G aI 16 v, cl_I G aC 8 ch, cl_B G am n f] sz) := by
  refine wd_ofW (Qc := fun A => wd_Qv G (fun u : (Nat → Int32) × (Nat → Int32) => u.2 = cmpF ch (wrdF f o) t0 f0) (fun u => [cl_O ao 1 (bk_fs dl bp t0 f0 aB aI aC aP), cl_I G aI 16 u.1, cl_I G aC 8 u.2, cl_B G am n f]) A) (by decide) (Nat.le_of_ble_eq_true rfl) ?_
  intro p e s m below meth c A ls hx hb hr hml hown hlk hnm hts hK hZ hP hD hS hA hl
  replace hown : s.vm.findClass RX1 = some m.cls := hown
  replace hl : lv_has ls 5 [(0, .ref ao), (1, .ref am), (2, .int (nI o))] := hl
  obtain ⟨⟨tIV, zIV, hIV⟩, ⟨tSG, rSG, zSG, hSG, hSGr⟩, ⟨tFI, zFI, hFI⟩, ⟨tOR, rOR, zOR, hOR, hORr⟩, ⟨tWO, rWO, zWO, hWO, hWOr⟩, ⟨tSZ, zSZ, hSZ⟩, ⟨tAN, zAN⟩, hFw1, hFw2, hFw3, hFw4⟩ := id hZ
  refine lv_aload_n hx hb dX1_compress_0 rfl (lv_at hl 0 rfl) ?_
  refine wd_callv (wr := [cl_B G am n f]) (va_runV (As := []) (rest := []) ⟨hx, hb, hml, hown, hts⟩ (met_X1_iis l G ao aB aI aC aP dl bp t0 f0 v ch s.heap.size) (cwV 0 hts (lw_V q269 q271 qs7 q16 q272) rfl rfl rfl (by decide +kernel) ⟨Nat.le_of_ble_eq_true rfl, Nat.le_of_ble_eq_true rfl⟩) (wd_preV hK hZ hP hD hS hA [0, 1, 2] (by decide) rfl 0 1 rfl rfl) rfl rfl hl.1 rfl (lv_room (Nat.le_of_ble_eq_true rfl)) dX1_compress_1 ⟨Nat.le_of_ble_eq_true rfl, Nat.le_of_ble_eq_true rfl⟩) hP hD hS hA [0, 1, 2] [3] rfl rfl (by decide) (by decide) ?_
  intro u_33 hu_33
  clear hP hD hS; intro H locs hP hD hS
  replace hP : va_P G.1 vwCl [cl_O ao 1 (bk_fs dl bp t0 f0 aB aI aC aP), cl_I G aI 16 u_33, cl_I G aC 8 ch, cl_B G am n f] H := wd_psub hP [1, 2, 3, 0] rfl
  replace hD : va_D A [cl_O ao 1 (bk_fs dl bp t0 f0 aB aI aC aP), cl_I G aI 16 u_33, cl_I G aC 8 ch, cl_B G am n f] := hD.sub [1, 2, 3, 0] (by decide) rfl
  refine lv_bipush (v := nI 16) hx hb dX1_compress_4 (by decide) ?_
  refine wd_newI hx hb (hts _ q119) hK hP hD hS hA (by decide) (Nat.le_of_ble_eq_true rfl) (Nat.le_of_ble_eq_true rfl) dX1_compress_6 ?_
  clear hP hD hS; intro q_34 H hP hD hS
  replace hP : va_P G.1 vwCl [cl_O ao 1 (bk_fs dl bp t0 f0 aB aI aC aP), cl_I G aI 16 u_33, cl_I G aC 8 ch, cl_B G am n f, cl_I G q_34 16 (fun _ => 0)] H := hP
  replace hD : va_D A [cl_O ao 1 (bk_fs dl bp t0 f0 aB aI aC aP), cl_I G aI 16 u_33, cl_I G aC 8 ch, cl_B G am n f, cl_I G q_34 16 (fun _ => 0)] := hD
  refine lv_astore_n (lv' := [(3, .ref q_34), (0, .ref ao), (1, .ref am), (2, .int (nI o))]) hx hb dX1_compress_8 rfl hl (by decide) rfl ?_
  clear hl; intro ls hl
  refine lv_aload_n hx hb dX1_compress_9 rfl (lv_at hl 2 rfl) ?_
  refine lv_iload_n hx hb dX1_compress_10 rfl (lv_at hl 3 rfl) ?_
  refine lv_aload_n hx hb dX1_compress_11 rfl (lv_at hl 0 rfl) ?_
  refine wd_callv (wr := [cl_O ao 1 (bk_fs dl bp t0 f0 aB aI aC aP), cl_I G aI 16 u_33, cl_I G aC 8 ch]) (va_runS (As := [.ref am, .int (nI o), .ref q_34]) (rest := []) ⟨hx, hb, hml, hown, hts⟩ (met_X2_les l G am q_34 n o f (fun _ => 0) hn ho H.size) (va_cwS 3 hts (lw_S q273 q274 q24 q275) rfl rfl rfl (by decide +kernel) ⟨Nat.le_of_ble_eq_true rfl, Nat.le_of_ble_eq_true rfl⟩) (wd_preS hK hZ hP hD hS hA [3, 4] (by decide) rfl) rfl rfl hl.1 rfl (lv_room (Nat.le_of_ble_eq_true rfl)) dX1_compress_12 ⟨Nat.le_of_ble_eq_true rfl, Nat.le_of_ble_eq_true rfl⟩) hP hD hS hA [3, 4] [0, 1, 2] rfl rfl (by decide) (by decide) ?_
  intro u_35 hu_35
  clear hP hD hS; intro H locs hP hD hS
  replace hP : va_P G.1 vwCl [cl_O ao 1 (bk_fs dl bp t0 f0 aB aI aC aP), cl_I G aI 16 u_33, cl_I G aC 8 ch, cl_B G am n f, cl_I G q_34 16 u_35] H := wd_psub hP [0, 1, 2, 3, 4] rfl
  replace hD : va_D A [cl_O ao 1 (bk_fs dl bp t0 f0 aB aI aC aP), cl_I G aI 16 u_33, cl_I G aC 8 ch, cl_B G am n f, cl_I G q_34 16 u_35] := hD.sub [0, 1, 2, 3, 4] (by decide) rfl
  subst hu_35
  replace hP : va_P G.1 vwCl [cl_O ao 1 (bk_fs dl bp t0 f0 aB aI aC aP), cl_I G aI 16 u_33, cl_I G aC 8 ch, cl_B G am n f, cl_I G q_34 16 ((wrdF f o))] H := hP
  replace hD : va_D A [cl_O ao 1 (bk_fs dl bp t0 f0 aB aI aC aP), cl_I G aI 16 u_33, cl_I G aC 8 ch, cl_B G am n f, cl_I G q_34 16 ((wrdF f o))] := hD
  refine lv_iconst (v := nI 0) hx hb dX1_compress_15 (by decide) ?_
  refine lv_istore (lv' := [(4, .int (nI 0)), (3, .ref q_34), (0, .ref ao), (1, .ref am), (2, .int (nI o))]) hx hb dX1_compress_16 hl (by decide) rfl ?_
  clear hl; intro ls hl
  have loop2 : ∀ (n9 i : Nat), i + n9 = 8 → ∀ (V g : Nat → Int32), V = allN (wrdF f o) 10 (v0F ch t0 f0) → (∀ j, j < i → g j = ch j ^^^ (V j ^^^ V (j + 8))) → (∀ j, i ≤ j → g j = ch j) → ∀ (H : Heap) (locs : List Loc), va_P G.1 vwCl [cl_O ao 1 (bk_fs dl bp t0 f0 aB aI aC aP), cl_I G aI 16 V, cl_I G aC 8 g, cl_B G am n f, cl_I G q_34 16 ((wrdF f o))] H → va_D A [cl_O ao 1 (bk_fs dl bp t0 f0 aB aI aC aP), cl_I G aI 16 V, cl_I G aC 8 g, cl_B G am n f, cl_I G q_34 16 ((wrdF f o))] → va_S A s.heap H locs → ∀ (ls : Array Slot), lv_has ls 5 [(4, .int (nI i)), (3, .ref q_34), (0, .ref ao), (1, .ref am), (2, .int (nI o))] → W p l e ({ frames := 3, cells := 1, slots := 16, locals := 68 }) s m ([.ref ao, .ref am, .int (nI o)] : List Value).toArray below meth c H locs 1 16 (MQ below (wd_Qv G (fun u : (Nat → Int32) × (Nat → Int32) => u.2 = cmpF ch (wrdF f o) t0 f0) (fun u => [cl_O ao 1 (bk_fs dl bp t0 f0 aB aI aC aP), cl_I G aI 16 u.1, cl_I G aC 8 u.2, cl_B G am n f]) A) ([.ref ao, .ref am, .int (nI o)] : List Value).toArray s 1 16 A) (F0 m 288 ls []) := by
    clear hP hD hS hl
    intro n9
    induction n9 with
    | zero =>
      intro i hi V g hV hg hk H locs hP hD hS ls hl
      refine lv_iload hx hb dX1_compress_288 (lv_at hl 0 rfl) ?_
      refine lv_aload_n hx hb dX1_compress_290 rfl (lv_at hl 2 rfl) ?_
      refine va_get (D := G.1) (ci := 1) (v := .ref aC) (C := RX1) (T := TX1) (N := 21) hx hb hts in_X1 hown hK hP 0 rfl rfl 15 (by decide) (hts _ q150) (fun _ h9 => h9) rfl dX1_compress_291 ?_
      refine va_alen (v := nI 8) hx hb hK hP 2 1 rfl rfl rfl dX1_compress_294 ?_
      refine wd_ge (tgt := 337) hx hb dX1_compress_295 (by decide) (by omega) (by omega) (fun c_1 => ?_) (fun c_1 => absurd c_1 (by omega))
      obtain ⟨hP, hD⟩ := wd_lab (q0 := 2) hP hD rfl (cmpF ch (wrdF f o) t0 f0) (fun j hj => by rw [hg j (by omega)]; unfold cmpF; rw [if_pos hj, hV])
      replace hP : va_P G.1 vwCl [cl_O ao 1 (bk_fs dl bp t0 f0 aB aI aC aP), cl_I G aI 16 V, cl_I G aC 8 ((cmpF ch (wrdF f o) t0 f0)), cl_B G am n f] H := wd_psub hP [0, 1, 2, 3] rfl
      replace hD : va_D A [cl_O ao 1 (bk_fs dl bp t0 f0 aB aI aC aP), cl_I G aI 16 V, cl_I G aC 8 ((cmpF ch (wrdF f o) t0 f0)), cl_B G am n f] := hD.sub [0, 1, 2, 3] (by decide) rfl
      exact wd_vret hx hb hr hlk (V, cmpF ch (wrdF f o) t0 f0) rfl hP hD hS dX1_compress_337
    | succ n9 ih =>
      intro i hi V g hV hg hk H locs hP hD hS ls hl
      refine lv_iload hx hb dX1_compress_288 (lv_at hl 0 rfl) ?_
      refine lv_aload_n hx hb dX1_compress_290 rfl (lv_at hl 2 rfl) ?_
      refine va_get (D := G.1) (ci := 1) (v := .ref aC) (C := RX1) (T := TX1) (N := 21) hx hb hts in_X1 hown hK hP 0 rfl rfl 15 (by decide) (hts _ q150) (fun _ h9 => h9) rfl dX1_compress_291 ?_
      refine va_alen (v := nI 8) hx hb hK hP 2 1 rfl rfl rfl dX1_compress_294 ?_
      refine wd_ge (tgt := 337) hx hb dX1_compress_295 (by decide) (by omega) (by omega) (fun c_1 => absurd c_1 (by omega)) (fun c_1 => ?_)
      refine lv_aload_n hx hb dX1_compress_298 rfl (lv_at hl 2 rfl) ?_
      refine va_get (D := G.1) (ci := 1) (v := .ref aC) (C := RX1) (T := TX1) (N := 21) hx hb hts in_X1 hown hK hP 0 rfl rfl 15 (by decide) (hts _ q150) (fun _ h9 => h9) rfl dX1_compress_299 ?_
      refine lv_iload hx hb dX1_compress_302 (lv_at hl 0 rfl) ?_
      refine lv_aload_n hx hb dX1_compress_304 rfl (lv_at hl 2 rfl) ?_
      refine va_get (D := G.1) (ci := 1) (v := .ref aC) (C := RX1) (T := TX1) (N := 21) hx hb hts in_X1 hown hK hP 0 rfl rfl 15 (by decide) (hts _ q150) (fun _ h9 => h9) rfl dX1_compress_305 ?_
      refine lv_iload hx hb dX1_compress_308 (lv_at hl 0 rfl) ?_
      refine wd_ild hx hb hK hP 2 rfl i (by omega) (by omega) dX1_compress_310 ?_
      refine lv_aload_n hx hb dX1_compress_311 rfl (lv_at hl 2 rfl) ?_
      refine va_get (D := G.1) (ci := 1) (v := .ref aI) (C := RX1) (T := TX1) (N := 21) hx hb hts in_X1 hown hK hP 0 rfl rfl 14 (by decide) (hts _ q149) (fun _ h9 => h9) rfl dX1_compress_312 ?_
      refine lv_iload hx hb dX1_compress_315 (lv_at hl 0 rfl) ?_
      refine wd_ild hx hb hK hP 1 rfl i (by omega) (by omega) dX1_compress_317 ?_
      refine lv_ixor hx hb dX1_compress_318 ?_
      refine lv_aload_n hx hb dX1_compress_319 rfl (lv_at hl 2 rfl) ?_
      refine va_get (D := G.1) (ci := 1) (v := .ref aI) (C := RX1) (T := TX1) (N := 21) hx hb hts in_X1 hown hK hP 0 rfl rfl 14 (by decide) (hts _ q149) (fun _ h9 => h9) rfl dX1_compress_320 ?_
      refine lv_iload hx hb dX1_compress_323 (lv_at hl 0 rfl) ?_
      refine lv_bipush (v := nI 8) hx hb dX1_compress_325 (by decide) ?_
      refine wd_iaddN (x := i) (y := 8) hx hb dX1_compress_327 ?_
      refine wd_ild hx hb hK hP 1 rfl (i + 8) (by omega) (by omega) dX1_compress_328 ?_
      refine lv_ixor hx hb dX1_compress_329 ?_
      refine wd_ist hx hb hK hP hD hS 2 rfl i (by omega) (by omega) dX1_compress_330 ?_
      clear hP hD hS; intro f_36 ef_36 H locs hP hD hS
      replace hP : va_P G.1 vwCl [cl_O ao 1 (bk_fs dl bp t0 f0 aB aI aC aP), cl_I G aI 16 V, cl_I G aC 8 f_36, cl_B G am n f, cl_I G q_34 16 ((wrdF f o))] H := hP
      replace hD : va_D A [cl_O ao 1 (bk_fs dl bp t0 f0 aB aI aC aP), cl_I G aI 16 V, cl_I G aC 8 f_36, cl_B G am n f, cl_I G q_34 16 ((wrdF f o))] := hD
      refine lv_iinc (v := nI (i + 1)) (lv' := [(4, .int (nI (i + 1))), (3, .ref q_34), (0, .ref ao), (1, .ref am), (2, .int (nI o))]) hx hb dX1_compress_331 hl (k := 0) rfl (wd_inc _ 1) (by decide) rfl ?_
      clear hl; intro ls hl
      refine lv_goto (tgt := 288) hx hb dX1_compress_334 (by decide) ?_
      exact ih (i + 1) (by omega) V f_36 hV (fun j hj => by rw [ef_36]; exact up_lt hg (by rw [hk i (Nat.le_refl i), Int32.xor_assoc]) j hj) (fun j hj => by rw [ef_36, pk_un (by omega)]; exact hk j (by omega)) _ _ hP hD hS ls (lv_sub hl [0, 1, 2, 3, 4] rfl)
  have loop1 : ∀ (n9 i : Nat), i + n9 = 10 → ∀ (V : Nat → Int32), V = allN (wrdF f o) i (v0F ch t0 f0) → ∀ (H : Heap) (locs : List Loc), va_P G.1 vwCl [cl_O ao 1 (bk_fs dl bp t0 f0 aB aI aC aP), cl_I G aI 16 V, cl_I G aC 8 ch, cl_B G am n f, cl_I G q_34 16 ((wrdF f o))] H → va_D A [cl_O ao 1 (bk_fs dl bp t0 f0 aB aI aC aP), cl_I G aI 16 V, cl_I G aC 8 ch, cl_B G am n f, cl_I G q_34 16 ((wrdF f o))] → va_S A s.heap H locs → ∀ (ls : Array Slot), lv_has ls 5 [(4, .int (nI i)), (3, .ref q_34), (0, .ref ao), (1, .ref am), (2, .int (nI o))] → W p l e ({ frames := 3, cells := 1, slots := 16, locals := 68 }) s m ([.ref ao, .ref am, .int (nI o)] : List Value).toArray below meth c H locs 1 16 (MQ below (wd_Qv G (fun u : (Nat → Int32) × (Nat → Int32) => u.2 = cmpF ch (wrdF f o) t0 f0) (fun u => [cl_O ao 1 (bk_fs dl bp t0 f0 aB aI aC aP), cl_I G aI 16 u.1, cl_I G aC 8 u.2, cl_B G am n f]) A) ([.ref ao, .ref am, .int (nI o)] : List Value).toArray s 1 16 A) (F0 m 18 ls []) := by
    clear hP hD hS hl
    intro n9
    induction n9 with
    | zero =>
      intro i hi V hV H locs hP hD hS ls hl
      refine lv_iload hx hb dX1_compress_18 (lv_at hl 0 rfl) ?_
      refine lv_bipush (v := nI 10) hx hb dX1_compress_20 (by decide) ?_
      refine wd_ge (tgt := 285) hx hb dX1_compress_22 (by decide) (by omega) (by omega) (fun c_1 => ?_) (fun c_1 => absurd c_1 (by omega))
      refine lv_iconst (v := nI 0) hx hb dX1_compress_285 (by decide) ?_
      refine lv_istore (lv' := [(4, .int (nI 0)), (3, .ref q_34), (0, .ref ao), (1, .ref am), (2, .int (nI o))]) hx hb dX1_compress_286 hl (by decide) rfl ?_
      clear hl; intro ls hl
      exact loop2 8 0 (by omega) V ch (by rw [hV, show i = 10 by omega]) (fun j hj => absurd hj (Nat.not_lt_zero j)) (fun j hj => rfl) _ _ hP hD hS ls (lv_sub hl [0, 1, 2, 3, 4] rfl)
    | succ n9 ih =>
      intro i hi V hV H locs hP hD hS ls hl
      refine lv_iload hx hb dX1_compress_18 (lv_at hl 0 rfl) ?_
      refine lv_bipush (v := nI 10) hx hb dX1_compress_20 (by decide) ?_
      refine wd_ge (tgt := 285) hx hb dX1_compress_22 (by decide) (by omega) (by omega) (fun c_1 => absurd c_1 (by omega)) (fun c_1 => ?_)
      have hs := sgF_lt i (by omega)
      have hs0 := hs 0 (by decide)
      have hs1 := hs 1 (by decide)
      have hs2 := hs 2 (by decide)
      have hs3 := hs 3 (by decide)
      have hs4 := hs 4 (by decide)
      have hs5 := hs 5 (by decide)
      have hs6 := hs 6 (by decide)
      have hs7 := hs 7 (by decide)
      have hs8 := hs 8 (by decide)
      have hs9 := hs 9 (by decide)
      have hs10 := hs 10 (by decide)
      have hs11 := hs 11 (by decide)
      have hs12 := hs 12 (by decide)
      have hs13 := hs 13 (by decide)
      have hs14 := hs 14 (by decide)
      have hs15 := hs 15 (by decide)
      refine lv_aload_n hx hb dX1_compress_25 rfl (lv_at hl 2 rfl) ?_
      refine lv_aload_n hx hb dX1_compress_26 rfl (lv_at hl 1 rfl) ?_
      refine va_gets hx hb zSG hS hown (hts _ q277) (fun _ h9 => h9) dX1_compress_27 ?_
      refine lv_iload hx hb dX1_compress_30 (lv_at hl 0 rfl) ?_
      refine wd_tq hx hb hSG hS i (by omega) (by decide) dX1_compress_32 ?_
      refine lv_iconst (v := nI 0) hx hb dX1_compress_33 (by decide) ?_
      refine wd_tb hx hb (hSGr i (by omega)) hS 0 (by omega) (by decide) dX1_compress_34 ?_
      refine wd_ild hx hb hK hP 4 rfl (sgF i 0) (by omega) (by omega) dX1_compress_35 ?_
      refine lv_aload_n hx hb dX1_compress_36 rfl (lv_at hl 1 rfl) ?_
      refine va_gets hx hb zSG hS hown (hts _ q277) (fun _ h9 => h9) dX1_compress_37 ?_
      refine lv_iload hx hb dX1_compress_40 (lv_at hl 0 rfl) ?_
      refine wd_tq hx hb hSG hS i (by omega) (by decide) dX1_compress_42 ?_
      refine lv_iconst (v := nI 1) hx hb dX1_compress_43 (by decide) ?_
      refine wd_tb hx hb (hSGr i (by omega)) hS 1 (by omega) (by decide) dX1_compress_44 ?_
      refine wd_ild hx hb hK hP 4 rfl (sgF i 1) (by omega) (by omega) dX1_compress_45 ?_
      refine lv_iconst (v := nI 0) hx hb dX1_compress_46 (by decide) ?_
      refine lv_iconst (v := nI 4) hx hb dX1_compress_47 (by decide) ?_
      refine lv_bipush (v := nI 8) hx hb dX1_compress_48 (by decide) ?_
      refine lv_bipush (v := nI 12) hx hb dX1_compress_50 (by decide) ?_
      refine wd_callv (wr := [cl_I G aC 8 ch, cl_B G am n f, cl_I G q_34 16 ((wrdF f o))]) (va_runV (As := [.int (((wrdF f o)) (sgF i 0)), .int (((wrdF f o)) (sgF i 1)), .int (nI 0), .int (nI 4), .int (nI 8), .int (nI 12)]) (rest := []) ⟨hx, hb, hml, hown, hts⟩ (met_X1_G l G ao aB aI aC aP dl bp t0 f0 (((wrdF f o)) (sgF i 0)) (((wrdF f o)) (sgF i 1)) V 0 4 8 12 (by decide) (by decide) (by decide) (by decide) H.size) (cwV 6 hts (lw_V q279 q281 qs8 q16 q282) rfl rfl rfl (by decide +kernel) ⟨Nat.le_of_ble_eq_true rfl, Nat.le_of_ble_eq_true rfl⟩) (wd_preV hK hZ hP hD hS hA [0, 1] (by decide) rfl 0 1 rfl rfl) rfl rfl hl.1 rfl (lv_room (Nat.le_of_ble_eq_true rfl)) dX1_compress_52 ⟨Nat.le_of_ble_eq_true rfl, Nat.le_of_ble_eq_true rfl⟩) hP hD hS hA [0, 1] [2, 3, 4] rfl rfl (by decide) (by decide) ?_
      intro u_37 hu_37
      clear hP hD hS; intro H locs hP hD hS
      replace hP : va_P G.1 vwCl [cl_O ao 1 (bk_fs dl bp t0 f0 aB aI aC aP), cl_I G aI 16 u_37, cl_I G aC 8 ch, cl_B G am n f, cl_I G q_34 16 ((wrdF f o))] H := wd_psub hP [3, 4, 0, 1, 2] rfl
      replace hD : va_D A [cl_O ao 1 (bk_fs dl bp t0 f0 aB aI aC aP), cl_I G aI 16 u_37, cl_I G aC 8 ch, cl_B G am n f, cl_I G q_34 16 ((wrdF f o))] := hD.sub [3, 4, 0, 1, 2] (by decide) rfl
      replace hu_37 : u_37 = rndN (wrdF f o) i 1 V := by rw [hu_37]; rfl
      refine lv_aload_n hx hb dX1_compress_55 rfl (lv_at hl 2 rfl) ?_
      refine lv_aload_n hx hb dX1_compress_56 rfl (lv_at hl 1 rfl) ?_
      refine va_gets hx hb zSG hS hown (hts _ q277) (fun _ h9 => h9) dX1_compress_57 ?_
      refine lv_iload hx hb dX1_compress_60 (lv_at hl 0 rfl) ?_
      refine wd_tq hx hb hSG hS i (by omega) (by decide) dX1_compress_62 ?_
      refine lv_iconst (v := nI 2) hx hb dX1_compress_63 (by decide) ?_
      refine wd_tb hx hb (hSGr i (by omega)) hS 2 (by omega) (by decide) dX1_compress_64 ?_
      refine wd_ild hx hb hK hP 4 rfl (sgF i 2) (by omega) (by omega) dX1_compress_65 ?_
      refine lv_aload_n hx hb dX1_compress_66 rfl (lv_at hl 1 rfl) ?_
      refine va_gets hx hb zSG hS hown (hts _ q277) (fun _ h9 => h9) dX1_compress_67 ?_
      refine lv_iload hx hb dX1_compress_70 (lv_at hl 0 rfl) ?_
      refine wd_tq hx hb hSG hS i (by omega) (by decide) dX1_compress_72 ?_
      refine lv_iconst (v := nI 3) hx hb dX1_compress_73 (by decide) ?_
      refine wd_tb hx hb (hSGr i (by omega)) hS 3 (by omega) (by decide) dX1_compress_74 ?_
      refine wd_ild hx hb hK hP 4 rfl (sgF i 3) (by omega) (by omega) dX1_compress_75 ?_
      refine lv_iconst (v := nI 1) hx hb dX1_compress_76 (by decide) ?_
      refine lv_iconst (v := nI 5) hx hb dX1_compress_77 (by decide) ?_
      refine lv_bipush (v := nI 9) hx hb dX1_compress_78 (by decide) ?_
      refine lv_bipush (v := nI 13) hx hb dX1_compress_80 (by decide) ?_
      refine wd_callv (wr := [cl_I G aC 8 ch, cl_B G am n f, cl_I G q_34 16 ((wrdF f o))]) (va_runV (As := [.int (((wrdF f o)) (sgF i 2)), .int (((wrdF f o)) (sgF i 3)), .int (nI 1), .int (nI 5), .int (nI 9), .int (nI 13)]) (rest := []) ⟨hx, hb, hml, hown, hts⟩ (met_X1_G l G ao aB aI aC aP dl bp t0 f0 (((wrdF f o)) (sgF i 2)) (((wrdF f o)) (sgF i 3)) u_37 1 5 9 13 (by decide) (by decide) (by decide) (by decide) H.size) (cwV 6 hts (lw_V q279 q281 qs8 q16 q282) rfl rfl rfl (by decide +kernel) ⟨Nat.le_of_ble_eq_true rfl, Nat.le_of_ble_eq_true rfl⟩) (wd_preV hK hZ hP hD hS hA [0, 1] (by decide) rfl 0 1 rfl rfl) rfl rfl hl.1 rfl (lv_room (Nat.le_of_ble_eq_true rfl)) dX1_compress_82 ⟨Nat.le_of_ble_eq_true rfl, Nat.le_of_ble_eq_true rfl⟩) hP hD hS hA [0, 1] [2, 3, 4] rfl rfl (by decide) (by decide) ?_
      intro u_38 hu_38
      clear hP hD hS; intro H locs hP hD hS
      replace hP : va_P G.1 vwCl [cl_O ao 1 (bk_fs dl bp t0 f0 aB aI aC aP), cl_I G aI 16 u_38, cl_I G aC 8 ch, cl_B G am n f, cl_I G q_34 16 ((wrdF f o))] H := wd_psub hP [3, 4, 0, 1, 2] rfl
      replace hD : va_D A [cl_O ao 1 (bk_fs dl bp t0 f0 aB aI aC aP), cl_I G aI 16 u_38, cl_I G aC 8 ch, cl_B G am n f, cl_I G q_34 16 ((wrdF f o))] := hD.sub [3, 4, 0, 1, 2] (by decide) rfl
      replace hu_38 : u_38 = rndN (wrdF f o) i 2 V := by rw [hu_38, hu_37]; rfl
      refine lv_aload_n hx hb dX1_compress_85 rfl (lv_at hl 2 rfl) ?_
      refine lv_aload_n hx hb dX1_compress_86 rfl (lv_at hl 1 rfl) ?_
      refine va_gets hx hb zSG hS hown (hts _ q277) (fun _ h9 => h9) dX1_compress_87 ?_
      refine lv_iload hx hb dX1_compress_90 (lv_at hl 0 rfl) ?_
      refine wd_tq hx hb hSG hS i (by omega) (by decide) dX1_compress_92 ?_
      refine lv_iconst (v := nI 4) hx hb dX1_compress_93 (by decide) ?_
      refine wd_tb hx hb (hSGr i (by omega)) hS 4 (by omega) (by decide) dX1_compress_94 ?_
      refine wd_ild hx hb hK hP 4 rfl (sgF i 4) (by omega) (by omega) dX1_compress_95 ?_
      refine lv_aload_n hx hb dX1_compress_96 rfl (lv_at hl 1 rfl) ?_
      refine va_gets hx hb zSG hS hown (hts _ q277) (fun _ h9 => h9) dX1_compress_97 ?_
      refine lv_iload hx hb dX1_compress_100 (lv_at hl 0 rfl) ?_
      refine wd_tq hx hb hSG hS i (by omega) (by decide) dX1_compress_102 ?_
      refine lv_iconst (v := nI 5) hx hb dX1_compress_103 (by decide) ?_
      refine wd_tb hx hb (hSGr i (by omega)) hS 5 (by omega) (by decide) dX1_compress_104 ?_
      refine wd_ild hx hb hK hP 4 rfl (sgF i 5) (by omega) (by omega) dX1_compress_105 ?_
      refine lv_iconst (v := nI 2) hx hb dX1_compress_106 (by decide) ?_
      refine lv_bipush (v := nI 6) hx hb dX1_compress_107 (by decide) ?_
      refine lv_bipush (v := nI 10) hx hb dX1_compress_109 (by decide) ?_
      refine lv_bipush (v := nI 14) hx hb dX1_compress_111 (by decide) ?_
      refine wd_callv (wr := [cl_I G aC 8 ch, cl_B G am n f, cl_I G q_34 16 ((wrdF f o))]) (va_runV (As := [.int (((wrdF f o)) (sgF i 4)), .int (((wrdF f o)) (sgF i 5)), .int (nI 2), .int (nI 6), .int (nI 10), .int (nI 14)]) (rest := []) ⟨hx, hb, hml, hown, hts⟩ (met_X1_G l G ao aB aI aC aP dl bp t0 f0 (((wrdF f o)) (sgF i 4)) (((wrdF f o)) (sgF i 5)) u_38 2 6 10 14 (by decide) (by decide) (by decide) (by decide) H.size) (cwV 6 hts (lw_V q279 q281 qs8 q16 q282) rfl rfl rfl (by decide +kernel) ⟨Nat.le_of_ble_eq_true rfl, Nat.le_of_ble_eq_true rfl⟩) (wd_preV hK hZ hP hD hS hA [0, 1] (by decide) rfl 0 1 rfl rfl) rfl rfl hl.1 rfl (lv_room (Nat.le_of_ble_eq_true rfl)) dX1_compress_113 ⟨Nat.le_of_ble_eq_true rfl, Nat.le_of_ble_eq_true rfl⟩) hP hD hS hA [0, 1] [2, 3, 4] rfl rfl (by decide) (by decide) ?_
      intro u_39 hu_39
      clear hP hD hS; intro H locs hP hD hS
      replace hP : va_P G.1 vwCl [cl_O ao 1 (bk_fs dl bp t0 f0 aB aI aC aP), cl_I G aI 16 u_39, cl_I G aC 8 ch, cl_B G am n f, cl_I G q_34 16 ((wrdF f o))] H := wd_psub hP [3, 4, 0, 1, 2] rfl
      replace hD : va_D A [cl_O ao 1 (bk_fs dl bp t0 f0 aB aI aC aP), cl_I G aI 16 u_39, cl_I G aC 8 ch, cl_B G am n f, cl_I G q_34 16 ((wrdF f o))] := hD.sub [3, 4, 0, 1, 2] (by decide) rfl
      replace hu_39 : u_39 = rndN (wrdF f o) i 3 V := by rw [hu_39, hu_38]; rfl
      refine lv_aload_n hx hb dX1_compress_116 rfl (lv_at hl 2 rfl) ?_
      refine lv_aload_n hx hb dX1_compress_117 rfl (lv_at hl 1 rfl) ?_
      refine va_gets hx hb zSG hS hown (hts _ q277) (fun _ h9 => h9) dX1_compress_118 ?_
      refine lv_iload hx hb dX1_compress_121 (lv_at hl 0 rfl) ?_
      refine wd_tq hx hb hSG hS i (by omega) (by decide) dX1_compress_123 ?_
      refine lv_bipush (v := nI 6) hx hb dX1_compress_124 (by decide) ?_
      refine wd_tb hx hb (hSGr i (by omega)) hS 6 (by omega) (by decide) dX1_compress_126 ?_
      refine wd_ild hx hb hK hP 4 rfl (sgF i 6) (by omega) (by omega) dX1_compress_127 ?_
      refine lv_aload_n hx hb dX1_compress_128 rfl (lv_at hl 1 rfl) ?_
      refine va_gets hx hb zSG hS hown (hts _ q277) (fun _ h9 => h9) dX1_compress_129 ?_
      refine lv_iload hx hb dX1_compress_132 (lv_at hl 0 rfl) ?_
      refine wd_tq hx hb hSG hS i (by omega) (by decide) dX1_compress_134 ?_
      refine lv_bipush (v := nI 7) hx hb dX1_compress_135 (by decide) ?_
      refine wd_tb hx hb (hSGr i (by omega)) hS 7 (by omega) (by decide) dX1_compress_137 ?_
      refine wd_ild hx hb hK hP 4 rfl (sgF i 7) (by omega) (by omega) dX1_compress_138 ?_
      refine lv_iconst (v := nI 3) hx hb dX1_compress_139 (by decide) ?_
      refine lv_bipush (v := nI 7) hx hb dX1_compress_140 (by decide) ?_
      refine lv_bipush (v := nI 11) hx hb dX1_compress_142 (by decide) ?_
      refine lv_bipush (v := nI 15) hx hb dX1_compress_144 (by decide) ?_
      refine wd_callv (wr := [cl_I G aC 8 ch, cl_B G am n f, cl_I G q_34 16 ((wrdF f o))]) (va_runV (As := [.int (((wrdF f o)) (sgF i 6)), .int (((wrdF f o)) (sgF i 7)), .int (nI 3), .int (nI 7), .int (nI 11), .int (nI 15)]) (rest := []) ⟨hx, hb, hml, hown, hts⟩ (met_X1_G l G ao aB aI aC aP dl bp t0 f0 (((wrdF f o)) (sgF i 6)) (((wrdF f o)) (sgF i 7)) u_39 3 7 11 15 (by decide) (by decide) (by decide) (by decide) H.size) (cwV 6 hts (lw_V q279 q281 qs8 q16 q282) rfl rfl rfl (by decide +kernel) ⟨Nat.le_of_ble_eq_true rfl, Nat.le_of_ble_eq_true rfl⟩) (wd_preV hK hZ hP hD hS hA [0, 1] (by decide) rfl 0 1 rfl rfl) rfl rfl hl.1 rfl (lv_room (Nat.le_of_ble_eq_true rfl)) dX1_compress_146 ⟨Nat.le_of_ble_eq_true rfl, Nat.le_of_ble_eq_true rfl⟩) hP hD hS hA [0, 1] [2, 3, 4] rfl rfl (by decide) (by decide) ?_
      intro u_40 hu_40
      clear hP hD hS; intro H locs hP hD hS
      replace hP : va_P G.1 vwCl [cl_O ao 1 (bk_fs dl bp t0 f0 aB aI aC aP), cl_I G aI 16 u_40, cl_I G aC 8 ch, cl_B G am n f, cl_I G q_34 16 ((wrdF f o))] H := wd_psub hP [3, 4, 0, 1, 2] rfl
      replace hD : va_D A [cl_O ao 1 (bk_fs dl bp t0 f0 aB aI aC aP), cl_I G aI 16 u_40, cl_I G aC 8 ch, cl_B G am n f, cl_I G q_34 16 ((wrdF f o))] := hD.sub [3, 4, 0, 1, 2] (by decide) rfl
      replace hu_40 : u_40 = rndN (wrdF f o) i 4 V := by rw [hu_40, hu_39]; rfl
      refine lv_aload_n hx hb dX1_compress_149 rfl (lv_at hl 2 rfl) ?_
      refine lv_aload_n hx hb dX1_compress_150 rfl (lv_at hl 1 rfl) ?_
      refine va_gets hx hb zSG hS hown (hts _ q277) (fun _ h9 => h9) dX1_compress_151 ?_
      refine lv_iload hx hb dX1_compress_154 (lv_at hl 0 rfl) ?_
      refine wd_tq hx hb hSG hS i (by omega) (by decide) dX1_compress_156 ?_
      refine lv_bipush (v := nI 8) hx hb dX1_compress_157 (by decide) ?_
      refine wd_tb hx hb (hSGr i (by omega)) hS 8 (by omega) (by decide) dX1_compress_159 ?_
      refine wd_ild hx hb hK hP 4 rfl (sgF i 8) (by omega) (by omega) dX1_compress_160 ?_
      refine lv_aload_n hx hb dX1_compress_161 rfl (lv_at hl 1 rfl) ?_
      refine va_gets hx hb zSG hS hown (hts _ q277) (fun _ h9 => h9) dX1_compress_162 ?_
      refine lv_iload hx hb dX1_compress_165 (lv_at hl 0 rfl) ?_
      refine wd_tq hx hb hSG hS i (by omega) (by decide) dX1_compress_167 ?_
      refine lv_bipush (v := nI 9) hx hb dX1_compress_168 (by decide) ?_
      refine wd_tb hx hb (hSGr i (by omega)) hS 9 (by omega) (by decide) dX1_compress_170 ?_
      refine wd_ild hx hb hK hP 4 rfl (sgF i 9) (by omega) (by omega) dX1_compress_171 ?_
      refine lv_iconst (v := nI 0) hx hb dX1_compress_172 (by decide) ?_
      refine lv_iconst (v := nI 5) hx hb dX1_compress_173 (by decide) ?_
      refine lv_bipush (v := nI 10) hx hb dX1_compress_174 (by decide) ?_
      refine lv_bipush (v := nI 15) hx hb dX1_compress_176 (by decide) ?_
      refine wd_callv (wr := [cl_I G aC 8 ch, cl_B G am n f, cl_I G q_34 16 ((wrdF f o))]) (va_runV (As := [.int (((wrdF f o)) (sgF i 8)), .int (((wrdF f o)) (sgF i 9)), .int (nI 0), .int (nI 5), .int (nI 10), .int (nI 15)]) (rest := []) ⟨hx, hb, hml, hown, hts⟩ (met_X1_G l G ao aB aI aC aP dl bp t0 f0 (((wrdF f o)) (sgF i 8)) (((wrdF f o)) (sgF i 9)) u_40 0 5 10 15 (by decide) (by decide) (by decide) (by decide) H.size) (cwV 6 hts (lw_V q279 q281 qs8 q16 q282) rfl rfl rfl (by decide +kernel) ⟨Nat.le_of_ble_eq_true rfl, Nat.le_of_ble_eq_true rfl⟩) (wd_preV hK hZ hP hD hS hA [0, 1] (by decide) rfl 0 1 rfl rfl) rfl rfl hl.1 rfl (lv_room (Nat.le_of_ble_eq_true rfl)) dX1_compress_178 ⟨Nat.le_of_ble_eq_true rfl, Nat.le_of_ble_eq_true rfl⟩) hP hD hS hA [0, 1] [2, 3, 4] rfl rfl (by decide) (by decide) ?_
      intro u_41 hu_41
      clear hP hD hS; intro H locs hP hD hS
      replace hP : va_P G.1 vwCl [cl_O ao 1 (bk_fs dl bp t0 f0 aB aI aC aP), cl_I G aI 16 u_41, cl_I G aC 8 ch, cl_B G am n f, cl_I G q_34 16 ((wrdF f o))] H := wd_psub hP [3, 4, 0, 1, 2] rfl
      replace hD : va_D A [cl_O ao 1 (bk_fs dl bp t0 f0 aB aI aC aP), cl_I G aI 16 u_41, cl_I G aC 8 ch, cl_B G am n f, cl_I G q_34 16 ((wrdF f o))] := hD.sub [3, 4, 0, 1, 2] (by decide) rfl
      replace hu_41 : u_41 = rndN (wrdF f o) i 5 V := by rw [hu_41, hu_40]; rfl
      refine lv_aload_n hx hb dX1_compress_181 rfl (lv_at hl 2 rfl) ?_
      refine lv_aload_n hx hb dX1_compress_182 rfl (lv_at hl 1 rfl) ?_
      refine va_gets hx hb zSG hS hown (hts _ q277) (fun _ h9 => h9) dX1_compress_183 ?_
      refine lv_iload hx hb dX1_compress_186 (lv_at hl 0 rfl) ?_
      refine wd_tq hx hb hSG hS i (by omega) (by decide) dX1_compress_188 ?_
      refine lv_bipush (v := nI 10) hx hb dX1_compress_189 (by decide) ?_
      refine wd_tb hx hb (hSGr i (by omega)) hS 10 (by omega) (by decide) dX1_compress_191 ?_
      refine wd_ild hx hb hK hP 4 rfl (sgF i 10) (by omega) (by omega) dX1_compress_192 ?_
      refine lv_aload_n hx hb dX1_compress_193 rfl (lv_at hl 1 rfl) ?_
      refine va_gets hx hb zSG hS hown (hts _ q277) (fun _ h9 => h9) dX1_compress_194 ?_
      refine lv_iload hx hb dX1_compress_197 (lv_at hl 0 rfl) ?_
      refine wd_tq hx hb hSG hS i (by omega) (by decide) dX1_compress_199 ?_
      refine lv_bipush (v := nI 11) hx hb dX1_compress_200 (by decide) ?_
      refine wd_tb hx hb (hSGr i (by omega)) hS 11 (by omega) (by decide) dX1_compress_202 ?_
      refine wd_ild hx hb hK hP 4 rfl (sgF i 11) (by omega) (by omega) dX1_compress_203 ?_
      refine lv_iconst (v := nI 1) hx hb dX1_compress_204 (by decide) ?_
      refine lv_bipush (v := nI 6) hx hb dX1_compress_205 (by decide) ?_
      refine lv_bipush (v := nI 11) hx hb dX1_compress_207 (by decide) ?_
      refine lv_bipush (v := nI 12) hx hb dX1_compress_209 (by decide) ?_
      refine wd_callv (wr := [cl_I G aC 8 ch, cl_B G am n f, cl_I G q_34 16 ((wrdF f o))]) (va_runV (As := [.int (((wrdF f o)) (sgF i 10)), .int (((wrdF f o)) (sgF i 11)), .int (nI 1), .int (nI 6), .int (nI 11), .int (nI 12)]) (rest := []) ⟨hx, hb, hml, hown, hts⟩ (met_X1_G l G ao aB aI aC aP dl bp t0 f0 (((wrdF f o)) (sgF i 10)) (((wrdF f o)) (sgF i 11)) u_41 1 6 11 12 (by decide) (by decide) (by decide) (by decide) H.size) (cwV 6 hts (lw_V q279 q281 qs8 q16 q282) rfl rfl rfl (by decide +kernel) ⟨Nat.le_of_ble_eq_true rfl, Nat.le_of_ble_eq_true rfl⟩) (wd_preV hK hZ hP hD hS hA [0, 1] (by decide) rfl 0 1 rfl rfl) rfl rfl hl.1 rfl (lv_room (Nat.le_of_ble_eq_true rfl)) dX1_compress_211 ⟨Nat.le_of_ble_eq_true rfl, Nat.le_of_ble_eq_true rfl⟩) hP hD hS hA [0, 1] [2, 3, 4] rfl rfl (by decide) (by decide) ?_
      intro u_42 hu_42
      clear hP hD hS; intro H locs hP hD hS
      replace hP : va_P G.1 vwCl [cl_O ao 1 (bk_fs dl bp t0 f0 aB aI aC aP), cl_I G aI 16 u_42, cl_I G aC 8 ch, cl_B G am n f, cl_I G q_34 16 ((wrdF f o))] H := wd_psub hP [3, 4, 0, 1, 2] rfl
      replace hD : va_D A [cl_O ao 1 (bk_fs dl bp t0 f0 aB aI aC aP), cl_I G aI 16 u_42, cl_I G aC 8 ch, cl_B G am n f, cl_I G q_34 16 ((wrdF f o))] := hD.sub [3, 4, 0, 1, 2] (by decide) rfl
      replace hu_42 : u_42 = rndN (wrdF f o) i 6 V := by rw [hu_42, hu_41]; rfl
      refine lv_aload_n hx hb dX1_compress_214 rfl (lv_at hl 2 rfl) ?_
      refine lv_aload_n hx hb dX1_compress_215 rfl (lv_at hl 1 rfl) ?_
      refine va_gets hx hb zSG hS hown (hts _ q277) (fun _ h9 => h9) dX1_compress_216 ?_
      refine lv_iload hx hb dX1_compress_219 (lv_at hl 0 rfl) ?_
      refine wd_tq hx hb hSG hS i (by omega) (by decide) dX1_compress_221 ?_
      refine lv_bipush (v := nI 12) hx hb dX1_compress_222 (by decide) ?_
      refine wd_tb hx hb (hSGr i (by omega)) hS 12 (by omega) (by decide) dX1_compress_224 ?_
      refine wd_ild hx hb hK hP 4 rfl (sgF i 12) (by omega) (by omega) dX1_compress_225 ?_
      refine lv_aload_n hx hb dX1_compress_226 rfl (lv_at hl 1 rfl) ?_
      refine va_gets hx hb zSG hS hown (hts _ q277) (fun _ h9 => h9) dX1_compress_227 ?_
      refine lv_iload hx hb dX1_compress_230 (lv_at hl 0 rfl) ?_
      refine wd_tq hx hb hSG hS i (by omega) (by decide) dX1_compress_232 ?_
      refine lv_bipush (v := nI 13) hx hb dX1_compress_233 (by decide) ?_
      refine wd_tb hx hb (hSGr i (by omega)) hS 13 (by omega) (by decide) dX1_compress_235 ?_
      refine wd_ild hx hb hK hP 4 rfl (sgF i 13) (by omega) (by omega) dX1_compress_236 ?_
      refine lv_iconst (v := nI 2) hx hb dX1_compress_237 (by decide) ?_
      refine lv_bipush (v := nI 7) hx hb dX1_compress_238 (by decide) ?_
      refine lv_bipush (v := nI 8) hx hb dX1_compress_240 (by decide) ?_
      refine lv_bipush (v := nI 13) hx hb dX1_compress_242 (by decide) ?_
      refine wd_callv (wr := [cl_I G aC 8 ch, cl_B G am n f, cl_I G q_34 16 ((wrdF f o))]) (va_runV (As := [.int (((wrdF f o)) (sgF i 12)), .int (((wrdF f o)) (sgF i 13)), .int (nI 2), .int (nI 7), .int (nI 8), .int (nI 13)]) (rest := []) ⟨hx, hb, hml, hown, hts⟩ (met_X1_G l G ao aB aI aC aP dl bp t0 f0 (((wrdF f o)) (sgF i 12)) (((wrdF f o)) (sgF i 13)) u_42 2 7 8 13 (by decide) (by decide) (by decide) (by decide) H.size) (cwV 6 hts (lw_V q279 q281 qs8 q16 q282) rfl rfl rfl (by decide +kernel) ⟨Nat.le_of_ble_eq_true rfl, Nat.le_of_ble_eq_true rfl⟩) (wd_preV hK hZ hP hD hS hA [0, 1] (by decide) rfl 0 1 rfl rfl) rfl rfl hl.1 rfl (lv_room (Nat.le_of_ble_eq_true rfl)) dX1_compress_244 ⟨Nat.le_of_ble_eq_true rfl, Nat.le_of_ble_eq_true rfl⟩) hP hD hS hA [0, 1] [2, 3, 4] rfl rfl (by decide) (by decide) ?_
      intro u_43 hu_43
      clear hP hD hS; intro H locs hP hD hS
      replace hP : va_P G.1 vwCl [cl_O ao 1 (bk_fs dl bp t0 f0 aB aI aC aP), cl_I G aI 16 u_43, cl_I G aC 8 ch, cl_B G am n f, cl_I G q_34 16 ((wrdF f o))] H := wd_psub hP [3, 4, 0, 1, 2] rfl
      replace hD : va_D A [cl_O ao 1 (bk_fs dl bp t0 f0 aB aI aC aP), cl_I G aI 16 u_43, cl_I G aC 8 ch, cl_B G am n f, cl_I G q_34 16 ((wrdF f o))] := hD.sub [3, 4, 0, 1, 2] (by decide) rfl
      replace hu_43 : u_43 = rndN (wrdF f o) i 7 V := by rw [hu_43, hu_42]; rfl
      refine lv_aload_n hx hb dX1_compress_247 rfl (lv_at hl 2 rfl) ?_
      refine lv_aload_n hx hb dX1_compress_248 rfl (lv_at hl 1 rfl) ?_
      refine va_gets hx hb zSG hS hown (hts _ q277) (fun _ h9 => h9) dX1_compress_249 ?_
      refine lv_iload hx hb dX1_compress_252 (lv_at hl 0 rfl) ?_
      refine wd_tq hx hb hSG hS i (by omega) (by decide) dX1_compress_254 ?_
      refine lv_bipush (v := nI 14) hx hb dX1_compress_255 (by decide) ?_
      refine wd_tb hx hb (hSGr i (by omega)) hS 14 (by omega) (by decide) dX1_compress_257 ?_
      refine wd_ild hx hb hK hP 4 rfl (sgF i 14) (by omega) (by omega) dX1_compress_258 ?_
      refine lv_aload_n hx hb dX1_compress_259 rfl (lv_at hl 1 rfl) ?_
      refine va_gets hx hb zSG hS hown (hts _ q277) (fun _ h9 => h9) dX1_compress_260 ?_
      refine lv_iload hx hb dX1_compress_263 (lv_at hl 0 rfl) ?_
      refine wd_tq hx hb hSG hS i (by omega) (by decide) dX1_compress_265 ?_
      refine lv_bipush (v := nI 15) hx hb dX1_compress_266 (by decide) ?_
      refine wd_tb hx hb (hSGr i (by omega)) hS 15 (by omega) (by decide) dX1_compress_268 ?_
      refine wd_ild hx hb hK hP 4 rfl (sgF i 15) (by omega) (by omega) dX1_compress_269 ?_
      refine lv_iconst (v := nI 3) hx hb dX1_compress_270 (by decide) ?_
      refine lv_iconst (v := nI 4) hx hb dX1_compress_271 (by decide) ?_
      refine lv_bipush (v := nI 9) hx hb dX1_compress_272 (by decide) ?_
      refine lv_bipush (v := nI 14) hx hb dX1_compress_274 (by decide) ?_
      refine wd_callv (wr := [cl_I G aC 8 ch, cl_B G am n f, cl_I G q_34 16 ((wrdF f o))]) (va_runV (As := [.int (((wrdF f o)) (sgF i 14)), .int (((wrdF f o)) (sgF i 15)), .int (nI 3), .int (nI 4), .int (nI 9), .int (nI 14)]) (rest := []) ⟨hx, hb, hml, hown, hts⟩ (met_X1_G l G ao aB aI aC aP dl bp t0 f0 (((wrdF f o)) (sgF i 14)) (((wrdF f o)) (sgF i 15)) u_43 3 4 9 14 (by decide) (by decide) (by decide) (by decide) H.size) (cwV 6 hts (lw_V q279 q281 qs8 q16 q282) rfl rfl rfl (by decide +kernel) ⟨Nat.le_of_ble_eq_true rfl, Nat.le_of_ble_eq_true rfl⟩) (wd_preV hK hZ hP hD hS hA [0, 1] (by decide) rfl 0 1 rfl rfl) rfl rfl hl.1 rfl (lv_room (Nat.le_of_ble_eq_true rfl)) dX1_compress_276 ⟨Nat.le_of_ble_eq_true rfl, Nat.le_of_ble_eq_true rfl⟩) hP hD hS hA [0, 1] [2, 3, 4] rfl rfl (by decide) (by decide) ?_
      intro u_44 hu_44
      clear hP hD hS; intro H locs hP hD hS
      replace hP : va_P G.1 vwCl [cl_O ao 1 (bk_fs dl bp t0 f0 aB aI aC aP), cl_I G aI 16 u_44, cl_I G aC 8 ch, cl_B G am n f, cl_I G q_34 16 ((wrdF f o))] H := wd_psub hP [3, 4, 0, 1, 2] rfl
      replace hD : va_D A [cl_O ao 1 (bk_fs dl bp t0 f0 aB aI aC aP), cl_I G aI 16 u_44, cl_I G aC 8 ch, cl_B G am n f, cl_I G q_34 16 ((wrdF f o))] := hD.sub [3, 4, 0, 1, 2] (by decide) rfl
      replace hu_44 : u_44 = rndN (wrdF f o) i 8 V := by rw [hu_44, hu_43]; rfl
      refine lv_iinc (v := nI (i + 1)) (lv' := [(4, .int (nI (i + 1))), (3, .ref q_34), (0, .ref ao), (1, .ref am), (2, .int (nI o))]) hx hb dX1_compress_279 hl (k := 0) rfl (wd_inc _ 1) (by decide) rfl ?_
      clear hl; intro ls hl
      refine lv_goto (tgt := 18) hx hb dX1_compress_282 (by decide) ?_
      exact ih (i + 1) (by omega) u_44 (by rw [hu_44, hV]; rfl) _ _ hP hD hS ls (lv_sub hl [0, 1, 2, 3, 4] rfl)
  exact loop1 10 0 (by omega) u_33 hu_33 _ _ hP hD hS ls (lv_sub hl [0, 1, 2, 3, 4] rfl)
end
section
/-! Blake2sDigest: init, the constructors, reset, update, doFinal -/
set_option maxHeartbeats 4000000 in
set_option maxRecDepth 100000 in
/-- Blake2sDigest.init(null, null, null): the first state -/
theorem met_X1_ini (l : Launch) (G : wd_G) (ao aB aI aC aP : Nat) (d : Nat) (bp t0 f0 : Int32) (ch : Nat → Int32) (hd : dOK d) (sz : Nat) : Met l yX1_init_3 (ws_ yX1_init_3 cX1_init_3 6 none) ({ frames := 0, cells := 0, slots := 0, locals := 0 }) (va_Pc [.ref ao, .null, .null, .null] (wd_Pre G [cl_O ao 1 (bk_fs (nI d) bp t0 f0 aB aI aC aP), cl_I G aC 8 ch] sz)) (wd_Qv G (fun _ : Unit => True) (fun _ => [cl_O ao 1 (bk_fs (nI d) bp t0 f0 aB aI aC aP), cl_I G aC 8 (ivH d)]) (va_A [cl_O ao 1 (bk_fs (nI d) bp t0 f0 aB aI aC aP), cl_I G aC 8 ch] sz)) 0 0 (va_A [cl_O ao 1 (bk_fs (nI d) bp t0 f0 aB aI aC aP), cl_I G aC 8 ch] sz) := by
  refine wd_ofW (Qc := fun A => wd_Qv G (fun _ : Unit => True) (fun _ => [cl_O ao 1 (bk_fs (nI d) bp t0 f0 aB aI aC aP), cl_I G aC 8 (ivH d)]) A) (by decide) (Nat.le_of_ble_eq_true rfl) ?_
  intro p e s m below meth c A ls hx hb hr hml hown hlk hnm hts hK hZ hP hD hS hA hl
  replace hown : s.vm.findClass RX1 = some m.cls := hown
  replace hl : lv_has ls 6 [(0, .ref ao), (1, .null), (2, .null), (3, .null)] := hl
  obtain ⟨⟨tIV, zIV, hIV⟩, ⟨tSG, rSG, zSG, hSG, hSGr⟩, ⟨tFI, zFI, hFI⟩, ⟨tOR, rOR, zOR, hOR, hORr⟩, ⟨tWO, rWO, zWO, hWO, hWOr⟩, ⟨tSZ, zSZ, hSZ⟩, ⟨tAN, zAN⟩, hFw1, hFw2, hFw3, hFw4⟩ := id hZ
  refine lv_aload_nN hx hb dX1_init_3_0 rfl (lv_at hl 3 rfl) ?_
  refine lv_ifnullN (tgt := 78) hx hb dX1_init_3_1 (by decide) ?_
  refine lv_aload_n hx hb dX1_init_3_78 rfl (lv_at hl 0 rfl) ?_
  refine va_get (D := G.1) (ci := 1) (v := .ref aC) (C := RX1) (T := TX1) (N := 21) hx hb hts in_X1 hown hK hP 0 rfl rfl 15 (by decide) (hts _ q150) (fun _ h9 => h9) rfl dX1_init_3_79 ?_
  refine lv_iconst (v := nI 0) hx hb dX1_init_3_82 (by decide) ?_
  refine va_gets hx hb zIV hS hown (hts _ q128) (fun _ h9 => h9) dX1_init_3_83 ?_
  refine lv_iconst (v := nI 0) hx hb dX1_init_3_86 (by decide) ?_
  refine wd_ti hx hb hIV hS 0 (by omega) (by decide) dX1_init_3_87 ?_
  refine lv_aload_n hx hb dX1_init_3_88 rfl (lv_at hl 0 rfl) ?_
  refine va_get (D := G.1) (ci := 1) (v := .int (nI d)) (C := RX1) (T := TX1) (N := 21) hx hb hts in_X1 hown hK hP 0 rfl rfl 0 (by decide) (hts _ q135) (fun _ h9 => h9) rfl dX1_init_3_89 ?_
  refine lv_aload_n hx hb dX1_init_3_92 rfl (lv_at hl 0 rfl) ?_
  refine va_get (D := G.1) (ci := 1) (v := .int (nI 0)) (C := RX1) (T := TX1) (N := 21) hx hb hts in_X1 hown hK hP 0 rfl rfl 1 (by decide) (hts _ q136) (fun _ h9 => h9) rfl dX1_init_3_93 ?_
  refine lv_bipush (v := nI 8) hx hb dX1_init_3_96 (by decide) ?_
  refine lv_ishl hx hb dX1_init_3_98 ?_
  refine lv_ior hx hb dX1_init_3_99 ?_
  refine lv_aload_n hx hb dX1_init_3_100 rfl (lv_at hl 0 rfl) ?_
  refine va_get (D := G.1) (ci := 1) (v := .int (nI 1)) (C := RX1) (T := TX1) (N := 21) hx hb hts in_X1 hown hK hP 0 rfl rfl 5 (by decide) (hts _ q140) (fun _ h9 => h9) rfl dX1_init_3_101 ?_
  refine lv_bipush (v := nI 16) hx hb dX1_init_3_104 (by decide) ?_
  refine lv_ishl hx hb dX1_init_3_106 ?_
  refine lv_aload_n hx hb dX1_init_3_107 rfl (lv_at hl 0 rfl) ?_
  refine va_get (D := G.1) (ci := 1) (v := .int (nI 1)) (C := RX1) (T := TX1) (N := 21) hx hb hts in_X1 hown hK hP 0 rfl rfl 6 (by decide) (hts _ q141) (fun _ h9 => h9) rfl dX1_init_3_108 ?_
  refine lv_bipush (v := nI 24) hx hb dX1_init_3_111 (by decide) ?_
  refine lv_ishl hx hb dX1_init_3_113 ?_
  refine lv_ior hx hb dX1_init_3_114 ?_
  refine lv_ior hx hb dX1_init_3_115 ?_
  refine lv_ixor hx hb dX1_init_3_116 ?_
  refine wd_ist hx hb hK hP hD hS 1 rfl 0 (by omega) (by omega) dX1_init_3_117 ?_
  clear hP hD hS; intro f_45 ef_45 H locs hP hD hS
  replace hP : va_P G.1 vwCl [cl_O ao 1 (bk_fs (nI d) bp t0 f0 aB aI aC aP), cl_I G aC 8 f_45] H := hP
  replace hD : va_D A [cl_O ao 1 (bk_fs (nI d) bp t0 f0 aB aI aC aP), cl_I G aC 8 f_45] := hD
  refine lv_aload_n hx hb dX1_init_3_118 rfl (lv_at hl 0 rfl) ?_
  refine va_get (D := G.1) (ci := 1) (v := .ref aC) (C := RX1) (T := TX1) (N := 21) hx hb hts in_X1 hown hK hP 0 rfl rfl 15 (by decide) (hts _ q150) (fun _ h9 => h9) rfl dX1_init_3_119 ?_
  refine lv_iconst (v := nI 1) hx hb dX1_init_3_122 (by decide) ?_
  refine va_gets hx hb zIV hS hown (hts _ q128) (fun _ h9 => h9) dX1_init_3_123 ?_
  refine lv_iconst (v := nI 1) hx hb dX1_init_3_126 (by decide) ?_
  refine wd_ti hx hb hIV hS 1 (by omega) (by decide) dX1_init_3_127 ?_
  refine lv_aload_n hx hb dX1_init_3_128 rfl (lv_at hl 0 rfl) ?_
  refine va_get (D := G.1) (ci := 1) (v := .int (nI 0)) (C := RX1) (T := TX1) (N := 21) hx hb hts in_X1 hown hK hP 0 rfl rfl 7 (by decide) (hts _ q142) (fun _ h9 => h9) rfl dX1_init_3_129 ?_
  refine lv_ixor hx hb dX1_init_3_132 ?_
  refine wd_ist hx hb hK hP hD hS 1 rfl 1 (by omega) (by omega) dX1_init_3_133 ?_
  clear hP hD hS; intro f_46 ef_46 H locs hP hD hS
  replace hP : va_P G.1 vwCl [cl_O ao 1 (bk_fs (nI d) bp t0 f0 aB aI aC aP), cl_I G aC 8 f_46] H := hP
  replace hD : va_D A [cl_O ao 1 (bk_fs (nI d) bp t0 f0 aB aI aC aP), cl_I G aC 8 f_46] := hD
  refine lv_aload_n hx hb dX1_init_3_134 rfl (lv_at hl 0 rfl) ?_
  refine va_get (D := G.1) (ci := 1) (v := .long 0) (C := RX1) (T := TX1) (N := 21) hx hb hts in_X1 hown hK hP 0 rfl rfl 8 (by decide) (hts _ q143) (fun _ h9 => h9) rfl dX1_init_3_135 ?_
  refine lv_bipush (v := nI 32) hx hb dX1_init_3_138 (by decide) ?_
  refine lv_lshr hx hb dX1_init_3_140 rfl ?_
  refine lv_l2i hx hb dX1_init_3_141 rfl ?_
  refine lv_istore (lv' := [(4, .int ((((0 : Int64) >>> ((nI 32).toInt64 &&& 63)) : Int64).toInt32)), (0, .ref ao), (1, .null), (2, .null), (3, .null)]) hx hb dX1_init_3_142 hl (by decide) rfl ?_
  clear hl; intro ls hl
  refine lv_aload_n hx hb dX1_init_3_144 rfl (lv_at hl 1 rfl) ?_
  refine va_get (D := G.1) (ci := 1) (v := .long 0) (C := RX1) (T := TX1) (N := 21) hx hb hts in_X1 hown hK hP 0 rfl rfl 8 (by decide) (hts _ q143) (fun _ h9 => h9) rfl dX1_init_3_145 ?_
  refine lv_l2i hx hb dX1_init_3_148 rfl ?_
  refine lv_istore (lv' := [(5, .int ((0 : Int64).toInt32)), (4, .int ((((0 : Int64) >>> ((nI 32).toInt64 &&& 63)) : Int64).toInt32)), (0, .ref ao), (1, .null), (2, .null), (3, .null)]) hx hb dX1_init_3_149 hl (by decide) rfl ?_
  clear hl; intro ls hl
  refine lv_aload_n hx hb dX1_init_3_151 rfl (lv_at hl 2 rfl) ?_
  refine va_get (D := G.1) (ci := 1) (v := .ref aC) (C := RX1) (T := TX1) (N := 21) hx hb hts in_X1 hown hK hP 0 rfl rfl 15 (by decide) (hts _ q150) (fun _ h9 => h9) rfl dX1_init_3_152 ?_
  refine lv_iconst (v := nI 2) hx hb dX1_init_3_155 (by decide) ?_
  refine va_gets hx hb zIV hS hown (hts _ q128) (fun _ h9 => h9) dX1_init_3_156 ?_
  refine lv_iconst (v := nI 2) hx hb dX1_init_3_159 (by decide) ?_
  refine wd_ti hx hb hIV hS 2 (by omega) (by decide) dX1_init_3_160 ?_
  refine lv_iload hx hb dX1_init_3_161 (lv_at hl 0 rfl) ?_
  refine lv_ixor hx hb dX1_init_3_163 ?_
  refine wd_ist hx hb hK hP hD hS 1 rfl 2 (by omega) (by omega) dX1_init_3_164 ?_
  clear hP hD hS; intro f_47 ef_47 H locs hP hD hS
  replace hP : va_P G.1 vwCl [cl_O ao 1 (bk_fs (nI d) bp t0 f0 aB aI aC aP), cl_I G aC 8 f_47] H := hP
  replace hD : va_D A [cl_O ao 1 (bk_fs (nI d) bp t0 f0 aB aI aC aP), cl_I G aC 8 f_47] := hD
  refine lv_aload_n hx hb dX1_init_3_165 rfl (lv_at hl 2 rfl) ?_
  refine va_get (D := G.1) (ci := 1) (v := .ref aC) (C := RX1) (T := TX1) (N := 21) hx hb hts in_X1 hown hK hP 0 rfl rfl 15 (by decide) (hts _ q150) (fun _ h9 => h9) rfl dX1_init_3_166 ?_
  refine lv_iconst (v := nI 3) hx hb dX1_init_3_169 (by decide) ?_
  refine va_gets hx hb zIV hS hown (hts _ q128) (fun _ h9 => h9) dX1_init_3_170 ?_
  refine lv_iconst (v := nI 3) hx hb dX1_init_3_173 (by decide) ?_
  refine wd_ti hx hb hIV hS 3 (by omega) (by decide) dX1_init_3_174 ?_
  refine lv_iload hx hb dX1_init_3_175 (lv_at hl 1 rfl) ?_
  refine lv_aload_n hx hb dX1_init_3_177 rfl (lv_at hl 2 rfl) ?_
  refine va_get (D := G.1) (ci := 1) (v := .int (nI 0)) (C := RX1) (T := TX1) (N := 21) hx hb hts in_X1 hown hK hP 0 rfl rfl 9 (by decide) (hts _ q144) (fun _ h9 => h9) rfl dX1_init_3_178 ?_
  refine lv_bipush (v := nI 16) hx hb dX1_init_3_181 (by decide) ?_
  refine lv_ishl hx hb dX1_init_3_183 ?_
  refine lv_ior hx hb dX1_init_3_184 ?_
  refine lv_aload_n hx hb dX1_init_3_185 rfl (lv_at hl 2 rfl) ?_
  refine va_get (D := G.1) (ci := 1) (v := .int (nI 0)) (C := RX1) (T := TX1) (N := 21) hx hb hts in_X1 hown hK hP 0 rfl rfl 10 (by decide) (hts _ q145) (fun _ h9 => h9) rfl dX1_init_3_186 ?_
  refine lv_bipush (v := nI 24) hx hb dX1_init_3_189 (by decide) ?_
  refine lv_ishl hx hb dX1_init_3_191 ?_
  refine lv_ior hx hb dX1_init_3_192 ?_
  refine lv_ixor hx hb dX1_init_3_193 ?_
  refine wd_ist hx hb hK hP hD hS 1 rfl 3 (by omega) (by omega) dX1_init_3_194 ?_
  clear hP hD hS; intro f_48 ef_48 H locs hP hD hS
  replace hP : va_P G.1 vwCl [cl_O ao 1 (bk_fs (nI d) bp t0 f0 aB aI aC aP), cl_I G aC 8 f_48] H := hP
  replace hD : va_D A [cl_O ao 1 (bk_fs (nI d) bp t0 f0 aB aI aC aP), cl_I G aC 8 f_48] := hD
  refine lv_aload_n hx hb dX1_init_3_195 rfl (lv_at hl 2 rfl) ?_
  refine va_get (D := G.1) (ci := 1) (v := .ref aC) (C := RX1) (T := TX1) (N := 21) hx hb hts in_X1 hown hK hP 0 rfl rfl 15 (by decide) (hts _ q150) (fun _ h9 => h9) rfl dX1_init_3_196 ?_
  refine lv_iconst (v := nI 4) hx hb dX1_init_3_199 (by decide) ?_
  refine va_gets hx hb zIV hS hown (hts _ q128) (fun _ h9 => h9) dX1_init_3_200 ?_
  refine lv_iconst (v := nI 4) hx hb dX1_init_3_203 (by decide) ?_
  refine wd_ti hx hb hIV hS 4 (by omega) (by decide) dX1_init_3_204 ?_
  refine wd_ist hx hb hK hP hD hS 1 rfl 4 (by omega) (by omega) dX1_init_3_205 ?_
  clear hP hD hS; intro f_49 ef_49 H locs hP hD hS
  replace hP : va_P G.1 vwCl [cl_O ao 1 (bk_fs (nI d) bp t0 f0 aB aI aC aP), cl_I G aC 8 f_49] H := hP
  replace hD : va_D A [cl_O ao 1 (bk_fs (nI d) bp t0 f0 aB aI aC aP), cl_I G aC 8 f_49] := hD
  refine lv_aload_n hx hb dX1_init_3_206 rfl (lv_at hl 2 rfl) ?_
  refine va_get (D := G.1) (ci := 1) (v := .ref aC) (C := RX1) (T := TX1) (N := 21) hx hb hts in_X1 hown hK hP 0 rfl rfl 15 (by decide) (hts _ q150) (fun _ h9 => h9) rfl dX1_init_3_207 ?_
  refine lv_iconst (v := nI 5) hx hb dX1_init_3_210 (by decide) ?_
  refine va_gets hx hb zIV hS hown (hts _ q128) (fun _ h9 => h9) dX1_init_3_211 ?_
  refine lv_iconst (v := nI 5) hx hb dX1_init_3_214 (by decide) ?_
  refine wd_ti hx hb hIV hS 5 (by omega) (by decide) dX1_init_3_215 ?_
  refine wd_ist hx hb hK hP hD hS 1 rfl 5 (by omega) (by omega) dX1_init_3_216 ?_
  clear hP hD hS; intro f_50 ef_50 H locs hP hD hS
  replace hP : va_P G.1 vwCl [cl_O ao 1 (bk_fs (nI d) bp t0 f0 aB aI aC aP), cl_I G aC 8 f_50] H := hP
  replace hD : va_D A [cl_O ao 1 (bk_fs (nI d) bp t0 f0 aB aI aC aP), cl_I G aC 8 f_50] := hD
  refine lv_aload_nN hx hb dX1_init_3_217 rfl (lv_at hl 3 rfl) ?_
  refine lv_ifnullN (tgt := 286) hx hb dX1_init_3_218 (by decide) ?_
  refine lv_aload_n hx hb dX1_init_3_286 rfl (lv_at hl 2 rfl) ?_
  refine va_get (D := G.1) (ci := 1) (v := .ref aC) (C := RX1) (T := TX1) (N := 21) hx hb hts in_X1 hown hK hP 0 rfl rfl 15 (by decide) (hts _ q150) (fun _ h9 => h9) rfl dX1_init_3_287 ?_
  refine lv_bipush (v := nI 6) hx hb dX1_init_3_290 (by decide) ?_
  refine va_gets hx hb zIV hS hown (hts _ q128) (fun _ h9 => h9) dX1_init_3_292 ?_
  refine lv_bipush (v := nI 6) hx hb dX1_init_3_295 (by decide) ?_
  refine wd_ti hx hb hIV hS 6 (by omega) (by decide) dX1_init_3_297 ?_
  refine wd_ist hx hb hK hP hD hS 1 rfl 6 (by omega) (by omega) dX1_init_3_298 ?_
  clear hP hD hS; intro f_51 ef_51 H locs hP hD hS
  replace hP : va_P G.1 vwCl [cl_O ao 1 (bk_fs (nI d) bp t0 f0 aB aI aC aP), cl_I G aC 8 f_51] H := hP
  replace hD : va_D A [cl_O ao 1 (bk_fs (nI d) bp t0 f0 aB aI aC aP), cl_I G aC 8 f_51] := hD
  refine lv_aload_n hx hb dX1_init_3_299 rfl (lv_at hl 2 rfl) ?_
  refine va_get (D := G.1) (ci := 1) (v := .ref aC) (C := RX1) (T := TX1) (N := 21) hx hb hts in_X1 hown hK hP 0 rfl rfl 15 (by decide) (hts _ q150) (fun _ h9 => h9) rfl dX1_init_3_300 ?_
  refine lv_bipush (v := nI 7) hx hb dX1_init_3_303 (by decide) ?_
  refine va_gets hx hb zIV hS hown (hts _ q128) (fun _ h9 => h9) dX1_init_3_305 ?_
  refine lv_bipush (v := nI 7) hx hb dX1_init_3_308 (by decide) ?_
  refine wd_ti hx hb hIV hS 7 (by omega) (by decide) dX1_init_3_310 ?_
  refine wd_ist hx hb hK hP hD hS 1 rfl 7 (by omega) (by omega) dX1_init_3_311 ?_
  clear hP hD hS; intro f_52 ef_52 H locs hP hD hS
  replace hP : va_P G.1 vwCl [cl_O ao 1 (bk_fs (nI d) bp t0 f0 aB aI aC aP), cl_I G aC 8 f_52] H := hP
  replace hD : va_D A [cl_O ao 1 (bk_fs (nI d) bp t0 f0 aB aI aC aP), cl_I G aC 8 f_52] := hD
  refine lv_aload_nN hx hb dX1_init_3_312 rfl (lv_at hl 4 rfl) ?_
  refine lv_ifnullN (tgt := 383) hx hb dX1_init_3_313 (by decide) ?_
  obtain ⟨hP, hD⟩ := wd_lab (q0 := 1) hP hD rfl (ivH d) (fun j hj => by rw [ef_52, ef_51, ef_50, ef_49, ef_48, ef_47, ef_46, ef_45]; exact ini_eq hd ch j hj)
  exact wd_vret hx hb hr hlk () trivial hP hD hS dX1_init_3_383
set_option maxHeartbeats 4000000 in
set_option maxRecDepth 100000 in
/-- new Blake2sDigest(8 d, purpose) -/
theorem met_X1_new2 (l : Launch) (G : wd_G) (ao aP d : Nat) (hd : dOK d) (sz : Nat) : Met l yX1_init_2 (ws_ yX1_init_2 cX1_init_2 3 none) ({ frames := 1, cells := 3, slots := 88, locals := 25 }) (va_Pc [.ref ao, .int (nI (8 * d)), .ref aP] (wd_Pre G [cl_O ao 1 [.int (nI 0), .int (nI 0), .null, .null, .null, .int (nI 0), .int (nI 0), .int (nI 0), .long 0, .int (nI 0), .int (nI 0), .int (nI 0), .null, .int (nI 0), .null, .null, .int (nI 0), .int (nI 0), .int (nI 0), .int (nI 0), .null]] sz)) (wd_Qv G (fun _ : Nat × Nat × Nat => True) (fun u => [cl_O ao 1 (bk_fs (nI d) (nI 0) (nI 0) (nI 0) u.1 u.2.1 u.2.2 aP), cl_B G u.1 64 (fun _ => 0), cl_I G u.2.1 16 (fun _ => 0), cl_I G u.2.2 8 (ivH d)]) (va_A [cl_O ao 1 [.int (nI 0), .int (nI 0), .null, .null, .null, .int (nI 0), .int (nI 0), .int (nI 0), .long 0, .int (nI 0), .int (nI 0), .int (nI 0), .null, .int (nI 0), .null, .null, .int (nI 0), .int (nI 0), .int (nI 0), .int (nI 0), .null]] sz)) 3 88 (va_A [cl_O ao 1 [.int (nI 0), .int (nI 0), .null, .null, .null, .int (nI 0), .int (nI 0), .int (nI 0), .long 0, .int (nI 0), .int (nI 0), .int (nI 0), .null, .int (nI 0), .null, .null, .int (nI 0), .int (nI 0), .int (nI 0), .int (nI 0), .null]] sz) := by
  refine wd_ofW (Qc := fun A => wd_Qv G (fun _ : Nat × Nat × Nat => True) (fun u => [cl_O ao 1 (bk_fs (nI d) (nI 0) (nI 0) (nI 0) u.1 u.2.1 u.2.2 aP), cl_B G u.1 64 (fun _ => 0), cl_I G u.2.1 16 (fun _ => 0), cl_I G u.2.2 8 (ivH d)]) A) (by decide) (Nat.le_of_ble_eq_true rfl) ?_
  intro p e s m below meth c A ls hx hb hr hml hown hlk hnm hts hK hZ hP hD hS hA hl
  replace hown : s.vm.findClass RX1 = some m.cls := hown
  replace hl : lv_has ls 3 [(0, .ref ao), (1, .int (nI (8 * d))), (2, .ref aP)] := hl
  replace hnm : meth.name = "<init>" := hnm
  have hd9 := dOK_le hd
  refine lv_aload_n hx hb dX1_init_2_0 rfl (lv_at hl 0 rfl) ?_
  refine W.objInit hx hb hown (hts _ q51) (hts _ q39) (hts _ q40) rfl (by rw [hml]; exact hl.1) rfl dX1_init_2_1 (Nat.le_of_ble_eq_true rfl) (Nat.le_of_ble_eq_true rfl) ?_
  refine W.eq (g2 := F0 m 4 ls []) rfl ?_
  refine lv_aload_n hx hb dX1_init_2_4 rfl (lv_at hl 0 rfl) ?_
  refine lv_bipush (v := nI 32) hx hb dX1_init_2_5 (by decide) ?_
  refine va_put (D := G.1) (ci := 1) (v := .int (nI 32)) (ty := .int) (C := RX1) (T := TX1) (N := 21) hx hb hts in_X1 tyX1 tyX1_ok nmX1 hown hK hP hD hS 0 rfl rfl 0 (by decide) (hts _ q135) (fun _ h9 => h9) rfl (tyX1_ok 0 (by decide)) rfl rfl (Nat.le_of_ble_eq_true rfl) dX1_init_2_7 ?_
  clear hP hD hS; intro H locs hP hD hS
  replace hP : va_P G.1 vwCl [cl_O ao 1 [.int (nI 32), .int (nI 0), .null, .null, .null, .int (nI 0), .int (nI 0), .int (nI 0), .long 0, .int (nI 0), .int (nI 0), .int (nI 0), .null, .int (nI 0), .null, .null, .int (nI 0), .int (nI 0), .int (nI 0), .int (nI 0), .null]] H := hP
  replace hD : va_D A [cl_O ao 1 [.int (nI 32), .int (nI 0), .null, .null, .null, .int (nI 0), .int (nI 0), .int (nI 0), .long 0, .int (nI 0), .int (nI 0), .int (nI 0), .null, .int (nI 0), .null, .null, .int (nI 0), .int (nI 0), .int (nI 0), .int (nI 0), .null]] := hD
  refine lv_aload_n hx hb dX1_init_2_10 rfl (lv_at hl 0 rfl) ?_
  refine lv_iconst (v := nI 0) hx hb dX1_init_2_11 (by decide) ?_
  refine va_put (D := G.1) (ci := 1) (v := .int (nI 0)) (ty := .int) (C := RX1) (T := TX1) (N := 21) hx hb hts in_X1 tyX1 tyX1_ok nmX1 hown hK hP hD hS 0 rfl rfl 1 (by decide) (hts _ q136) (fun _ h9 => h9) rfl (tyX1_ok 1 (by decide)) rfl rfl (Nat.le_of_ble_eq_true rfl) dX1_init_2_12 ?_
  clear hP hD hS; intro H locs hP hD hS
  replace hP : va_P G.1 vwCl [cl_O ao 1 [.int (nI 32), .int (nI 0), .null, .null, .null, .int (nI 0), .int (nI 0), .int (nI 0), .long 0, .int (nI 0), .int (nI 0), .int (nI 0), .null, .int (nI 0), .null, .null, .int (nI 0), .int (nI 0), .int (nI 0), .int (nI 0), .null]] H := hP
  replace hD : va_D A [cl_O ao 1 [.int (nI 32), .int (nI 0), .null, .null, .null, .int (nI 0), .int (nI 0), .int (nI 0), .long 0, .int (nI 0), .int (nI 0), .int (nI 0), .null, .int (nI 0), .null, .null, .int (nI 0), .int (nI 0), .int (nI 0), .int (nI 0), .null]] := hD
  refine lv_aload_n hx hb dX1_init_2_15 rfl (lv_at hl 0 rfl) ?_
  refine lv_null hx hb dX1_init_2_16 ?_
  refine va_put (D := G.1) (ci := 1) (v := .null) (ty := .array .byte) (C := RX1) (T := TX1) (N := 21) hx hb hts in_X1 tyX1 tyX1_ok nmX1 hown hK hP hD hS 0 rfl rfl 2 (by decide) (hts _ q137) (fun _ h9 => h9) rfl (tyX1_ok 2 (by decide)) rfl rfl (Nat.le_of_ble_eq_true rfl) dX1_init_2_17 ?_
  clear hP hD hS; intro H locs hP hD hS
  replace hP : va_P G.1 vwCl [cl_O ao 1 [.int (nI 32), .int (nI 0), .null, .null, .null, .int (nI 0), .int (nI 0), .int (nI 0), .long 0, .int (nI 0), .int (nI 0), .int (nI 0), .null, .int (nI 0), .null, .null, .int (nI 0), .int (nI 0), .int (nI 0), .int (nI 0), .null]] H := hP
  replace hD : va_D A [cl_O ao 1 [.int (nI 32), .int (nI 0), .null, .null, .null, .int (nI 0), .int (nI 0), .int (nI 0), .long 0, .int (nI 0), .int (nI 0), .int (nI 0), .null, .int (nI 0), .null, .null, .int (nI 0), .int (nI 0), .int (nI 0), .int (nI 0), .null]] := hD
  refine lv_aload_n hx hb dX1_init_2_20 rfl (lv_at hl 0 rfl) ?_
  refine lv_null hx hb dX1_init_2_21 ?_
  refine va_put (D := G.1) (ci := 1) (v := .null) (ty := .array .byte) (C := RX1) (T := TX1) (N := 21) hx hb hts in_X1 tyX1 tyX1_ok nmX1 hown hK hP hD hS 0 rfl rfl 3 (by decide) (hts _ q138) (fun _ h9 => h9) rfl (tyX1_ok 3 (by decide)) rfl rfl (Nat.le_of_ble_eq_true rfl) dX1_init_2_22 ?_
  clear hP hD hS; intro H locs hP hD hS
  replace hP : va_P G.1 vwCl [cl_O ao 1 [.int (nI 32), .int (nI 0), .null, .null, .null, .int (nI 0), .int (nI 0), .int (nI 0), .long 0, .int (nI 0), .int (nI 0), .int (nI 0), .null, .int (nI 0), .null, .null, .int (nI 0), .int (nI 0), .int (nI 0), .int (nI 0), .null]] H := hP
  replace hD : va_D A [cl_O ao 1 [.int (nI 32), .int (nI 0), .null, .null, .null, .int (nI 0), .int (nI 0), .int (nI 0), .long 0, .int (nI 0), .int (nI 0), .int (nI 0), .null, .int (nI 0), .null, .null, .int (nI 0), .int (nI 0), .int (nI 0), .int (nI 0), .null]] := hD
  refine lv_aload_n hx hb dX1_init_2_25 rfl (lv_at hl 0 rfl) ?_
  refine lv_null hx hb dX1_init_2_26 ?_
  refine va_put (D := G.1) (ci := 1) (v := .null) (ty := .array .byte) (C := RX1) (T := TX1) (N := 21) hx hb hts in_X1 tyX1 tyX1_ok nmX1 hown hK hP hD hS 0 rfl rfl 4 (by decide) (hts _ q139) (fun _ h9 => h9) rfl (tyX1_ok 4 (by decide)) rfl rfl (Nat.le_of_ble_eq_true rfl) dX1_init_2_27 ?_
  clear hP hD hS; intro H locs hP hD hS
  replace hP : va_P G.1 vwCl [cl_O ao 1 [.int (nI 32), .int (nI 0), .null, .null, .null, .int (nI 0), .int (nI 0), .int (nI 0), .long 0, .int (nI 0), .int (nI 0), .int (nI 0), .null, .int (nI 0), .null, .null, .int (nI 0), .int (nI 0), .int (nI 0), .int (nI 0), .null]] H := hP
  replace hD : va_D A [cl_O ao 1 [.int (nI 32), .int (nI 0), .null, .null, .null, .int (nI 0), .int (nI 0), .int (nI 0), .long 0, .int (nI 0), .int (nI 0), .int (nI 0), .null, .int (nI 0), .null, .null, .int (nI 0), .int (nI 0), .int (nI 0), .int (nI 0), .null]] := hD
  refine lv_aload_n hx hb dX1_init_2_30 rfl (lv_at hl 0 rfl) ?_
  refine lv_iconst (v := nI 1) hx hb dX1_init_2_31 (by decide) ?_
  refine va_put (D := G.1) (ci := 1) (v := .int (nI 1)) (ty := .int) (C := RX1) (T := TX1) (N := 21) hx hb hts in_X1 tyX1 tyX1_ok nmX1 hown hK hP hD hS 0 rfl rfl 5 (by decide) (hts _ q140) (fun _ h9 => h9) rfl (tyX1_ok 5 (by decide)) rfl rfl (Nat.le_of_ble_eq_true rfl) dX1_init_2_32 ?_
  clear hP hD hS; intro H locs hP hD hS
  replace hP : va_P G.1 vwCl [cl_O ao 1 [.int (nI 32), .int (nI 0), .null, .null, .null, .int (nI 1), .int (nI 0), .int (nI 0), .long 0, .int (nI 0), .int (nI 0), .int (nI 0), .null, .int (nI 0), .null, .null, .int (nI 0), .int (nI 0), .int (nI 0), .int (nI 0), .null]] H := hP
  replace hD : va_D A [cl_O ao 1 [.int (nI 32), .int (nI 0), .null, .null, .null, .int (nI 1), .int (nI 0), .int (nI 0), .long 0, .int (nI 0), .int (nI 0), .int (nI 0), .null, .int (nI 0), .null, .null, .int (nI 0), .int (nI 0), .int (nI 0), .int (nI 0), .null]] := hD
  refine lv_aload_n hx hb dX1_init_2_35 rfl (lv_at hl 0 rfl) ?_
  refine lv_iconst (v := nI 1) hx hb dX1_init_2_36 (by decide) ?_
  refine va_put (D := G.1) (ci := 1) (v := .int (nI 1)) (ty := .int) (C := RX1) (T := TX1) (N := 21) hx hb hts in_X1 tyX1 tyX1_ok nmX1 hown hK hP hD hS 0 rfl rfl 6 (by decide) (hts _ q141) (fun _ h9 => h9) rfl (tyX1_ok 6 (by decide)) rfl rfl (Nat.le_of_ble_eq_true rfl) dX1_init_2_37 ?_
  clear hP hD hS; intro H locs hP hD hS
  replace hP : va_P G.1 vwCl [cl_O ao 1 [.int (nI 32), .int (nI 0), .null, .null, .null, .int (nI 1), .int (nI 1), .int (nI 0), .long 0, .int (nI 0), .int (nI 0), .int (nI 0), .null, .int (nI 0), .null, .null, .int (nI 0), .int (nI 0), .int (nI 0), .int (nI 0), .null]] H := hP
  replace hD : va_D A [cl_O ao 1 [.int (nI 32), .int (nI 0), .null, .null, .null, .int (nI 1), .int (nI 1), .int (nI 0), .long 0, .int (nI 0), .int (nI 0), .int (nI 0), .null, .int (nI 0), .null, .null, .int (nI 0), .int (nI 0), .int (nI 0), .int (nI 0), .null]] := hD
  refine lv_aload_n hx hb dX1_init_2_40 rfl (lv_at hl 0 rfl) ?_
  refine lv_iconst (v := nI 0) hx hb dX1_init_2_41 (by decide) ?_
  refine va_put (D := G.1) (ci := 1) (v := .int (nI 0)) (ty := .int) (C := RX1) (T := TX1) (N := 21) hx hb hts in_X1 tyX1 tyX1_ok nmX1 hown hK hP hD hS 0 rfl rfl 7 (by decide) (hts _ q142) (fun _ h9 => h9) rfl (tyX1_ok 7 (by decide)) rfl rfl (Nat.le_of_ble_eq_true rfl) dX1_init_2_42 ?_
  clear hP hD hS; intro H locs hP hD hS
  replace hP : va_P G.1 vwCl [cl_O ao 1 [.int (nI 32), .int (nI 0), .null, .null, .null, .int (nI 1), .int (nI 1), .int (nI 0), .long 0, .int (nI 0), .int (nI 0), .int (nI 0), .null, .int (nI 0), .null, .null, .int (nI 0), .int (nI 0), .int (nI 0), .int (nI 0), .null]] H := hP
  replace hD : va_D A [cl_O ao 1 [.int (nI 32), .int (nI 0), .null, .null, .null, .int (nI 1), .int (nI 1), .int (nI 0), .long 0, .int (nI 0), .int (nI 0), .int (nI 0), .null, .int (nI 0), .null, .null, .int (nI 0), .int (nI 0), .int (nI 0), .int (nI 0), .null]] := hD
  refine lv_aload_n hx hb dX1_init_2_45 rfl (lv_at hl 0 rfl) ?_
  refine lv_lconst (v := 0) hx hb dX1_init_2_46 (by decide) ?_
  refine va_put (D := G.1) (ci := 1) (v := .long 0) (ty := .long) (C := RX1) (T := TX1) (N := 21) hx hb hts in_X1 tyX1 tyX1_ok nmX1 hown hK hP hD hS 0 rfl rfl 8 (by decide) (hts _ q143) (fun _ h9 => h9) rfl (tyX1_ok 8 (by decide)) rfl rfl (Nat.le_of_ble_eq_true rfl) dX1_init_2_47 ?_
  clear hP hD hS; intro H locs hP hD hS
  replace hP : va_P G.1 vwCl [cl_O ao 1 [.int (nI 32), .int (nI 0), .null, .null, .null, .int (nI 1), .int (nI 1), .int (nI 0), .long 0, .int (nI 0), .int (nI 0), .int (nI 0), .null, .int (nI 0), .null, .null, .int (nI 0), .int (nI 0), .int (nI 0), .int (nI 0), .null]] H := hP
  replace hD : va_D A [cl_O ao 1 [.int (nI 32), .int (nI 0), .null, .null, .null, .int (nI 1), .int (nI 1), .int (nI 0), .long 0, .int (nI 0), .int (nI 0), .int (nI 0), .null, .int (nI 0), .null, .null, .int (nI 0), .int (nI 0), .int (nI 0), .int (nI 0), .null]] := hD
  refine lv_aload_n hx hb dX1_init_2_50 rfl (lv_at hl 0 rfl) ?_
  refine lv_iconst (v := nI 0) hx hb dX1_init_2_51 (by decide) ?_
  refine va_put (D := G.1) (ci := 1) (v := .int (nI 0)) (ty := .int) (C := RX1) (T := TX1) (N := 21) hx hb hts in_X1 tyX1 tyX1_ok nmX1 hown hK hP hD hS 0 rfl rfl 9 (by decide) (hts _ q144) (fun _ h9 => h9) rfl (tyX1_ok 9 (by decide)) rfl rfl (Nat.le_of_ble_eq_true rfl) dX1_init_2_52 ?_
  clear hP hD hS; intro H locs hP hD hS
  replace hP : va_P G.1 vwCl [cl_O ao 1 [.int (nI 32), .int (nI 0), .null, .null, .null, .int (nI 1), .int (nI 1), .int (nI 0), .long 0, .int (nI 0), .int (nI 0), .int (nI 0), .null, .int (nI 0), .null, .null, .int (nI 0), .int (nI 0), .int (nI 0), .int (nI 0), .null]] H := hP
  replace hD : va_D A [cl_O ao 1 [.int (nI 32), .int (nI 0), .null, .null, .null, .int (nI 1), .int (nI 1), .int (nI 0), .long 0, .int (nI 0), .int (nI 0), .int (nI 0), .null, .int (nI 0), .null, .null, .int (nI 0), .int (nI 0), .int (nI 0), .int (nI 0), .null]] := hD
  refine lv_aload_n hx hb dX1_init_2_55 rfl (lv_at hl 0 rfl) ?_
  refine lv_iconst (v := nI 0) hx hb dX1_init_2_56 (by decide) ?_
  refine va_put (D := G.1) (ci := 1) (v := .int (nI 0)) (ty := .int) (C := RX1) (T := TX1) (N := 21) hx hb hts in_X1 tyX1 tyX1_ok nmX1 hown hK hP hD hS 0 rfl rfl 10 (by decide) (hts _ q145) (fun _ h9 => h9) rfl (tyX1_ok 10 (by decide)) rfl rfl (Nat.le_of_ble_eq_true rfl) dX1_init_2_57 ?_
  clear hP hD hS; intro H locs hP hD hS
  replace hP : va_P G.1 vwCl [cl_O ao 1 [.int (nI 32), .int (nI 0), .null, .null, .null, .int (nI 1), .int (nI 1), .int (nI 0), .long 0, .int (nI 0), .int (nI 0), .int (nI 0), .null, .int (nI 0), .null, .null, .int (nI 0), .int (nI 0), .int (nI 0), .int (nI 0), .null]] H := hP
  replace hD : va_D A [cl_O ao 1 [.int (nI 32), .int (nI 0), .null, .null, .null, .int (nI 1), .int (nI 1), .int (nI 0), .long 0, .int (nI 0), .int (nI 0), .int (nI 0), .null, .int (nI 0), .null, .null, .int (nI 0), .int (nI 0), .int (nI 0), .int (nI 0), .null]] := hD
  refine lv_aload_n hx hb dX1_init_2_60 rfl (lv_at hl 0 rfl) ?_
  refine lv_iconst (v := nI 0) hx hb dX1_init_2_61 (by decide) ?_
  refine va_put (D := G.1) (ci := 1) (v := .int (nI 0)) (ty := .boolean) (C := RX1) (T := TX1) (N := 21) hx hb hts in_X1 tyX1 tyX1_ok nmX1 hown hK hP hD hS 0 rfl rfl 11 (by decide) (hts _ q146) (fun _ h9 => h9) rfl (tyX1_ok 11 (by decide)) rfl rfl (Nat.le_of_ble_eq_true rfl) dX1_init_2_62 ?_
  clear hP hD hS; intro H locs hP hD hS
  replace hP : va_P G.1 vwCl [cl_O ao 1 [.int (nI 32), .int (nI 0), .null, .null, .null, .int (nI 1), .int (nI 1), .int (nI 0), .long 0, .int (nI 0), .int (nI 0), .int (nI 0), .null, .int (nI 0), .null, .null, .int (nI 0), .int (nI 0), .int (nI 0), .int (nI 0), .null]] H := hP
  replace hD : va_D A [cl_O ao 1 [.int (nI 32), .int (nI 0), .null, .null, .null, .int (nI 1), .int (nI 1), .int (nI 0), .long 0, .int (nI 0), .int (nI 0), .int (nI 0), .null, .int (nI 0), .null, .null, .int (nI 0), .int (nI 0), .int (nI 0), .int (nI 0), .null]] := hD
  refine lv_aload_n hx hb dX1_init_2_65 rfl (lv_at hl 0 rfl) ?_
  refine lv_bipush (v := nI 64) hx hb dX1_init_2_66 (by decide) ?_
  refine wd_newB hx hb (hts _ q118) hK hP hD hS hA (by decide) (Nat.le_of_ble_eq_true rfl) (Nat.le_of_ble_eq_true rfl) dX1_init_2_68 ?_
  clear hP hD hS; intro q_53 H hP hD hS
  replace hP : va_P G.1 vwCl [cl_O ao 1 [.int (nI 32), .int (nI 0), .null, .null, .null, .int (nI 1), .int (nI 1), .int (nI 0), .long 0, .int (nI 0), .int (nI 0), .int (nI 0), .null, .int (nI 0), .null, .null, .int (nI 0), .int (nI 0), .int (nI 0), .int (nI 0), .null], cl_B G q_53 64 (fun _ => 0)] H := hP
  replace hD : va_D A [cl_O ao 1 [.int (nI 32), .int (nI 0), .null, .null, .null, .int (nI 1), .int (nI 1), .int (nI 0), .long 0, .int (nI 0), .int (nI 0), .int (nI 0), .null, .int (nI 0), .null, .null, .int (nI 0), .int (nI 0), .int (nI 0), .int (nI 0), .null], cl_B G q_53 64 (fun _ => 0)] := hD
  refine va_putF (D := G.1) (ci := 1) (v := .ref q_53) (ty := .array .byte) (C := RX1) (T := TX1) (N := 21) hx hb hts in_X1 tyX1 tyX1_ok nmX1 hown hK hP hD hS 0 rfl rfl 12 (by decide) (hts _ q147) (fun _ h9 => h9) rfl hnm rfl (tyX1_ok 12 (by decide)) rfl rfl (Nat.le_of_ble_eq_true rfl) dX1_init_2_70 ?_
  clear hP hD hS; intro H locs hP hD hS
  replace hP : va_P G.1 vwCl [cl_O ao 1 [.int (nI 32), .int (nI 0), .null, .null, .null, .int (nI 1), .int (nI 1), .int (nI 0), .long 0, .int (nI 0), .int (nI 0), .int (nI 0), .ref q_53, .int (nI 0), .null, .null, .int (nI 0), .int (nI 0), .int (nI 0), .int (nI 0), .null], cl_B G q_53 64 (fun _ => 0)] H := hP
  replace hD : va_D A [cl_O ao 1 [.int (nI 32), .int (nI 0), .null, .null, .null, .int (nI 1), .int (nI 1), .int (nI 0), .long 0, .int (nI 0), .int (nI 0), .int (nI 0), .ref q_53, .int (nI 0), .null, .null, .int (nI 0), .int (nI 0), .int (nI 0), .int (nI 0), .null], cl_B G q_53 64 (fun _ => 0)] := hD
  refine lv_aload_n hx hb dX1_init_2_73 rfl (lv_at hl 0 rfl) ?_
  refine lv_iconst (v := nI 0) hx hb dX1_init_2_74 (by decide) ?_
  refine va_put (D := G.1) (ci := 1) (v := .int (nI 0)) (ty := .int) (C := RX1) (T := TX1) (N := 21) hx hb hts in_X1 tyX1 tyX1_ok nmX1 hown hK hP hD hS 0 rfl rfl 13 (by decide) (hts _ q148) (fun _ h9 => h9) rfl (tyX1_ok 13 (by decide)) rfl rfl (Nat.le_of_ble_eq_true rfl) dX1_init_2_75 ?_
  clear hP hD hS; intro H locs hP hD hS
  replace hP : va_P G.1 vwCl [cl_O ao 1 [.int (nI 32), .int (nI 0), .null, .null, .null, .int (nI 1), .int (nI 1), .int (nI 0), .long 0, .int (nI 0), .int (nI 0), .int (nI 0), .ref q_53, .int (nI 0), .null, .null, .int (nI 0), .int (nI 0), .int (nI 0), .int (nI 0), .null], cl_B G q_53 64 (fun _ => 0)] H := hP
  replace hD : va_D A [cl_O ao 1 [.int (nI 32), .int (nI 0), .null, .null, .null, .int (nI 1), .int (nI 1), .int (nI 0), .long 0, .int (nI 0), .int (nI 0), .int (nI 0), .ref q_53, .int (nI 0), .null, .null, .int (nI 0), .int (nI 0), .int (nI 0), .int (nI 0), .null], cl_B G q_53 64 (fun _ => 0)] := hD
  refine lv_aload_n hx hb dX1_init_2_78 rfl (lv_at hl 0 rfl) ?_
  refine lv_bipush (v := nI 16) hx hb dX1_init_2_79 (by decide) ?_
  refine wd_newI hx hb (hts _ q119) hK hP hD hS hA (by decide) (Nat.le_of_ble_eq_true rfl) (Nat.le_of_ble_eq_true rfl) dX1_init_2_81 ?_
  clear hP hD hS; intro q_54 H hP hD hS
  replace hP : va_P G.1 vwCl [cl_O ao 1 [.int (nI 32), .int (nI 0), .null, .null, .null, .int (nI 1), .int (nI 1), .int (nI 0), .long 0, .int (nI 0), .int (nI 0), .int (nI 0), .ref q_53, .int (nI 0), .null, .null, .int (nI 0), .int (nI 0), .int (nI 0), .int (nI 0), .null], cl_B G q_53 64 (fun _ => 0), cl_I G q_54 16 (fun _ => 0)] H := hP
  replace hD : va_D A [cl_O ao 1 [.int (nI 32), .int (nI 0), .null, .null, .null, .int (nI 1), .int (nI 1), .int (nI 0), .long 0, .int (nI 0), .int (nI 0), .int (nI 0), .ref q_53, .int (nI 0), .null, .null, .int (nI 0), .int (nI 0), .int (nI 0), .int (nI 0), .null], cl_B G q_53 64 (fun _ => 0), cl_I G q_54 16 (fun _ => 0)] := hD
  refine va_putF (D := G.1) (ci := 1) (v := .ref q_54) (ty := .array .int) (C := RX1) (T := TX1) (N := 21) hx hb hts in_X1 tyX1 tyX1_ok nmX1 hown hK hP hD hS 0 rfl rfl 14 (by decide) (hts _ q149) (fun _ h9 => h9) rfl hnm rfl (tyX1_ok 14 (by decide)) rfl rfl (Nat.le_of_ble_eq_true rfl) dX1_init_2_83 ?_
  clear hP hD hS; intro H locs hP hD hS
  replace hP : va_P G.1 vwCl [cl_O ao 1 [.int (nI 32), .int (nI 0), .null, .null, .null, .int (nI 1), .int (nI 1), .int (nI 0), .long 0, .int (nI 0), .int (nI 0), .int (nI 0), .ref q_53, .int (nI 0), .ref q_54, .null, .int (nI 0), .int (nI 0), .int (nI 0), .int (nI 0), .null], cl_B G q_53 64 (fun _ => 0), cl_I G q_54 16 (fun _ => 0)] H := hP
  replace hD : va_D A [cl_O ao 1 [.int (nI 32), .int (nI 0), .null, .null, .null, .int (nI 1), .int (nI 1), .int (nI 0), .long 0, .int (nI 0), .int (nI 0), .int (nI 0), .ref q_53, .int (nI 0), .ref q_54, .null, .int (nI 0), .int (nI 0), .int (nI 0), .int (nI 0), .null], cl_B G q_53 64 (fun _ => 0), cl_I G q_54 16 (fun _ => 0)] := hD
  refine lv_aload_n hx hb dX1_init_2_86 rfl (lv_at hl 0 rfl) ?_
  refine lv_bipush (v := nI 8) hx hb dX1_init_2_87 (by decide) ?_
  refine wd_newI hx hb (hts _ q119) hK hP hD hS hA (by decide) (Nat.le_of_ble_eq_true rfl) (Nat.le_of_ble_eq_true rfl) dX1_init_2_89 ?_
  clear hP hD hS; intro q_55 H hP hD hS
  replace hP : va_P G.1 vwCl [cl_O ao 1 [.int (nI 32), .int (nI 0), .null, .null, .null, .int (nI 1), .int (nI 1), .int (nI 0), .long 0, .int (nI 0), .int (nI 0), .int (nI 0), .ref q_53, .int (nI 0), .ref q_54, .null, .int (nI 0), .int (nI 0), .int (nI 0), .int (nI 0), .null], cl_B G q_53 64 (fun _ => 0), cl_I G q_54 16 (fun _ => 0), cl_I G q_55 8 (fun _ => 0)] H := hP
  replace hD : va_D A [cl_O ao 1 [.int (nI 32), .int (nI 0), .null, .null, .null, .int (nI 1), .int (nI 1), .int (nI 0), .long 0, .int (nI 0), .int (nI 0), .int (nI 0), .ref q_53, .int (nI 0), .ref q_54, .null, .int (nI 0), .int (nI 0), .int (nI 0), .int (nI 0), .null], cl_B G q_53 64 (fun _ => 0), cl_I G q_54 16 (fun _ => 0), cl_I G q_55 8 (fun _ => 0)] := hD
  refine va_putF (D := G.1) (ci := 1) (v := .ref q_55) (ty := .array .int) (C := RX1) (T := TX1) (N := 21) hx hb hts in_X1 tyX1 tyX1_ok nmX1 hown hK hP hD hS 0 rfl rfl 15 (by decide) (hts _ q150) (fun _ h9 => h9) rfl hnm rfl (tyX1_ok 15 (by decide)) rfl rfl (Nat.le_of_ble_eq_true rfl) dX1_init_2_91 ?_
  clear hP hD hS; intro H locs hP hD hS
  replace hP : va_P G.1 vwCl [cl_O ao 1 [.int (nI 32), .int (nI 0), .null, .null, .null, .int (nI 1), .int (nI 1), .int (nI 0), .long 0, .int (nI 0), .int (nI 0), .int (nI 0), .ref q_53, .int (nI 0), .ref q_54, .ref q_55, .int (nI 0), .int (nI 0), .int (nI 0), .int (nI 0), .null], cl_B G q_53 64 (fun _ => 0), cl_I G q_54 16 (fun _ => 0), cl_I G q_55 8 (fun _ => 0)] H := hP
  replace hD : va_D A [cl_O ao 1 [.int (nI 32), .int (nI 0), .null, .null, .null, .int (nI 1), .int (nI 1), .int (nI 0), .long 0, .int (nI 0), .int (nI 0), .int (nI 0), .ref q_53, .int (nI 0), .ref q_54, .ref q_55, .int (nI 0), .int (nI 0), .int (nI 0), .int (nI 0), .null], cl_B G q_53 64 (fun _ => 0), cl_I G q_54 16 (fun _ => 0), cl_I G q_55 8 (fun _ => 0)] := hD
  refine lv_aload_n hx hb dX1_init_2_94 rfl (lv_at hl 0 rfl) ?_
  refine lv_iconst (v := nI 0) hx hb dX1_init_2_95 (by decide) ?_
  refine va_put (D := G.1) (ci := 1) (v := .int (nI 0)) (ty := .int) (C := RX1) (T := TX1) (N := 21) hx hb hts in_X1 tyX1 tyX1_ok nmX1 hown hK hP hD hS 0 rfl rfl 16 (by decide) (hts _ q151) (fun _ h9 => h9) rfl (tyX1_ok 16 (by decide)) rfl rfl (Nat.le_of_ble_eq_true rfl) dX1_init_2_96 ?_
  clear hP hD hS; intro H locs hP hD hS
  replace hP : va_P G.1 vwCl [cl_O ao 1 [.int (nI 32), .int (nI 0), .null, .null, .null, .int (nI 1), .int (nI 1), .int (nI 0), .long 0, .int (nI 0), .int (nI 0), .int (nI 0), .ref q_53, .int (nI 0), .ref q_54, .ref q_55, .int (nI 0), .int (nI 0), .int (nI 0), .int (nI 0), .null], cl_B G q_53 64 (fun _ => 0), cl_I G q_54 16 (fun _ => 0), cl_I G q_55 8 (fun _ => 0)] H := hP
  replace hD : va_D A [cl_O ao 1 [.int (nI 32), .int (nI 0), .null, .null, .null, .int (nI 1), .int (nI 1), .int (nI 0), .long 0, .int (nI 0), .int (nI 0), .int (nI 0), .ref q_53, .int (nI 0), .ref q_54, .ref q_55, .int (nI 0), .int (nI 0), .int (nI 0), .int (nI 0), .null], cl_B G q_53 64 (fun _ => 0), cl_I G q_54 16 (fun _ => 0), cl_I G q_55 8 (fun _ => 0)] := hD
  refine lv_aload_n hx hb dX1_init_2_99 rfl (lv_at hl 0 rfl) ?_
  refine lv_iconst (v := nI 0) hx hb dX1_init_2_100 (by decide) ?_
  refine va_put (D := G.1) (ci := 1) (v := .int (nI 0)) (ty := .int) (C := RX1) (T := TX1) (N := 21) hx hb hts in_X1 tyX1 tyX1_ok nmX1 hown hK hP hD hS 0 rfl rfl 17 (by decide) (hts _ q152) (fun _ h9 => h9) rfl (tyX1_ok 17 (by decide)) rfl rfl (Nat.le_of_ble_eq_true rfl) dX1_init_2_101 ?_
  clear hP hD hS; intro H locs hP hD hS
  replace hP : va_P G.1 vwCl [cl_O ao 1 [.int (nI 32), .int (nI 0), .null, .null, .null, .int (nI 1), .int (nI 1), .int (nI 0), .long 0, .int (nI 0), .int (nI 0), .int (nI 0), .ref q_53, .int (nI 0), .ref q_54, .ref q_55, .int (nI 0), .int (nI 0), .int (nI 0), .int (nI 0), .null], cl_B G q_53 64 (fun _ => 0), cl_I G q_54 16 (fun _ => 0), cl_I G q_55 8 (fun _ => 0)] H := hP
  replace hD : va_D A [cl_O ao 1 [.int (nI 32), .int (nI 0), .null, .null, .null, .int (nI 1), .int (nI 1), .int (nI 0), .long 0, .int (nI 0), .int (nI 0), .int (nI 0), .ref q_53, .int (nI 0), .ref q_54, .ref q_55, .int (nI 0), .int (nI 0), .int (nI 0), .int (nI 0), .null], cl_B G q_53 64 (fun _ => 0), cl_I G q_54 16 (fun _ => 0), cl_I G q_55 8 (fun _ => 0)] := hD
  refine lv_aload_n hx hb dX1_init_2_104 rfl (lv_at hl 0 rfl) ?_
  refine lv_iconst (v := nI 0) hx hb dX1_init_2_105 (by decide) ?_
  refine va_put (D := G.1) (ci := 1) (v := .int (nI 0)) (ty := .int) (C := RX1) (T := TX1) (N := 21) hx hb hts in_X1 tyX1 tyX1_ok nmX1 hown hK hP hD hS 0 rfl rfl 18 (by decide) (hts _ q153) (fun _ h9 => h9) rfl (tyX1_ok 18 (by decide)) rfl rfl (Nat.le_of_ble_eq_true rfl) dX1_init_2_106 ?_
  clear hP hD hS; intro H locs hP hD hS
  replace hP : va_P G.1 vwCl [cl_O ao 1 [.int (nI 32), .int (nI 0), .null, .null, .null, .int (nI 1), .int (nI 1), .int (nI 0), .long 0, .int (nI 0), .int (nI 0), .int (nI 0), .ref q_53, .int (nI 0), .ref q_54, .ref q_55, .int (nI 0), .int (nI 0), .int (nI 0), .int (nI 0), .null], cl_B G q_53 64 (fun _ => 0), cl_I G q_54 16 (fun _ => 0), cl_I G q_55 8 (fun _ => 0)] H := hP
  replace hD : va_D A [cl_O ao 1 [.int (nI 32), .int (nI 0), .null, .null, .null, .int (nI 1), .int (nI 1), .int (nI 0), .long 0, .int (nI 0), .int (nI 0), .int (nI 0), .ref q_53, .int (nI 0), .ref q_54, .ref q_55, .int (nI 0), .int (nI 0), .int (nI 0), .int (nI 0), .null], cl_B G q_53 64 (fun _ => 0), cl_I G q_54 16 (fun _ => 0), cl_I G q_55 8 (fun _ => 0)] := hD
  refine lv_aload_n hx hb dX1_init_2_109 rfl (lv_at hl 0 rfl) ?_
  refine lv_iconst (v := nI 0) hx hb dX1_init_2_110 (by decide) ?_
  refine va_put (D := G.1) (ci := 1) (v := .int (nI 0)) (ty := .int) (C := RX1) (T := TX1) (N := 21) hx hb hts in_X1 tyX1 tyX1_ok nmX1 hown hK hP hD hS 0 rfl rfl 19 (by decide) (hts _ q154) (fun _ h9 => h9) rfl (tyX1_ok 19 (by decide)) rfl rfl (Nat.le_of_ble_eq_true rfl) dX1_init_2_111 ?_
  clear hP hD hS; intro H locs hP hD hS
  replace hP : va_P G.1 vwCl [cl_O ao 1 [.int (nI 32), .int (nI 0), .null, .null, .null, .int (nI 1), .int (nI 1), .int (nI 0), .long 0, .int (nI 0), .int (nI 0), .int (nI 0), .ref q_53, .int (nI 0), .ref q_54, .ref q_55, .int (nI 0), .int (nI 0), .int (nI 0), .int (nI 0), .null], cl_B G q_53 64 (fun _ => 0), cl_I G q_54 16 (fun _ => 0), cl_I G q_55 8 (fun _ => 0)] H := hP
  replace hD : va_D A [cl_O ao 1 [.int (nI 32), .int (nI 0), .null, .null, .null, .int (nI 1), .int (nI 1), .int (nI 0), .long 0, .int (nI 0), .int (nI 0), .int (nI 0), .ref q_53, .int (nI 0), .ref q_54, .ref q_55, .int (nI 0), .int (nI 0), .int (nI 0), .int (nI 0), .null], cl_B G q_53 64 (fun _ => 0), cl_I G q_54 16 (fun _ => 0), cl_I G q_55 8 (fun _ => 0)] := hD
  refine lv_iload_n hx hb dX1_init_2_114 rfl (lv_at hl 1 rfl) ?_
  refine lv_bipush (v := nI 8) hx hb dX1_init_2_115 (by decide) ?_
  refine wd_lt (tgt := 134) hx hb dX1_init_2_117 (by decide) (by omega) (by omega) (fun c_1 => absurd c_1 (by omega)) (fun c_1 => ?_)
  refine lv_iload_n hx hb dX1_init_2_120 rfl (lv_at hl 1 rfl) ?_
  refine lv_sipush (v := nI 256) hx hb dX1_init_2_121 (by decide) ?_
  refine wd_gt (tgt := 134) hx hb dX1_init_2_124 (by decide) (by omega) (by omega) (fun c_1 => absurd c_1 (by omega)) (fun c_1 => ?_)
  refine lv_iload_n hx hb dX1_init_2_127 rfl (lv_at hl 1 rfl) ?_
  refine lv_bipush (v := nI 8) hx hb dX1_init_2_128 (by decide) ?_
  refine wd_iremN hx hb dX1_init_2_130 (by omega) (by omega) (by omega) ?_
  refine wd_ifeq (tgt := 144) hx hb dX1_init_2_131 (by decide) (by omega) (fun c_1 => ?_) (fun c_1 => absurd c_1 (by omega))
  refine lv_aload_n hx hb dX1_init_2_144 rfl (lv_at hl 0 rfl) ?_
  refine lv_iload_n hx hb dX1_init_2_145 rfl (lv_at hl 1 rfl) ?_
  refine lv_bipush (v := nI 8) hx hb dX1_init_2_146 (by decide) ?_
  refine wd_idivN hx hb dX1_init_2_148 (by omega) (by omega) (by omega) ?_
  refine lv_eqi (y := nI d) (by rw [show 8 * d / 8 = d by omega]) ?_
  refine va_put (D := G.1) (ci := 1) (v := .int (nI d)) (ty := .int) (C := RX1) (T := TX1) (N := 21) hx hb hts in_X1 tyX1 tyX1_ok nmX1 hown hK hP hD hS 0 rfl rfl 0 (by decide) (hts _ q135) (fun _ h9 => h9) rfl (tyX1_ok 0 (by decide)) rfl rfl (Nat.le_of_ble_eq_true rfl) dX1_init_2_149 ?_
  clear hP hD hS; intro H locs hP hD hS
  replace hP : va_P G.1 vwCl [cl_O ao 1 [.int (nI d), .int (nI 0), .null, .null, .null, .int (nI 1), .int (nI 1), .int (nI 0), .long 0, .int (nI 0), .int (nI 0), .int (nI 0), .ref q_53, .int (nI 0), .ref q_54, .ref q_55, .int (nI 0), .int (nI 0), .int (nI 0), .int (nI 0), .null], cl_B G q_53 64 (fun _ => 0), cl_I G q_54 16 (fun _ => 0), cl_I G q_55 8 (fun _ => 0)] H := hP
  replace hD : va_D A [cl_O ao 1 [.int (nI d), .int (nI 0), .null, .null, .null, .int (nI 1), .int (nI 1), .int (nI 0), .long 0, .int (nI 0), .int (nI 0), .int (nI 0), .ref q_53, .int (nI 0), .ref q_54, .ref q_55, .int (nI 0), .int (nI 0), .int (nI 0), .int (nI 0), .null], cl_B G q_53 64 (fun _ => 0), cl_I G q_54 16 (fun _ => 0), cl_I G q_55 8 (fun _ => 0)] := hD
  refine lv_aload_n hx hb dX1_init_2_152 rfl (lv_at hl 0 rfl) ?_
  refine lv_aload_n hx hb dX1_init_2_153 rfl (lv_at hl 2 rfl) ?_
  refine va_putF (D := G.1) (ci := 1) (v := .ref aP) (ty := .object "CryptoServicePurpose") (C := RX1) (T := TX1) (N := 21) hx hb hts in_X1 tyX1 tyX1_ok nmX1 hown hK hP hD hS 0 rfl rfl 20 (by decide) (hts _ q155) (fun _ h9 => h9) rfl hnm rfl (tyX1_ok 20 (by decide)) rfl rfl (Nat.le_of_ble_eq_true rfl) dX1_init_2_154 ?_
  clear hP hD hS; intro H locs hP hD hS
  replace hP : va_P G.1 vwCl [cl_O ao 1 (bk_fs (nI d) (nI 0) (nI 0) (nI 0) q_53 q_54 q_55 aP), cl_B G q_53 64 (fun _ => 0), cl_I G q_54 16 (fun _ => 0), cl_I G q_55 8 (fun _ => 0)] H := hP
  replace hD : va_D A [cl_O ao 1 (bk_fs (nI d) (nI 0) (nI 0) (nI 0) q_53 q_54 q_55 aP), cl_B G q_53 64 (fun _ => 0), cl_I G q_54 16 (fun _ => 0), cl_I G q_55 8 (fun _ => 0)] := hD
  refine lv_aload_n hx hb dX1_init_2_157 rfl (lv_at hl 0 rfl) ?_
  refine lv_null hx hb dX1_init_2_158 ?_
  refine lv_null hx hb dX1_init_2_159 ?_
  refine lv_null hx hb dX1_init_2_160 ?_
  refine wd_callv (wr := [cl_B G q_53 64 (fun _ => 0), cl_I G q_54 16 (fun _ => 0)]) (va_runV (As := [.null, .null, .null]) (rest := []) ⟨hx, hb, hml, hown, hts⟩ (met_X1_ini l G ao q_53 q_54 q_55 aP d (nI 0) (nI 0) (nI 0) (fun _ => 0) hd H.size) (cwV 3 hts (lw_V q120 q122 qs1 q16 q123) rfl rfl rfl (by decide +kernel) ⟨Nat.le_of_ble_eq_true rfl, Nat.le_of_ble_eq_true rfl⟩) (wd_preV hK hZ hP hD hS hA [0, 3] (by decide) rfl 0 1 rfl rfl) rfl rfl hl.1 rfl (lv_room (Nat.le_of_ble_eq_true rfl)) dX1_init_2_161 ⟨Nat.le_of_ble_eq_true rfl, Nat.le_of_ble_eq_true rfl⟩) hP hD hS hA [0, 3] [1, 2] rfl rfl (by decide) (by decide) ?_
  intro u_56 hu_56
  clear hP hD hS; intro H locs hP hD hS
  replace hP : va_P G.1 vwCl [cl_O ao 1 (bk_fs (nI d) (nI 0) (nI 0) (nI 0) q_53 q_54 q_55 aP), cl_B G q_53 64 (fun _ => 0), cl_I G q_54 16 (fun _ => 0), cl_I G q_55 8 ((ivH d))] H := wd_psub hP [2, 0, 1, 3] rfl
  replace hD : va_D A [cl_O ao 1 (bk_fs (nI d) (nI 0) (nI 0) (nI 0) q_53 q_54 q_55 aP), cl_B G q_53 64 (fun _ => 0), cl_I G q_54 16 (fun _ => 0), cl_I G q_55 8 ((ivH d))] := hD.sub [2, 0, 1, 3] (by decide) rfl
  exact wd_vret hx hb hr hlk (q_53, q_54, q_55) trivial hP hD hS dX1_init_2_164
set_option maxHeartbeats 4000000 in
set_option maxRecDepth 100000 in
/-- new Blake2sDigest(8 d) -/
theorem met_X1_new (l : Launch) (G : wd_G) (ao d : Nat) (hd : dOK d) (sz : Nat) : Met l yX1_init (ws_ yX1_init cX1_init 2 none) ({ frames := 2, cells := 3, slots := 88, locals := 47 }) (va_Pc [.ref ao, .int (nI (8 * d))] (wd_Pre G [cl_O ao 1 [.int (nI 0), .int (nI 0), .null, .null, .null, .int (nI 0), .int (nI 0), .int (nI 0), .long 0, .int (nI 0), .int (nI 0), .int (nI 0), .null, .int (nI 0), .null, .null, .int (nI 0), .int (nI 0), .int (nI 0), .int (nI 0), .null]] sz)) (wd_Qv G (fun _ : Nat × Nat × Nat × Nat => True) (fun u => [cl_O ao 1 (bk_fs (nI d) (nI 0) (nI 0) (nI 0) u.1 u.2.1 u.2.2.1 u.2.2.2), cl_B G u.1 64 (fun _ => 0), cl_I G u.2.1 16 (fun _ => 0), cl_I G u.2.2.1 8 (ivH d)]) (va_A [cl_O ao 1 [.int (nI 0), .int (nI 0), .null, .null, .null, .int (nI 0), .int (nI 0), .int (nI 0), .long 0, .int (nI 0), .int (nI 0), .int (nI 0), .null, .int (nI 0), .null, .null, .int (nI 0), .int (nI 0), .int (nI 0), .int (nI 0), .null]] sz)) 3 88 (va_A [cl_O ao 1 [.int (nI 0), .int (nI 0), .null, .null, .null, .int (nI 0), .int (nI 0), .int (nI 0), .long 0, .int (nI 0), .int (nI 0), .int (nI 0), .null, .int (nI 0), .null, .null, .int (nI 0), .int (nI 0), .int (nI 0), .int (nI 0), .null]] sz) := by
  refine wd_ofW (Qc := fun A => wd_Qv G (fun _ : Nat × Nat × Nat × Nat => True) (fun u => [cl_O ao 1 (bk_fs (nI d) (nI 0) (nI 0) (nI 0) u.1 u.2.1 u.2.2.1 u.2.2.2), cl_B G u.1 64 (fun _ => 0), cl_I G u.2.1 16 (fun _ => 0), cl_I G u.2.2.1 8 (ivH d)]) A) (by decide) (Nat.le_of_ble_eq_true rfl) ?_
  intro p e s m below meth c A ls hx hb hr hml hown hlk hnm hts hK hZ hP hD hS hA hl
  replace hown : s.vm.findClass RX1 = some m.cls := hown
  replace hl : lv_has ls 2 [(0, .ref ao), (1, .int (nI (8 * d)))] := hl
  replace hnm : meth.name = "<init>" := hnm
  obtain ⟨⟨tIV, zIV, hIV⟩, ⟨tSG, rSG, zSG, hSG, hSGr⟩, ⟨tFI, zFI, hFI⟩, ⟨tOR, rOR, zOR, hOR, hORr⟩, ⟨tWO, rWO, zWO, hWO, hWOr⟩, ⟨tSZ, zSZ, hSZ⟩, ⟨tAN, zAN⟩, hFw1, hFw2, hFw3, hFw4⟩ := id hZ
  refine lv_aload_n hx hb dX1_init_0 rfl (lv_at hl 0 rfl) ?_
  refine lv_iload_n hx hb dX1_init_1 rfl (lv_at hl 1 rfl) ?_
  refine va_gets hx hb zAN hS hown (hts _ q46) (fun _ h9 => h9) dX1_init_2 ?_
  refine wd_callv (wr := []) (va_runI (As := [.int (nI (8 * d)), .ref tAN]) (rest := []) ⟨hx, hb, hml, hown, hts⟩ (met_X1_new2 l G ao tAN d hd s.heap.size) (cwI 2 hts (lw_meth q50) rfl rfl rfl (hts _ q16) (hts _ q48) (hts _ q49) rfl (by decide +kernel) ⟨Nat.le_of_ble_eq_true rfl, Nat.le_of_ble_eq_true rfl⟩) (wd_preS hK hZ hP hD hS hA [0] (by decide) rfl) rfl rfl hl.1 rfl (lv_room (Nat.le_of_ble_eq_true rfl)) dX1_init_5 ⟨Nat.le_of_ble_eq_true rfl, Nat.le_of_ble_eq_true rfl⟩) hP hD hS hA [0] [] rfl rfl (by decide) (by decide) ?_
  intro u_57 hu_57
  obtain ⟨aB, aI, aC⟩ := u_57
  clear hP hD hS; intro H locs hP hD hS
  replace hP : va_P G.1 vwCl [cl_O ao 1 (bk_fs (nI d) (nI 0) (nI 0) (nI 0) aB aI aC tAN), cl_B G aB 64 (fun _ => 0), cl_I G aI 16 (fun _ => 0), cl_I G aC 8 ((ivH d))] H := wd_psub hP [0, 1, 2, 3] rfl
  replace hD : va_D A [cl_O ao 1 (bk_fs (nI d) (nI 0) (nI 0) (nI 0) aB aI aC tAN), cl_B G aB 64 (fun _ => 0), cl_I G aI 16 (fun _ => 0), cl_I G aC 8 ((ivH d))] := hD.sub [0, 1, 2, 3] (by decide) rfl
  exact wd_vret hx hb hr hlk (aB, aI, aC, tAN) trivial hP hD hS dX1_init_8
set_option maxHeartbeats 4000000 in
set_option maxRecDepth 100000 in
/-- Blake2sDigest.reset -/
theorem met_X1_res (l : Launch) (G : wd_G) (ao aB aI aC aP : Nat) (d : Nat) (bp t0 f0 : Int32) (bf v ch : Nat → Int32) (hd : dOK d) (sz : Nat) : Met l yX1_reset (ws_ yX1_reset cX1_reset 1 none) ({ frames := 2, cells := 0, slots := 0, locals := 44 }) (va_Pc [.ref ao] (wd_Pre G [cl_O ao 1 (bk_fs (nI d) bp t0 f0 aB aI aC aP), cl_B G aB 64 bf, cl_I G aI 16 v, cl_I G aC 8 ch] sz)) (wd_Qv G (fun _ : Unit => True) (fun _ => [cl_O ao 1 (bk_fs (nI d) (nI 0) (nI 0) (nI 0) aB aI aC aP), cl_B G aB 64 (fun _ => 0), cl_I G aI 16 (fun _ => 0), cl_I G aC 8 ((ivH d))]) (va_A [cl_O ao 1 (bk_fs (nI d) bp t0 f0 aB aI aC aP), cl_B G aB 64 bf, cl_I G aI 16 v, cl_I G aC 8 ch] sz)) 0 0 (va_A [cl_O ao 1 (bk_fs (nI d) bp t0 f0 aB aI aC aP), cl_B G aB 64 bf, cl_I G aI 16 v, cl_I G aC 8 ch] sz) := by
  refine wd_ofW (Qc := fun A => wd_Qv G (fun _ : Unit => True) (fun _ => [cl_O ao 1 (bk_fs (nI d) (nI 0) (nI 0) (nI 0) aB aI aC aP), cl_B G aB 64 (fun _ => 0), cl_I G aI 16 (fun _ => 0), cl_I G aC 8 ((ivH d))]) A) (by decide) (Nat.le_of_ble_eq_true rfl) ?_
  intro p e s m below meth c A ls hx hb hr hml hown hlk hnm hts hK hZ hP hD hS hA hl
  replace hown : s.vm.findClass RX1 = some m.cls := hown
  replace hl : lv_has ls 1 [(0, .ref ao)] := hl
  refine lv_aload_n hx hb dX1_reset_0 rfl (lv_at hl 0 rfl) ?_
  refine lv_iconst (v := nI 0) hx hb dX1_reset_1 (by decide) ?_
  refine va_put (D := G.1) (ci := 1) (v := .int (nI 0)) (ty := .int) (C := RX1) (T := TX1) (N := 21) hx hb hts in_X1 tyX1 tyX1_ok nmX1 hown hK hP hD hS 0 rfl rfl 13 (by decide) (hts _ q148) (fun _ h9 => h9) rfl (tyX1_ok 13 (by decide)) rfl rfl (Nat.le_of_ble_eq_true rfl) dX1_reset_2 ?_
  clear hP hD hS; intro H locs hP hD hS
  replace hP : va_P G.1 vwCl [cl_O ao 1 (bk_fs (nI d) (nI 0) t0 f0 aB aI aC aP), cl_B G aB 64 bf, cl_I G aI 16 v, cl_I G aC 8 ch] H := hP
  replace hD : va_D A [cl_O ao 1 (bk_fs (nI d) (nI 0) t0 f0 aB aI aC aP), cl_B G aB 64 bf, cl_I G aI 16 v, cl_I G aC 8 ch] := hD
  refine lv_aload_n hx hb dX1_reset_5 rfl (lv_at hl 0 rfl) ?_
  refine lv_iconst (v := nI 0) hx hb dX1_reset_6 (by decide) ?_
  refine va_put (D := G.1) (ci := 1) (v := .int (nI 0)) (ty := .int) (C := RX1) (T := TX1) (N := 21) hx hb hts in_X1 tyX1 tyX1_ok nmX1 hown hK hP hD hS 0 rfl rfl 18 (by decide) (hts _ q153) (fun _ h9 => h9) rfl (tyX1_ok 18 (by decide)) rfl rfl (Nat.le_of_ble_eq_true rfl) dX1_reset_7 ?_
  clear hP hD hS; intro H locs hP hD hS
  replace hP : va_P G.1 vwCl [cl_O ao 1 (bk_fs (nI d) (nI 0) t0 (nI 0) aB aI aC aP), cl_B G aB 64 bf, cl_I G aI 16 v, cl_I G aC 8 ch] H := hP
  replace hD : va_D A [cl_O ao 1 (bk_fs (nI d) (nI 0) t0 (nI 0) aB aI aC aP), cl_B G aB 64 bf, cl_I G aI 16 v, cl_I G aC 8 ch] := hD
  refine lv_aload_n hx hb dX1_reset_10 rfl (lv_at hl 0 rfl) ?_
  refine lv_iconst (v := nI 0) hx hb dX1_reset_11 (by decide) ?_
  refine va_put (D := G.1) (ci := 1) (v := .int (nI 0)) (ty := .int) (C := RX1) (T := TX1) (N := 21) hx hb hts in_X1 tyX1 tyX1_ok nmX1 hown hK hP hD hS 0 rfl rfl 19 (by decide) (hts _ q154) (fun _ h9 => h9) rfl (tyX1_ok 19 (by decide)) rfl rfl (Nat.le_of_ble_eq_true rfl) dX1_reset_12 ?_
  clear hP hD hS; intro H locs hP hD hS
  replace hP : va_P G.1 vwCl [cl_O ao 1 (bk_fs (nI d) (nI 0) t0 (nI 0) aB aI aC aP), cl_B G aB 64 bf, cl_I G aI 16 v, cl_I G aC 8 ch] H := hP
  replace hD : va_D A [cl_O ao 1 (bk_fs (nI d) (nI 0) t0 (nI 0) aB aI aC aP), cl_B G aB 64 bf, cl_I G aI 16 v, cl_I G aC 8 ch] := hD
  refine lv_aload_n hx hb dX1_reset_15 rfl (lv_at hl 0 rfl) ?_
  refine lv_iconst (v := nI 0) hx hb dX1_reset_16 (by decide) ?_
  refine va_put (D := G.1) (ci := 1) (v := .int (nI 0)) (ty := .int) (C := RX1) (T := TX1) (N := 21) hx hb hts in_X1 tyX1 tyX1_ok nmX1 hown hK hP hD hS 0 rfl rfl 16 (by decide) (hts _ q151) (fun _ h9 => h9) rfl (tyX1_ok 16 (by decide)) rfl rfl (Nat.le_of_ble_eq_true rfl) dX1_reset_17 ?_
  clear hP hD hS; intro H locs hP hD hS
  replace hP : va_P G.1 vwCl [cl_O ao 1 (bk_fs (nI d) (nI 0) (nI 0) (nI 0) aB aI aC aP), cl_B G aB 64 bf, cl_I G aI 16 v, cl_I G aC 8 ch] H := hP
  replace hD : va_D A [cl_O ao 1 (bk_fs (nI d) (nI 0) (nI 0) (nI 0) aB aI aC aP), cl_B G aB 64 bf, cl_I G aI 16 v, cl_I G aC 8 ch] := hD
  refine lv_aload_n hx hb dX1_reset_20 rfl (lv_at hl 0 rfl) ?_
  refine lv_iconst (v := nI 0) hx hb dX1_reset_21 (by decide) ?_
  refine va_put (D := G.1) (ci := 1) (v := .int (nI 0)) (ty := .int) (C := RX1) (T := TX1) (N := 21) hx hb hts in_X1 tyX1 tyX1_ok nmX1 hown hK hP hD hS 0 rfl rfl 17 (by decide) (hts _ q152) (fun _ h9 => h9) rfl (tyX1_ok 17 (by decide)) rfl rfl (Nat.le_of_ble_eq_true rfl) dX1_reset_22 ?_
  clear hP hD hS; intro H locs hP hD hS
  replace hP : va_P G.1 vwCl [cl_O ao 1 (bk_fs (nI d) (nI 0) (nI 0) (nI 0) aB aI aC aP), cl_B G aB 64 bf, cl_I G aI 16 v, cl_I G aC 8 ch] H := hP
  replace hD : va_D A [cl_O ao 1 (bk_fs (nI d) (nI 0) (nI 0) (nI 0) aB aI aC aP), cl_B G aB 64 bf, cl_I G aI 16 v, cl_I G aC 8 ch] := hD
  refine lv_aload_n hx hb dX1_reset_25 rfl (lv_at hl 0 rfl) ?_
  refine lv_iconst (v := nI 0) hx hb dX1_reset_26 (by decide) ?_
  refine va_put (D := G.1) (ci := 1) (v := .int (nI 0)) (ty := .boolean) (C := RX1) (T := TX1) (N := 21) hx hb hts in_X1 tyX1 tyX1_ok nmX1 hown hK hP hD hS 0 rfl rfl 11 (by decide) (hts _ q146) (fun _ h9 => h9) rfl (tyX1_ok 11 (by decide)) rfl rfl (Nat.le_of_ble_eq_true rfl) dX1_reset_27 ?_
  clear hP hD hS; intro H locs hP hD hS
  replace hP : va_P G.1 vwCl [cl_O ao 1 (bk_fs (nI d) (nI 0) (nI 0) (nI 0) aB aI aC aP), cl_B G aB 64 bf, cl_I G aI 16 v, cl_I G aC 8 ch] H := hP
  replace hD : va_D A [cl_O ao 1 (bk_fs (nI d) (nI 0) (nI 0) (nI 0) aB aI aC aP), cl_B G aB 64 bf, cl_I G aI 16 v, cl_I G aC 8 ch] := hD
  refine lv_aload_n hx hb dX1_reset_30 rfl (lv_at hl 0 rfl) ?_
  refine va_get (D := G.1) (ci := 1) (v := .ref aI) (C := RX1) (T := TX1) (N := 21) hx hb hts in_X1 hown hK hP 0 rfl rfl 14 (by decide) (hts _ q149) (fun _ h9 => h9) rfl dX1_reset_31 ?_
  refine lv_iconst (v := nI 0) hx hb dX1_reset_34 (by decide) ?_
  refine wd_callv (wr := [cl_O ao 1 (bk_fs (nI d) (nI 0) (nI 0) (nI 0) aB aI aC aP), cl_B G aB 64 bf, cl_I G aC 8 ch]) (va_runS (As := [.ref aI, .int (nI 0)]) (rest := []) ⟨hx, hb, hml, hown, hts⟩ (met_X5_fill_2 l G aI 16 (by decide) v H.size) (va_cwS 2 hts (lw_S q358 q359 q28 q360) rfl rfl rfl (by decide +kernel) ⟨Nat.le_of_ble_eq_true rfl, Nat.le_of_ble_eq_true rfl⟩) (wd_preS hK hZ hP hD hS hA [2] (by decide) rfl) rfl rfl hl.1 rfl (lv_room (Nat.le_of_ble_eq_true rfl)) dX1_reset_35 ⟨Nat.le_of_ble_eq_true rfl, Nat.le_of_ble_eq_true rfl⟩) hP hD hS hA [2] [0, 1, 3] rfl rfl (by decide) (by decide) ?_
  intro u_58 hu_58
  clear hP hD hS; intro H locs hP hD hS
  replace hP : va_P G.1 vwCl [cl_O ao 1 (bk_fs (nI d) (nI 0) (nI 0) (nI 0) aB aI aC aP), cl_B G aB 64 bf, cl_I G aI 16 (fun _ => 0), cl_I G aC 8 ch] H := wd_psub hP [0, 1, 3, 2] rfl
  replace hD : va_D A [cl_O ao 1 (bk_fs (nI d) (nI 0) (nI 0) (nI 0) aB aI aC aP), cl_B G aB 64 bf, cl_I G aI 16 (fun _ => 0), cl_I G aC 8 ch] := hD.sub [0, 1, 3, 2] (by decide) rfl
  refine lv_aload_n hx hb dX1_reset_38 rfl (lv_at hl 0 rfl) ?_
  refine va_get (D := G.1) (ci := 1) (v := .ref aB) (C := RX1) (T := TX1) (N := 21) hx hb hts in_X1 hown hK hP 0 rfl rfl 12 (by decide) (hts _ q147) (fun _ h9 => h9) rfl dX1_reset_39 ?_
  refine lv_iconst (v := nI 0) hx hb dX1_reset_42 (by decide) ?_
  refine wd_callv (wr := [cl_O ao 1 (bk_fs (nI d) (nI 0) (nI 0) (nI 0) aB aI aC aP), cl_I G aI 16 (fun _ => 0), cl_I G aC 8 ch]) (va_runS (As := [.ref aB, .int (nI 0)]) (rest := []) ⟨hx, hb, hml, hown, hts⟩ (met_X5_fill l G aB 64 (by decide) bf H.size) (va_cwS 2 hts (lw_S q289 q290 q28 q291) rfl rfl rfl (by decide +kernel) ⟨Nat.le_of_ble_eq_true rfl, Nat.le_of_ble_eq_true rfl⟩) (wd_preS hK hZ hP hD hS hA [1] (by decide) rfl) rfl rfl hl.1 rfl (lv_room (Nat.le_of_ble_eq_true rfl)) dX1_reset_43 ⟨Nat.le_of_ble_eq_true rfl, Nat.le_of_ble_eq_true rfl⟩) hP hD hS hA [1] [0, 2, 3] rfl rfl (by decide) (by decide) ?_
  intro u_59 hu_59
  clear hP hD hS; intro H locs hP hD hS
  replace hP : va_P G.1 vwCl [cl_O ao 1 (bk_fs (nI d) (nI 0) (nI 0) (nI 0) aB aI aC aP), cl_B G aB 64 (fun _ => 0), cl_I G aI 16 (fun _ => 0), cl_I G aC 8 ch] H := wd_psub hP [0, 3, 1, 2] rfl
  replace hD : va_D A [cl_O ao 1 (bk_fs (nI d) (nI 0) (nI 0) (nI 0) aB aI aC aP), cl_B G aB 64 (fun _ => 0), cl_I G aI 16 (fun _ => 0), cl_I G aC 8 ch] := hD.sub [0, 3, 1, 2] (by decide) rfl
  refine lv_aload_n hx hb dX1_reset_46 rfl (lv_at hl 0 rfl) ?_
  refine va_get (D := G.1) (ci := 1) (v := .null) (C := RX1) (T := TX1) (N := 21) hx hb hts in_X1 hown hK hP 0 rfl rfl 4 (by decide) (hts _ q139) (fun _ h9 => h9) rfl dX1_reset_47 ?_
  refine lv_ifnullN (tgt := 77) hx hb dX1_reset_50 (by decide) ?_
  refine lv_aload_n hx hb dX1_reset_77 rfl (lv_at hl 0 rfl) ?_
  refine lv_aload_n hx hb dX1_reset_78 rfl (lv_at hl 0 rfl) ?_
  refine va_get (D := G.1) (ci := 1) (v := .null) (C := RX1) (T := TX1) (N := 21) hx hb hts in_X1 hown hK hP 0 rfl rfl 2 (by decide) (hts _ q137) (fun _ h9 => h9) rfl dX1_reset_79 ?_
  refine lv_aload_n hx hb dX1_reset_82 rfl (lv_at hl 0 rfl) ?_
  refine va_get (D := G.1) (ci := 1) (v := .null) (C := RX1) (T := TX1) (N := 21) hx hb hts in_X1 hown hK hP 0 rfl rfl 3 (by decide) (hts _ q138) (fun _ h9 => h9) rfl dX1_reset_83 ?_
  refine lv_aload_n hx hb dX1_reset_86 rfl (lv_at hl 0 rfl) ?_
  refine va_get (D := G.1) (ci := 1) (v := .null) (C := RX1) (T := TX1) (N := 21) hx hb hts in_X1 hown hK hP 0 rfl rfl 4 (by decide) (hts _ q139) (fun _ h9 => h9) rfl dX1_reset_87 ?_
  refine wd_callv (wr := [cl_B G aB 64 (fun _ => 0), cl_I G aI 16 (fun _ => 0)]) (va_runV (As := [.null, .null, .null]) (rest := []) ⟨hx, hb, hml, hown, hts⟩ (met_X1_ini l G ao aB aI aC aP d (nI 0) (nI 0) (nI 0) ch hd H.size) (cwV 3 hts (lw_V q120 q122 qs1 q16 q123) rfl rfl rfl (by decide +kernel) ⟨Nat.le_of_ble_eq_true rfl, Nat.le_of_ble_eq_true rfl⟩) (wd_preV hK hZ hP hD hS hA [0, 3] (by decide) rfl 0 1 rfl rfl) rfl rfl hl.1 rfl (lv_room (Nat.le_of_ble_eq_true rfl)) dX1_reset_90 ⟨Nat.le_of_ble_eq_true rfl, Nat.le_of_ble_eq_true rfl⟩) hP hD hS hA [0, 3] [1, 2] rfl rfl (by decide) (by decide) ?_
  intro u_60 hu_60
  clear hP hD hS; intro H locs hP hD hS
  replace hP : va_P G.1 vwCl [cl_O ao 1 (bk_fs (nI d) (nI 0) (nI 0) (nI 0) aB aI aC aP), cl_B G aB 64 (fun _ => 0), cl_I G aI 16 (fun _ => 0), cl_I G aC 8 ((ivH d))] H := wd_psub hP [2, 0, 1, 3] rfl
  replace hD : va_D A [cl_O ao 1 (bk_fs (nI d) (nI 0) (nI 0) (nI 0) aB aI aC aP), cl_B G aB 64 (fun _ => 0), cl_I G aI 16 (fun _ => 0), cl_I G aC 8 ((ivH d))] := hD.sub [2, 0, 1, 3] (by decide) rfl
  exact wd_vret hx hb hr hlk () trivial hP hD hS dX1_reset_93
set_option maxHeartbeats 4000000 in
set_option maxRecDepth 100000 in
/-- Blake2sDigest.update(x): one more byte -/
theorem met_X1_upd1 (l : Launch) (G : wd_G) (ao aB aI aC aP : Nat) (d fed n k : Nat) (x : Int32) (mf bf v ch : Nat → Int32) (hok : bkOK d mf fed n k bf ch) (hfed : fed ≤ 100000) (hx8 : vp_nar .byte x = x) (sz : Nat) : Met l yX1_update_2 (ws_ yX1_update_2 cX1_update_2 3 none) ({ frames := 4, cells := 1, slots := 16, locals := 92 }) (va_Pc [.ref ao, .int x] (wd_Pre G [cl_O ao 1 (bk_fs (nI d) (nI k) (nI (64 * n)) (nI 0) aB aI aC aP), cl_B G aB 64 bf, cl_I G aI 16 v, cl_I G aC 8 ch] sz)) (wd_Qv G (fun u : Nat × Nat × (Nat → Int32) × (Nat → Int32) × (Nat → Int32) => bkOK d (upd mf fed x) (fed + 1) u.1 u.2.1 u.2.2.1 u.2.2.2.2) (fun u => [cl_O ao 1 (bk_fs (nI d) (nI u.2.1) (nI (64 * u.1)) (nI 0) aB aI aC aP), cl_B G aB 64 u.2.2.1, cl_I G aI 16 u.2.2.2.1, cl_I G aC 8 u.2.2.2.2]) (va_A [cl_O ao 1 (bk_fs (nI d) (nI k) (nI (64 * n)) (nI 0) aB aI aC aP), cl_B G aB 64 bf, cl_I G aI 16 v, cl_I G aC 8 ch] sz)) 1 16 (va_A [cl_O ao 1 (bk_fs (nI d) (nI k) (nI (64 * n)) (nI 0) aB aI aC aP), cl_B G aB 64 bf, cl_I G aI 16 v, cl_I G aC 8 ch] sz) := by
  refine wd_ofW (Qc := fun A => wd_Qv G (fun u : Nat × Nat × (Nat → Int32) × (Nat → Int32) × (Nat → Int32) => bkOK d (upd mf fed x) (fed + 1) u.1 u.2.1 u.2.2.1 u.2.2.2.2) (fun u => [cl_O ao 1 (bk_fs (nI d) (nI u.2.1) (nI (64 * u.1)) (nI 0) aB aI aC aP), cl_B G aB 64 u.2.2.1, cl_I G aI 16 u.2.2.2.1, cl_I G aC 8 u.2.2.2.2]) A) (by decide) (Nat.le_of_ble_eq_true rfl) ?_
  intro p e s m below meth c A ls hx hb hr hml hown hlk hnm hts hK hZ hP hD hS hA hl
  replace hown : s.vm.findClass RX1 = some m.cls := hown
  replace hl : lv_has ls 3 [(0, .ref ao), (1, .int x)] := hl
  have ok1 := hok.1
  have ok2 := hok.2.1
  refine lv_bipush (v := nI 64) hx hb dX1_update_2_0 (by decide) ?_
  refine lv_aload_n hx hb dX1_update_2_2 rfl (lv_at hl 0 rfl) ?_
  refine va_get (D := G.1) (ci := 1) (v := .int (nI k)) (C := RX1) (T := TX1) (N := 21) hx hb hts in_X1 hown hK hP 0 rfl rfl 13 (by decide) (hts _ q148) (fun _ h9 => h9) rfl dX1_update_2_3 ?_
  refine wd_isubN hx hb dX1_update_2_6 (by omega) ?_
  refine lv_istore_n (lv' := [(2, .int (nI (64 - k))), (0, .ref ao), (1, .int x)]) hx hb dX1_update_2_7 rfl hl (by decide) rfl ?_
  clear hl; intro ls hl
  refine lv_iload_n hx hb dX1_update_2_8 rfl (lv_at hl 0 rfl) ?_
  refine wd_ifne (tgt := 50) hx hb dX1_update_2_9 (by decide) (by omega) (fun c_1 => ?_) (fun c_1 => ?_)
  · refine lv_aload_n hx hb dX1_update_2_50 rfl (lv_at hl 1 rfl) ?_
    refine va_get (D := G.1) (ci := 1) (v := .ref aB) (C := RX1) (T := TX1) (N := 21) hx hb hts in_X1 hown hK hP 0 rfl rfl 12 (by decide) (hts _ q147) (fun _ h9 => h9) rfl dX1_update_2_51 ?_
    refine lv_aload_n hx hb dX1_update_2_54 rfl (lv_at hl 1 rfl) ?_
    refine lv_dup hx hb dX1_update_2_55 rfl ?_
    refine va_get (D := G.1) (ci := 1) (v := .int (nI k)) (C := RX1) (T := TX1) (N := 21) hx hb hts in_X1 hown hK hP 0 rfl rfl 13 (by decide) (hts _ q148) (fun _ h9 => h9) rfl dX1_update_2_56 ?_
    refine lv_dup_x1 hx hb dX1_update_2_59 rfl rfl ?_
    refine lv_iconst (v := nI 1) hx hb dX1_update_2_60 (by decide) ?_
    refine wd_iaddN (x := k) (y := 1) hx hb dX1_update_2_61 ?_
    refine va_put (D := G.1) (ci := 1) (v := .int (nI (k + 1))) (ty := .int) (C := RX1) (T := TX1) (N := 21) hx hb hts in_X1 tyX1 tyX1_ok nmX1 hown hK hP hD hS 0 rfl rfl 13 (by decide) (hts _ q148) (fun _ h9 => h9) rfl (tyX1_ok 13 (by decide)) rfl rfl (Nat.le_of_ble_eq_true rfl) dX1_update_2_62 ?_
    clear hP hD hS; intro H locs hP hD hS
    replace hP : va_P G.1 vwCl [cl_O ao 1 (bk_fs (nI d) (nI (k + 1)) (nI (64 * n)) (nI 0) aB aI aC aP), cl_B G aB 64 bf, cl_I G aI 16 v, cl_I G aC 8 ch] H := hP
    replace hD : va_D A [cl_O ao 1 (bk_fs (nI d) (nI (k + 1)) (nI (64 * n)) (nI 0) aB aI aC aP), cl_B G aB 64 bf, cl_I G aI 16 v, cl_I G aC 8 ch] := hD
    refine lv_iload_n hx hb dX1_update_2_65 rfl (lv_at hl 2 rfl) ?_
    refine wd_bst hx hb hK hP hD hS 1 rfl k (by omega) (by omega) (hx8) dX1_update_2_66 ?_
    clear hP hD hS; intro f_61 ef_61 H locs hP hD hS
    replace hP : va_P G.1 vwCl [cl_O ao 1 (bk_fs (nI d) (nI (k + 1)) (nI (64 * n)) (nI 0) aB aI aC aP), cl_B G aB 64 f_61, cl_I G aI 16 v, cl_I G aC 8 ch] H := hP
    replace hD : va_D A [cl_O ao 1 (bk_fs (nI d) (nI (k + 1)) (nI (64 * n)) (nI 0) aB aI aC aP), cl_B G aB 64 f_61, cl_I G aI 16 v, cl_I G aC 8 ch] := hD
    refine W.widen (k := 1) (n := 16) (by decide) (by decide) ?_
    exact wd_vret hx hb hr hlk (n, k + 1, f_61, v, ch) (by rw [ef_61]; exact bk_one hok (by omega) x) hP hD hS dX1_update_2_67
  · have k64 : k = 64 := by omega
    subst k64
    refine lv_aload_n hx hb dX1_update_2_12 rfl (lv_at hl 1 rfl) ?_
    refine lv_bipush (v := nI 64) hx hb dX1_update_2_13 (by decide) ?_
    refine wd_callv (wr := [cl_B G aB 64 bf, cl_I G aI 16 v, cl_I G aC 8 ch]) (va_runV (As := [.int (nI 64)]) (rest := []) ⟨hx, hb, hml, hown, hts⟩ (met_X1_inc l G ao aB aI aC aP (nI d) (nI 64) (nI 0) (64 * n) 64 (by omega) s.heap.size) (cwV 1 hts (lw_V q254 q256 qs5 q16 q257) rfl rfl rfl (by decide +kernel) ⟨Nat.le_of_ble_eq_true rfl, Nat.le_of_ble_eq_true rfl⟩) (wd_preV hK hZ hP hD hS hA [0] (by decide) rfl 0 1 rfl rfl) rfl rfl hl.1 rfl (lv_room (Nat.le_of_ble_eq_true rfl)) dX1_update_2_15 ⟨Nat.le_of_ble_eq_true rfl, Nat.le_of_ble_eq_true rfl⟩) hP hD hS hA [0] [1, 2, 3] rfl rfl (by decide) (by decide) ?_
    intro u_62 hu_62
    clear hP hD hS; intro H locs hP hD hS
    replace hP : va_P G.1 vwCl [cl_O ao 1 (bk_fs (nI d) (nI 64) (nI (64 * n + 64)) (nI 0) aB aI aC aP), cl_B G aB 64 bf, cl_I G aI 16 v, cl_I G aC 8 ch] H := wd_psub hP [3, 0, 1, 2] rfl
    replace hD : va_D A [cl_O ao 1 (bk_fs (nI d) (nI 64) (nI (64 * n + 64)) (nI 0) aB aI aC aP), cl_B G aB 64 bf, cl_I G aI 16 v, cl_I G aC 8 ch] := hD.sub [3, 0, 1, 2] (by decide) rfl
    refine lv_aload_n hx hb dX1_update_2_18 rfl (lv_at hl 1 rfl) ?_
    refine lv_aload_n hx hb dX1_update_2_19 rfl (lv_at hl 1 rfl) ?_
    refine va_get (D := G.1) (ci := 1) (v := .ref aB) (C := RX1) (T := TX1) (N := 21) hx hb hts in_X1 hown hK hP 0 rfl rfl 12 (by decide) (hts _ q147) (fun _ h9 => h9) rfl dX1_update_2_20 ?_
    refine lv_iconst (v := nI 0) hx hb dX1_update_2_23 (by decide) ?_
    refine wd_callv (wr := []) (va_runV (As := [.ref aB, .int (nI 0)]) (rest := []) ⟨hx, hb, hml, hown, hts⟩ (met_X1_cmp l G ao aB aI aC aP aB 64 0 (nI d) (nI 64) (nI (64 * n + 64)) (nI 0) v ch bf (by decide) (by decide) H.size) (cwV 2 hts (lw_V q265 q267 qs6 q16 q268) rfl rfl rfl (by decide +kernel) ⟨Nat.le_of_ble_eq_true rfl, Nat.le_of_ble_eq_true rfl⟩) (wd_preV hK hZ hP hD hS hA [0, 2, 3, 1] (by decide) rfl 0 1 rfl rfl) rfl rfl hl.1 rfl (lv_room (Nat.le_of_ble_eq_true rfl)) dX1_update_2_24 ⟨Nat.le_of_ble_eq_true rfl, Nat.le_of_ble_eq_true rfl⟩) hP hD hS hA [0, 2, 3, 1] [] rfl rfl (by decide) (by decide) ?_
    intro u_63 hu_63
    obtain ⟨v1, ch1⟩ := u_63
    clear hP hD hS; intro H locs hP hD hS
    replace hP : va_P G.1 vwCl [cl_O ao 1 (bk_fs (nI d) (nI 64) (nI (64 * n + 64)) (nI 0) aB aI aC aP), cl_B G aB 64 bf, cl_I G aI 16 v1, cl_I G aC 8 ch1] H := wd_psub hP [0, 3, 1, 2] rfl
    replace hD : va_D A [cl_O ao 1 (bk_fs (nI d) (nI 64) (nI (64 * n + 64)) (nI 0) aB aI aC aP), cl_B G aB 64 bf, cl_I G aI 16 v1, cl_I G aC 8 ch1] := hD.sub [0, 3, 1, 2] (by decide) rfl
    replace hu_63 : ch1 = cmpF ch (wrdF bf 0) (nI (64 * n + 64)) (nI 0) := hu_63
    refine lv_aload_n hx hb dX1_update_2_27 rfl (lv_at hl 1 rfl) ?_
    refine va_get (D := G.1) (ci := 1) (v := .ref aB) (C := RX1) (T := TX1) (N := 21) hx hb hts in_X1 hown hK hP 0 rfl rfl 12 (by decide) (hts _ q147) (fun _ h9 => h9) rfl dX1_update_2_28 ?_
    refine lv_iconst (v := nI 0) hx hb dX1_update_2_31 (by decide) ?_
    refine wd_callv (wr := [cl_O ao 1 (bk_fs (nI d) (nI 64) (nI (64 * n + 64)) (nI 0) aB aI aC aP), cl_I G aI 16 v1, cl_I G aC 8 ch1]) (va_runS (As := [.ref aB, .int (nI 0)]) (rest := []) ⟨hx, hb, hml, hown, hts⟩ (met_X5_fill l G aB 64 (by decide) bf H.size) (va_cwS 2 hts (lw_S q289 q290 q28 q291) rfl rfl rfl (by decide +kernel) ⟨Nat.le_of_ble_eq_true rfl, Nat.le_of_ble_eq_true rfl⟩) (wd_preS hK hZ hP hD hS hA [1] (by decide) rfl) rfl rfl hl.1 rfl (lv_room (Nat.le_of_ble_eq_true rfl)) dX1_update_2_32 ⟨Nat.le_of_ble_eq_true rfl, Nat.le_of_ble_eq_true rfl⟩) hP hD hS hA [1] [0, 2, 3] rfl rfl (by decide) (by decide) ?_
    intro u_64 hu_64
    clear hP hD hS; intro H locs hP hD hS
    replace hP : va_P G.1 vwCl [cl_O ao 1 (bk_fs (nI d) (nI 64) (nI (64 * n + 64)) (nI 0) aB aI aC aP), cl_B G aB 64 (fun _ => 0), cl_I G aI 16 v1, cl_I G aC 8 ch1] H := wd_psub hP [0, 3, 1, 2] rfl
    replace hD : va_D A [cl_O ao 1 (bk_fs (nI d) (nI 64) (nI (64 * n + 64)) (nI 0) aB aI aC aP), cl_B G aB 64 (fun _ => 0), cl_I G aI 16 v1, cl_I G aC 8 ch1] := hD.sub [0, 3, 1, 2] (by decide) rfl
    refine lv_aload_n hx hb dX1_update_2_35 rfl (lv_at hl 1 rfl) ?_
    refine va_get (D := G.1) (ci := 1) (v := .ref aB) (C := RX1) (T := TX1) (N := 21) hx hb hts in_X1 hown hK hP 0 rfl rfl 12 (by decide) (hts _ q147) (fun _ h9 => h9) rfl dX1_update_2_36 ?_
    refine lv_iconst (v := nI 0) hx hb dX1_update_2_39 (by decide) ?_
    refine lv_iload_n hx hb dX1_update_2_40 rfl (lv_at hl 2 rfl) ?_
    refine wd_bst hx hb hK hP hD hS 1 rfl 0 (by omega) (by omega) (hx8) dX1_update_2_41 ?_
    clear hP hD hS; intro f_65 ef_65 H locs hP hD hS
    replace hP : va_P G.1 vwCl [cl_O ao 1 (bk_fs (nI d) (nI 64) (nI (64 * n + 64)) (nI 0) aB aI aC aP), cl_B G aB 64 f_65, cl_I G aI 16 v1, cl_I G aC 8 ch1] H := hP
    replace hD : va_D A [cl_O ao 1 (bk_fs (nI d) (nI 64) (nI (64 * n + 64)) (nI 0) aB aI aC aP), cl_B G aB 64 f_65, cl_I G aI 16 v1, cl_I G aC 8 ch1] := hD
    refine lv_aload_n hx hb dX1_update_2_42 rfl (lv_at hl 1 rfl) ?_
    refine lv_iconst (v := nI 1) hx hb dX1_update_2_43 (by decide) ?_
    refine va_put (D := G.1) (ci := 1) (v := .int (nI 1)) (ty := .int) (C := RX1) (T := TX1) (N := 21) hx hb hts in_X1 tyX1 tyX1_ok nmX1 hown hK hP hD hS 0 rfl rfl 13 (by decide) (hts _ q148) (fun _ h9 => h9) rfl (tyX1_ok 13 (by decide)) rfl rfl (Nat.le_of_ble_eq_true rfl) dX1_update_2_44 ?_
    clear hP hD hS; intro H locs hP hD hS
    replace hP : va_P G.1 vwCl [cl_O ao 1 (bk_fs (nI d) (nI 1) (nI (64 * n + 64)) (nI 0) aB aI aC aP), cl_B G aB 64 f_65, cl_I G aI 16 v1, cl_I G aC 8 ch1] H := hP
    replace hD : va_D A [cl_O ao 1 (bk_fs (nI d) (nI 1) (nI (64 * n + 64)) (nI 0) aB aI aC aP), cl_B G aB 64 f_65, cl_I G aI 16 v1, cl_I G aC 8 ch1] := hD
    refine lv_goto (tgt := 67) hx hb dX1_update_2_47 (by decide) ?_
    replace hP : va_P G.1 vwCl [cl_O ao 1 (bk_fs (nI d) (nI 1) (nI (64 * (n + 1))) (nI 0) aB aI aC aP), cl_B G aB 64 f_65, cl_I G aI 16 v1, cl_I G aC 8 ch1] H := by rw [show 64 * (n + 1) = 64 * n + 64 by omega]; exact hP
    replace hD : va_D A [cl_O ao 1 (bk_fs (nI d) (nI 1) (nI (64 * (n + 1))) (nI 0) aB aI aC aP), cl_B G aB 64 f_65, cl_I G aI 16 v1, cl_I G aC 8 ch1] := by rw [show 64 * (n + 1) = 64 * n + 64 by omega]; exact hD
    exact wd_vret hx hb hr hlk (n + 1, 1, f_65, v1, ch1) (by rw [ef_65, hu_63]; exact bk_one64 hok x _ (fun j _ => rfl)) hP hD hS dX1_update_2_67
set_option maxHeartbeats 4000000 in
set_option maxRecDepth 100000 in
/-- Blake2sDigest.update(tx, o, x): x bytes of the text from o on -/
theorem met_X1_upd (l : Launch) (G : wd_G) (ao aB aI aC aP : Nat) (aT d fed n k o x : Nat) (mf bf v ch tx : Nat → Int32) (hok : bkOK d mf fed n k bf ch) (hfed : fed ≤ 100000) (hox : o + x ≤ 1024) (hfit : sb_Fit tx) (sz : Nat) : Met l yX1_update (ws_ yX1_update cX1_update 7 none) ({ frames := 4, cells := 17, slots := 272, locals := 92 }) (va_Pc [.ref ao, .ref aT, .int (nI o), .int (nI x)] (wd_Pre G [cl_O ao 1 (bk_fs (nI d) (nI k) (nI (64 * n)) (nI 0) aB aI aC aP), cl_B G aB 64 bf, cl_I G aI 16 v, cl_I G aC 8 ch, cl_B G aT 1024 tx] sz)) (wd_Qv G (fun u : Nat × Nat × (Nat → Int32) × (Nat → Int32) × (Nat → Int32) => bkOK d (apF mf fed tx o) (fed + x) u.1 u.2.1 u.2.2.1 u.2.2.2.2) (fun u => [cl_O ao 1 (bk_fs (nI d) (nI u.2.1) (nI (64 * u.1)) (nI 0) aB aI aC aP), cl_B G aB 64 u.2.2.1, cl_I G aI 16 u.2.2.2.1, cl_I G aC 8 u.2.2.2.2, cl_B G aT 1024 tx]) (va_A [cl_O ao 1 (bk_fs (nI d) (nI k) (nI (64 * n)) (nI 0) aB aI aC aP), cl_B G aB 64 bf, cl_I G aI 16 v, cl_I G aC 8 ch, cl_B G aT 1024 tx] sz)) 17 272 (va_A [cl_O ao 1 (bk_fs (nI d) (nI k) (nI (64 * n)) (nI 0) aB aI aC aP), cl_B G aB 64 bf, cl_I G aI 16 v, cl_I G aC 8 ch, cl_B G aT 1024 tx] sz) := by
  refine wd_ofW (Qc := fun A => wd_Qv G (fun u : Nat × Nat × (Nat → Int32) × (Nat → Int32) × (Nat → Int32) => bkOK d (apF mf fed tx o) (fed + x) u.1 u.2.1 u.2.2.1 u.2.2.2.2) (fun u => [cl_O ao 1 (bk_fs (nI d) (nI u.2.1) (nI (64 * u.1)) (nI 0) aB aI aC aP), cl_B G aB 64 u.2.2.1, cl_I G aI 16 u.2.2.2.1, cl_I G aC 8 u.2.2.2.2, cl_B G aT 1024 tx]) A) (by decide) (Nat.le_of_ble_eq_true rfl) ?_
  intro p e s m below meth c A ls hx hb hr hml hown hlk hnm hts hK hZ hP hD hS hA hl
  replace hown : s.vm.findClass RX1 = some m.cls := hown
  replace hl : lv_has ls 7 [(0, .ref ao), (1, .ref aT), (2, .int (nI o)), (3, .int (nI x))] := hl
  have ok1 := hok.1
  have ok2 := hok.2.1
  have ok3 := hok.2.2.1
  refine lv_aload_n hx hb dX1_update_0 rfl (lv_at hl 1 rfl) ?_
  refine lv_ifnull hx hb dX1_update_1 ?_
  refine lv_iload_n hx hb dX1_update_4 rfl (lv_at hl 3 rfl) ?_
  refine wd_ifne (tgt := 9) hx hb dX1_update_5 (by decide) (by omega) (fun c_1 => ?_) (fun c_1 => ?_)
  · refine lv_iconst (v := nI 0) hx hb dX1_update_9 (by decide) ?_
    refine lv_istore (lv' := [(4, .int (nI 0)), (0, .ref ao), (1, .ref aT), (2, .int (nI o)), (3, .int (nI x))]) hx hb dX1_update_10 hl (by decide) rfl ?_
    clear hl; intro ls hl
    have loop : ∀ (n9 i n1 cs ss rl : Nat) (v1 ch1 : Nat → Int32), i + 64 * n9 < x → x ≤ i + 64 * n9 + 64 → 64 * n1 = fed + i → ch1 = chN d (apF mf fed tx o) n1 → cs + n9 ≤ 17 → ss + 16 * n9 ≤ 272 → ∀ (H : Heap) (locs : List Loc), va_P G.1 vwCl [cl_O ao 1 (bk_fs (nI d) (nI 0) (nI (64 * n1)) (nI 0) aB aI aC aP), cl_B G aB 64 (fun _ => 0), cl_I G aI 16 v1, cl_I G aC 8 ch1, cl_B G aT 1024 tx] H → va_D A [cl_O ao 1 (bk_fs (nI d) (nI 0) (nI (64 * n1)) (nI 0) aB aI aC aP), cl_B G aB 64 (fun _ => 0), cl_I G aI 16 v1, cl_I G aC 8 ch1, cl_B G aT 1024 tx] → va_S A s.heap H locs → ∀ (ls : Array Slot), lv_has ls 7 [(6, .int (nI (o + i))), (5, .int (nI (o + x) - nI 64)), (4, .int (nI rl)), (0, .ref ao), (1, .ref aT), (2, .int (nI o)), (3, .int (nI x))] → W p l e ({ frames := 4, cells := 17, slots := 272, locals := 92 }) s m ([.ref ao, .ref aT, .int (nI o), .int (nI x)] : List Value).toArray below meth c H locs cs ss (MQ below (wd_Qv G (fun u : Nat × Nat × (Nat → Int32) × (Nat → Int32) × (Nat → Int32) => bkOK d (apF mf fed tx o) (fed + x) u.1 u.2.1 u.2.2.1 u.2.2.2.2) (fun u => [cl_O ao 1 (bk_fs (nI d) (nI u.2.1) (nI (64 * u.1)) (nI 0) aB aI aC aP), cl_B G aB 64 u.2.2.1, cl_I G aI 16 u.2.2.2.1, cl_I G aC 8 u.2.2.2.2, cl_B G aT 1024 tx]) A) ([.ref ao, .ref aT, .int (nI o), .int (nI x)] : List Value).toArray s 17 272 A) (F0 m 116 ls []) := by
      clear hP hD hS hl
      intro n9
      induction n9 with
      | zero =>
        intro i n1 cs ss rl v1 ch1 g1 g2 g3 g4 g5 g6 H locs hP hD hS ls hl
        refine lv_iload hx hb dX1_update_116 (lv_at hl 0 rfl) ?_
        refine lv_iload hx hb dX1_update_118 (lv_at hl 1 rfl) ?_
        refine lv_icmp_ge (tgt := 142) hx hb dX1_update_120 (by decide) (fun c_2 => ?_) (fun c_2 => absurd (ge_m64 (by omega) (by omega) (by omega)) c_2)
        refine lv_aload_n hx hb dX1_update_142 rfl (lv_at hl 4 rfl) ?_
        refine lv_iload hx hb dX1_update_143 (lv_at hl 0 rfl) ?_
        refine lv_aload_n hx hb dX1_update_145 rfl (lv_at hl 3 rfl) ?_
        refine va_get (D := G.1) (ci := 1) (v := .ref aB) (C := RX1) (T := TX1) (N := 21) hx hb hts in_X1 hown hK hP 0 rfl rfl 12 (by decide) (hts _ q147) (fun _ h9 => h9) rfl dX1_update_146 ?_
        refine lv_iconst (v := nI 0) hx hb dX1_update_149 (by decide) ?_
        refine lv_iload_n hx hb dX1_update_150 rfl (lv_at hl 5 rfl) ?_
        refine lv_iload_n hx hb dX1_update_151 rfl (lv_at hl 6 rfl) ?_
        refine wd_iaddN (x := o) (y := x) hx hb dX1_update_152 ?_
        refine lv_iload hx hb dX1_update_153 (lv_at hl 0 rfl) ?_
        refine wd_isubN hx hb dX1_update_155 (by omega) ?_
        refine lv_eqi (y := nI (x - i)) (by rw [show o + x - (o + i) = x - i by omega]) ?_
        refine wd_cpyB hx hb (hml.trans hl.1.symm) hown (hts _ q125) (hts _ q127) (hts _ q126) (hts _ q23) hK hP hD hS 4 1 rfl rfl (by omega) (by omega) (by omega) (by omega) hfit (Nat.le_of_ble_eq_true rfl) (Nat.le_of_ble_eq_true rfl) dX1_update_156 ?_
        clear hP hD hS; intro f_66 ef_66 H locs hP hD hS
        replace hP : va_P G.1 vwCl [cl_O ao 1 (bk_fs (nI d) (nI 0) (nI (64 * n1)) (nI 0) aB aI aC aP), cl_B G aB 64 f_66, cl_I G aI 16 v1, cl_I G aC 8 ch1, cl_B G aT 1024 tx] H := hP
        replace hD : va_D A [cl_O ao 1 (bk_fs (nI d) (nI 0) (nI (64 * n1)) (nI 0) aB aI aC aP), cl_B G aB 64 f_66, cl_I G aI 16 v1, cl_I G aC 8 ch1, cl_B G aT 1024 tx] := hD
        refine lv_aload_n hx hb dX1_update_159 rfl (lv_at hl 3 rfl) ?_
        refine lv_dup hx hb dX1_update_160 rfl ?_
        refine va_get (D := G.1) (ci := 1) (v := .int (nI 0)) (C := RX1) (T := TX1) (N := 21) hx hb hts in_X1 hown hK hP 0 rfl rfl 13 (by decide) (hts _ q148) (fun _ h9 => h9) rfl dX1_update_161 ?_
        refine lv_iload_n hx hb dX1_update_164 rfl (lv_at hl 5 rfl) ?_
        refine lv_iload_n hx hb dX1_update_165 rfl (lv_at hl 6 rfl) ?_
        refine wd_iaddN (x := o) (y := x) hx hb dX1_update_166 ?_
        refine lv_iload hx hb dX1_update_167 (lv_at hl 0 rfl) ?_
        refine wd_isubN hx hb dX1_update_169 (by omega) ?_
        refine lv_eqi (y := nI (x - i)) (by rw [show o + x - (o + i) = x - i by omega]) ?_
        refine wd_iaddN (x := 0) (y := x - i) hx hb dX1_update_170 ?_
        refine lv_eqi (y := nI (x - i)) (by rw [Nat.zero_add]) ?_
        refine va_put (D := G.1) (ci := 1) (v := .int (nI (x - i))) (ty := .int) (C := RX1) (T := TX1) (N := 21) hx hb hts in_X1 tyX1 tyX1_ok nmX1 hown hK hP hD hS 0 rfl rfl 13 (by decide) (hts _ q148) (fun _ h9 => h9) rfl (tyX1_ok 13 (by decide)) rfl rfl (Nat.le_of_ble_eq_true rfl) dX1_update_171 ?_
        clear hP hD hS; intro H locs hP hD hS
        replace hP : va_P G.1 vwCl [cl_O ao 1 (bk_fs (nI d) (nI (x - i)) (nI (64 * n1)) (nI 0) aB aI aC aP), cl_B G aB 64 f_66, cl_I G aI 16 v1, cl_I G aC 8 ch1, cl_B G aT 1024 tx] H := hP
        replace hD : va_D A [cl_O ao 1 (bk_fs (nI d) (nI (x - i)) (nI (64 * n1)) (nI 0) aB aI aC aP), cl_B G aB 64 f_66, cl_I G aI 16 v1, cl_I G aC 8 ch1, cl_B G aT 1024 tx] := hD
        refine W.widen (k := 17) (n := 272) (by omega) (by omega) ?_
        exact wd_vret hx hb hr hlk (n1, x - i, f_66, v1, ch1) (by rw [ef_66]; exact bk_tail g3 (by omega) (by omega) g4 (fun j _ => rfl)) hP hD hS dX1_update_174
      | succ n9 ih =>
        intro i n1 cs ss rl v1 ch1 g1 g2 g3 g4 g5 g6 H locs hP hD hS ls hl
        refine lv_iload hx hb dX1_update_116 (lv_at hl 0 rfl) ?_
        refine lv_iload hx hb dX1_update_118 (lv_at hl 1 rfl) ?_
        refine lv_icmp_ge (tgt := 142) hx hb dX1_update_120 (by decide) (fun c_2 => absurd c_2 (lt_m64 (by omega) (by omega) (by omega))) (fun c_2 => ?_)
        refine lv_aload_n hx hb dX1_update_123 rfl (lv_at hl 3 rfl) ?_
        refine lv_bipush (v := nI 64) hx hb dX1_update_124 (by decide) ?_
        refine wd_callv (wr := [cl_B G aB 64 (fun _ => 0), cl_I G aI 16 v1, cl_I G aC 8 ch1, cl_B G aT 1024 tx]) (va_runV (As := [.int (nI 64)]) (rest := []) ⟨hx, hb, hml, hown, hts⟩ (met_X1_inc l G ao aB aI aC aP (nI d) (nI 0) (nI 0) (64 * n1) 64 (by omega) H.size) (cwV 1 hts (lw_V q254 q256 qs5 q16 q257) rfl rfl rfl (by decide +kernel) ⟨Nat.le_of_ble_eq_true rfl, Nat.le_of_ble_eq_true rfl⟩) (wd_preV hK hZ hP hD hS hA [0] (by decide) rfl 0 1 rfl rfl) rfl rfl hl.1 rfl (lv_room (Nat.le_of_ble_eq_true rfl)) dX1_update_126 ⟨show cs + 0 ≤ 17 by omega, show ss + 0 ≤ 272 by omega⟩) hP hD hS hA [0] [1, 2, 3, 4] rfl rfl (by decide) (by decide) ?_
        intro u_67 hu_67
        clear hP hD hS; intro H locs hP hD hS
        replace hP : va_P G.1 vwCl [cl_O ao 1 (bk_fs (nI d) (nI 0) (nI (64 * n1 + 64)) (nI 0) aB aI aC aP), cl_B G aB 64 (fun _ => 0), cl_I G aI 16 v1, cl_I G aC 8 ch1, cl_B G aT 1024 tx] H := wd_psub hP [4, 0, 1, 2, 3] rfl
        replace hD : va_D A [cl_O ao 1 (bk_fs (nI d) (nI 0) (nI (64 * n1 + 64)) (nI 0) aB aI aC aP), cl_B G aB 64 (fun _ => 0), cl_I G aI 16 v1, cl_I G aC 8 ch1, cl_B G aT 1024 tx] := hD.sub [4, 0, 1, 2, 3] (by decide) rfl
        refine lv_aload_n hx hb dX1_update_129 rfl (lv_at hl 3 rfl) ?_
        refine lv_aload_n hx hb dX1_update_130 rfl (lv_at hl 4 rfl) ?_
        refine lv_iload hx hb dX1_update_131 (lv_at hl 0 rfl) ?_
        refine wd_callv (wr := [cl_B G aB 64 (fun _ => 0)]) (va_runV (As := [.ref aT, .int (nI (o + i))]) (rest := []) ⟨hx, hb, hml, hown, hts⟩ (met_X1_cmp l G ao aB aI aC aP aT 1024 (o + i) (nI d) (nI 0) (nI (64 * n1 + 64)) (nI 0) v1 ch1 tx (by decide) (by omega) H.size) (cwV 2 hts (lw_V q265 q267 qs6 q16 q268) rfl rfl rfl (by decide +kernel) ⟨Nat.le_of_ble_eq_true rfl, Nat.le_of_ble_eq_true rfl⟩) (wd_preV hK hZ hP hD hS hA [0, 2, 3, 4] (by decide) rfl 0 1 rfl rfl) rfl rfl hl.1 rfl (lv_room (Nat.le_of_ble_eq_true rfl)) dX1_update_133 ⟨show cs + 0 + 1 ≤ 17 by omega, show ss + 0 + 16 ≤ 272 by omega⟩) hP hD hS hA [0, 2, 3, 4] [1] rfl rfl (by decide) (by decide) ?_
        intro u_68 hu_68
        obtain ⟨v2, ch2⟩ := u_68
        clear hP hD hS; intro H locs hP hD hS
        replace hP : va_P G.1 vwCl [cl_O ao 1 (bk_fs (nI d) (nI 0) (nI (64 * n1 + 64)) (nI 0) aB aI aC aP), cl_B G aB 64 (fun _ => 0), cl_I G aI 16 v2, cl_I G aC 8 ch2, cl_B G aT 1024 tx] H := wd_psub hP [1, 0, 2, 3, 4] rfl
        replace hD : va_D A [cl_O ao 1 (bk_fs (nI d) (nI 0) (nI (64 * n1 + 64)) (nI 0) aB aI aC aP), cl_B G aB 64 (fun _ => 0), cl_I G aI 16 v2, cl_I G aC 8 ch2, cl_B G aT 1024 tx] := hD.sub [1, 0, 2, 3, 4] (by decide) rfl
        replace hu_68 : ch2 = cmpF ch1 (wrdF tx (o + i)) (nI (64 * n1 + 64)) (nI 0) := hu_68
        refine lv_iinc (v := nI (o + i + 64)) (lv' := [(6, .int (nI (o + i + 64))), (5, .int (nI (o + x) - nI 64)), (4, .int (nI rl)), (0, .ref ao), (1, .ref aT), (2, .int (nI o)), (3, .int (nI x))]) hx hb dX1_update_136 hl (k := 0) rfl (wd_inc _ 64) (by decide) rfl ?_
        clear hl; intro ls hl
        refine lv_goto (tgt := 116) hx hb dX1_update_139 (by decide) ?_
        have e9 : 64 * n1 + 64 = 64 * (n1 + 1) := by omega
        have e8 : o + i + 64 = o + (i + 64) := by omega
        rw [e9] at hP hD
        rw [e8] at hl
        exact ih (i + 64) (n1 + 1) (cs + 0 + 1) (ss + 0 + 16) rl v2 ch2 (by omega) (by omega) (by omega) (by rw [hu_68]; exact bk_block g3 g4) (by omega) (by omega) _ _ hP hD hS ls (lv_sub hl [0, 1, 2, 3, 4, 5, 6] rfl)
    refine lv_aload_n hx hb dX1_update_12 rfl (lv_at hl 1 rfl) ?_
    refine va_get (D := G.1) (ci := 1) (v := .int (nI k)) (C := RX1) (T := TX1) (N := 21) hx hb hts in_X1 hown hK hP 0 rfl rfl 13 (by decide) (hts _ q148) (fun _ h9 => h9) rfl dX1_update_13 ?_
    refine wd_ifeq (tgt := 102) hx hb dX1_update_16 (by decide) (by omega) (fun c_2 => ?_) (fun c_2 => ?_)
    · have n0 : n = 0 := ok3 c_2
      subst n0
      subst c_2
      have f0 : fed = 0 := by omega
      subst f0
      obtain ⟨hP, hD⟩ := wd_lab (q0 := 1) hP hD rfl (fun _ => 0) (fun j hj => (hok.2.2.2.2 j hj).trans (if_neg (Nat.not_lt_zero j)))
      replace hP : va_P G.1 vwCl [cl_O ao 1 (bk_fs (nI d) (nI 0) (nI (64 * 0)) (nI 0) aB aI aC aP), cl_B G aB 64 (fun _ => 0), cl_I G aI 16 v, cl_I G aC 8 ch, cl_B G aT 1024 tx] s.heap := hP
      replace hD : va_D A [cl_O ao 1 (bk_fs (nI d) (nI 0) (nI (64 * 0)) (nI 0) aB aI aC aP), cl_B G aB 64 (fun _ => 0), cl_I G aI 16 v, cl_I G aC 8 ch, cl_B G aT 1024 tx] := hD
      refine lv_iload_n hx hb dX1_update_102 rfl (lv_at hl 3 rfl) ?_
      refine lv_iload_n hx hb dX1_update_103 rfl (lv_at hl 4 rfl) ?_
      refine wd_iaddN (x := o) (y := x) hx hb dX1_update_104 ?_
      refine lv_bipush (v := nI 64) hx hb dX1_update_105 (by decide) ?_
      refine lv_isub hx hb dX1_update_107 ?_
      refine lv_istore (lv' := [(5, .int ((nI (o + x)) - (nI 64))), (4, .int (nI 0)), (0, .ref ao), (1, .ref aT), (2, .int (nI o)), (3, .int (nI x))]) hx hb dX1_update_108 hl (by decide) rfl ?_
      clear hl; intro ls hl
      refine lv_iload_n hx hb dX1_update_110 rfl (lv_at hl 4 rfl) ?_
      refine lv_iload hx hb dX1_update_111 (lv_at hl 1 rfl) ?_
      refine wd_iaddN (x := o) (y := 0) hx hb dX1_update_113 ?_
      refine lv_istore (lv' := [(6, .int (nI (o + 0))), (5, .int ((nI (o + x)) - (nI 64))), (4, .int (nI 0)), (0, .ref ao), (1, .ref aT), (2, .int (nI o)), (3, .int (nI x))]) hx hb dX1_update_114 hl (by decide) rfl ?_
      clear hl; intro ls hl
      exact loop ((x - 1) / 64) 0 0 0 0 0 v ch (by omega) (by omega) (by omega) hok.2.2.2.1 (by omega) (by omega) s.heap [] hP hD hS ls (lv_sub hl [0, 1, 2, 3, 4, 5, 6] rfl)
    · refine lv_bipush (v := nI 64) hx hb dX1_update_19 (by decide) ?_
      refine lv_aload_n hx hb dX1_update_21 rfl (lv_at hl 1 rfl) ?_
      refine va_get (D := G.1) (ci := 1) (v := .int (nI k)) (C := RX1) (T := TX1) (N := 21) hx hb hts in_X1 hown hK hP 0 rfl rfl 13 (by decide) (hts _ q148) (fun _ h9 => h9) rfl dX1_update_22 ?_
      refine wd_isubN hx hb dX1_update_25 (by omega) ?_
      refine lv_istore (lv' := [(4, .int (nI (64 - k))), (0, .ref ao), (1, .ref aT), (2, .int (nI o)), (3, .int (nI x))]) hx hb dX1_update_26 hl (by decide) rfl ?_
      clear hl; intro ls hl
      refine lv_iload hx hb dX1_update_28 (lv_at hl 0 rfl) ?_
      refine lv_iload_n hx hb dX1_update_30 rfl (lv_at hl 4 rfl) ?_
      refine wd_lt (tgt := 59) hx hb dX1_update_31 (by decide) (by omega) (by omega) (fun c_3 => ?_) (fun c_3 => ?_)
      · refine lv_aload_n hx hb dX1_update_59 rfl (lv_at hl 2 rfl) ?_
        refine lv_iload_n hx hb dX1_update_60 rfl (lv_at hl 3 rfl) ?_
        refine lv_aload_n hx hb dX1_update_61 rfl (lv_at hl 1 rfl) ?_
        refine va_get (D := G.1) (ci := 1) (v := .ref aB) (C := RX1) (T := TX1) (N := 21) hx hb hts in_X1 hown hK hP 0 rfl rfl 12 (by decide) (hts _ q147) (fun _ h9 => h9) rfl dX1_update_62 ?_
        refine lv_aload_n hx hb dX1_update_65 rfl (lv_at hl 1 rfl) ?_
        refine va_get (D := G.1) (ci := 1) (v := .int (nI k)) (C := RX1) (T := TX1) (N := 21) hx hb hts in_X1 hown hK hP 0 rfl rfl 13 (by decide) (hts _ q148) (fun _ h9 => h9) rfl dX1_update_66 ?_
        refine lv_iload hx hb dX1_update_69 (lv_at hl 0 rfl) ?_
        refine wd_cpyB hx hb (hml.trans hl.1.symm) hown (hts _ q125) (hts _ q127) (hts _ q126) (hts _ q23) hK hP hD hS 4 1 rfl rfl (by omega) (by omega) (by omega) (by omega) hfit (Nat.le_of_ble_eq_true rfl) (Nat.le_of_ble_eq_true rfl) dX1_update_71 ?_
        clear hP hD hS; intro f_69 ef_69 H locs hP hD hS
        replace hP : va_P G.1 vwCl [cl_O ao 1 (bk_fs (nI d) (nI k) (nI (64 * n)) (nI 0) aB aI aC aP), cl_B G aB 64 f_69, cl_I G aI 16 v, cl_I G aC 8 ch, cl_B G aT 1024 tx] H := hP
        replace hD : va_D A [cl_O ao 1 (bk_fs (nI d) (nI k) (nI (64 * n)) (nI 0) aB aI aC aP), cl_B G aB 64 f_69, cl_I G aI 16 v, cl_I G aC 8 ch, cl_B G aT 1024 tx] := hD
        refine lv_aload_n hx hb dX1_update_74 rfl (lv_at hl 1 rfl) ?_
        refine lv_bipush (v := nI 64) hx hb dX1_update_75 (by decide) ?_
        refine wd_callv (wr := [cl_B G aB 64 f_69, cl_I G aI 16 v, cl_I G aC 8 ch, cl_B G aT 1024 tx]) (va_runV (As := [.int (nI 64)]) (rest := []) ⟨hx, hb, hml, hown, hts⟩ (met_X1_inc l G ao aB aI aC aP (nI d) (nI k) (nI 0) (64 * n) 64 (by omega) H.size) (cwV 1 hts (lw_V q254 q256 qs5 q16 q257) rfl rfl rfl (by decide +kernel) ⟨Nat.le_of_ble_eq_true rfl, Nat.le_of_ble_eq_true rfl⟩) (wd_preV hK hZ hP hD hS hA [0] (by decide) rfl 0 1 rfl rfl) rfl rfl hl.1 rfl (lv_room (Nat.le_of_ble_eq_true rfl)) dX1_update_77 ⟨Nat.le_of_ble_eq_true rfl, Nat.le_of_ble_eq_true rfl⟩) hP hD hS hA [0] [1, 2, 3, 4] rfl rfl (by decide) (by decide) ?_
        intro u_70 hu_70
        clear hP hD hS; intro H locs hP hD hS
        replace hP : va_P G.1 vwCl [cl_O ao 1 (bk_fs (nI d) (nI k) (nI (64 * n + 64)) (nI 0) aB aI aC aP), cl_B G aB 64 f_69, cl_I G aI 16 v, cl_I G aC 8 ch, cl_B G aT 1024 tx] H := wd_psub hP [4, 0, 1, 2, 3] rfl
        replace hD : va_D A [cl_O ao 1 (bk_fs (nI d) (nI k) (nI (64 * n + 64)) (nI 0) aB aI aC aP), cl_B G aB 64 f_69, cl_I G aI 16 v, cl_I G aC 8 ch, cl_B G aT 1024 tx] := hD.sub [4, 0, 1, 2, 3] (by decide) rfl
        refine lv_aload_n hx hb dX1_update_80 rfl (lv_at hl 1 rfl) ?_
        refine lv_aload_n hx hb dX1_update_81 rfl (lv_at hl 1 rfl) ?_
        refine va_get (D := G.1) (ci := 1) (v := .ref aB) (C := RX1) (T := TX1) (N := 21) hx hb hts in_X1 hown hK hP 0 rfl rfl 12 (by decide) (hts _ q147) (fun _ h9 => h9) rfl dX1_update_82 ?_
        refine lv_iconst (v := nI 0) hx hb dX1_update_85 (by decide) ?_
        refine wd_callv (wr := [cl_B G aT 1024 tx]) (va_runV (As := [.ref aB, .int (nI 0)]) (rest := []) ⟨hx, hb, hml, hown, hts⟩ (met_X1_cmp l G ao aB aI aC aP aB 64 0 (nI d) (nI k) (nI (64 * n + 64)) (nI 0) v ch f_69 (by decide) (by decide) H.size) (cwV 2 hts (lw_V q265 q267 qs6 q16 q268) rfl rfl rfl (by decide +kernel) ⟨Nat.le_of_ble_eq_true rfl, Nat.le_of_ble_eq_true rfl⟩) (wd_preV hK hZ hP hD hS hA [0, 2, 3, 1] (by decide) rfl 0 1 rfl rfl) rfl rfl hl.1 rfl (lv_room (Nat.le_of_ble_eq_true rfl)) dX1_update_86 ⟨Nat.le_of_ble_eq_true rfl, Nat.le_of_ble_eq_true rfl⟩) hP hD hS hA [0, 2, 3, 1] [4] rfl rfl (by decide) (by decide) ?_
        intro u_71 hu_71
        obtain ⟨v2, ch2⟩ := u_71
        clear hP hD hS; intro H locs hP hD hS
        replace hP : va_P G.1 vwCl [cl_O ao 1 (bk_fs (nI d) (nI k) (nI (64 * n + 64)) (nI 0) aB aI aC aP), cl_B G aB 64 f_69, cl_I G aI 16 v2, cl_I G aC 8 ch2, cl_B G aT 1024 tx] H := wd_psub hP [1, 4, 2, 3, 0] rfl
        replace hD : va_D A [cl_O ao 1 (bk_fs (nI d) (nI k) (nI (64 * n + 64)) (nI 0) aB aI aC aP), cl_B G aB 64 f_69, cl_I G aI 16 v2, cl_I G aC 8 ch2, cl_B G aT 1024 tx] := hD.sub [1, 4, 2, 3, 0] (by decide) rfl
        replace hu_71 : ch2 = cmpF ch (wrdF f_69 0) (nI (64 * n + 64)) (nI 0) := hu_71
        refine lv_aload_n hx hb dX1_update_89 rfl (lv_at hl 1 rfl) ?_
        refine lv_iconst (v := nI 0) hx hb dX1_update_90 (by decide) ?_
        refine va_put (D := G.1) (ci := 1) (v := .int (nI 0)) (ty := .int) (C := RX1) (T := TX1) (N := 21) hx hb hts in_X1 tyX1 tyX1_ok nmX1 hown hK hP hD hS 0 rfl rfl 13 (by decide) (hts _ q148) (fun _ h9 => h9) rfl (tyX1_ok 13 (by decide)) rfl rfl (Nat.le_of_ble_eq_true rfl) dX1_update_91 ?_
        clear hP hD hS; intro H locs hP hD hS
        replace hP : va_P G.1 vwCl [cl_O ao 1 (bk_fs (nI d) (nI 0) (nI (64 * n + 64)) (nI 0) aB aI aC aP), cl_B G aB 64 f_69, cl_I G aI 16 v2, cl_I G aC 8 ch2, cl_B G aT 1024 tx] H := hP
        replace hD : va_D A [cl_O ao 1 (bk_fs (nI d) (nI 0) (nI (64 * n + 64)) (nI 0) aB aI aC aP), cl_B G aB 64 f_69, cl_I G aI 16 v2, cl_I G aC 8 ch2, cl_B G aT 1024 tx] := hD
        refine lv_aload_n hx hb dX1_update_94 rfl (lv_at hl 1 rfl) ?_
        refine va_get (D := G.1) (ci := 1) (v := .ref aB) (C := RX1) (T := TX1) (N := 21) hx hb hts in_X1 hown hK hP 0 rfl rfl 12 (by decide) (hts _ q147) (fun _ h9 => h9) rfl dX1_update_95 ?_
        refine lv_iconst (v := nI 0) hx hb dX1_update_98 (by decide) ?_
        refine wd_callv (wr := [cl_O ao 1 (bk_fs (nI d) (nI 0) (nI (64 * n + 64)) (nI 0) aB aI aC aP), cl_I G aI 16 v2, cl_I G aC 8 ch2, cl_B G aT 1024 tx]) (va_runS (As := [.ref aB, .int (nI 0)]) (rest := []) ⟨hx, hb, hml, hown, hts⟩ (met_X5_fill l G aB 64 (by decide) f_69 H.size) (va_cwS 2 hts (lw_S q289 q290 q28 q291) rfl rfl rfl (by decide +kernel) ⟨Nat.le_of_ble_eq_true rfl, Nat.le_of_ble_eq_true rfl⟩) (wd_preS hK hZ hP hD hS hA [1] (by decide) rfl) rfl rfl hl.1 rfl (lv_room (Nat.le_of_ble_eq_true rfl)) dX1_update_99 ⟨Nat.le_of_ble_eq_true rfl, Nat.le_of_ble_eq_true rfl⟩) hP hD hS hA [1] [0, 2, 3, 4] rfl rfl (by decide) (by decide) ?_
        intro u_72 hu_72
        clear hP hD hS; intro H locs hP hD hS
        replace hP : va_P G.1 vwCl [cl_O ao 1 (bk_fs (nI d) (nI 0) (nI (64 * n + 64)) (nI 0) aB aI aC aP), cl_B G aB 64 (fun _ => 0), cl_I G aI 16 v2, cl_I G aC 8 ch2, cl_B G aT 1024 tx] H := wd_psub hP [0, 4, 1, 2, 3] rfl
        replace hD : va_D A [cl_O ao 1 (bk_fs (nI d) (nI 0) (nI (64 * n + 64)) (nI 0) aB aI aC aP), cl_B G aB 64 (fun _ => 0), cl_I G aI 16 v2, cl_I G aC 8 ch2, cl_B G aT 1024 tx] := hD.sub [0, 4, 1, 2, 3] (by decide) rfl
        refine lv_iload_n hx hb dX1_update_102 rfl (lv_at hl 3 rfl) ?_
        refine lv_iload_n hx hb dX1_update_103 rfl (lv_at hl 4 rfl) ?_
        refine wd_iaddN (x := o) (y := x) hx hb dX1_update_104 ?_
        refine lv_bipush (v := nI 64) hx hb dX1_update_105 (by decide) ?_
        refine lv_isub hx hb dX1_update_107 ?_
        refine lv_istore (lv' := [(5, .int ((nI (o + x)) - (nI 64))), (4, .int (nI (64 - k))), (0, .ref ao), (1, .ref aT), (2, .int (nI o)), (3, .int (nI x))]) hx hb dX1_update_108 hl (by decide) rfl ?_
        clear hl; intro ls hl
        refine lv_iload_n hx hb dX1_update_110 rfl (lv_at hl 4 rfl) ?_
        refine lv_iload hx hb dX1_update_111 (lv_at hl 1 rfl) ?_
        refine wd_iaddN (x := o) (y := 64 - k) hx hb dX1_update_113 ?_
        refine lv_istore (lv' := [(6, .int (nI (o + (64 - k)))), (5, .int ((nI (o + x)) - (nI 64))), (4, .int (nI (64 - k))), (0, .ref ao), (1, .ref aT), (2, .int (nI o)), (3, .int (nI x))]) hx hb dX1_update_114 hl (by decide) rfl ?_
        clear hl; intro ls hl
        have e9 : 64 * n + 64 = 64 * (n + 1) := by omega
        rw [e9] at hP hD
        exact loop ((x - (64 - k) - 1) / 64) (64 - k) (n + 1) (0 + 0 + 1 + 0) (0 + 0 + 16 + 0) (64 - k) v2 ch2 (by omega) (by omega) (by omega) (by rw [hu_71, ef_69]; exact bk_press hok tx o) (by omega) (by omega) _ _ hP hD hS ls (lv_sub hl [0, 1, 2, 3, 4, 5, 6] rfl)
      · refine lv_aload_n hx hb dX1_update_34 rfl (lv_at hl 2 rfl) ?_
        refine lv_iload_n hx hb dX1_update_35 rfl (lv_at hl 3 rfl) ?_
        refine lv_aload_n hx hb dX1_update_36 rfl (lv_at hl 1 rfl) ?_
        refine va_get (D := G.1) (ci := 1) (v := .ref aB) (C := RX1) (T := TX1) (N := 21) hx hb hts in_X1 hown hK hP 0 rfl rfl 12 (by decide) (hts _ q147) (fun _ h9 => h9) rfl dX1_update_37 ?_
        refine lv_aload_n hx hb dX1_update_40 rfl (lv_at hl 1 rfl) ?_
        refine va_get (D := G.1) (ci := 1) (v := .int (nI k)) (C := RX1) (T := TX1) (N := 21) hx hb hts in_X1 hown hK hP 0 rfl rfl 13 (by decide) (hts _ q148) (fun _ h9 => h9) rfl dX1_update_41 ?_
        refine lv_iload_n hx hb dX1_update_44 rfl (lv_at hl 4 rfl) ?_
        refine wd_cpyB hx hb (hml.trans hl.1.symm) hown (hts _ q125) (hts _ q127) (hts _ q126) (hts _ q23) hK hP hD hS 4 1 rfl rfl (by omega) (by omega) (by omega) (by omega) hfit (Nat.le_of_ble_eq_true rfl) (Nat.le_of_ble_eq_true rfl) dX1_update_45 ?_
        clear hP hD hS; intro f_73 ef_73 H locs hP hD hS
        replace hP : va_P G.1 vwCl [cl_O ao 1 (bk_fs (nI d) (nI k) (nI (64 * n)) (nI 0) aB aI aC aP), cl_B G aB 64 f_73, cl_I G aI 16 v, cl_I G aC 8 ch, cl_B G aT 1024 tx] H := hP
        replace hD : va_D A [cl_O ao 1 (bk_fs (nI d) (nI k) (nI (64 * n)) (nI 0) aB aI aC aP), cl_B G aB 64 f_73, cl_I G aI 16 v, cl_I G aC 8 ch, cl_B G aT 1024 tx] := hD
        refine lv_aload_n hx hb dX1_update_48 rfl (lv_at hl 1 rfl) ?_
        refine lv_dup hx hb dX1_update_49 rfl ?_
        refine va_get (D := G.1) (ci := 1) (v := .int (nI k)) (C := RX1) (T := TX1) (N := 21) hx hb hts in_X1 hown hK hP 0 rfl rfl 13 (by decide) (hts _ q148) (fun _ h9 => h9) rfl dX1_update_50 ?_
        refine lv_iload_n hx hb dX1_update_53 rfl (lv_at hl 4 rfl) ?_
        refine wd_iaddN (x := k) (y := x) hx hb dX1_update_54 ?_
        refine va_put (D := G.1) (ci := 1) (v := .int (nI (k + x))) (ty := .int) (C := RX1) (T := TX1) (N := 21) hx hb hts in_X1 tyX1 tyX1_ok nmX1 hown hK hP hD hS 0 rfl rfl 13 (by decide) (hts _ q148) (fun _ h9 => h9) rfl (tyX1_ok 13 (by decide)) rfl rfl (Nat.le_of_ble_eq_true rfl) dX1_update_55 ?_
        clear hP hD hS; intro H locs hP hD hS
        replace hP : va_P G.1 vwCl [cl_O ao 1 (bk_fs (nI d) (nI (k + x)) (nI (64 * n)) (nI 0) aB aI aC aP), cl_B G aB 64 f_73, cl_I G aI 16 v, cl_I G aC 8 ch, cl_B G aT 1024 tx] H := hP
        replace hD : va_D A [cl_O ao 1 (bk_fs (nI d) (nI (k + x)) (nI (64 * n)) (nI 0) aB aI aC aP), cl_B G aB 64 f_73, cl_I G aI 16 v, cl_I G aC 8 ch, cl_B G aT 1024 tx] := hD
        refine W.widen (k := 17) (n := 272) (by decide) (by decide) ?_
        exact wd_vret hx hb hr hlk (n, k + x, f_73, v, ch) (by rw [ef_73]; exact bk_fill hok tx o x (by omega) (by omega)) hP hD hS dX1_update_58
  · refine W.widen (k := 17) (n := 272) (by decide) (by decide) ?_
    subst c_1
    exact wd_vret hx hb hr hlk (n, k, bf, v, ch) (bk_none hok) hP hD hS dX1_update_8
set_option maxHeartbeats 4000000 in
set_option maxRecDepth 100000 in
/-- Blake2sDigest.doFinal(out, 0) -/
theorem met_X1_fin (l : Launch) (G : wd_G) (ao aB aI aC aP : Nat) (aO d fed n k : Nat) (mf bf v ch fo : Nat → Int32) (hd : dOK d) (hok : bkOK d mf fed n k bf ch) (hfed : fed ≤ 100000) (sz : Nat) : Met l yX1_doFinal (ws_ yX1_doFinal cX1_doFinal 5 (some .int)) ({ frames := 4, cells := 1, slots := 16, locals := 92 }) (va_Pc [.ref ao, .ref aO, .int (nI 0)] (wd_Pre G [cl_O ao 1 (bk_fs (nI d) (nI k) (nI (64 * n)) (nI 0) aB aI aC aP), cl_B G aB 64 bf, cl_I G aI 16 v, cl_I G aC 8 ch, cl_B G aO 32 fo] sz)) (wd_Qi G (fun (r : Int32) (_ : Unit) => r = nI d) (fun _ => [cl_O ao 1 (bk_fs (nI d) (nI 0) (nI 0) (nI 0) aB aI aC aP), cl_B G aB 64 (fun _ => 0), cl_I G aI 16 (fun _ => 0), cl_I G aC 8 ((ivH d)), cl_B G aO 32 ((outF fo (dgF d mf fed) d))]) (va_A [cl_O ao 1 (bk_fs (nI d) (nI k) (nI (64 * n)) (nI 0) aB aI aC aP), cl_B G aB 64 bf, cl_I G aI 16 v, cl_I G aC 8 ch, cl_B G aO 32 fo] sz)) 1 16 (va_A [cl_O ao 1 (bk_fs (nI d) (nI k) (nI (64 * n)) (nI 0) aB aI aC aP), cl_B G aB 64 bf, cl_I G aI 16 v, cl_I G aC 8 ch, cl_B G aO 32 fo] sz) := by
  refine wd_ofW (Qc := fun A => wd_Qi G (fun (r : Int32) (_ : Unit) => r = nI d) (fun _ => [cl_O ao 1 (bk_fs (nI d) (nI 0) (nI 0) (nI 0) aB aI aC aP), cl_B G aB 64 (fun _ => 0), cl_I G aI 16 (fun _ => 0), cl_I G aC 8 ((ivH d)), cl_B G aO 32 ((outF fo (dgF d mf fed) d))]) A) (by decide) (Nat.le_of_ble_eq_true rfl) ?_
  intro p e s m below meth c A ls hx hb hr hml hown hlk hnm hts hK hZ hP hD hS hA hl
  replace hown : s.vm.findClass RX1 = some m.cls := hown
  replace hl : lv_has ls 5 [(0, .ref ao), (1, .ref aO), (2, .int (nI 0))] := hl
  have hd9 := dOK_le hd
  have ok1 := hok.1
  have ok2 := hok.2.1
  have ok3 := hok.2.2.1
  refine lv_iload_n hx hb dX1_doFinal_0 rfl (lv_at hl 2 rfl) ?_
  refine lv_aload_n hx hb dX1_doFinal_1 rfl (lv_at hl 1 rfl) ?_
  refine va_alen (v := nI 32) hx hb hK hP 4 0 rfl rfl rfl dX1_doFinal_2 ?_
  refine lv_aload_n hx hb dX1_doFinal_3 rfl (lv_at hl 0 rfl) ?_
  refine va_get (D := G.1) (ci := 1) (v := .int (nI d)) (C := RX1) (T := TX1) (N := 21) hx hb hts in_X1 hown hK hP 0 rfl rfl 0 (by decide) (hts _ q135) (fun _ h9 => h9) rfl dX1_doFinal_4 ?_
  refine wd_isubN hx hb dX1_doFinal_7 (by omega) ?_
  refine wd_le (tgt := 21) hx hb dX1_doFinal_8 (by decide) (by omega) (by omega) (fun c_1 => ?_) (fun c_1 => absurd c_1 (by omega))
  refine lv_aload_n hx hb dX1_doFinal_21 rfl (lv_at hl 0 rfl) ?_
  refine lv_iconst (v := (-1)) hx hb dX1_doFinal_22 (by decide) ?_
  refine va_put (D := G.1) (ci := 1) (v := .int ((-1))) (ty := .int) (C := RX1) (T := TX1) (N := 21) hx hb hts in_X1 tyX1 tyX1_ok nmX1 hown hK hP hD hS 0 rfl rfl 18 (by decide) (hts _ q153) (fun _ h9 => h9) rfl (tyX1_ok 18 (by decide)) rfl rfl (Nat.le_of_ble_eq_true rfl) dX1_doFinal_23 ?_
  clear hP hD hS; intro H locs hP hD hS
  replace hP : va_P G.1 vwCl [cl_O ao 1 (bk_fs (nI d) (nI k) (nI (64 * n)) ((-1)) aB aI aC aP), cl_B G aB 64 bf, cl_I G aI 16 v, cl_I G aC 8 ch, cl_B G aO 32 fo] H := hP
  replace hD : va_D A [cl_O ao 1 (bk_fs (nI d) (nI k) (nI (64 * n)) ((-1)) aB aI aC aP), cl_B G aB 64 bf, cl_I G aI 16 v, cl_I G aC 8 ch, cl_B G aO 32 fo] := hD
  refine lv_aload_n hx hb dX1_doFinal_26 rfl (lv_at hl 0 rfl) ?_
  refine va_get (D := G.1) (ci := 1) (v := .int (nI 0)) (C := RX1) (T := TX1) (N := 21) hx hb hts in_X1 hown hK hP 0 rfl rfl 11 (by decide) (hts _ q146) (fun _ h9 => h9) rfl dX1_doFinal_27 ?_
  refine wd_ifeq (tgt := 38) hx hb dX1_doFinal_30 (by decide) (by decide) (fun c_1 => ?_) (fun c_1 => absurd rfl c_1)
  have tail : ∀ (H : Heap) (locs : List Loc), va_P G.1 vwCl [cl_O ao 1 (bk_fs (nI d) (nI k) (nI fed) ((-1)) aB aI aC aP), cl_B G aB 64 bf, cl_I G aI 16 v, cl_I G aC 8 ch, cl_B G aO 32 fo] H → va_D A [cl_O ao 1 (bk_fs (nI d) (nI k) (nI fed) ((-1)) aB aI aC aP), cl_B G aB 64 bf, cl_I G aI 16 v, cl_I G aC 8 ch, cl_B G aO 32 fo] → va_S A s.heap H locs → ∀ (ls : Array Slot), lv_has ls 5 [(0, .ref ao), (1, .ref aO), (2, .int (nI 0))] → W p l e ({ frames := 4, cells := 1, slots := 16, locals := 92 }) s m ([.ref ao, .ref aO, .int (nI 0)] : List Value).toArray below meth c H locs 0 0 (MQ below (wd_Qi G (fun (r : Int32) (_ : Unit) => r = nI d) (fun _ => [cl_O ao 1 (bk_fs (nI d) (nI 0) (nI 0) (nI 0) aB aI aC aP), cl_B G aB 64 (fun _ => 0), cl_I G aI 16 (fun _ => 0), cl_I G aC 8 ((ivH d)), cl_B G aO 32 ((outF fo (dgF d mf fed) d))]) A) ([.ref ao, .ref aO, .int (nI 0)] : List Value).toArray s 1 16 A) (F0 m 53 ls []) := by
    clear hP hD hS hl
    intro H locs hP hD hS ls hl
    refine lv_aload_n hx hb dX1_doFinal_53 rfl (lv_at hl 0 rfl) ?_
    refine lv_aload_n hx hb dX1_doFinal_54 rfl (lv_at hl 0 rfl) ?_
    refine va_get (D := G.1) (ci := 1) (v := .ref aB) (C := RX1) (T := TX1) (N := 21) hx hb hts in_X1 hown hK hP 0 rfl rfl 12 (by decide) (hts _ q147) (fun _ h9 => h9) rfl dX1_doFinal_55 ?_
    refine lv_iconst (v := nI 0) hx hb dX1_doFinal_58 (by decide) ?_
    refine wd_callv (wr := [cl_B G aO 32 fo]) (va_runV (As := [.ref aB, .int (nI 0)]) (rest := []) ⟨hx, hb, hml, hown, hts⟩ (met_X1_cmp l G ao aB aI aC aP aB 64 0 (nI d) (nI k) (nI fed) (-1) v ch bf (by decide) (by decide) H.size) (cwV 2 hts (lw_V q265 q267 qs6 q16 q268) rfl rfl rfl (by decide +kernel) ⟨Nat.le_of_ble_eq_true rfl, Nat.le_of_ble_eq_true rfl⟩) (wd_preV hK hZ hP hD hS hA [0, 2, 3, 1] (by decide) rfl 0 1 rfl rfl) rfl rfl hl.1 rfl (lv_room (Nat.le_of_ble_eq_true rfl)) dX1_doFinal_59 ⟨Nat.le_of_ble_eq_true rfl, Nat.le_of_ble_eq_true rfl⟩) hP hD hS hA [0, 2, 3, 1] [4] rfl rfl (by decide) (by decide) ?_
    intro u_74 hu_74
    obtain ⟨v2, ch2⟩ := u_74
    clear hP hD hS; intro H locs hP hD hS
    replace hP : va_P G.1 vwCl [cl_O ao 1 (bk_fs (nI d) (nI k) (nI fed) ((-1)) aB aI aC aP), cl_B G aB 64 bf, cl_I G aI 16 v2, cl_I G aC 8 ch2, cl_B G aO 32 fo] H := wd_psub hP [1, 4, 2, 3, 0] rfl
    replace hD : va_D A [cl_O ao 1 (bk_fs (nI d) (nI k) (nI fed) ((-1)) aB aI aC aP), cl_B G aB 64 bf, cl_I G aI 16 v2, cl_I G aC 8 ch2, cl_B G aO 32 fo] := hD.sub [1, 4, 2, 3, 0] (by decide) rfl
    replace hu_74 : ch2 = dgF d mf fed := (show ch2 = _ from hu_74).trans (bk_end hok)
    refine lv_aload_n hx hb dX1_doFinal_62 rfl (lv_at hl 0 rfl) ?_
    refine va_get (D := G.1) (ci := 1) (v := .int (nI d)) (C := RX1) (T := TX1) (N := 21) hx hb hts in_X1 hown hK hP 0 rfl rfl 0 (by decide) (hts _ q135) (fun _ h9 => h9) rfl dX1_doFinal_63 ?_
    refine lv_iconst (v := nI 2) hx hb dX1_doFinal_66 (by decide) ?_
    refine lv_iushr hx hb dX1_doFinal_67 rfl ?_
    refine lv_eqi (y := nI (d / 4)) (pk_ushrN (by omega) (nI 2) 2 (by decide)) ?_
    refine lv_istore_n (lv' := [(3, .int (nI (d / 4))), (0, .ref ao), (1, .ref aO), (2, .int (nI 0))]) hx hb dX1_doFinal_68 rfl hl (by decide) rfl ?_
    clear hl; intro ls hl
    refine lv_aload_n hx hb dX1_doFinal_69 rfl (lv_at hl 1 rfl) ?_
    refine va_get (D := G.1) (ci := 1) (v := .int (nI d)) (C := RX1) (T := TX1) (N := 21) hx hb hts in_X1 hown hK hP 0 rfl rfl 0 (by decide) (hts _ q135) (fun _ h9 => h9) rfl dX1_doFinal_70 ?_
    refine lv_iconst (v := nI 3) hx hb dX1_doFinal_73 (by decide) ?_
    refine lv_iand hx hb dX1_doFinal_74 ?_
    refine lv_eqi (y := nI 0) (fin_and hd) ?_
    refine lv_istore (lv' := [(4, .int (nI 0)), (3, .int (nI (d / 4))), (0, .ref ao), (1, .ref aO), (2, .int (nI 0))]) hx hb dX1_doFinal_75 hl (by decide) rfl ?_
    clear hl; intro ls hl
    refine lv_aload_n hx hb dX1_doFinal_77 rfl (lv_at hl 2 rfl) ?_
    refine va_get (D := G.1) (ci := 1) (v := .ref aC) (C := RX1) (T := TX1) (N := 21) hx hb hts in_X1 hown hK hP 0 rfl rfl 15 (by decide) (hts _ q150) (fun _ h9 => h9) rfl dX1_doFinal_78 ?_
    refine lv_iconst (v := nI 0) hx hb dX1_doFinal_81 (by decide) ?_
    refine lv_iload_n hx hb dX1_doFinal_82 rfl (lv_at hl 1 rfl) ?_
    refine lv_aload_n hx hb dX1_doFinal_83 rfl (lv_at hl 3 rfl) ?_
    refine lv_iload_n hx hb dX1_doFinal_84 rfl (lv_at hl 4 rfl) ?_
    refine wd_callv (wr := [cl_O ao 1 (bk_fs (nI d) (nI k) (nI fed) ((-1)) aB aI aC aP), cl_B G aB 64 bf, cl_I G aI 16 v2]) (va_runS (As := [.ref aC, .int (nI 0), .int (nI (d / 4)), .ref aO, .int (nI 0)]) (rest := []) ⟨hx, hb, hml, hown, hts⟩ (met_X2_sts l G aO aC (d / 4) fo ch2 (by omega) H.size) (va_cwS 5 hts (lw_S q345 q346 q24 q347) rfl rfl rfl (by decide +kernel) ⟨Nat.le_of_ble_eq_true rfl, Nat.le_of_ble_eq_true rfl⟩) (wd_preS hK hZ hP hD hS hA [3, 4] (by decide) rfl) rfl rfl hl.1 rfl (lv_room (Nat.le_of_ble_eq_true rfl)) dX1_doFinal_85 ⟨Nat.le_of_ble_eq_true rfl, Nat.le_of_ble_eq_true rfl⟩) hP hD hS hA [3, 4] [0, 1, 2] rfl rfl (by decide) (by decide) ?_
    intro u_75 hu_75
    clear hP hD hS; intro H locs hP hD hS
    replace hP : va_P G.1 vwCl [cl_O ao 1 (bk_fs (nI d) (nI k) (nI fed) ((-1)) aB aI aC aP), cl_B G aB 64 bf, cl_I G aI 16 v2, cl_I G aC 8 ch2, cl_B G aO 32 u_75] H := wd_psub hP [0, 1, 2, 3, 4] rfl
    replace hD : va_D A [cl_O ao 1 (bk_fs (nI d) (nI k) (nI fed) ((-1)) aB aI aC aP), cl_B G aB 64 bf, cl_I G aI 16 v2, cl_I G aC 8 ch2, cl_B G aO 32 u_75] := hD.sub [0, 1, 2, 3, 4] (by decide) rfl
    rw [hd9.2.2, hu_74] at hu_75
    refine lv_iload hx hb dX1_doFinal_88 (lv_at hl 0 rfl) ?_
    refine wd_ifle (tgt := 114) hx hb dX1_doFinal_90 (by decide) (by decide) (fun c_1 => ?_) (fun c_1 => absurd c_1 (by decide))
    refine lv_aload_n hx hb dX1_doFinal_114 rfl (lv_at hl 2 rfl) ?_
    refine wd_callv (wr := [cl_B G aO 32 u_75]) (va_runV (As := []) (rest := []) ⟨hx, hb, hml, hown, hts⟩ (met_X1_res l G ao aB aI aC aP d (nI k) (nI fed) (-1) bf v2 ch2 hd H.size) (cwV 0 hts (lw_V q354 q355 q356 q16 q357) rfl rfl rfl (by decide +kernel) ⟨Nat.le_of_ble_eq_true rfl, Nat.le_of_ble_eq_true rfl⟩) (wd_preV hK hZ hP hD hS hA [0, 1, 2, 3] (by decide) rfl 0 1 rfl rfl) rfl rfl hl.1 rfl (lv_room (Nat.le_of_ble_eq_true rfl)) dX1_doFinal_115 ⟨Nat.le_of_ble_eq_true rfl, Nat.le_of_ble_eq_true rfl⟩) hP hD hS hA [0, 1, 2, 3] [4] rfl rfl (by decide) (by decide) ?_
    intro u_76 hu_76
    clear hP hD hS; intro H locs hP hD hS
    replace hP : va_P G.1 vwCl [cl_O ao 1 (bk_fs (nI d) (nI 0) (nI 0) (nI 0) aB aI aC aP), cl_B G aB 64 (fun _ => 0), cl_I G aI 16 (fun _ => 0), cl_I G aC 8 ((ivH d)), cl_B G aO 32 u_75] H := wd_psub hP [1, 2, 3, 4, 0] rfl
    replace hD : va_D A [cl_O ao 1 (bk_fs (nI d) (nI 0) (nI 0) (nI 0) aB aI aC aP), cl_B G aB 64 (fun _ => 0), cl_I G aI 16 (fun _ => 0), cl_I G aC 8 ((ivH d)), cl_B G aO 32 u_75] := hD.sub [1, 2, 3, 4, 0] (by decide) rfl
    refine lv_aload_n hx hb dX1_doFinal_118 rfl (lv_at hl 2 rfl) ?_
    refine va_get (D := G.1) (ci := 1) (v := .int (nI d)) (C := RX1) (T := TX1) (N := 21) hx hb hts in_X1 hown hK hP 0 rfl rfl 0 (by decide) (hts _ q135) (fun _ h9 => h9) rfl dX1_doFinal_119 ?_
    subst hu_75
    exact wd_iret hx hb hr hlk () rfl hP hD hS dX1_doFinal_122
  refine lv_aload_n hx hb dX1_doFinal_38 rfl (lv_at hl 0 rfl) ?_
  refine va_get (D := G.1) (ci := 1) (v := .int (nI k)) (C := RX1) (T := TX1) (N := 21) hx hb hts in_X1 hown hK hP 0 rfl rfl 13 (by decide) (hts _ q148) (fun _ h9 => h9) rfl dX1_doFinal_39 ?_
  refine wd_ifle (tgt := 53) hx hb dX1_doFinal_42 (by decide) (by omega) (fun c_1 => ?_) (fun c_1 => ?_)
  · have e9 : 64 * n = fed := by have := ok3 c_1; omega
    rw [e9] at hP hD
    exact tail _ _ hP hD hS ls (lv_sub hl [0, 1, 2] rfl)
  · refine lv_aload_n hx hb dX1_doFinal_45 rfl (lv_at hl 0 rfl) ?_
    refine lv_aload_n hx hb dX1_doFinal_46 rfl (lv_at hl 0 rfl) ?_
    refine va_get (D := G.1) (ci := 1) (v := .int (nI k)) (C := RX1) (T := TX1) (N := 21) hx hb hts in_X1 hown hK hP 0 rfl rfl 13 (by decide) (hts _ q148) (fun _ h9 => h9) rfl dX1_doFinal_47 ?_
    refine wd_callv (wr := [cl_B G aB 64 bf, cl_I G aI 16 v, cl_I G aC 8 ch, cl_B G aO 32 fo]) (va_runV (As := [.int (nI k)]) (rest := []) ⟨hx, hb, hml, hown, hts⟩ (met_X1_inc l G ao aB aI aC aP (nI d) (nI k) (-1) (64 * n) k (by omega) H.size) (cwV 1 hts (lw_V q254 q256 qs5 q16 q257) rfl rfl rfl (by decide +kernel) ⟨Nat.le_of_ble_eq_true rfl, Nat.le_of_ble_eq_true rfl⟩) (wd_preV hK hZ hP hD hS hA [0] (by decide) rfl 0 1 rfl rfl) rfl rfl hl.1 rfl (lv_room (Nat.le_of_ble_eq_true rfl)) dX1_doFinal_50 ⟨Nat.le_of_ble_eq_true rfl, Nat.le_of_ble_eq_true rfl⟩) hP hD hS hA [0] [1, 2, 3, 4] rfl rfl (by decide) (by decide) ?_
    intro u_77 hu_77
    clear hP hD hS; intro H locs hP hD hS
    replace hP : va_P G.1 vwCl [cl_O ao 1 (bk_fs (nI d) (nI k) (nI (64 * n + k)) ((-1)) aB aI aC aP), cl_B G aB 64 bf, cl_I G aI 16 v, cl_I G aC 8 ch, cl_B G aO 32 fo] H := wd_psub hP [4, 0, 1, 2, 3] rfl
    replace hD : va_D A [cl_O ao 1 (bk_fs (nI d) (nI k) (nI (64 * n + k)) ((-1)) aB aI aC aP), cl_B G aB 64 bf, cl_I G aI 16 v, cl_I G aC 8 ch, cl_B G aO 32 fo] := hD.sub [4, 0, 1, 2, 3] (by decide) rfl
    rw [← ok1] at hP hD
    exact tail _ _ hP hD hS ls (lv_sub hl [0, 1, 2] rfl)
end
section
/-! BlakeShortDesk -/
set_option maxHeartbeats 4000000 in
set_option maxRecDepth 100000 in
/-- BlakeShortDesk.word(o, w) -/
theorem met_X0_word (l : Launch) (G : wd_G) (ad ar aO aT : Nat) (fd sz0 w : Int32) (o : Nat) (tx : Nat → Int32) (ho : o + 4 ≤ 1024) (sz : Nat) : Met l yX0_word (ws_ yX0_word cX0_word 3 none) ({ frames := 0, cells := 0, slots := 0, locals := 0 }) (va_Pc [.ref ad, .int (nI o), .int w] (wd_Pre G [cl_O ad 0 (dk_fs ar aO aT fd sz0), cl_B G aT 1024 tx] sz)) (wd_Qv G (fun u : Nat → Int32 => u = pwF tx o w) (fun u => [cl_O ad 0 (dk_fs ar aO aT fd sz0), cl_B G aT 1024 u]) (va_A [cl_O ad 0 (dk_fs ar aO aT fd sz0), cl_B G aT 1024 tx] sz)) 0 0 (va_A [cl_O ad 0 (dk_fs ar aO aT fd sz0), cl_B G aT 1024 tx] sz) := by
  refine wd_ofW (Qc := fun A => wd_Qv G (fun u : Nat → Int32 => u = pwF tx o w) (fun u => [cl_O ad 0 (dk_fs ar aO aT fd sz0), cl_B G aT 1024 u]) A) (by decide) (Nat.le_of_ble_eq_true rfl) ?_
  intro p e s m below meth c A ls hx hb hr hml hown hlk hnm hts hK hZ hP hD hS hA hl
  replace hown : s.vm.findClass RX0 = some m.cls := hown
  replace hl : lv_has ls 3 [(0, .ref ad), (1, .int (nI o)), (2, .int w)] := hl
  refine lv_aload_n hx hb dX0_word_0 rfl (lv_at hl 0 rfl) ?_
  refine va_get (D := G.1) (ci := 0) (v := .ref aT) (C := RX0) (T := TX0) (N := 5) hx hb hts in_X0 hown hK hP 0 rfl rfl 3 (by decide) (hts _ q202) (fun _ h9 => h9) rfl dX0_word_1 ?_
  refine lv_iload_n hx hb dX0_word_4 rfl (lv_at hl 1 rfl) ?_
  refine lv_iload_n hx hb dX0_word_5 rfl (lv_at hl 2 rfl) ?_
  refine lv_bipush (v := nI 24) hx hb dX0_word_6 (by decide) ?_
  refine lv_ishr hx hb dX0_word_8 ?_
  refine lv_i2b hx hb dX0_word_9 rfl ?_
  refine wd_bst hx hb hK hP hD hS 1 rfl o (by omega) (by omega) (pk_vb _) dX0_word_10 ?_
  clear hP hD hS; intro f_78 ef_78 H locs hP hD hS
  replace hP : va_P G.1 vwCl [cl_O ad 0 (dk_fs ar aO aT fd sz0), cl_B G aT 1024 f_78] H := hP
  replace hD : va_D A [cl_O ad 0 (dk_fs ar aO aT fd sz0), cl_B G aT 1024 f_78] := hD
  refine lv_aload_n hx hb dX0_word_11 rfl (lv_at hl 0 rfl) ?_
  refine va_get (D := G.1) (ci := 0) (v := .ref aT) (C := RX0) (T := TX0) (N := 5) hx hb hts in_X0 hown hK hP 0 rfl rfl 3 (by decide) (hts _ q202) (fun _ h9 => h9) rfl dX0_word_12 ?_
  refine lv_iload_n hx hb dX0_word_15 rfl (lv_at hl 1 rfl) ?_
  refine lv_iconst (v := nI 1) hx hb dX0_word_16 (by decide) ?_
  refine wd_iaddN (x := o) (y := 1) hx hb dX0_word_17 ?_
  refine lv_iload_n hx hb dX0_word_18 rfl (lv_at hl 2 rfl) ?_
  refine lv_bipush (v := nI 16) hx hb dX0_word_19 (by decide) ?_
  refine lv_ishr hx hb dX0_word_21 ?_
  refine lv_i2b hx hb dX0_word_22 rfl ?_
  refine wd_bst hx hb hK hP hD hS 1 rfl (o + 1) (by omega) (by omega) (pk_vb _) dX0_word_23 ?_
  clear hP hD hS; intro f_79 ef_79 H locs hP hD hS
  replace hP : va_P G.1 vwCl [cl_O ad 0 (dk_fs ar aO aT fd sz0), cl_B G aT 1024 f_79] H := hP
  replace hD : va_D A [cl_O ad 0 (dk_fs ar aO aT fd sz0), cl_B G aT 1024 f_79] := hD
  refine lv_aload_n hx hb dX0_word_24 rfl (lv_at hl 0 rfl) ?_
  refine va_get (D := G.1) (ci := 0) (v := .ref aT) (C := RX0) (T := TX0) (N := 5) hx hb hts in_X0 hown hK hP 0 rfl rfl 3 (by decide) (hts _ q202) (fun _ h9 => h9) rfl dX0_word_25 ?_
  refine lv_iload_n hx hb dX0_word_28 rfl (lv_at hl 1 rfl) ?_
  refine lv_iconst (v := nI 2) hx hb dX0_word_29 (by decide) ?_
  refine wd_iaddN (x := o) (y := 2) hx hb dX0_word_30 ?_
  refine lv_iload_n hx hb dX0_word_31 rfl (lv_at hl 2 rfl) ?_
  refine lv_bipush (v := nI 8) hx hb dX0_word_32 (by decide) ?_
  refine lv_ishr hx hb dX0_word_34 ?_
  refine lv_i2b hx hb dX0_word_35 rfl ?_
  refine wd_bst hx hb hK hP hD hS 1 rfl (o + 2) (by omega) (by omega) (pk_vb _) dX0_word_36 ?_
  clear hP hD hS; intro f_80 ef_80 H locs hP hD hS
  replace hP : va_P G.1 vwCl [cl_O ad 0 (dk_fs ar aO aT fd sz0), cl_B G aT 1024 f_80] H := hP
  replace hD : va_D A [cl_O ad 0 (dk_fs ar aO aT fd sz0), cl_B G aT 1024 f_80] := hD
  refine lv_aload_n hx hb dX0_word_37 rfl (lv_at hl 0 rfl) ?_
  refine va_get (D := G.1) (ci := 0) (v := .ref aT) (C := RX0) (T := TX0) (N := 5) hx hb hts in_X0 hown hK hP 0 rfl rfl 3 (by decide) (hts _ q202) (fun _ h9 => h9) rfl dX0_word_38 ?_
  refine lv_iload_n hx hb dX0_word_41 rfl (lv_at hl 1 rfl) ?_
  refine lv_iconst (v := nI 3) hx hb dX0_word_42 (by decide) ?_
  refine wd_iaddN (x := o) (y := 3) hx hb dX0_word_43 ?_
  refine lv_iload_n hx hb dX0_word_44 rfl (lv_at hl 2 rfl) ?_
  refine lv_i2b hx hb dX0_word_45 rfl ?_
  refine wd_bst hx hb hK hP hD hS 1 rfl (o + 3) (by omega) (by omega) (pk_vb _) dX0_word_46 ?_
  clear hP hD hS; intro f_81 ef_81 H locs hP hD hS
  replace hP : va_P G.1 vwCl [cl_O ad 0 (dk_fs ar aO aT fd sz0), cl_B G aT 1024 f_81] H := hP
  replace hD : va_D A [cl_O ad 0 (dk_fs ar aO aT fd sz0), cl_B G aT 1024 f_81] := hD
  obtain ⟨hP, hD⟩ := wd_lab (q0 := 1) hP hD rfl (pwF tx o w) (fun j hj => by rw [ef_81, ef_80, ef_79, ef_78]; exact pw_eq tx o w j)
  exact wd_vret hx hb hr hlk (pwF tx o w) rfl hP hD hS dX0_word_47
set_option maxHeartbeats 4000000 in
set_option maxRecDepth 100000 in
/-- BlakeShortDesk.put -/
theorem met_X0_put (l : Launch) (G : wd_G) (ad ar aO aT : Nat) (fd w1 w2 w3 w4 : Int32) (k : Nat) (tx : Nat → Int32) (hk : k ≤ 1024) (sz : Nat) : Met l yX0_put (ws_ yX0_put cX0_put 5 (some .boolean)) ({ frames := 1, cells := 0, slots := 0, locals := 22 }) (va_Pc [.ref ad, .int w1, .int w2, .int w3, .int w4] (wd_Pre G [cl_O ad 0 (dk_fs ar aO aT fd (nI k)), cl_B G aT 1024 tx] sz)) (wd_Qi G (fun (r : Int32) (u : (Nat → Int32) × Nat) => if k ≤ 1008 then r = nI 1 ∧ u.1 = pw4 tx k w1 w2 w3 w4 ∧ u.2 = k + 16 else r = nI 0 ∧ u.1 = tx ∧ u.2 = k) (fun u => [cl_O ad 0 (dk_fs ar aO aT fd (nI u.2)), cl_B G aT 1024 u.1]) (va_A [cl_O ad 0 (dk_fs ar aO aT fd (nI k)), cl_B G aT 1024 tx] sz)) 0 0 (va_A [cl_O ad 0 (dk_fs ar aO aT fd (nI k)), cl_B G aT 1024 tx] sz) := by
  refine wd_ofW (Qc := fun A => wd_Qi G (fun (r : Int32) (u : (Nat → Int32) × Nat) => if k ≤ 1008 then r = nI 1 ∧ u.1 = pw4 tx k w1 w2 w3 w4 ∧ u.2 = k + 16 else r = nI 0 ∧ u.1 = tx ∧ u.2 = k) (fun u => [cl_O ad 0 (dk_fs ar aO aT fd (nI u.2)), cl_B G aT 1024 u.1]) A) (by decide) (Nat.le_of_ble_eq_true rfl) ?_
  intro p e s m below meth c A ls hx hb hr hml hown hlk hnm hts hK hZ hP hD hS hA hl
  replace hown : s.vm.findClass RX0 = some m.cls := hown
  replace hl : lv_has ls 5 [(0, .ref ad), (1, .int w1), (2, .int w2), (3, .int w3), (4, .int w4)] := hl
  refine lv_aload_n hx hb dX0_put_0 rfl (lv_at hl 0 rfl) ?_
  refine va_get (D := G.1) (ci := 0) (v := .int (nI k)) (C := RX0) (T := TX0) (N := 5) hx hb hts in_X0 hown hK hP 0 rfl rfl 4 (by decide) (hts _ q203) (fun _ h9 => h9) rfl dX0_put_1 ?_
  refine lv_aload_n hx hb dX0_put_4 rfl (lv_at hl 0 rfl) ?_
  refine va_get (D := G.1) (ci := 0) (v := .ref aT) (C := RX0) (T := TX0) (N := 5) hx hb hts in_X0 hown hK hP 0 rfl rfl 3 (by decide) (hts _ q202) (fun _ h9 => h9) rfl dX0_put_5 ?_
  refine va_alen (v := nI 1024) hx hb hK hP 1 0 rfl rfl rfl dX0_put_8 ?_
  refine lv_bipush (v := nI 16) hx hb dX0_put_9 (by decide) ?_
  refine wd_isubN hx hb dX0_put_11 (by omega) ?_
  refine wd_le (tgt := 17) hx hb dX0_put_12 (by decide) (by omega) (by omega) (fun c_1 => ?_) (fun c_1 => ?_)
  · refine lv_aload_n hx hb dX0_put_17 rfl (lv_at hl 0 rfl) ?_
    refine lv_aload_n hx hb dX0_put_18 rfl (lv_at hl 0 rfl) ?_
    refine va_get (D := G.1) (ci := 0) (v := .int (nI k)) (C := RX0) (T := TX0) (N := 5) hx hb hts in_X0 hown hK hP 0 rfl rfl 4 (by decide) (hts _ q203) (fun _ h9 => h9) rfl dX0_put_19 ?_
    refine lv_iload_n hx hb dX0_put_22 rfl (lv_at hl 1 rfl) ?_
    refine wd_callv (wr := []) (va_runV (As := [.int (nI k), .int w1]) (rest := []) ⟨hx, hb, hml, hown, hts⟩ (met_X0_word l G ad ar aO aT fd (nI k) w1 k tx (by omega) s.heap.size) (cwV 2 hts (lw_V q219 q221 qs2 q15 q222) rfl rfl rfl (by decide +kernel) ⟨Nat.le_of_ble_eq_true rfl, Nat.le_of_ble_eq_true rfl⟩) (wd_preV hK hZ hP hD hS hA [0, 1] (by decide) rfl 0 0 rfl rfl) rfl rfl hl.1 rfl (lv_room (Nat.le_of_ble_eq_true rfl)) dX0_put_23 ⟨Nat.le_of_ble_eq_true rfl, Nat.le_of_ble_eq_true rfl⟩) hP hD hS hA [0, 1] [] rfl rfl (by decide) (by decide) ?_
    intro u_82 hu_82
    clear hP hD hS; intro H locs hP hD hS
    replace hP : va_P G.1 vwCl [cl_O ad 0 (dk_fs ar aO aT fd (nI k)), cl_B G aT 1024 u_82] H := wd_psub hP [0, 1] rfl
    replace hD : va_D A [cl_O ad 0 (dk_fs ar aO aT fd (nI k)), cl_B G aT 1024 u_82] := hD.sub [0, 1] (by decide) rfl
    refine lv_aload_n hx hb dX0_put_26 rfl (lv_at hl 0 rfl) ?_
    refine lv_aload_n hx hb dX0_put_27 rfl (lv_at hl 0 rfl) ?_
    refine va_get (D := G.1) (ci := 0) (v := .int (nI k)) (C := RX0) (T := TX0) (N := 5) hx hb hts in_X0 hown hK hP 0 rfl rfl 4 (by decide) (hts _ q203) (fun _ h9 => h9) rfl dX0_put_28 ?_
    refine lv_iconst (v := nI 4) hx hb dX0_put_31 (by decide) ?_
    refine wd_iaddN (x := k) (y := 4) hx hb dX0_put_32 ?_
    refine lv_iload_n hx hb dX0_put_33 rfl (lv_at hl 2 rfl) ?_
    refine wd_callv (wr := []) (va_runV (As := [.int (nI (k + 4)), .int w2]) (rest := []) ⟨hx, hb, hml, hown, hts⟩ (met_X0_word l G ad ar aO aT fd (nI k) w2 (k + 4) u_82 (by omega) H.size) (cwV 2 hts (lw_V q219 q221 qs2 q15 q222) rfl rfl rfl (by decide +kernel) ⟨Nat.le_of_ble_eq_true rfl, Nat.le_of_ble_eq_true rfl⟩) (wd_preV hK hZ hP hD hS hA [0, 1] (by decide) rfl 0 0 rfl rfl) rfl rfl hl.1 rfl (lv_room (Nat.le_of_ble_eq_true rfl)) dX0_put_34 ⟨Nat.le_of_ble_eq_true rfl, Nat.le_of_ble_eq_true rfl⟩) hP hD hS hA [0, 1] [] rfl rfl (by decide) (by decide) ?_
    intro u_83 hu_83
    clear hP hD hS; intro H locs hP hD hS
    replace hP : va_P G.1 vwCl [cl_O ad 0 (dk_fs ar aO aT fd (nI k)), cl_B G aT 1024 u_83] H := wd_psub hP [0, 1] rfl
    replace hD : va_D A [cl_O ad 0 (dk_fs ar aO aT fd (nI k)), cl_B G aT 1024 u_83] := hD.sub [0, 1] (by decide) rfl
    refine lv_aload_n hx hb dX0_put_37 rfl (lv_at hl 0 rfl) ?_
    refine lv_aload_n hx hb dX0_put_38 rfl (lv_at hl 0 rfl) ?_
    refine va_get (D := G.1) (ci := 0) (v := .int (nI k)) (C := RX0) (T := TX0) (N := 5) hx hb hts in_X0 hown hK hP 0 rfl rfl 4 (by decide) (hts _ q203) (fun _ h9 => h9) rfl dX0_put_39 ?_
    refine lv_bipush (v := nI 8) hx hb dX0_put_42 (by decide) ?_
    refine wd_iaddN (x := k) (y := 8) hx hb dX0_put_44 ?_
    refine lv_iload_n hx hb dX0_put_45 rfl (lv_at hl 3 rfl) ?_
    refine wd_callv (wr := []) (va_runV (As := [.int (nI (k + 8)), .int w3]) (rest := []) ⟨hx, hb, hml, hown, hts⟩ (met_X0_word l G ad ar aO aT fd (nI k) w3 (k + 8) u_83 (by omega) H.size) (cwV 2 hts (lw_V q219 q221 qs2 q15 q222) rfl rfl rfl (by decide +kernel) ⟨Nat.le_of_ble_eq_true rfl, Nat.le_of_ble_eq_true rfl⟩) (wd_preV hK hZ hP hD hS hA [0, 1] (by decide) rfl 0 0 rfl rfl) rfl rfl hl.1 rfl (lv_room (Nat.le_of_ble_eq_true rfl)) dX0_put_46 ⟨Nat.le_of_ble_eq_true rfl, Nat.le_of_ble_eq_true rfl⟩) hP hD hS hA [0, 1] [] rfl rfl (by decide) (by decide) ?_
    intro u_84 hu_84
    clear hP hD hS; intro H locs hP hD hS
    replace hP : va_P G.1 vwCl [cl_O ad 0 (dk_fs ar aO aT fd (nI k)), cl_B G aT 1024 u_84] H := wd_psub hP [0, 1] rfl
    replace hD : va_D A [cl_O ad 0 (dk_fs ar aO aT fd (nI k)), cl_B G aT 1024 u_84] := hD.sub [0, 1] (by decide) rfl
    refine lv_aload_n hx hb dX0_put_49 rfl (lv_at hl 0 rfl) ?_
    refine lv_aload_n hx hb dX0_put_50 rfl (lv_at hl 0 rfl) ?_
    refine va_get (D := G.1) (ci := 0) (v := .int (nI k)) (C := RX0) (T := TX0) (N := 5) hx hb hts in_X0 hown hK hP 0 rfl rfl 4 (by decide) (hts _ q203) (fun _ h9 => h9) rfl dX0_put_51 ?_
    refine lv_bipush (v := nI 12) hx hb dX0_put_54 (by decide) ?_
    refine wd_iaddN (x := k) (y := 12) hx hb dX0_put_56 ?_
    refine lv_iload hx hb dX0_put_57 (lv_at hl 4 rfl) ?_
    refine wd_callv (wr := []) (va_runV (As := [.int (nI (k + 12)), .int w4]) (rest := []) ⟨hx, hb, hml, hown, hts⟩ (met_X0_word l G ad ar aO aT fd (nI k) w4 (k + 12) u_84 (by omega) H.size) (cwV 2 hts (lw_V q219 q221 qs2 q15 q222) rfl rfl rfl (by decide +kernel) ⟨Nat.le_of_ble_eq_true rfl, Nat.le_of_ble_eq_true rfl⟩) (wd_preV hK hZ hP hD hS hA [0, 1] (by decide) rfl 0 0 rfl rfl) rfl rfl hl.1 rfl (lv_room (Nat.le_of_ble_eq_true rfl)) dX0_put_59 ⟨Nat.le_of_ble_eq_true rfl, Nat.le_of_ble_eq_true rfl⟩) hP hD hS hA [0, 1] [] rfl rfl (by decide) (by decide) ?_
    intro u_85 hu_85
    clear hP hD hS; intro H locs hP hD hS
    replace hP : va_P G.1 vwCl [cl_O ad 0 (dk_fs ar aO aT fd (nI k)), cl_B G aT 1024 u_85] H := wd_psub hP [0, 1] rfl
    replace hD : va_D A [cl_O ad 0 (dk_fs ar aO aT fd (nI k)), cl_B G aT 1024 u_85] := hD.sub [0, 1] (by decide) rfl
    refine lv_aload_n hx hb dX0_put_62 rfl (lv_at hl 0 rfl) ?_
    refine lv_dup hx hb dX0_put_63 rfl ?_
    refine va_get (D := G.1) (ci := 0) (v := .int (nI k)) (C := RX0) (T := TX0) (N := 5) hx hb hts in_X0 hown hK hP 0 rfl rfl 4 (by decide) (hts _ q203) (fun _ h9 => h9) rfl dX0_put_64 ?_
    refine lv_bipush (v := nI 16) hx hb dX0_put_67 (by decide) ?_
    refine wd_iaddN (x := k) (y := 16) hx hb dX0_put_69 ?_
    refine va_put (D := G.1) (ci := 0) (v := .int (nI (k + 16))) (ty := .int) (C := RX0) (T := TX0) (N := 5) hx hb hts in_X0 tyX0 tyX0_ok nmX0 hown hK hP hD hS 0 rfl rfl 4 (by decide) (hts _ q203) (fun _ h9 => h9) rfl (tyX0_ok 4 (by decide)) rfl rfl (Nat.le_of_ble_eq_true rfl) dX0_put_70 ?_
    clear hP hD hS; intro H locs hP hD hS
    replace hP : va_P G.1 vwCl [cl_O ad 0 (dk_fs ar aO aT fd (nI (k + 16))), cl_B G aT 1024 u_85] H := hP
    replace hD : va_D A [cl_O ad 0 (dk_fs ar aO aT fd (nI (k + 16))), cl_B G aT 1024 u_85] := hD
    refine lv_iconst (v := nI 1) hx hb dX0_put_73 (by decide) ?_
    exact wd_zret hx hb hr hlk rfl (u_85, k + 16) (by rw [if_pos (by omega)]; exact ⟨rfl, by show u_85 = _; rw [hu_85, hu_84, hu_83, hu_82]; rfl, rfl⟩) hP hD hS dX0_put_74
  · refine lv_iconst (v := nI 0) hx hb dX0_put_15 (by decide) ?_
    exact wd_zret hx hb hr hlk rfl (tx, k) (by rw [if_neg (by omega)]; exact ⟨rfl, rfl, rfl⟩) hP hD hS dX0_put_16
set_option maxHeartbeats 4000000 in
set_option maxRecDepth 100000 in
/-- BlakeShortDesk.from(f) -/
theorem met_X0_from (l : Launch) (G : wd_G) (ad ar aO aT : Nat) (fd f : Int32) (k : Nat) (hk : k ≤ 1024) : Met l yX0_from (ws_ yX0_from cX0_from 2 (some .int)) ({ frames := 0, cells := 0, slots := 0, locals := 0 }) (va_Pc [.ref ad, .int f] (wd_PreR G [cl_O ad 0 (dk_fs ar aO aT fd (nI k))])) (vp_Si (fun r => r = nI (fN f % (k + 1)))) 0 0 (fun _ => False) := by
  refine wd_ofR (by decide) (Nat.le_of_ble_eq_true rfl) ?_
  intro p e s m below meth c ls hx hb hr hml hown hlk hts hK hP hl
  replace hown : s.vm.findClass RX0 = some m.cls := hown
  replace hl : lv_has ls 2 [(0, .ref ad), (1, .int f)] := hl
  have hf := fN_lt f
  refine lv_iload_n hx hb dX0_from_0 rfl (lv_at hl 1 rfl) ?_
  refine lv_ldc hx hb hown (hts _ q231) dX0_from_1 ?_
  refine lv_iand hx hb dX0_from_3 ?_
  refine lv_eqi (y := nI (fN f)) (fN_and f) ?_
  refine lv_aload_n hx hb dX0_from_4 rfl (lv_at hl 0 rfl) ?_
  refine va_get (D := G.1) (ci := 0) (v := .int (nI k)) (C := RX0) (T := TX0) (N := 5) hx hb hts in_X0 hown hK hP 0 rfl rfl 4 (by decide) (hts _ q203) (fun _ h9 => h9) rfl dX0_from_5 ?_
  refine lv_iconst (v := nI 1) hx hb dX0_from_8 (by decide) ?_
  refine wd_iaddN (x := k) (y := 1) hx hb dX0_from_9 ?_
  refine wd_iremN hx hb dX0_from_10 (by omega) (by omega) (by omega) ?_
  exact wd_rret hx hb hr hlk rfl dX0_from_11
set_option maxHeartbeats 4000000 in
set_option maxRecDepth 100000 in
/-- BlakeShortDesk.count(f, x) -/
theorem met_X0_count (l : Launch) (G : wd_G) (ad ar aO aT : Nat) (fd x : Int32) (k f : Nat) (hk : k ≤ 1024) (hf : f ≤ k) : Met l yX0_count (ws_ yX0_count cX0_count 3 (some .int)) ({ frames := 0, cells := 0, slots := 0, locals := 0 }) (va_Pc [.ref ad, .int (nI f), .int x] (wd_PreR G [cl_O ad 0 (dk_fs ar aO aT fd (nI k))])) (vp_Si (fun r => r = nI (fN x % (k - f + 1)))) 0 0 (fun _ => False) := by
  refine wd_ofR (by decide) (Nat.le_of_ble_eq_true rfl) ?_
  intro p e s m below meth c ls hx hb hr hml hown hlk hts hK hP hl
  replace hown : s.vm.findClass RX0 = some m.cls := hown
  replace hl : lv_has ls 3 [(0, .ref ad), (1, .int (nI f)), (2, .int x)] := hl
  have hx9 := fN_lt x
  refine lv_iload_n hx hb dX0_count_0 rfl (lv_at hl 2 rfl) ?_
  refine lv_ldc hx hb hown (hts _ q231) dX0_count_1 ?_
  refine lv_iand hx hb dX0_count_3 ?_
  refine lv_eqi (y := nI (fN x)) (fN_and x) ?_
  refine lv_aload_n hx hb dX0_count_4 rfl (lv_at hl 0 rfl) ?_
  refine va_get (D := G.1) (ci := 0) (v := .int (nI k)) (C := RX0) (T := TX0) (N := 5) hx hb hts in_X0 hown hK hP 0 rfl rfl 4 (by decide) (hts _ q203) (fun _ h9 => h9) rfl dX0_count_5 ?_
  refine lv_iload_n hx hb dX0_count_8 rfl (lv_at hl 1 rfl) ?_
  refine wd_isubN hx hb dX0_count_9 (by omega) ?_
  refine lv_iconst (v := nI 1) hx hb dX0_count_10 (by decide) ?_
  refine wd_iaddN (x := k - f) (y := 1) hx hb dX0_count_11 ?_
  refine wd_iremN hx hb dX0_count_12 (by omega) (by omega) (by omega) ?_
  exact wd_rret hx hb hr hlk rfl dX0_count_13
set_option maxHeartbeats 4000000 in
set_option maxRecDepth 100000 in
/-- BlakeShortDesk.trim(f) -/
theorem met_X0_trim (l : Launch) (G : wd_G) (ad ar aO aT : Nat) (fd f : Int32) (k : Nat) (hk : k ≤ 1024) (sz : Nat) : Met l yX0_trim (ws_ yX0_trim cX0_trim 2 none) ({ frames := 1, cells := 0, slots := 0, locals := 21 }) (va_Pc [.ref ad, .int f] (wd_Pre G [cl_O ad 0 (dk_fs ar aO aT fd (nI k))] sz)) (wd_Qv G (fun _ : Unit => True) (fun _ => [cl_O ad 0 (dk_fs ar aO aT fd (nI (fN f % (k + 1))))]) (va_A [cl_O ad 0 (dk_fs ar aO aT fd (nI k))] sz)) 0 0 (va_A [cl_O ad 0 (dk_fs ar aO aT fd (nI k))] sz) := by
  refine wd_ofW (Qc := fun A => wd_Qv G (fun _ : Unit => True) (fun _ => [cl_O ad 0 (dk_fs ar aO aT fd (nI (fN f % (k + 1))))]) A) (by decide) (Nat.le_of_ble_eq_true rfl) ?_
  intro p e s m below meth c A ls hx hb hr hml hown hlk hnm hts hK hZ hP hD hS hA hl
  replace hown : s.vm.findClass RX0 = some m.cls := hown
  replace hl : lv_has ls 2 [(0, .ref ad), (1, .int f)] := hl
  refine lv_aload_n hx hb dX0_trim_0 rfl (lv_at hl 0 rfl) ?_
  refine lv_aload_n hx hb dX0_trim_1 rfl (lv_at hl 0 rfl) ?_
  refine lv_iload_n hx hb dX0_trim_2 rfl (lv_at hl 1 rfl) ?_
  refine vp_callSi (va_Run.run (va_runV (As := [.int f]) (rest := [.ref ad]) ⟨hx, hb, hml, hown, hts⟩ (met_X0_from l G ad ar aO aT fd f k hk) (cwV 1 hts (lw_V q227 q229 qs3 q15 q230) rfl rfl rfl (by decide +kernel) ⟨Nat.le_of_ble_eq_true rfl, Nat.le_of_ble_eq_true rfl⟩) (wd_preVR hK hP [0] rfl 0 0 rfl rfl) rfl rfl hl.1 rfl (lv_room (Nat.le_of_ble_eq_true rfl)) dX0_trim_3 ⟨Nat.le_of_ble_eq_true rfl, Nat.le_of_ble_eq_true rfl⟩)) ?_
  intro r_86 er_86
  subst er_86
  refine va_put (D := G.1) (ci := 0) (v := .int (nI (fN f % (k + 1)))) (ty := .int) (C := RX0) (T := TX0) (N := 5) hx hb hts in_X0 tyX0 tyX0_ok nmX0 hown hK hP hD hS 0 rfl rfl 4 (by decide) (hts _ q203) (fun _ h9 => h9) rfl (tyX0_ok 4 (by decide)) rfl rfl (Nat.le_of_ble_eq_true rfl) dX0_trim_6 ?_
  clear hP hD hS; intro H locs hP hD hS
  replace hP : va_P G.1 vwCl [cl_O ad 0 (dk_fs ar aO aT fd (nI (fN f % (k + 1))))] H := hP
  replace hD : va_D A [cl_O ad 0 (dk_fs ar aO aT fd (nI (fN f % (k + 1))))] := hD
  exact wd_vret hx hb hr hlk () trivial hP hD hS dX0_trim_9
set_option maxHeartbeats 4000000 in
set_option maxRecDepth 100000 in
/-- BlakeShortDesk.out(f) -/
theorem met_X0_out (l : Launch) (G : wd_G) (ad ar aO aT : Nat) (fd sz0 f : Int32) (fo : Nat → Int32) : Met l yX0_out (ws_ yX0_out cX0_out 2 (some .int)) ({ frames := 0, cells := 0, slots := 0, locals := 0 }) (va_Pc [.ref ad, .int f] (wd_PreR G [cl_O ad 0 (dk_fs ar aO aT fd sz0), cl_B G aO 32 fo])) (vp_Si (fun r => r = fo (fN f % 32) &&& nI 255)) 0 0 (fun _ => False) := by
  refine wd_ofR (by decide) (Nat.le_of_ble_eq_true rfl) ?_
  intro p e s m below meth c ls hx hb hr hml hown hlk hts hK hP hl
  replace hown : s.vm.findClass RX0 = some m.cls := hown
  replace hl : lv_has ls 2 [(0, .ref ad), (1, .int f)] := hl
  have hf := fN_lt f
  refine lv_aload_n hx hb dX0_out_0 rfl (lv_at hl 0 rfl) ?_
  refine va_get (D := G.1) (ci := 0) (v := .ref aO) (C := RX0) (T := TX0) (N := 5) hx hb hts in_X0 hown hK hP 0 rfl rfl 1 (by decide) (hts _ q200) (fun _ h9 => h9) rfl dX0_out_1 ?_
  refine lv_iload_n hx hb dX0_out_4 rfl (lv_at hl 1 rfl) ?_
  refine lv_ldc hx hb hown (hts _ q231) dX0_out_5 ?_
  refine lv_iand hx hb dX0_out_7 ?_
  refine lv_eqi (y := nI (fN f)) (fN_and f) ?_
  refine lv_bipush (v := nI 32) hx hb dX0_out_8 (by decide) ?_
  refine wd_iremN hx hb dX0_out_10 (by omega) (by omega) (by omega) ?_
  refine wd_bld hx hb hK hP 1 rfl ((fN f) % 32) (by omega) (by omega) dX0_out_11 ?_
  refine lv_sipush (v := nI 255) hx hb dX0_out_12 (by decide) ?_
  refine lv_iand hx hb dX0_out_15 ?_
  exact wd_rret hx hb hr hlk rfl dX0_out_16
set_option maxHeartbeats 4000000 in
set_option maxRecDepth 100000 in
/-- BlakeShortDesk.begin(x) -/
theorem met_X0_begin (l : Launch) (G : wd_G) (ad ar aO aT : Nat) (fd sz0 x : Int32) (sz : Nat) : Met l yX0_begin (ws_ yX0_begin cX0_begin 3 none) ({ frames := 3, cells := 4, slots := 109, locals := 68 }) (va_Pc [.ref ad, .int x] (wd_Pre G [cl_O ad 0 (dk_fs ar aO aT fd sz0)] sz)) (wd_Qv G (fun _ : Nat × Nat × Nat × Nat × Nat => True) (fun u => [cl_O ad 0 (dk_fs u.1 aO aT (nI 0) sz0), cl_O u.1 1 (bk_fs (nI (szF (fN x % 4))) (nI 0) (nI 0) (nI 0) u.2.1 u.2.2.1 u.2.2.2.1 u.2.2.2.2), cl_B G u.2.1 64 (fun _ => 0), cl_I G u.2.2.1 16 (fun _ => 0), cl_I G u.2.2.2.1 8 (ivH (szF (fN x % 4)))]) (va_A [cl_O ad 0 (dk_fs ar aO aT fd sz0)] sz)) 4 109 (va_A [cl_O ad 0 (dk_fs ar aO aT fd sz0)] sz) := by
  refine wd_ofW (Qc := fun A => wd_Qv G (fun _ : Nat × Nat × Nat × Nat × Nat => True) (fun u => [cl_O ad 0 (dk_fs u.1 aO aT (nI 0) sz0), cl_O u.1 1 (bk_fs (nI (szF (fN x % 4))) (nI 0) (nI 0) (nI 0) u.2.1 u.2.2.1 u.2.2.2.1 u.2.2.2.2), cl_B G u.2.1 64 (fun _ => 0), cl_I G u.2.2.1 16 (fun _ => 0), cl_I G u.2.2.2.1 8 (ivH (szF (fN x % 4)))]) A) (by decide) (Nat.le_of_ble_eq_true rfl) ?_
  intro p e s m below meth c A ls hx hb hr hml hown hlk hnm hts hK hZ hP hD hS hA hl
  replace hown : s.vm.findClass RX0 = some m.cls := hown
  replace hl : lv_has ls 3 [(0, .ref ad), (1, .int x)] := hl
  have hx9 := fN_lt x
  refine lv_iload_n hx hb dX0_begin_0 rfl (lv_at hl 1 rfl) ?_
  refine lv_ldc hx hb hown (hts _ q231) dX0_begin_1 ?_
  refine lv_iand hx hb dX0_begin_3 ?_
  refine lv_eqi (y := nI (fN x)) (fN_and x) ?_
  refine lv_iconst (v := nI 4) hx hb dX0_begin_4 (by decide) ?_
  refine wd_iremN hx hb dX0_begin_5 (by omega) (by omega) (by omega) ?_
  refine lv_istore_n (lv' := [(2, .int (nI ((fN x) % 4))), (0, .ref ad), (1, .int x)]) hx hb dX0_begin_6 rfl hl (by decide) rfl ?_
  clear hl; intro ls hl
  refine lv_aload_n hx hb dX0_begin_7 rfl (lv_at hl 1 rfl) ?_
  refine lv_iload_n hx hb dX0_begin_8 rfl (lv_at hl 0 rfl) ?_
  refine wd_ifne (tgt := 25) hx hb dX0_begin_9 (by decide) (by omega) (fun c_0 => ?_) (fun c_0 => ?_)
  · refine lv_iload_n hx hb dX0_begin_25 rfl (lv_at hl 0 rfl) ?_
    refine lv_iconst (v := nI 1) hx hb dX0_begin_26 (by decide) ?_
    refine wd_ne (tgt := 43) hx hb dX0_begin_27 (by decide) (by omega) (by decide) (fun c_1 => ?_) (fun c_1 => ?_)
    · refine lv_iload_n hx hb dX0_begin_43 rfl (lv_at hl 0 rfl) ?_
      refine lv_iconst (v := nI 2) hx hb dX0_begin_44 (by decide) ?_
      refine wd_ne (tgt := 61) hx hb dX0_begin_45 (by decide) (by omega) (by decide) (fun c_2 => ?_) (fun c_2 => ?_)
      · have e9 : szF (fN x % 4) = 28 := by rw [show fN x % 4 = 3 by omega]; rfl
        refine va_new (ci := 1) (fs := [.int (nI 0), .int (nI 0), .null, .null, .null, .int (nI 0), .int (nI 0), .int (nI 0), .long 0, .int (nI 0), .int (nI 0), .int (nI 0), .null, .int (nI 0), .null, .null, .int (nI 0), .int (nI 0), .int (nI 0), .int (nI 0), .null]) (C := RX1) (T := TX1) (N := 21) hx hb hts in_X1 tyX1 tyX1_ok hown (hts _ q41) (hts _ q42) (hts _ q16) hK hP hD hS hA rfl (new_X1) (Nat.le_of_ble_eq_true rfl) (Nat.le_of_ble_eq_true rfl) dX0_begin_61 ?_
        clear hP hD hS; intro ao_105 H hP hD hS
        replace hP : va_P G.1 vwCl [cl_O ad 0 (dk_fs ar aO aT fd sz0), cl_O ao_105 1 [.int (nI 0), .int (nI 0), .null, .null, .null, .int (nI 0), .int (nI 0), .int (nI 0), .long 0, .int (nI 0), .int (nI 0), .int (nI 0), .null, .int (nI 0), .null, .null, .int (nI 0), .int (nI 0), .int (nI 0), .int (nI 0), .null]] H := hP
        replace hD : va_D A [cl_O ad 0 (dk_fs ar aO aT fd sz0), cl_O ao_105 1 [.int (nI 0), .int (nI 0), .null, .null, .null, .int (nI 0), .int (nI 0), .int (nI 0), .long 0, .int (nI 0), .int (nI 0), .int (nI 0), .null, .int (nI 0), .null, .null, .int (nI 0), .int (nI 0), .int (nI 0), .int (nI 0), .null]] := hD
        refine lv_dup hx hb dX0_begin_64 rfl ?_
        refine lv_sipush (v := nI 224) hx hb dX0_begin_65 (by decide) ?_
        refine wd_callv (wr := [cl_O ad 0 (dk_fs ar aO aT fd sz0)]) (va_runI (As := [.int (nI 224)]) (rest := [.ref ao_105, .ref ad]) ⟨hx, hb, hml, hown, hts⟩ (met_X1_new l G ao_105 28 (Or.inr (Or.inr (Or.inr rfl))) H.size) (cwI 1 hts (lw_meth q45) rfl rfl rfl (hts _ q16) (hts _ q43) (hts _ q44) rfl (by decide +kernel) ⟨Nat.le_of_ble_eq_true rfl, Nat.le_of_ble_eq_true rfl⟩) (wd_preS hK hZ hP hD hS hA [1] (by decide) rfl) rfl rfl hl.1 rfl (lv_room (Nat.le_of_ble_eq_true rfl)) dX0_begin_68 ⟨Nat.le_of_ble_eq_true rfl, Nat.le_of_ble_eq_true rfl⟩) hP hD hS hA [1] [0] rfl rfl (by decide) (by decide) ?_
        intro u_110 hu_110
        obtain ⟨aB_106, aI_107, aC_108, aP_109⟩ := u_110
        clear hP hD hS; intro H locs hP hD hS
        replace hP : va_P G.1 vwCl [cl_O ad 0 (dk_fs ar aO aT fd sz0), cl_O ao_105 1 (bk_fs (nI 28) (nI 0) (nI 0) (nI 0) aB_106 aI_107 aC_108 aP_109), cl_B G aB_106 64 (fun _ => 0), cl_I G aI_107 16 (fun _ => 0), cl_I G aC_108 8 ((ivH 28))] H := wd_psub hP [0, 1, 2, 3, 4] rfl
        replace hD : va_D A [cl_O ad 0 (dk_fs ar aO aT fd sz0), cl_O ao_105 1 (bk_fs (nI 28) (nI 0) (nI 0) (nI 0) aB_106 aI_107 aC_108 aP_109), cl_B G aB_106 64 (fun _ => 0), cl_I G aI_107 16 (fun _ => 0), cl_I G aC_108 8 ((ivH 28))] := hD.sub [0, 1, 2, 3, 4] (by decide) rfl
        refine va_put (D := G.1) (ci := 0) (v := .ref ao_105) (ty := .object "Digest") (C := RX0) (T := TX0) (N := 5) hx hb hts in_X0 tyX0 tyX0_ok nmX0 hown hK hP hD hS 0 rfl rfl 0 (by decide) (hts _ q199) (fun _ h9 => h9) rfl (tyX0_ok 0 (by decide)) rfl rfl (Nat.le_of_ble_eq_true rfl) dX0_begin_71 ?_
        clear hP hD hS; intro H locs hP hD hS
        replace hP : va_P G.1 vwCl [cl_O ad 0 (dk_fs ao_105 aO aT fd sz0), cl_O ao_105 1 (bk_fs (nI 28) (nI 0) (nI 0) (nI 0) aB_106 aI_107 aC_108 aP_109), cl_B G aB_106 64 (fun _ => 0), cl_I G aI_107 16 (fun _ => 0), cl_I G aC_108 8 ((ivH 28))] H := hP
        replace hD : va_D A [cl_O ad 0 (dk_fs ao_105 aO aT fd sz0), cl_O ao_105 1 (bk_fs (nI 28) (nI 0) (nI 0) (nI 0) aB_106 aI_107 aC_108 aP_109), cl_B G aB_106 64 (fun _ => 0), cl_I G aI_107 16 (fun _ => 0), cl_I G aC_108 8 ((ivH 28))] := hD
        refine lv_aload_n hx hb dX0_begin_74 rfl (lv_at hl 1 rfl) ?_
        refine lv_iconst (v := nI 0) hx hb dX0_begin_75 (by decide) ?_
        refine va_put (D := G.1) (ci := 0) (v := .int (nI 0)) (ty := .int) (C := RX0) (T := TX0) (N := 5) hx hb hts in_X0 tyX0 tyX0_ok nmX0 hown hK hP hD hS 0 rfl rfl 2 (by decide) (hts _ q201) (fun _ h9 => h9) rfl (tyX0_ok 2 (by decide)) rfl rfl (Nat.le_of_ble_eq_true rfl) dX0_begin_76 ?_
        clear hP hD hS; intro H locs hP hD hS
        replace hP : va_P G.1 vwCl [cl_O ad 0 (dk_fs ao_105 aO aT (nI 0) sz0), cl_O ao_105 1 (bk_fs (nI 28) (nI 0) (nI 0) (nI 0) aB_106 aI_107 aC_108 aP_109), cl_B G aB_106 64 (fun _ => 0), cl_I G aI_107 16 (fun _ => 0), cl_I G aC_108 8 ((ivH 28))] H := hP
        replace hD : va_D A [cl_O ad 0 (dk_fs ao_105 aO aT (nI 0) sz0), cl_O ao_105 1 (bk_fs (nI 28) (nI 0) (nI 0) (nI 0) aB_106 aI_107 aC_108 aP_109), cl_B G aB_106 64 (fun _ => 0), cl_I G aI_107 16 (fun _ => 0), cl_I G aC_108 8 ((ivH 28))] := hD
        exact wd_vret hx hb hr hlk (ao_105, aB_106, aI_107, aC_108, aP_109) trivial (by rw [e9]; exact hP) (by rw [e9]; exact hD) hS dX0_begin_79
      · have e9 : szF (fN x % 4) = 20 := by rw [c_2]; rfl
        refine va_new (ci := 1) (fs := [.int (nI 0), .int (nI 0), .null, .null, .null, .int (nI 0), .int (nI 0), .int (nI 0), .long 0, .int (nI 0), .int (nI 0), .int (nI 0), .null, .int (nI 0), .null, .null, .int (nI 0), .int (nI 0), .int (nI 0), .int (nI 0), .null]) (C := RX1) (T := TX1) (N := 21) hx hb hts in_X1 tyX1 tyX1_ok hown (hts _ q41) (hts _ q42) (hts _ q16) hK hP hD hS hA rfl (new_X1) (Nat.le_of_ble_eq_true rfl) (Nat.le_of_ble_eq_true rfl) dX0_begin_48 ?_
        clear hP hD hS; intro ao_99 H hP hD hS
        replace hP : va_P G.1 vwCl [cl_O ad 0 (dk_fs ar aO aT fd sz0), cl_O ao_99 1 [.int (nI 0), .int (nI 0), .null, .null, .null, .int (nI 0), .int (nI 0), .int (nI 0), .long 0, .int (nI 0), .int (nI 0), .int (nI 0), .null, .int (nI 0), .null, .null, .int (nI 0), .int (nI 0), .int (nI 0), .int (nI 0), .null]] H := hP
        replace hD : va_D A [cl_O ad 0 (dk_fs ar aO aT fd sz0), cl_O ao_99 1 [.int (nI 0), .int (nI 0), .null, .null, .null, .int (nI 0), .int (nI 0), .int (nI 0), .long 0, .int (nI 0), .int (nI 0), .int (nI 0), .null, .int (nI 0), .null, .null, .int (nI 0), .int (nI 0), .int (nI 0), .int (nI 0), .null]] := hD
        refine lv_dup hx hb dX0_begin_51 rfl ?_
        refine lv_sipush (v := nI 160) hx hb dX0_begin_52 (by decide) ?_
        refine wd_callv (wr := [cl_O ad 0 (dk_fs ar aO aT fd sz0)]) (va_runI (As := [.int (nI 160)]) (rest := [.ref ao_99, .ref ad]) ⟨hx, hb, hml, hown, hts⟩ (met_X1_new l G ao_99 20 (Or.inr (Or.inr (Or.inl rfl))) H.size) (cwI 1 hts (lw_meth q45) rfl rfl rfl (hts _ q16) (hts _ q43) (hts _ q44) rfl (by decide +kernel) ⟨Nat.le_of_ble_eq_true rfl, Nat.le_of_ble_eq_true rfl⟩) (wd_preS hK hZ hP hD hS hA [1] (by decide) rfl) rfl rfl hl.1 rfl (lv_room (Nat.le_of_ble_eq_true rfl)) dX0_begin_55 ⟨Nat.le_of_ble_eq_true rfl, Nat.le_of_ble_eq_true rfl⟩) hP hD hS hA [1] [0] rfl rfl (by decide) (by decide) ?_
        intro u_104 hu_104
        obtain ⟨aB_100, aI_101, aC_102, aP_103⟩ := u_104
        clear hP hD hS; intro H locs hP hD hS
        replace hP : va_P G.1 vwCl [cl_O ad 0 (dk_fs ar aO aT fd sz0), cl_O ao_99 1 (bk_fs (nI 20) (nI 0) (nI 0) (nI 0) aB_100 aI_101 aC_102 aP_103), cl_B G aB_100 64 (fun _ => 0), cl_I G aI_101 16 (fun _ => 0), cl_I G aC_102 8 ((ivH 20))] H := wd_psub hP [0, 1, 2, 3, 4] rfl
        replace hD : va_D A [cl_O ad 0 (dk_fs ar aO aT fd sz0), cl_O ao_99 1 (bk_fs (nI 20) (nI 0) (nI 0) (nI 0) aB_100 aI_101 aC_102 aP_103), cl_B G aB_100 64 (fun _ => 0), cl_I G aI_101 16 (fun _ => 0), cl_I G aC_102 8 ((ivH 20))] := hD.sub [0, 1, 2, 3, 4] (by decide) rfl
        refine lv_goto (tgt := 71) hx hb dX0_begin_58 (by decide) ?_
        refine va_put (D := G.1) (ci := 0) (v := .ref ao_99) (ty := .object "Digest") (C := RX0) (T := TX0) (N := 5) hx hb hts in_X0 tyX0 tyX0_ok nmX0 hown hK hP hD hS 0 rfl rfl 0 (by decide) (hts _ q199) (fun _ h9 => h9) rfl (tyX0_ok 0 (by decide)) rfl rfl (Nat.le_of_ble_eq_true rfl) dX0_begin_71 ?_
        clear hP hD hS; intro H locs hP hD hS
        replace hP : va_P G.1 vwCl [cl_O ad 0 (dk_fs ao_99 aO aT fd sz0), cl_O ao_99 1 (bk_fs (nI 20) (nI 0) (nI 0) (nI 0) aB_100 aI_101 aC_102 aP_103), cl_B G aB_100 64 (fun _ => 0), cl_I G aI_101 16 (fun _ => 0), cl_I G aC_102 8 ((ivH 20))] H := hP
        replace hD : va_D A [cl_O ad 0 (dk_fs ao_99 aO aT fd sz0), cl_O ao_99 1 (bk_fs (nI 20) (nI 0) (nI 0) (nI 0) aB_100 aI_101 aC_102 aP_103), cl_B G aB_100 64 (fun _ => 0), cl_I G aI_101 16 (fun _ => 0), cl_I G aC_102 8 ((ivH 20))] := hD
        refine lv_aload_n hx hb dX0_begin_74 rfl (lv_at hl 1 rfl) ?_
        refine lv_iconst (v := nI 0) hx hb dX0_begin_75 (by decide) ?_
        refine va_put (D := G.1) (ci := 0) (v := .int (nI 0)) (ty := .int) (C := RX0) (T := TX0) (N := 5) hx hb hts in_X0 tyX0 tyX0_ok nmX0 hown hK hP hD hS 0 rfl rfl 2 (by decide) (hts _ q201) (fun _ h9 => h9) rfl (tyX0_ok 2 (by decide)) rfl rfl (Nat.le_of_ble_eq_true rfl) dX0_begin_76 ?_
        clear hP hD hS; intro H locs hP hD hS
        replace hP : va_P G.1 vwCl [cl_O ad 0 (dk_fs ao_99 aO aT (nI 0) sz0), cl_O ao_99 1 (bk_fs (nI 20) (nI 0) (nI 0) (nI 0) aB_100 aI_101 aC_102 aP_103), cl_B G aB_100 64 (fun _ => 0), cl_I G aI_101 16 (fun _ => 0), cl_I G aC_102 8 ((ivH 20))] H := hP
        replace hD : va_D A [cl_O ad 0 (dk_fs ao_99 aO aT (nI 0) sz0), cl_O ao_99 1 (bk_fs (nI 20) (nI 0) (nI 0) (nI 0) aB_100 aI_101 aC_102 aP_103), cl_B G aB_100 64 (fun _ => 0), cl_I G aI_101 16 (fun _ => 0), cl_I G aC_102 8 ((ivH 20))] := hD
        exact wd_vret hx hb hr hlk (ao_99, aB_100, aI_101, aC_102, aP_103) trivial (by rw [e9]; exact hP) (by rw [e9]; exact hD) hS dX0_begin_79
    · have e9 : szF (fN x % 4) = 16 := by rw [c_1]; rfl
      refine va_new (ci := 1) (fs := [.int (nI 0), .int (nI 0), .null, .null, .null, .int (nI 0), .int (nI 0), .int (nI 0), .long 0, .int (nI 0), .int (nI 0), .int (nI 0), .null, .int (nI 0), .null, .null, .int (nI 0), .int (nI 0), .int (nI 0), .int (nI 0), .null]) (C := RX1) (T := TX1) (N := 21) hx hb hts in_X1 tyX1 tyX1_ok hown (hts _ q41) (hts _ q42) (hts _ q16) hK hP hD hS hA rfl (new_X1) (Nat.le_of_ble_eq_true rfl) (Nat.le_of_ble_eq_true rfl) dX0_begin_30 ?_
      clear hP hD hS; intro ao_93 H hP hD hS
      replace hP : va_P G.1 vwCl [cl_O ad 0 (dk_fs ar aO aT fd sz0), cl_O ao_93 1 [.int (nI 0), .int (nI 0), .null, .null, .null, .int (nI 0), .int (nI 0), .int (nI 0), .long 0, .int (nI 0), .int (nI 0), .int (nI 0), .null, .int (nI 0), .null, .null, .int (nI 0), .int (nI 0), .int (nI 0), .int (nI 0), .null]] H := hP
      replace hD : va_D A [cl_O ad 0 (dk_fs ar aO aT fd sz0), cl_O ao_93 1 [.int (nI 0), .int (nI 0), .null, .null, .null, .int (nI 0), .int (nI 0), .int (nI 0), .long 0, .int (nI 0), .int (nI 0), .int (nI 0), .null, .int (nI 0), .null, .null, .int (nI 0), .int (nI 0), .int (nI 0), .int (nI 0), .null]] := hD
      refine lv_dup hx hb dX0_begin_33 rfl ?_
      refine lv_sipush (v := nI 128) hx hb dX0_begin_34 (by decide) ?_
      refine wd_callv (wr := [cl_O ad 0 (dk_fs ar aO aT fd sz0)]) (va_runI (As := [.int (nI 128)]) (rest := [.ref ao_93, .ref ad]) ⟨hx, hb, hml, hown, hts⟩ (met_X1_new l G ao_93 16 (Or.inr (Or.inl rfl)) H.size) (cwI 1 hts (lw_meth q45) rfl rfl rfl (hts _ q16) (hts _ q43) (hts _ q44) rfl (by decide +kernel) ⟨Nat.le_of_ble_eq_true rfl, Nat.le_of_ble_eq_true rfl⟩) (wd_preS hK hZ hP hD hS hA [1] (by decide) rfl) rfl rfl hl.1 rfl (lv_room (Nat.le_of_ble_eq_true rfl)) dX0_begin_37 ⟨Nat.le_of_ble_eq_true rfl, Nat.le_of_ble_eq_true rfl⟩) hP hD hS hA [1] [0] rfl rfl (by decide) (by decide) ?_
      intro u_98 hu_98
      obtain ⟨aB_94, aI_95, aC_96, aP_97⟩ := u_98
      clear hP hD hS; intro H locs hP hD hS
      replace hP : va_P G.1 vwCl [cl_O ad 0 (dk_fs ar aO aT fd sz0), cl_O ao_93 1 (bk_fs (nI 16) (nI 0) (nI 0) (nI 0) aB_94 aI_95 aC_96 aP_97), cl_B G aB_94 64 (fun _ => 0), cl_I G aI_95 16 (fun _ => 0), cl_I G aC_96 8 ((ivH 16))] H := wd_psub hP [0, 1, 2, 3, 4] rfl
      replace hD : va_D A [cl_O ad 0 (dk_fs ar aO aT fd sz0), cl_O ao_93 1 (bk_fs (nI 16) (nI 0) (nI 0) (nI 0) aB_94 aI_95 aC_96 aP_97), cl_B G aB_94 64 (fun _ => 0), cl_I G aI_95 16 (fun _ => 0), cl_I G aC_96 8 ((ivH 16))] := hD.sub [0, 1, 2, 3, 4] (by decide) rfl
      refine lv_goto (tgt := 71) hx hb dX0_begin_40 (by decide) ?_
      refine va_put (D := G.1) (ci := 0) (v := .ref ao_93) (ty := .object "Digest") (C := RX0) (T := TX0) (N := 5) hx hb hts in_X0 tyX0 tyX0_ok nmX0 hown hK hP hD hS 0 rfl rfl 0 (by decide) (hts _ q199) (fun _ h9 => h9) rfl (tyX0_ok 0 (by decide)) rfl rfl (Nat.le_of_ble_eq_true rfl) dX0_begin_71 ?_
      clear hP hD hS; intro H locs hP hD hS
      replace hP : va_P G.1 vwCl [cl_O ad 0 (dk_fs ao_93 aO aT fd sz0), cl_O ao_93 1 (bk_fs (nI 16) (nI 0) (nI 0) (nI 0) aB_94 aI_95 aC_96 aP_97), cl_B G aB_94 64 (fun _ => 0), cl_I G aI_95 16 (fun _ => 0), cl_I G aC_96 8 ((ivH 16))] H := hP
      replace hD : va_D A [cl_O ad 0 (dk_fs ao_93 aO aT fd sz0), cl_O ao_93 1 (bk_fs (nI 16) (nI 0) (nI 0) (nI 0) aB_94 aI_95 aC_96 aP_97), cl_B G aB_94 64 (fun _ => 0), cl_I G aI_95 16 (fun _ => 0), cl_I G aC_96 8 ((ivH 16))] := hD
      refine lv_aload_n hx hb dX0_begin_74 rfl (lv_at hl 1 rfl) ?_
      refine lv_iconst (v := nI 0) hx hb dX0_begin_75 (by decide) ?_
      refine va_put (D := G.1) (ci := 0) (v := .int (nI 0)) (ty := .int) (C := RX0) (T := TX0) (N := 5) hx hb hts in_X0 tyX0 tyX0_ok nmX0 hown hK hP hD hS 0 rfl rfl 2 (by decide) (hts _ q201) (fun _ h9 => h9) rfl (tyX0_ok 2 (by decide)) rfl rfl (Nat.le_of_ble_eq_true rfl) dX0_begin_76 ?_
      clear hP hD hS; intro H locs hP hD hS
      replace hP : va_P G.1 vwCl [cl_O ad 0 (dk_fs ao_93 aO aT (nI 0) sz0), cl_O ao_93 1 (bk_fs (nI 16) (nI 0) (nI 0) (nI 0) aB_94 aI_95 aC_96 aP_97), cl_B G aB_94 64 (fun _ => 0), cl_I G aI_95 16 (fun _ => 0), cl_I G aC_96 8 ((ivH 16))] H := hP
      replace hD : va_D A [cl_O ad 0 (dk_fs ao_93 aO aT (nI 0) sz0), cl_O ao_93 1 (bk_fs (nI 16) (nI 0) (nI 0) (nI 0) aB_94 aI_95 aC_96 aP_97), cl_B G aB_94 64 (fun _ => 0), cl_I G aI_95 16 (fun _ => 0), cl_I G aC_96 8 ((ivH 16))] := hD
      exact wd_vret hx hb hr hlk (ao_93, aB_94, aI_95, aC_96, aP_97) trivial (by rw [e9]; exact hP) (by rw [e9]; exact hD) hS dX0_begin_79
  · have e9 : szF (fN x % 4) = 32 := by rw [c_0]; rfl
    refine va_new (ci := 1) (fs := [.int (nI 0), .int (nI 0), .null, .null, .null, .int (nI 0), .int (nI 0), .int (nI 0), .long 0, .int (nI 0), .int (nI 0), .int (nI 0), .null, .int (nI 0), .null, .null, .int (nI 0), .int (nI 0), .int (nI 0), .int (nI 0), .null]) (C := RX1) (T := TX1) (N := 21) hx hb hts in_X1 tyX1 tyX1_ok hown (hts _ q41) (hts _ q42) (hts _ q16) hK hP hD hS hA rfl (new_X1) (Nat.le_of_ble_eq_true rfl) (Nat.le_of_ble_eq_true rfl) dX0_begin_12 ?_
    clear hP hD hS; intro ao_87 H hP hD hS
    replace hP : va_P G.1 vwCl [cl_O ad 0 (dk_fs ar aO aT fd sz0), cl_O ao_87 1 [.int (nI 0), .int (nI 0), .null, .null, .null, .int (nI 0), .int (nI 0), .int (nI 0), .long 0, .int (nI 0), .int (nI 0), .int (nI 0), .null, .int (nI 0), .null, .null, .int (nI 0), .int (nI 0), .int (nI 0), .int (nI 0), .null]] H := hP
    replace hD : va_D A [cl_O ad 0 (dk_fs ar aO aT fd sz0), cl_O ao_87 1 [.int (nI 0), .int (nI 0), .null, .null, .null, .int (nI 0), .int (nI 0), .int (nI 0), .long 0, .int (nI 0), .int (nI 0), .int (nI 0), .null, .int (nI 0), .null, .null, .int (nI 0), .int (nI 0), .int (nI 0), .int (nI 0), .null]] := hD
    refine lv_dup hx hb dX0_begin_15 rfl ?_
    refine lv_sipush (v := nI 256) hx hb dX0_begin_16 (by decide) ?_
    refine wd_callv (wr := [cl_O ad 0 (dk_fs ar aO aT fd sz0)]) (va_runI (As := [.int (nI 256)]) (rest := [.ref ao_87, .ref ad]) ⟨hx, hb, hml, hown, hts⟩ (met_X1_new l G ao_87 32 (Or.inl rfl) H.size) (cwI 1 hts (lw_meth q45) rfl rfl rfl (hts _ q16) (hts _ q43) (hts _ q44) rfl (by decide +kernel) ⟨Nat.le_of_ble_eq_true rfl, Nat.le_of_ble_eq_true rfl⟩) (wd_preS hK hZ hP hD hS hA [1] (by decide) rfl) rfl rfl hl.1 rfl (lv_room (Nat.le_of_ble_eq_true rfl)) dX0_begin_19 ⟨Nat.le_of_ble_eq_true rfl, Nat.le_of_ble_eq_true rfl⟩) hP hD hS hA [1] [0] rfl rfl (by decide) (by decide) ?_
    intro u_92 hu_92
    obtain ⟨aB_88, aI_89, aC_90, aP_91⟩ := u_92
    clear hP hD hS; intro H locs hP hD hS
    replace hP : va_P G.1 vwCl [cl_O ad 0 (dk_fs ar aO aT fd sz0), cl_O ao_87 1 (bk_fs (nI 32) (nI 0) (nI 0) (nI 0) aB_88 aI_89 aC_90 aP_91), cl_B G aB_88 64 (fun _ => 0), cl_I G aI_89 16 (fun _ => 0), cl_I G aC_90 8 ((ivH 32))] H := wd_psub hP [0, 1, 2, 3, 4] rfl
    replace hD : va_D A [cl_O ad 0 (dk_fs ar aO aT fd sz0), cl_O ao_87 1 (bk_fs (nI 32) (nI 0) (nI 0) (nI 0) aB_88 aI_89 aC_90 aP_91), cl_B G aB_88 64 (fun _ => 0), cl_I G aI_89 16 (fun _ => 0), cl_I G aC_90 8 ((ivH 32))] := hD.sub [0, 1, 2, 3, 4] (by decide) rfl
    refine lv_goto (tgt := 71) hx hb dX0_begin_22 (by decide) ?_
    refine va_put (D := G.1) (ci := 0) (v := .ref ao_87) (ty := .object "Digest") (C := RX0) (T := TX0) (N := 5) hx hb hts in_X0 tyX0 tyX0_ok nmX0 hown hK hP hD hS 0 rfl rfl 0 (by decide) (hts _ q199) (fun _ h9 => h9) rfl (tyX0_ok 0 (by decide)) rfl rfl (Nat.le_of_ble_eq_true rfl) dX0_begin_71 ?_
    clear hP hD hS; intro H locs hP hD hS
    replace hP : va_P G.1 vwCl [cl_O ad 0 (dk_fs ao_87 aO aT fd sz0), cl_O ao_87 1 (bk_fs (nI 32) (nI 0) (nI 0) (nI 0) aB_88 aI_89 aC_90 aP_91), cl_B G aB_88 64 (fun _ => 0), cl_I G aI_89 16 (fun _ => 0), cl_I G aC_90 8 ((ivH 32))] H := hP
    replace hD : va_D A [cl_O ad 0 (dk_fs ao_87 aO aT fd sz0), cl_O ao_87 1 (bk_fs (nI 32) (nI 0) (nI 0) (nI 0) aB_88 aI_89 aC_90 aP_91), cl_B G aB_88 64 (fun _ => 0), cl_I G aI_89 16 (fun _ => 0), cl_I G aC_90 8 ((ivH 32))] := hD
    refine lv_aload_n hx hb dX0_begin_74 rfl (lv_at hl 1 rfl) ?_
    refine lv_iconst (v := nI 0) hx hb dX0_begin_75 (by decide) ?_
    refine va_put (D := G.1) (ci := 0) (v := .int (nI 0)) (ty := .int) (C := RX0) (T := TX0) (N := 5) hx hb hts in_X0 tyX0 tyX0_ok nmX0 hown hK hP hD hS 0 rfl rfl 2 (by decide) (hts _ q201) (fun _ h9 => h9) rfl (tyX0_ok 2 (by decide)) rfl rfl (Nat.le_of_ble_eq_true rfl) dX0_begin_76 ?_
    clear hP hD hS; intro H locs hP hD hS
    replace hP : va_P G.1 vwCl [cl_O ad 0 (dk_fs ao_87 aO aT (nI 0) sz0), cl_O ao_87 1 (bk_fs (nI 32) (nI 0) (nI 0) (nI 0) aB_88 aI_89 aC_90 aP_91), cl_B G aB_88 64 (fun _ => 0), cl_I G aI_89 16 (fun _ => 0), cl_I G aC_90 8 ((ivH 32))] H := hP
    replace hD : va_D A [cl_O ad 0 (dk_fs ao_87 aO aT (nI 0) sz0), cl_O ao_87 1 (bk_fs (nI 32) (nI 0) (nI 0) (nI 0) aB_88 aI_89 aC_90 aP_91), cl_B G aB_88 64 (fun _ => 0), cl_I G aI_89 16 (fun _ => 0), cl_I G aC_90 8 ((ivH 32))] := hD
    exact wd_vret hx hb hr hlk (ao_87, aB_88, aI_89, aC_90, aP_91) trivial (by rw [e9]; exact hP) (by rw [e9]; exact hD) hS dX0_begin_79
set_option maxHeartbeats 4000000 in
set_option maxRecDepth 100000 in
/-- BlakeShortDesk.feed(x, y) -/
theorem met_X0_feed (l : Launch) (G : wd_G) (ad aO aT ar aB aI aC aP : Nat) (x y : Int32) (d k fed n k2 : Nat) (mf tx bf v ch : Nat → Int32) (hk : k ≤ 1024) (hfed : fed ≤ 16384) (hfit : sb_Fit tx) (hok : bkOK d mf fed n k2 bf ch) (sz : Nat) : Met l yX0_feed (ws_ yX0_feed cX0_feed 5 (some .boolean)) ({ frames := 5, cells := 17, slots := 272, locals := 118 }) (va_Pc [.ref ad, .int x, .int y] (wd_Pre G [cl_O ad 0 (dk_fs ar aO aT (nI fed) (nI k)), cl_B G aT 1024 tx, cl_O ar 1 (bk_fs (nI d) (nI k2) (nI (64 * n)) (nI 0) aB aI aC aP), cl_B G aB 64 bf, cl_I G aI 16 v, cl_I G aC 8 ch] sz)) (wd_Qi G (fun (r : Int32) (u : Nat × (Nat → Int32) × Nat × Nat × (Nat → Int32) × (Nat → Int32) × (Nat → Int32)) => bkOK d u.2.1 u.1 u.2.2.1 u.2.2.2.1 u.2.2.2.2.1 u.2.2.2.2.2.2 ∧ if fed + fN y % (k - fN x % (k + 1) + 1) ≤ 16384 then r = nI 1 ∧ u.1 = fed + fN y % (k - fN x % (k + 1) + 1) ∧ u.2.1 = apF mf fed tx (fN x % (k + 1)) else r = nI 0 ∧ u.1 = fed ∧ u.2.1 = mf) (fun u => [cl_O ad 0 (dk_fs ar aO aT (nI u.1) (nI k)), cl_B G aT 1024 tx, cl_O ar 1 (bk_fs (nI d) (nI u.2.2.2.1) (nI (64 * u.2.2.1)) (nI 0) aB aI aC aP), cl_B G aB 64 u.2.2.2.2.1, cl_I G aI 16 u.2.2.2.2.2.1, cl_I G aC 8 u.2.2.2.2.2.2]) (va_A [cl_O ad 0 (dk_fs ar aO aT (nI fed) (nI k)), cl_B G aT 1024 tx, cl_O ar 1 (bk_fs (nI d) (nI k2) (nI (64 * n)) (nI 0) aB aI aC aP), cl_B G aB 64 bf, cl_I G aI 16 v, cl_I G aC 8 ch] sz)) 17 272 (va_A [cl_O ad 0 (dk_fs ar aO aT (nI fed) (nI k)), cl_B G aT 1024 tx, cl_O ar 1 (bk_fs (nI d) (nI k2) (nI (64 * n)) (nI 0) aB aI aC aP), cl_B G aB 64 bf, cl_I G aI 16 v, cl_I G aC 8 ch] sz) := by
  refine wd_ofW (Qc := fun A => wd_Qi G (fun (r : Int32) (u : Nat × (Nat → Int32) × Nat × Nat × (Nat → Int32) × (Nat → Int32) × (Nat → Int32)) => bkOK d u.2.1 u.1 u.2.2.1 u.2.2.2.1 u.2.2.2.2.1 u.2.2.2.2.2.2 ∧ if fed + fN y % (k - fN x % (k + 1) + 1) ≤ 16384 then r = nI 1 ∧ u.1 = fed + fN y % (k - fN x % (k + 1) + 1) ∧ u.2.1 = apF mf fed tx (fN x % (k + 1)) else r = nI 0 ∧ u.1 = fed ∧ u.2.1 = mf) (fun u => [cl_O ad 0 (dk_fs ar aO aT (nI u.1) (nI k)), cl_B G aT 1024 tx, cl_O ar 1 (bk_fs (nI d) (nI u.2.2.2.1) (nI (64 * u.2.2.1)) (nI 0) aB aI aC aP), cl_B G aB 64 u.2.2.2.2.1, cl_I G aI 16 u.2.2.2.2.2.1, cl_I G aC 8 u.2.2.2.2.2.2]) A) (by decide) (Nat.le_of_ble_eq_true rfl) ?_
  intro p e s m below meth c A ls hx hb hr hml hown hlk hnm hts hK hZ hP hD hS hA hl
  replace hown : s.vm.findClass RX0 = some m.cls := hown
  replace hl : lv_has ls 5 [(0, .ref ad), (1, .int x), (2, .int y)] := hl
  obtain ⟨⟨tIV, zIV, hIV⟩, ⟨tSG, rSG, zSG, hSG, hSGr⟩, ⟨tFI, zFI, hFI⟩, ⟨tOR, rOR, zOR, hOR, hORr⟩, ⟨tWO, rWO, zWO, hWO, hWOr⟩, ⟨tSZ, zSZ, hSZ⟩, ⟨tAN, zAN⟩, hFw1, hFw2, hFw3, hFw4⟩ := id hZ
  have hx9 := fN_lt x
  have hy9 := fN_lt y
  obtain ⟨f, ef⟩ : ∃ z, z = fN x % (k + 1) := ⟨_, rfl⟩
  obtain ⟨q, eq⟩ : ∃ z, z = fN y % (k - f + 1) := ⟨_, rfl⟩
  have hf : f ≤ k := by have := Nat.mod_lt (fN x) (show 0 < k + 1 by omega); omega
  have hq : q ≤ k - f := by have := Nat.mod_lt (fN y) (show 0 < k - f + 1 by omega); omega
  rw [← ef, ← eq]
  refine lv_aload_n hx hb dX0_feed_0 rfl (lv_at hl 0 rfl) ?_
  refine lv_iload_n hx hb dX0_feed_1 rfl (lv_at hl 1 rfl) ?_
  refine vp_callSi (va_Run.run (va_runV (As := [.int x]) (rest := []) ⟨hx, hb, hml, hown, hts⟩ (met_X0_from l G ad ar aO aT (nI fed) x k hk) (cwV 1 hts (lw_V q227 q229 qs3 q15 q230) rfl rfl rfl (by decide +kernel) ⟨Nat.le_of_ble_eq_true rfl, Nat.le_of_ble_eq_true rfl⟩) (wd_preVR hK hP [0] rfl 0 0 rfl rfl) rfl rfl hl.1 rfl (lv_room (Nat.le_of_ble_eq_true rfl)) dX0_feed_2 ⟨Nat.le_of_ble_eq_true rfl, Nat.le_of_ble_eq_true rfl⟩)) ?_
  intro r_111 er_111
  rw [← ef] at er_111; subst er_111
  refine lv_istore_n (lv' := [(3, .int (nI f)), (0, .ref ad), (1, .int x), (2, .int y)]) hx hb dX0_feed_5 rfl hl (by decide) rfl ?_
  clear hl; intro ls hl
  refine lv_aload_n hx hb dX0_feed_6 rfl (lv_at hl 1 rfl) ?_
  refine lv_iload_n hx hb dX0_feed_7 rfl (lv_at hl 0 rfl) ?_
  refine lv_iload_n hx hb dX0_feed_8 rfl (lv_at hl 3 rfl) ?_
  refine vp_callSi (va_Run.run (va_runV (As := [.int (nI f), .int y]) (rest := []) ⟨hx, hb, hml, hown, hts⟩ (met_X0_count l G ad ar aO aT (nI fed) y k f hk hf) (cwV 2 hts (lw_V q240 q242 qs4 q15 q243) rfl rfl rfl (by decide +kernel) ⟨Nat.le_of_ble_eq_true rfl, Nat.le_of_ble_eq_true rfl⟩) (wd_preVR hK hP [0] rfl 0 0 rfl rfl) rfl rfl hl.1 rfl (lv_room (Nat.le_of_ble_eq_true rfl)) dX0_feed_9 ⟨Nat.le_of_ble_eq_true rfl, Nat.le_of_ble_eq_true rfl⟩)) ?_
  intro r_112 er_112
  rw [← eq] at er_112; subst er_112
  refine lv_istore (lv' := [(4, .int (nI q)), (3, .int (nI f)), (0, .ref ad), (1, .int x), (2, .int y)]) hx hb dX0_feed_12 hl (by decide) rfl ?_
  clear hl; intro ls hl
  refine lv_aload_n hx hb dX0_feed_14 rfl (lv_at hl 2 rfl) ?_
  refine va_get (D := G.1) (ci := 0) (v := .int (nI fed)) (C := RX0) (T := TX0) (N := 5) hx hb hts in_X0 hown hK hP 0 rfl rfl 2 (by decide) (hts _ q201) (fun _ h9 => h9) rfl dX0_feed_15 ?_
  refine lv_iload hx hb dX0_feed_18 (lv_at hl 0 rfl) ?_
  refine wd_iaddN (x := fed) (y := q) hx hb dX0_feed_20 ?_
  refine lv_sipush (v := nI 16384) hx hb dX0_feed_21 (by decide) ?_
  refine wd_le (tgt := 29) hx hb dX0_feed_24 (by decide) (by omega) (by omega) (fun c_1 => ?_) (fun c_1 => ?_)
  · refine lv_aload_n hx hb dX0_feed_29 rfl (lv_at hl 2 rfl) ?_
    refine lv_dup hx hb dX0_feed_30 rfl ?_
    refine va_get (D := G.1) (ci := 0) (v := .int (nI fed)) (C := RX0) (T := TX0) (N := 5) hx hb hts in_X0 hown hK hP 0 rfl rfl 2 (by decide) (hts _ q201) (fun _ h9 => h9) rfl dX0_feed_31 ?_
    refine lv_iload hx hb dX0_feed_34 (lv_at hl 0 rfl) ?_
    refine wd_iaddN (x := fed) (y := q) hx hb dX0_feed_36 ?_
    refine va_put (D := G.1) (ci := 0) (v := .int (nI (fed + q))) (ty := .int) (C := RX0) (T := TX0) (N := 5) hx hb hts in_X0 tyX0 tyX0_ok nmX0 hown hK hP hD hS 0 rfl rfl 2 (by decide) (hts _ q201) (fun _ h9 => h9) rfl (tyX0_ok 2 (by decide)) rfl rfl (Nat.le_of_ble_eq_true rfl) dX0_feed_37 ?_
    clear hP hD hS; intro H locs hP hD hS
    replace hP : va_P G.1 vwCl [cl_O ad 0 (dk_fs ar aO aT (nI (fed + q)) (nI k)), cl_B G aT 1024 tx, cl_O ar 1 (bk_fs (nI d) (nI k2) (nI (64 * n)) (nI 0) aB aI aC aP), cl_B G aB 64 bf, cl_I G aI 16 v, cl_I G aC 8 ch] H := hP
    replace hD : va_D A [cl_O ad 0 (dk_fs ar aO aT (nI (fed + q)) (nI k)), cl_B G aT 1024 tx, cl_O ar 1 (bk_fs (nI d) (nI k2) (nI (64 * n)) (nI 0) aB aI aC aP), cl_B G aB 64 bf, cl_I G aI 16 v, cl_I G aC 8 ch] := hD
    refine lv_aload_n hx hb dX0_feed_40 rfl (lv_at hl 2 rfl) ?_
    refine va_get (D := G.1) (ci := 0) (v := .ref ar) (C := RX0) (T := TX0) (N := 5) hx hb hts in_X0 hown hK hP 0 rfl rfl 0 (by decide) (hts _ q199) (fun _ h9 => h9) rfl dX0_feed_41 ?_
    refine lv_aload_n hx hb dX0_feed_44 rfl (lv_at hl 2 rfl) ?_
    refine va_get (D := G.1) (ci := 0) (v := .ref aT) (C := RX0) (T := TX0) (N := 5) hx hb hts in_X0 hown hK hP 0 rfl rfl 3 (by decide) (hts _ q202) (fun _ h9 => h9) rfl dX0_feed_45 ?_
    refine lv_iload_n hx hb dX0_feed_48 rfl (lv_at hl 1 rfl) ?_
    refine lv_iload hx hb dX0_feed_49 (lv_at hl 0 rfl) ?_
    refine wd_callFv (wr := [cl_O ad 0 (dk_fs ar aO aT (nI (fed + q)) (nI k))]) (va_runF (wd_at hK 1 rfl) (As := [.ref aT, .int (nI f), .int (nI q)]) (rest := []) ⟨hx, hb, hml, hown, hts⟩ (met_X1_upd l G ar aB aI aC aP aT d fed n k2 f q mf bf v ch tx hok (by omega) (by omega) hfit H.size) (va_cwF 3 hts (lw_F q245 q249 q251 q16 q253) rfl rfl rfl hFw1 (by decide +kernel) ⟨Nat.le_of_ble_eq_true rfl, Nat.le_of_ble_eq_true rfl⟩) (wd_preV hK hZ hP hD hS hA [2, 3, 4, 5, 1] (by decide) rfl 2 1 rfl rfl) rfl rfl hl.1 rfl (lv_room (Nat.le_of_ble_eq_true rfl)) dX0_feed_51 ⟨Nat.le_of_ble_eq_true rfl, Nat.le_of_ble_eq_true rfl⟩) hP hD hS hA [2, 3, 4, 5, 1] [0] rfl rfl (by decide) (by decide) ?_
    intro u_113 hu_113
    obtain ⟨n1, p1, bf1, v1, ch1⟩ := u_113
    clear hP hD hS; intro H locs hP hD hS
    replace hP : va_P G.1 vwCl [cl_O ad 0 (dk_fs ar aO aT (nI (fed + q)) (nI k)), cl_B G aT 1024 tx, cl_O ar 1 (bk_fs (nI d) (nI p1) (nI (64 * n1)) (nI 0) aB aI aC aP), cl_B G aB 64 bf1, cl_I G aI 16 v1, cl_I G aC 8 ch1] H := wd_psub hP [0, 5, 1, 2, 3, 4] rfl
    replace hD : va_D A [cl_O ad 0 (dk_fs ar aO aT (nI (fed + q)) (nI k)), cl_B G aT 1024 tx, cl_O ar 1 (bk_fs (nI d) (nI p1) (nI (64 * n1)) (nI 0) aB aI aC aP), cl_B G aB 64 bf1, cl_I G aI 16 v1, cl_I G aC 8 ch1] := hD.sub [0, 5, 1, 2, 3, 4] (by decide) rfl
    refine lv_iconst (v := nI 1) hx hb dX0_feed_56 (by decide) ?_
    exact wd_zret hx hb hr hlk rfl (fed + q, apF mf fed tx f, n1, p1, bf1, v1, ch1) ⟨hu_113, by rw [if_pos c_1]; exact ⟨rfl, rfl, rfl⟩⟩ hP hD hS dX0_feed_57
  · refine lv_iconst (v := nI 0) hx hb dX0_feed_27 (by decide) ?_
    refine W.widen (k := 17) (n := 272) (by decide) (by decide) ?_
    exact wd_zret hx hb hr hlk rfl (fed, mf, n, k2, bf, v, ch) ⟨hok, by rw [if_neg (by omega)]; exact ⟨rfl, rfl, rfl⟩⟩ hP hD hS dX0_feed_28
set_option maxHeartbeats 4000000 in
set_option maxRecDepth 100000 in
/-- BlakeShortDesk.one(x) -/
theorem met_X0_one (l : Launch) (G : wd_G) (ad aO aT ar aB aI aC aP : Nat) (x sz0 : Int32) (d fed n k2 : Nat) (mf bf v ch : Nat → Int32) (hfed : fed ≤ 16384) (hok : bkOK d mf fed n k2 bf ch) (sz : Nat) : Met l yX0_one (ws_ yX0_one cX0_one 2 (some .boolean)) ({ frames := 5, cells := 1, slots := 16, locals := 114 }) (va_Pc [.ref ad, .int x] (wd_Pre G [cl_O ad 0 (dk_fs ar aO aT (nI fed) sz0), cl_O ar 1 (bk_fs (nI d) (nI k2) (nI (64 * n)) (nI 0) aB aI aC aP), cl_B G aB 64 bf, cl_I G aI 16 v, cl_I G aC 8 ch] sz)) (wd_Qi G (fun (r : Int32) (u : Nat × (Nat → Int32) × Nat × Nat × (Nat → Int32) × (Nat → Int32) × (Nat → Int32)) => bkOK d u.2.1 u.1 u.2.2.1 u.2.2.2.1 u.2.2.2.2.1 u.2.2.2.2.2.2 ∧ if fed < 16384 then r = nI 1 ∧ u.1 = fed + 1 ∧ u.2.1 = upd mf fed x.toInt8.toInt32 else r = nI 0 ∧ u.1 = fed ∧ u.2.1 = mf) (fun u => [cl_O ad 0 (dk_fs ar aO aT (nI u.1) sz0), cl_O ar 1 (bk_fs (nI d) (nI u.2.2.2.1) (nI (64 * u.2.2.1)) (nI 0) aB aI aC aP), cl_B G aB 64 u.2.2.2.2.1, cl_I G aI 16 u.2.2.2.2.2.1, cl_I G aC 8 u.2.2.2.2.2.2]) (va_A [cl_O ad 0 (dk_fs ar aO aT (nI fed) sz0), cl_O ar 1 (bk_fs (nI d) (nI k2) (nI (64 * n)) (nI 0) aB aI aC aP), cl_B G aB 64 bf, cl_I G aI 16 v, cl_I G aC 8 ch] sz)) 1 16 (va_A [cl_O ad 0 (dk_fs ar aO aT (nI fed) sz0), cl_O ar 1 (bk_fs (nI d) (nI k2) (nI (64 * n)) (nI 0) aB aI aC aP), cl_B G aB 64 bf, cl_I G aI 16 v, cl_I G aC 8 ch] sz) := by
  refine wd_ofW (Qc := fun A => wd_Qi G (fun (r : Int32) (u : Nat × (Nat → Int32) × Nat × Nat × (Nat → Int32) × (Nat → Int32) × (Nat → Int32)) => bkOK d u.2.1 u.1 u.2.2.1 u.2.2.2.1 u.2.2.2.2.1 u.2.2.2.2.2.2 ∧ if fed < 16384 then r = nI 1 ∧ u.1 = fed + 1 ∧ u.2.1 = upd mf fed x.toInt8.toInt32 else r = nI 0 ∧ u.1 = fed ∧ u.2.1 = mf) (fun u => [cl_O ad 0 (dk_fs ar aO aT (nI u.1) sz0), cl_O ar 1 (bk_fs (nI d) (nI u.2.2.2.1) (nI (64 * u.2.2.1)) (nI 0) aB aI aC aP), cl_B G aB 64 u.2.2.2.2.1, cl_I G aI 16 u.2.2.2.2.2.1, cl_I G aC 8 u.2.2.2.2.2.2]) A) (by decide) (Nat.le_of_ble_eq_true rfl) ?_
  intro p e s m below meth c A ls hx hb hr hml hown hlk hnm hts hK hZ hP hD hS hA hl
  replace hown : s.vm.findClass RX0 = some m.cls := hown
  replace hl : lv_has ls 2 [(0, .ref ad), (1, .int x)] := hl
  obtain ⟨⟨tIV, zIV, hIV⟩, ⟨tSG, rSG, zSG, hSG, hSGr⟩, ⟨tFI, zFI, hFI⟩, ⟨tOR, rOR, zOR, hOR, hORr⟩, ⟨tWO, rWO, zWO, hWO, hWOr⟩, ⟨tSZ, zSZ, hSZ⟩, ⟨tAN, zAN⟩, hFw1, hFw2, hFw3, hFw4⟩ := id hZ
  refine lv_aload_n hx hb dX0_one_0 rfl (lv_at hl 0 rfl) ?_
  refine va_get (D := G.1) (ci := 0) (v := .int (nI fed)) (C := RX0) (T := TX0) (N := 5) hx hb hts in_X0 hown hK hP 0 rfl rfl 2 (by decide) (hts _ q201) (fun _ h9 => h9) rfl dX0_one_1 ?_
  refine lv_sipush (v := nI 16384) hx hb dX0_one_4 (by decide) ?_
  refine wd_lt (tgt := 12) hx hb dX0_one_7 (by decide) (by omega) (by omega) (fun c_1 => ?_) (fun c_1 => ?_)
  · refine lv_aload_n hx hb dX0_one_12 rfl (lv_at hl 0 rfl) ?_
    refine lv_dup hx hb dX0_one_13 rfl ?_
    refine va_get (D := G.1) (ci := 0) (v := .int (nI fed)) (C := RX0) (T := TX0) (N := 5) hx hb hts in_X0 hown hK hP 0 rfl rfl 2 (by decide) (hts _ q201) (fun _ h9 => h9) rfl dX0_one_14 ?_
    refine lv_iconst (v := nI 1) hx hb dX0_one_17 (by decide) ?_
    refine wd_iaddN (x := fed) (y := 1) hx hb dX0_one_18 ?_
    refine va_put (D := G.1) (ci := 0) (v := .int (nI (fed + 1))) (ty := .int) (C := RX0) (T := TX0) (N := 5) hx hb hts in_X0 tyX0 tyX0_ok nmX0 hown hK hP hD hS 0 rfl rfl 2 (by decide) (hts _ q201) (fun _ h9 => h9) rfl (tyX0_ok 2 (by decide)) rfl rfl (Nat.le_of_ble_eq_true rfl) dX0_one_19 ?_
    clear hP hD hS; intro H locs hP hD hS
    replace hP : va_P G.1 vwCl [cl_O ad 0 (dk_fs ar aO aT (nI (fed + 1)) sz0), cl_O ar 1 (bk_fs (nI d) (nI k2) (nI (64 * n)) (nI 0) aB aI aC aP), cl_B G aB 64 bf, cl_I G aI 16 v, cl_I G aC 8 ch] H := hP
    replace hD : va_D A [cl_O ad 0 (dk_fs ar aO aT (nI (fed + 1)) sz0), cl_O ar 1 (bk_fs (nI d) (nI k2) (nI (64 * n)) (nI 0) aB aI aC aP), cl_B G aB 64 bf, cl_I G aI 16 v, cl_I G aC 8 ch] := hD
    refine lv_aload_n hx hb dX0_one_22 rfl (lv_at hl 0 rfl) ?_
    refine va_get (D := G.1) (ci := 0) (v := .ref ar) (C := RX0) (T := TX0) (N := 5) hx hb hts in_X0 hown hK hP 0 rfl rfl 0 (by decide) (hts _ q199) (fun _ h9 => h9) rfl dX0_one_23 ?_
    refine lv_iload_n hx hb dX0_one_26 rfl (lv_at hl 1 rfl) ?_
    refine lv_i2b hx hb dX0_one_27 rfl ?_
    refine wd_callFv (wr := [cl_O ad 0 (dk_fs ar aO aT (nI (fed + 1)) sz0)]) (va_runF (wd_at hK 1 rfl) (As := [.int x.toInt8.toInt32]) (rest := []) ⟨hx, hb, hml, hown, hts⟩ (met_X1_upd1 l G ar aB aI aC aP d fed n k2 x.toInt8.toInt32 mf bf v ch hok (by omega) (pk_vb x) H.size) (va_cwF 1 hts (lw_F q300 q303 q305 q16 q307) rfl rfl rfl hFw2 (by decide +kernel) ⟨Nat.le_of_ble_eq_true rfl, Nat.le_of_ble_eq_true rfl⟩) (wd_preV hK hZ hP hD hS hA [1, 2, 3, 4] (by decide) rfl 1 1 rfl rfl) rfl rfl hl.1 rfl (lv_room (Nat.le_of_ble_eq_true rfl)) dX0_one_28 ⟨Nat.le_of_ble_eq_true rfl, Nat.le_of_ble_eq_true rfl⟩) hP hD hS hA [1, 2, 3, 4] [0] rfl rfl (by decide) (by decide) ?_
    intro u_114 hu_114
    obtain ⟨n1, p1, bf1, v1, ch1⟩ := u_114
    clear hP hD hS; intro H locs hP hD hS
    replace hP : va_P G.1 vwCl [cl_O ad 0 (dk_fs ar aO aT (nI (fed + 1)) sz0), cl_O ar 1 (bk_fs (nI d) (nI p1) (nI (64 * n1)) (nI 0) aB aI aC aP), cl_B G aB 64 bf1, cl_I G aI 16 v1, cl_I G aC 8 ch1] H := wd_psub hP [0, 1, 2, 3, 4] rfl
    replace hD : va_D A [cl_O ad 0 (dk_fs ar aO aT (nI (fed + 1)) sz0), cl_O ar 1 (bk_fs (nI d) (nI p1) (nI (64 * n1)) (nI 0) aB aI aC aP), cl_B G aB 64 bf1, cl_I G aI 16 v1, cl_I G aC 8 ch1] := hD.sub [0, 1, 2, 3, 4] (by decide) rfl
    refine lv_iconst (v := nI 1) hx hb dX0_one_33 (by decide) ?_
    exact wd_zret hx hb hr hlk rfl (fed + 1, upd mf fed x.toInt8.toInt32, n1, p1, bf1, v1, ch1) ⟨hu_114, by rw [if_pos c_1]; exact ⟨rfl, rfl, rfl⟩⟩ hP hD hS dX0_one_34
  · refine lv_iconst (v := nI 0) hx hb dX0_one_10 (by decide) ?_
    refine W.widen (k := 1) (n := 16) (by decide) (by decide) ?_
    exact wd_zret hx hb hr hlk rfl (fed, mf, n, k2, bf, v, ch) ⟨hok, by rw [if_neg (by omega)]; exact ⟨rfl, rfl, rfl⟩⟩ hP hD hS dX0_one_11
set_option maxHeartbeats 4000000 in
set_option maxRecDepth 100000 in
/-- BlakeShortDesk.close() -/
theorem met_X0_close (l : Launch) (G : wd_G) (ad aO aT ar aB aI aC aP : Nat) (sz0 : Int32) (d fed n k2 : Nat) (mf bf v ch fo : Nat → Int32) (hfed : fed ≤ 16384) (hd : dOK d) (hok : bkOK d mf fed n k2 bf ch) (sz : Nat) : Met l yX0_close (ws_ yX0_close cX0_close 1 (some .int)) ({ frames := 5, cells := 1, slots := 16, locals := 116 }) (va_Pc [.ref ad] (wd_Pre G [cl_O ad 0 (dk_fs ar aO aT (nI fed) sz0), cl_B G aO 32 fo, cl_O ar 1 (bk_fs (nI d) (nI k2) (nI (64 * n)) (nI 0) aB aI aC aP), cl_B G aB 64 bf, cl_I G aI 16 v, cl_I G aC 8 ch] sz)) (wd_Qi G (fun (r : Int32) (_ : Unit) => r = nI d) (fun _ => [cl_O ad 0 (dk_fs ar aO aT (nI 0) sz0), cl_B G aO 32 ((outF fo (dgF d mf fed) d)), cl_O ar 1 (bk_fs (nI d) (nI 0) (nI 0) (nI 0) aB aI aC aP), cl_B G aB 64 (fun _ => 0), cl_I G aI 16 (fun _ => 0), cl_I G aC 8 ((ivH d))]) (va_A [cl_O ad 0 (dk_fs ar aO aT (nI fed) sz0), cl_B G aO 32 fo, cl_O ar 1 (bk_fs (nI d) (nI k2) (nI (64 * n)) (nI 0) aB aI aC aP), cl_B G aB 64 bf, cl_I G aI 16 v, cl_I G aC 8 ch] sz)) 1 16 (va_A [cl_O ad 0 (dk_fs ar aO aT (nI fed) sz0), cl_B G aO 32 fo, cl_O ar 1 (bk_fs (nI d) (nI k2) (nI (64 * n)) (nI 0) aB aI aC aP), cl_B G aB 64 bf, cl_I G aI 16 v, cl_I G aC 8 ch] sz) := by
  refine wd_ofW (Qc := fun A => wd_Qi G (fun (r : Int32) (_ : Unit) => r = nI d) (fun _ => [cl_O ad 0 (dk_fs ar aO aT (nI 0) sz0), cl_B G aO 32 ((outF fo (dgF d mf fed) d)), cl_O ar 1 (bk_fs (nI d) (nI 0) (nI 0) (nI 0) aB aI aC aP), cl_B G aB 64 (fun _ => 0), cl_I G aI 16 (fun _ => 0), cl_I G aC 8 ((ivH d))]) A) (by decide) (Nat.le_of_ble_eq_true rfl) ?_
  intro p e s m below meth c A ls hx hb hr hml hown hlk hnm hts hK hZ hP hD hS hA hl
  replace hown : s.vm.findClass RX0 = some m.cls := hown
  replace hl : lv_has ls 1 [(0, .ref ad)] := hl
  obtain ⟨⟨tIV, zIV, hIV⟩, ⟨tSG, rSG, zSG, hSG, hSGr⟩, ⟨tFI, zFI, hFI⟩, ⟨tOR, rOR, zOR, hOR, hORr⟩, ⟨tWO, rWO, zWO, hWO, hWOr⟩, ⟨tSZ, zSZ, hSZ⟩, ⟨tAN, zAN⟩, hFw1, hFw2, hFw3, hFw4⟩ := id hZ
  refine lv_aload_n hx hb dX0_close_0 rfl (lv_at hl 0 rfl) ?_
  refine lv_iconst (v := nI 0) hx hb dX0_close_1 (by decide) ?_
  refine va_put (D := G.1) (ci := 0) (v := .int (nI 0)) (ty := .int) (C := RX0) (T := TX0) (N := 5) hx hb hts in_X0 tyX0 tyX0_ok nmX0 hown hK hP hD hS 0 rfl rfl 2 (by decide) (hts _ q201) (fun _ h9 => h9) rfl (tyX0_ok 2 (by decide)) rfl rfl (Nat.le_of_ble_eq_true rfl) dX0_close_2 ?_
  clear hP hD hS; intro H locs hP hD hS
  replace hP : va_P G.1 vwCl [cl_O ad 0 (dk_fs ar aO aT (nI 0) sz0), cl_B G aO 32 fo, cl_O ar 1 (bk_fs (nI d) (nI k2) (nI (64 * n)) (nI 0) aB aI aC aP), cl_B G aB 64 bf, cl_I G aI 16 v, cl_I G aC 8 ch] H := hP
  replace hD : va_D A [cl_O ad 0 (dk_fs ar aO aT (nI 0) sz0), cl_B G aO 32 fo, cl_O ar 1 (bk_fs (nI d) (nI k2) (nI (64 * n)) (nI 0) aB aI aC aP), cl_B G aB 64 bf, cl_I G aI 16 v, cl_I G aC 8 ch] := hD
  refine lv_aload_n hx hb dX0_close_5 rfl (lv_at hl 0 rfl) ?_
  refine va_get (D := G.1) (ci := 0) (v := .ref ar) (C := RX0) (T := TX0) (N := 5) hx hb hts in_X0 hown hK hP 0 rfl rfl 0 (by decide) (hts _ q199) (fun _ h9 => h9) rfl dX0_close_6 ?_
  refine lv_aload_n hx hb dX0_close_9 rfl (lv_at hl 0 rfl) ?_
  refine va_get (D := G.1) (ci := 0) (v := .ref aO) (C := RX0) (T := TX0) (N := 5) hx hb hts in_X0 hown hK hP 0 rfl rfl 1 (by decide) (hts _ q200) (fun _ h9 => h9) rfl dX0_close_10 ?_
  refine lv_iconst (v := nI 0) hx hb dX0_close_13 (by decide) ?_
  refine wd_callFi (wr := [cl_O ad 0 (dk_fs ar aO aT (nI 0) sz0)]) (va_runF (wd_at hK 1 rfl) (As := [.ref aO, .int (nI 0)]) (rest := []) ⟨hx, hb, hml, hown, hts⟩ (met_X1_fin l G ar aB aI aC aP aO d fed n k2 mf bf v ch fo hd hok (by omega) H.size) (va_cwF 2 hts (lw_F q313 q316 q318 q16 q320) rfl rfl rfl hFw3 (by decide +kernel) ⟨Nat.le_of_ble_eq_true rfl, Nat.le_of_ble_eq_true rfl⟩) (wd_preV hK hZ hP hD hS hA [2, 3, 4, 5, 1] (by decide) rfl 2 1 rfl rfl) rfl rfl hl.1 rfl (lv_room (Nat.le_of_ble_eq_true rfl)) dX0_close_14 ⟨Nat.le_of_ble_eq_true rfl, Nat.le_of_ble_eq_true rfl⟩) hP hD hS hA [2, 3, 4, 5, 1] [0] rfl rfl (by decide) (by decide) ?_
  intro r9 u_115 hu_115
  clear hP hD hS; intro H locs hP hD hS
  replace hP : va_P G.1 vwCl [cl_O ad 0 (dk_fs ar aO aT (nI 0) sz0), cl_B G aO 32 ((outF fo (dgF d mf fed) d)), cl_O ar 1 (bk_fs (nI d) (nI 0) (nI 0) (nI 0) aB aI aC aP), cl_B G aB 64 (fun _ => 0), cl_I G aI 16 (fun _ => 0), cl_I G aC 8 ((ivH d))] H := wd_psub hP [0, 5, 1, 2, 3, 4] rfl
  replace hD : va_D A [cl_O ad 0 (dk_fs ar aO aT (nI 0) sz0), cl_B G aO 32 ((outF fo (dgF d mf fed) d)), cl_O ar 1 (bk_fs (nI d) (nI 0) (nI 0) (nI 0) aB aI aC aP), cl_B G aB 64 (fun _ => 0), cl_I G aI 16 (fun _ => 0), cl_I G aC 8 ((ivH d))] := hD.sub [0, 5, 1, 2, 3, 4] (by decide) rfl
  exact wd_iret hx hb hr hlk () hu_115 hP hD hS dX0_close_19
set_option maxHeartbeats 4000000 in
set_option maxRecDepth 100000 in
/-- BlakeShortDesk.drop() -/
theorem met_X0_drop (l : Launch) (G : wd_G) (ad aO aT ar aB aI aC aP : Nat) (fd sz0 bp t0 f0 : Int32) (d : Nat) (bf v ch : Nat → Int32) (hd : dOK d) (sz : Nat) : Met l yX0_drop (ws_ yX0_drop cX0_drop 1 none) ({ frames := 3, cells := 0, slots := 0, locals := 64 }) (va_Pc [.ref ad] (wd_Pre G [cl_O ad 0 (dk_fs ar aO aT fd sz0), cl_O ar 1 (bk_fs (nI d) bp t0 f0 aB aI aC aP), cl_B G aB 64 bf, cl_I G aI 16 v, cl_I G aC 8 ch] sz)) (wd_Qv G (fun _ : Unit => True) (fun _ => [cl_O ad 0 (dk_fs ar aO aT (nI 0) sz0), cl_O ar 1 (bk_fs (nI d) (nI 0) (nI 0) (nI 0) aB aI aC aP), cl_B G aB 64 (fun _ => 0), cl_I G aI 16 (fun _ => 0), cl_I G aC 8 ((ivH d))]) (va_A [cl_O ad 0 (dk_fs ar aO aT fd sz0), cl_O ar 1 (bk_fs (nI d) bp t0 f0 aB aI aC aP), cl_B G aB 64 bf, cl_I G aI 16 v, cl_I G aC 8 ch] sz)) 0 0 (va_A [cl_O ad 0 (dk_fs ar aO aT fd sz0), cl_O ar 1 (bk_fs (nI d) bp t0 f0 aB aI aC aP), cl_B G aB 64 bf, cl_I G aI 16 v, cl_I G aC 8 ch] sz) := by
  refine wd_ofW (Qc := fun A => wd_Qv G (fun _ : Unit => True) (fun _ => [cl_O ad 0 (dk_fs ar aO aT (nI 0) sz0), cl_O ar 1 (bk_fs (nI d) (nI 0) (nI 0) (nI 0) aB aI aC aP), cl_B G aB 64 (fun _ => 0), cl_I G aI 16 (fun _ => 0), cl_I G aC 8 ((ivH d))]) A) (by decide) (Nat.le_of_ble_eq_true rfl) ?_
  intro p e s m below meth c A ls hx hb hr hml hown hlk hnm hts hK hZ hP hD hS hA hl
  replace hown : s.vm.findClass RX0 = some m.cls := hown
  replace hl : lv_has ls 1 [(0, .ref ad)] := hl
  obtain ⟨⟨tIV, zIV, hIV⟩, ⟨tSG, rSG, zSG, hSG, hSGr⟩, ⟨tFI, zFI, hFI⟩, ⟨tOR, rOR, zOR, hOR, hORr⟩, ⟨tWO, rWO, zWO, hWO, hWOr⟩, ⟨tSZ, zSZ, hSZ⟩, ⟨tAN, zAN⟩, hFw1, hFw2, hFw3, hFw4⟩ := id hZ
  refine lv_aload_n hx hb dX0_drop_0 rfl (lv_at hl 0 rfl) ?_
  refine va_get (D := G.1) (ci := 0) (v := .ref ar) (C := RX0) (T := TX0) (N := 5) hx hb hts in_X0 hown hK hP 0 rfl rfl 0 (by decide) (hts _ q199) (fun _ h9 => h9) rfl dX0_drop_1 ?_
  refine wd_callFv (wr := [cl_O ad 0 (dk_fs ar aO aT fd sz0)]) (va_runF (wd_at hK 1 rfl) (As := []) (rest := []) ⟨hx, hb, hml, hown, hts⟩ (met_X1_res l G ar aB aI aC aP d bp t0 f0 bf v ch hd s.heap.size) (va_cwF 0 hts (lw_F q369 q372 q355 q16 q357) rfl rfl rfl hFw4 (by decide +kernel) ⟨Nat.le_of_ble_eq_true rfl, Nat.le_of_ble_eq_true rfl⟩) (wd_preV hK hZ hP hD hS hA [1, 2, 3, 4] (by decide) rfl 1 1 rfl rfl) rfl rfl hl.1 rfl (lv_room (Nat.le_of_ble_eq_true rfl)) dX0_drop_4 ⟨Nat.le_of_ble_eq_true rfl, Nat.le_of_ble_eq_true rfl⟩) hP hD hS hA [1, 2, 3, 4] [0] rfl rfl (by decide) (by decide) ?_
  intro u_116 hu_116
  clear hP hD hS; intro H locs hP hD hS
  replace hP : va_P G.1 vwCl [cl_O ad 0 (dk_fs ar aO aT fd sz0), cl_O ar 1 (bk_fs (nI d) (nI 0) (nI 0) (nI 0) aB aI aC aP), cl_B G aB 64 (fun _ => 0), cl_I G aI 16 (fun _ => 0), cl_I G aC 8 ((ivH d))] H := wd_psub hP [0, 1, 2, 3, 4] rfl
  replace hD : va_D A [cl_O ad 0 (dk_fs ar aO aT fd sz0), cl_O ar 1 (bk_fs (nI d) (nI 0) (nI 0) (nI 0) aB aI aC aP), cl_B G aB 64 (fun _ => 0), cl_I G aI 16 (fun _ => 0), cl_I G aC 8 ((ivH d))] := hD.sub [0, 1, 2, 3, 4] (by decide) rfl
  refine lv_aload_n hx hb dX0_drop_9 rfl (lv_at hl 0 rfl) ?_
  refine lv_iconst (v := nI 0) hx hb dX0_drop_10 (by decide) ?_
  refine va_put (D := G.1) (ci := 0) (v := .int (nI 0)) (ty := .int) (C := RX0) (T := TX0) (N := 5) hx hb hts in_X0 tyX0 tyX0_ok nmX0 hown hK hP hD hS 0 rfl rfl 2 (by decide) (hts _ q201) (fun _ h9 => h9) rfl (tyX0_ok 2 (by decide)) rfl rfl (Nat.le_of_ble_eq_true rfl) dX0_drop_11 ?_
  clear hP hD hS; intro H locs hP hD hS
  replace hP : va_P G.1 vwCl [cl_O ad 0 (dk_fs ar aO aT (nI 0) sz0), cl_O ar 1 (bk_fs (nI d) (nI 0) (nI 0) (nI 0) aB aI aC aP), cl_B G aB 64 (fun _ => 0), cl_I G aI 16 (fun _ => 0), cl_I G aC 8 ((ivH d))] H := hP
  replace hD : va_D A [cl_O ad 0 (dk_fs ar aO aT (nI 0) sz0), cl_O ar 1 (bk_fs (nI d) (nI 0) (nI 0) (nI 0) aB aI aC aP), cl_B G aB 64 (fun _ => 0), cl_I G aI 16 (fun _ => 0), cl_I G aC 8 ((ivH d))] := hD
  exact wd_vret hx hb hr hlk () trivial hP hD hS dX0_drop_14
set_option maxHeartbeats 4000000 in
set_option maxRecDepth 100000 in
/-- new BlakeShortDesk() -/
theorem met_X0_init (l : Launch) (G : wd_G) (ad : Nat) (sz : Nat) : Met l yX0_init (ws_ yX0_init cX0_init 1 none) ({ frames := 3, cells := 6, slots := 1165, locals := 68 }) (va_Pc [.ref ad] (wd_Pre G [cl_O ad 0 [.null, .null, .int (nI 0), .null, .int (nI 0)]] sz)) (wd_Qv G (fun _ : Nat × Nat × Nat × Nat × Nat × Nat × Nat => True) (fun u => [cl_O ad 0 (dk_fs u.1 u.2.1 u.2.2.1 (nI 0) (nI 0)), cl_O u.1 1 (bk_fs (nI 32) (nI 0) (nI 0) (nI 0) u.2.2.2.1 u.2.2.2.2.1 u.2.2.2.2.2.1 u.2.2.2.2.2.2), cl_B G u.2.2.2.1 64 (fun _ => 0), cl_I G u.2.2.2.2.1 16 (fun _ => 0), cl_I G u.2.2.2.2.2.1 8 (ivH 32), cl_B G u.2.1 32 (fun _ => 0), cl_B G u.2.2.1 1024 (fun _ => 0)]) (va_A [cl_O ad 0 [.null, .null, .int (nI 0), .null, .int (nI 0)]] sz)) 6 1165 (va_A [cl_O ad 0 [.null, .null, .int (nI 0), .null, .int (nI 0)]] sz) := by
  refine wd_ofW (Qc := fun A => wd_Qv G (fun _ : Nat × Nat × Nat × Nat × Nat × Nat × Nat => True) (fun u => [cl_O ad 0 (dk_fs u.1 u.2.1 u.2.2.1 (nI 0) (nI 0)), cl_O u.1 1 (bk_fs (nI 32) (nI 0) (nI 0) (nI 0) u.2.2.2.1 u.2.2.2.2.1 u.2.2.2.2.2.1 u.2.2.2.2.2.2), cl_B G u.2.2.2.1 64 (fun _ => 0), cl_I G u.2.2.2.2.1 16 (fun _ => 0), cl_I G u.2.2.2.2.2.1 8 (ivH 32), cl_B G u.2.1 32 (fun _ => 0), cl_B G u.2.2.1 1024 (fun _ => 0)]) A) (by decide) (Nat.le_of_ble_eq_true rfl) ?_
  intro p e s m below meth c A ls hx hb hr hml hown hlk hnm hts hK hZ hP hD hS hA hl
  replace hown : s.vm.findClass RX0 = some m.cls := hown
  replace hl : lv_has ls 1 [(0, .ref ad)] := hl
  replace hnm : meth.name = "<init>" := hnm
  refine lv_aload_n hx hb dX0_init_0 rfl (lv_at hl 0 rfl) ?_
  refine W.objInit hx hb hown (hts _ q38) (hts _ q39) (hts _ q40) rfl (by rw [hml]; exact hl.1) rfl dX0_init_1 (Nat.le_of_ble_eq_true rfl) (Nat.le_of_ble_eq_true rfl) ?_
  refine W.eq (g2 := F0 m 4 ls []) rfl ?_
  refine lv_aload_n hx hb dX0_init_4 rfl (lv_at hl 0 rfl) ?_
  refine va_new (ci := 1) (fs := [.int (nI 0), .int (nI 0), .null, .null, .null, .int (nI 0), .int (nI 0), .int (nI 0), .long 0, .int (nI 0), .int (nI 0), .int (nI 0), .null, .int (nI 0), .null, .null, .int (nI 0), .int (nI 0), .int (nI 0), .int (nI 0), .null]) (C := RX1) (T := TX1) (N := 21) hx hb hts in_X1 tyX1 tyX1_ok hown (hts _ q41) (hts _ q42) (hts _ q16) hK hP hD hS hA rfl (new_X1) (Nat.le_of_ble_eq_true rfl) (Nat.le_of_ble_eq_true rfl) dX0_init_5 ?_
  clear hP hD hS; intro ao_117 H hP hD hS
  replace hP : va_P G.1 vwCl [cl_O ad 0 [.null, .null, .int (nI 0), .null, .int (nI 0)], cl_O ao_117 1 [.int (nI 0), .int (nI 0), .null, .null, .null, .int (nI 0), .int (nI 0), .int (nI 0), .long 0, .int (nI 0), .int (nI 0), .int (nI 0), .null, .int (nI 0), .null, .null, .int (nI 0), .int (nI 0), .int (nI 0), .int (nI 0), .null]] H := hP
  replace hD : va_D A [cl_O ad 0 [.null, .null, .int (nI 0), .null, .int (nI 0)], cl_O ao_117 1 [.int (nI 0), .int (nI 0), .null, .null, .null, .int (nI 0), .int (nI 0), .int (nI 0), .long 0, .int (nI 0), .int (nI 0), .int (nI 0), .null, .int (nI 0), .null, .null, .int (nI 0), .int (nI 0), .int (nI 0), .int (nI 0), .null]] := hD
  refine lv_dup hx hb dX0_init_8 rfl ?_
  refine lv_sipush (v := nI 256) hx hb dX0_init_9 (by decide) ?_
  refine wd_callv (wr := [cl_O ad 0 [.null, .null, .int (nI 0), .null, .int (nI 0)]]) (va_runI (As := [.int (nI 256)]) (rest := [.ref ao_117, .ref ad]) ⟨hx, hb, hml, hown, hts⟩ (met_X1_new l G ao_117 32 (Or.inl rfl) H.size) (cwI 1 hts (lw_meth q45) rfl rfl rfl (hts _ q16) (hts _ q43) (hts _ q44) rfl (by decide +kernel) ⟨Nat.le_of_ble_eq_true rfl, Nat.le_of_ble_eq_true rfl⟩) (wd_preS hK hZ hP hD hS hA [1] (by decide) rfl) rfl rfl hl.1 rfl (lv_room (Nat.le_of_ble_eq_true rfl)) dX0_init_12 ⟨Nat.le_of_ble_eq_true rfl, Nat.le_of_ble_eq_true rfl⟩) hP hD hS hA [1] [0] rfl rfl (by decide) (by decide) ?_
  intro u_122 hu_122
  obtain ⟨aB_118, aI_119, aC_120, aP_121⟩ := u_122
  clear hP hD hS; intro H locs hP hD hS
  replace hP : va_P G.1 vwCl [cl_O ad 0 [.null, .null, .int (nI 0), .null, .int (nI 0)], cl_O ao_117 1 (bk_fs (nI 32) (nI 0) (nI 0) (nI 0) aB_118 aI_119 aC_120 aP_121), cl_B G aB_118 64 (fun _ => 0), cl_I G aI_119 16 (fun _ => 0), cl_I G aC_120 8 ((ivH 32))] H := wd_psub hP [0, 1, 2, 3, 4] rfl
  replace hD : va_D A [cl_O ad 0 [.null, .null, .int (nI 0), .null, .int (nI 0)], cl_O ao_117 1 (bk_fs (nI 32) (nI 0) (nI 0) (nI 0) aB_118 aI_119 aC_120 aP_121), cl_B G aB_118 64 (fun _ => 0), cl_I G aI_119 16 (fun _ => 0), cl_I G aC_120 8 ((ivH 32))] := hD.sub [0, 1, 2, 3, 4] (by decide) rfl
  refine va_put (D := G.1) (ci := 0) (v := .ref ao_117) (ty := .object "Digest") (C := RX0) (T := TX0) (N := 5) hx hb hts in_X0 tyX0 tyX0_ok nmX0 hown hK hP hD hS 0 rfl rfl 0 (by decide) (hts _ q199) (fun _ h9 => h9) rfl (tyX0_ok 0 (by decide)) rfl rfl (Nat.le_of_ble_eq_true rfl) dX0_init_15 ?_
  clear hP hD hS; intro H locs hP hD hS
  replace hP : va_P G.1 vwCl [cl_O ad 0 [.ref ao_117, .null, .int (nI 0), .null, .int (nI 0)], cl_O ao_117 1 (bk_fs (nI 32) (nI 0) (nI 0) (nI 0) aB_118 aI_119 aC_120 aP_121), cl_B G aB_118 64 (fun _ => 0), cl_I G aI_119 16 (fun _ => 0), cl_I G aC_120 8 ((ivH 32))] H := hP
  replace hD : va_D A [cl_O ad 0 [.ref ao_117, .null, .int (nI 0), .null, .int (nI 0)], cl_O ao_117 1 (bk_fs (nI 32) (nI 0) (nI 0) (nI 0) aB_118 aI_119 aC_120 aP_121), cl_B G aB_118 64 (fun _ => 0), cl_I G aI_119 16 (fun _ => 0), cl_I G aC_120 8 ((ivH 32))] := hD
  refine lv_aload_n hx hb dX0_init_18 rfl (lv_at hl 0 rfl) ?_
  refine lv_bipush (v := nI 32) hx hb dX0_init_19 (by decide) ?_
  refine wd_newB hx hb (hts _ q118) hK hP hD hS hA (by decide) (Nat.le_of_ble_eq_true rfl) (Nat.le_of_ble_eq_true rfl) dX0_init_21 ?_
  clear hP hD hS; intro q_123 H hP hD hS
  replace hP : va_P G.1 vwCl [cl_O ad 0 [.ref ao_117, .null, .int (nI 0), .null, .int (nI 0)], cl_O ao_117 1 (bk_fs (nI 32) (nI 0) (nI 0) (nI 0) aB_118 aI_119 aC_120 aP_121), cl_B G aB_118 64 (fun _ => 0), cl_I G aI_119 16 (fun _ => 0), cl_I G aC_120 8 ((ivH 32)), cl_B G q_123 32 (fun _ => 0)] H := hP
  replace hD : va_D A [cl_O ad 0 [.ref ao_117, .null, .int (nI 0), .null, .int (nI 0)], cl_O ao_117 1 (bk_fs (nI 32) (nI 0) (nI 0) (nI 0) aB_118 aI_119 aC_120 aP_121), cl_B G aB_118 64 (fun _ => 0), cl_I G aI_119 16 (fun _ => 0), cl_I G aC_120 8 ((ivH 32)), cl_B G q_123 32 (fun _ => 0)] := hD
  refine va_putF (D := G.1) (ci := 0) (v := .ref q_123) (ty := .array .byte) (C := RX0) (T := TX0) (N := 5) hx hb hts in_X0 tyX0 tyX0_ok nmX0 hown hK hP hD hS 0 rfl rfl 1 (by decide) (hts _ q200) (fun _ h9 => h9) rfl hnm rfl (tyX0_ok 1 (by decide)) rfl rfl (Nat.le_of_ble_eq_true rfl) dX0_init_23 ?_
  clear hP hD hS; intro H locs hP hD hS
  replace hP : va_P G.1 vwCl [cl_O ad 0 [.ref ao_117, .ref q_123, .int (nI 0), .null, .int (nI 0)], cl_O ao_117 1 (bk_fs (nI 32) (nI 0) (nI 0) (nI 0) aB_118 aI_119 aC_120 aP_121), cl_B G aB_118 64 (fun _ => 0), cl_I G aI_119 16 (fun _ => 0), cl_I G aC_120 8 ((ivH 32)), cl_B G q_123 32 (fun _ => 0)] H := hP
  replace hD : va_D A [cl_O ad 0 [.ref ao_117, .ref q_123, .int (nI 0), .null, .int (nI 0)], cl_O ao_117 1 (bk_fs (nI 32) (nI 0) (nI 0) (nI 0) aB_118 aI_119 aC_120 aP_121), cl_B G aB_118 64 (fun _ => 0), cl_I G aI_119 16 (fun _ => 0), cl_I G aC_120 8 ((ivH 32)), cl_B G q_123 32 (fun _ => 0)] := hD
  refine lv_aload_n hx hb dX0_init_26 rfl (lv_at hl 0 rfl) ?_
  refine lv_sipush (v := nI 1024) hx hb dX0_init_27 (by decide) ?_
  refine wd_newB hx hb (hts _ q118) hK hP hD hS hA (by decide) (Nat.le_of_ble_eq_true rfl) (Nat.le_of_ble_eq_true rfl) dX0_init_30 ?_
  clear hP hD hS; intro q_124 H hP hD hS
  replace hP : va_P G.1 vwCl [cl_O ad 0 [.ref ao_117, .ref q_123, .int (nI 0), .null, .int (nI 0)], cl_O ao_117 1 (bk_fs (nI 32) (nI 0) (nI 0) (nI 0) aB_118 aI_119 aC_120 aP_121), cl_B G aB_118 64 (fun _ => 0), cl_I G aI_119 16 (fun _ => 0), cl_I G aC_120 8 ((ivH 32)), cl_B G q_123 32 (fun _ => 0), cl_B G q_124 1024 (fun _ => 0)] H := hP
  replace hD : va_D A [cl_O ad 0 [.ref ao_117, .ref q_123, .int (nI 0), .null, .int (nI 0)], cl_O ao_117 1 (bk_fs (nI 32) (nI 0) (nI 0) (nI 0) aB_118 aI_119 aC_120 aP_121), cl_B G aB_118 64 (fun _ => 0), cl_I G aI_119 16 (fun _ => 0), cl_I G aC_120 8 ((ivH 32)), cl_B G q_123 32 (fun _ => 0), cl_B G q_124 1024 (fun _ => 0)] := hD
  refine va_putF (D := G.1) (ci := 0) (v := .ref q_124) (ty := .array .byte) (C := RX0) (T := TX0) (N := 5) hx hb hts in_X0 tyX0 tyX0_ok nmX0 hown hK hP hD hS 0 rfl rfl 3 (by decide) (hts _ q202) (fun _ h9 => h9) rfl hnm rfl (tyX0_ok 3 (by decide)) rfl rfl (Nat.le_of_ble_eq_true rfl) dX0_init_32 ?_
  clear hP hD hS; intro H locs hP hD hS
  replace hP : va_P G.1 vwCl [cl_O ad 0 (dk_fs ao_117 q_123 q_124 (nI 0) (nI 0)), cl_O ao_117 1 (bk_fs (nI 32) (nI 0) (nI 0) (nI 0) aB_118 aI_119 aC_120 aP_121), cl_B G aB_118 64 (fun _ => 0), cl_I G aI_119 16 (fun _ => 0), cl_I G aC_120 8 ((ivH 32)), cl_B G q_123 32 (fun _ => 0), cl_B G q_124 1024 (fun _ => 0)] H := hP
  replace hD : va_D A [cl_O ad 0 (dk_fs ao_117 q_123 q_124 (nI 0) (nI 0)), cl_O ao_117 1 (bk_fs (nI 32) (nI 0) (nI 0) (nI 0) aB_118 aI_119 aC_120 aP_121), cl_B G aB_118 64 (fun _ => 0), cl_I G aI_119 16 (fun _ => 0), cl_I G aC_120 8 ((ivH 32)), cl_B G q_123 32 (fun _ => 0), cl_B G q_124 1024 (fun _ => 0)] := hD
  exact wd_vret hx hb hr hlk (ao_117, q_123, q_124, aB_118, aI_119, aC_120, aP_121) trivial hP hD hS dX0_init_35
end
section
/-! BlakeShortDeskModel: turned, mixes, wordAt, compresses -/
set_option maxHeartbeats 4000000 in
set_option maxRecDepth 100000 in
/-- BlakeShortDeskModel.turned -/
theorem met_X3_turned (l : Launch) (G : wd_G) (x : Int32) (k : Nat) (hk : (nI 32 - nI k) &&& 31 = (-(nI k)) &&& 31) : Met l yX3_turned (ws_ yX3_turned cX3_turned 2 (some .int)) ({ frames := 0, cells := 0, slots := 0, locals := 0 }) (va_Pc [.int x, .int (nI k)] (wd_PreR G [])) (vp_Si (fun r => r = rotR x (nI k))) 0 0 (fun _ => False) := by
  refine wd_ofR (by decide) (Nat.le_of_ble_eq_true rfl) ?_
  intro p e s m below meth c ls hx hb hr hml hown hlk hts hK hP hl
  replace hown : s.vm.findClass RX3 = some m.cls := hown
  replace hl : lv_has ls 2 [(0, .int x), (1, .int (nI k))] := hl
  refine lv_iload_n hx hb dX3_turned_0 rfl (lv_at hl 0 rfl) ?_
  refine lv_iload_n hx hb dX3_turned_1 rfl (lv_at hl 1 rfl) ?_
  refine lv_iushr hx hb dX3_turned_2 rfl ?_
  refine lv_iload_n hx hb dX3_turned_3 rfl (lv_at hl 0 rfl) ?_
  refine lv_bipush (v := nI 32) hx hb dX3_turned_4 (by decide) ?_
  refine lv_iload_n hx hb dX3_turned_6 rfl (lv_at hl 1 rfl) ?_
  refine lv_isub hx hb dX3_turned_7 ?_
  refine lv_ishl hx hb dX3_turned_8 ?_
  refine lv_ior hx hb dX3_turned_9 ?_
  exact wd_rret hx hb hr hlk (by rw [hk]; rfl) dX3_turned_10
set_option maxHeartbeats 4000000 in
set_option maxRecDepth 100000 in
/-- BlakeShortDeskModel.mixes(v, at, x, y): at is a row of a static table -/
theorem met_X3_mixes (l : Launch) (G : wd_G) (av tAT : Nat) (x y : Int32) (v : Nat → Int32) (g : Nat → Nat) (hg : ∀ j, j < 4 → g j < 16) (sz : Nat) : Met l yX3_mixes (ws_ yX3_mixes cX3_mixes 4 none) ({ frames := 1, cells := 0, slots := 0, locals := 21 }) (va_Pc [.ref av, .ref tAT, .int x, .int y] (wd_PreT G [cl_I G av 16 v] sz tAT 4 (fun j => .int (nI (g j))))) (wd_Qv G (fun u : Nat → Int32 => u = gF v x y (g 0) (g 1) (g 2) (g 3)) (fun u => [cl_I G av 16 u]) (va_A [cl_I G av 16 v] sz)) 0 0 (va_A [cl_I G av 16 v] sz) := by
  refine wd_ofT (Qc := fun A => wd_Qv G (fun u : Nat → Int32 => u = gF v x y (g 0) (g 1) (g 2) (g 3)) (fun u => [cl_I G av 16 u]) A) (by decide) (Nat.le_of_ble_eq_true rfl) ?_
  intro p e s m below meth c A ls hx hb hr hml hown hlk hnm hts hK hZ hP hD hS hA hT hl
  replace hown : s.vm.findClass RX3 = some m.cls := hown
  replace hl : lv_has ls 4 [(0, .ref av), (1, .ref tAT), (2, .int x), (3, .int y)] := hl
  have hg0 := hg 0 (by decide)
  have hg1 := hg 1 (by decide)
  have hg2 := hg 2 (by decide)
  have hg3 := hg 3 (by decide)
  refine lv_aload_n hx hb dX3_mixes_0 rfl (lv_at hl 0 rfl) ?_
  refine lv_aload_n hx hb dX3_mixes_1 rfl (lv_at hl 1 rfl) ?_
  refine lv_iconst (v := nI 0) hx hb dX3_mixes_2 (by decide) ?_
  refine wd_ti hx hb hT hS 0 (by omega) (by decide) dX3_mixes_3 ?_
  refine lv_dup2_11 hx hb dX3_mixes_4 rfl rfl ?_
  refine wd_ild hx hb hK hP 0 rfl (g 0) (by omega) (by omega) dX3_mixes_5 ?_
  refine lv_aload_n hx hb dX3_mixes_6 rfl (lv_at hl 0 rfl) ?_
  refine lv_aload_n hx hb dX3_mixes_7 rfl (lv_at hl 1 rfl) ?_
  refine lv_iconst (v := nI 1) hx hb dX3_mixes_8 (by decide) ?_
  refine wd_ti hx hb hT hS 1 (by omega) (by decide) dX3_mixes_9 ?_
  refine wd_ild hx hb hK hP 0 rfl (g 1) (by omega) (by omega) dX3_mixes_10 ?_
  refine lv_iload_n hx hb dX3_mixes_11 rfl (lv_at hl 2 rfl) ?_
  refine lv_iadd hx hb dX3_mixes_12 ?_
  refine lv_iadd hx hb dX3_mixes_13 ?_
  refine wd_ist hx hb hK hP hD hS 0 rfl (g 0) (by omega) (by omega) dX3_mixes_14 ?_
  clear hP hD hS; intro f_125 ef_125 H locs hP hD hS
  replace hP : va_P G.1 vwCl [cl_I G av 16 f_125] H := hP
  replace hD : va_D A [cl_I G av 16 f_125] := hD
  replace ef_125 : f_125 = gA v x (g 0) (g 1) := by rw [ef_125]; unfold gA; rw [Int32.add_assoc]
  refine lv_aload_n hx hb dX3_mixes_15 rfl (lv_at hl 0 rfl) ?_
  refine lv_aload_n hx hb dX3_mixes_16 rfl (lv_at hl 1 rfl) ?_
  refine lv_iconst (v := nI 3) hx hb dX3_mixes_17 (by decide) ?_
  refine wd_ti hx hb hT hS 3 (by omega) (by decide) dX3_mixes_18 ?_
  refine lv_aload_n hx hb dX3_mixes_19 rfl (lv_at hl 0 rfl) ?_
  refine lv_aload_n hx hb dX3_mixes_20 rfl (lv_at hl 1 rfl) ?_
  refine lv_iconst (v := nI 3) hx hb dX3_mixes_21 (by decide) ?_
  refine wd_ti hx hb hT hS 3 (by omega) (by decide) dX3_mixes_22 ?_
  refine wd_ild hx hb hK hP 0 rfl (g 3) (by omega) (by omega) dX3_mixes_23 ?_
  refine lv_aload_n hx hb dX3_mixes_24 rfl (lv_at hl 0 rfl) ?_
  refine lv_aload_n hx hb dX3_mixes_25 rfl (lv_at hl 1 rfl) ?_
  refine lv_iconst (v := nI 0) hx hb dX3_mixes_26 (by decide) ?_
  refine wd_ti hx hb hT hS 0 (by omega) (by decide) dX3_mixes_27 ?_
  refine wd_ild hx hb hK hP 0 rfl (g 0) (by omega) (by omega) dX3_mixes_28 ?_
  refine lv_ixor hx hb dX3_mixes_29 ?_
  refine lv_bipush (v := nI 16) hx hb dX3_mixes_30 (by decide) ?_
  refine vp_callSi (va_Run.run (va_runS (As := [.int ((f_125 (g 3)) ^^^ (f_125 (g 0))), .int (nI 16)]) (rest := [.int (nI (g 3)), .ref av]) ⟨hx, hb, hml, hown, hts⟩ (met_X3_turned l G ((f_125 (g 3)) ^^^ (f_125 (g 0))) 16 rotR_16) (va_cwS 2 hts (lw_S q461 q462 q25 q463) rfl rfl rfl (by decide +kernel) ⟨Nat.le_of_ble_eq_true rfl, Nat.le_of_ble_eq_true rfl⟩) (wd_preSR hK hP [] rfl) rfl rfl hl.1 rfl (lv_room (Nat.le_of_ble_eq_true rfl)) dX3_mixes_32 ⟨Nat.le_of_ble_eq_true rfl, Nat.le_of_ble_eq_true rfl⟩)) ?_
  intro r_126 er_126
  refine wd_ist hx hb hK hP hD hS 0 rfl (g 3) (by omega) (by omega) dX3_mixes_35 ?_
  clear hP hD hS; intro f_127 ef_127 H locs hP hD hS
  replace hP : va_P G.1 vwCl [cl_I G av 16 f_127] H := hP
  replace hD : va_D A [cl_I G av 16 f_127] := hD
  replace ef_127 : f_127 = gR f_125 (g 3) (g 0) 16 := by rw [ef_127, er_126]; rfl
  refine lv_aload_n hx hb dX3_mixes_36 rfl (lv_at hl 0 rfl) ?_
  refine lv_aload_n hx hb dX3_mixes_37 rfl (lv_at hl 1 rfl) ?_
  refine lv_iconst (v := nI 2) hx hb dX3_mixes_38 (by decide) ?_
  refine wd_ti hx hb hT hS 2 (by omega) (by decide) dX3_mixes_39 ?_
  refine lv_dup2_11 hx hb dX3_mixes_40 rfl rfl ?_
  refine wd_ild hx hb hK hP 0 rfl (g 2) (by omega) (by omega) dX3_mixes_41 ?_
  refine lv_aload_n hx hb dX3_mixes_42 rfl (lv_at hl 0 rfl) ?_
  refine lv_aload_n hx hb dX3_mixes_43 rfl (lv_at hl 1 rfl) ?_
  refine lv_iconst (v := nI 3) hx hb dX3_mixes_44 (by decide) ?_
  refine wd_ti hx hb hT hS 3 (by omega) (by decide) dX3_mixes_45 ?_
  refine wd_ild hx hb hK hP 0 rfl (g 3) (by omega) (by omega) dX3_mixes_46 ?_
  refine lv_iadd hx hb dX3_mixes_47 ?_
  refine wd_ist hx hb hK hP hD hS 0 rfl (g 2) (by omega) (by omega) dX3_mixes_48 ?_
  clear hP hD hS; intro f_128 ef_128 H locs hP hD hS
  replace hP : va_P G.1 vwCl [cl_I G av 16 f_128] H := hP
  replace hD : va_D A [cl_I G av 16 f_128] := hD
  replace ef_128 : f_128 = gC f_127 (g 2) (g 3) := ef_128
  refine lv_aload_n hx hb dX3_mixes_49 rfl (lv_at hl 0 rfl) ?_
  refine lv_aload_n hx hb dX3_mixes_50 rfl (lv_at hl 1 rfl) ?_
  refine lv_iconst (v := nI 1) hx hb dX3_mixes_51 (by decide) ?_
  refine wd_ti hx hb hT hS 1 (by omega) (by decide) dX3_mixes_52 ?_
  refine lv_aload_n hx hb dX3_mixes_53 rfl (lv_at hl 0 rfl) ?_
  refine lv_aload_n hx hb dX3_mixes_54 rfl (lv_at hl 1 rfl) ?_
  refine lv_iconst (v := nI 1) hx hb dX3_mixes_55 (by decide) ?_
  refine wd_ti hx hb hT hS 1 (by omega) (by decide) dX3_mixes_56 ?_
  refine wd_ild hx hb hK hP 0 rfl (g 1) (by omega) (by omega) dX3_mixes_57 ?_
  refine lv_aload_n hx hb dX3_mixes_58 rfl (lv_at hl 0 rfl) ?_
  refine lv_aload_n hx hb dX3_mixes_59 rfl (lv_at hl 1 rfl) ?_
  refine lv_iconst (v := nI 2) hx hb dX3_mixes_60 (by decide) ?_
  refine wd_ti hx hb hT hS 2 (by omega) (by decide) dX3_mixes_61 ?_
  refine wd_ild hx hb hK hP 0 rfl (g 2) (by omega) (by omega) dX3_mixes_62 ?_
  refine lv_ixor hx hb dX3_mixes_63 ?_
  refine lv_bipush (v := nI 12) hx hb dX3_mixes_64 (by decide) ?_
  refine vp_callSi (va_Run.run (va_runS (As := [.int ((f_128 (g 1)) ^^^ (f_128 (g 2))), .int (nI 12)]) (rest := [.int (nI (g 1)), .ref av]) ⟨hx, hb, hml, hown, hts⟩ (met_X3_turned l G ((f_128 (g 1)) ^^^ (f_128 (g 2))) 12 rotR_12) (va_cwS 2 hts (lw_S q461 q462 q25 q463) rfl rfl rfl (by decide +kernel) ⟨Nat.le_of_ble_eq_true rfl, Nat.le_of_ble_eq_true rfl⟩) (wd_preSR hK hP [] rfl) rfl rfl hl.1 rfl (lv_room (Nat.le_of_ble_eq_true rfl)) dX3_mixes_66 ⟨Nat.le_of_ble_eq_true rfl, Nat.le_of_ble_eq_true rfl⟩)) ?_
  intro r_129 er_129
  refine wd_ist hx hb hK hP hD hS 0 rfl (g 1) (by omega) (by omega) dX3_mixes_69 ?_
  clear hP hD hS; intro f_130 ef_130 H locs hP hD hS
  replace hP : va_P G.1 vwCl [cl_I G av 16 f_130] H := hP
  replace hD : va_D A [cl_I G av 16 f_130] := hD
  replace ef_130 : f_130 = gR f_128 (g 1) (g 2) 12 := by rw [ef_130, er_129]; rfl
  refine lv_aload_n hx hb dX3_mixes_70 rfl (lv_at hl 0 rfl) ?_
  refine lv_aload_n hx hb dX3_mixes_71 rfl (lv_at hl 1 rfl) ?_
  refine lv_iconst (v := nI 0) hx hb dX3_mixes_72 (by decide) ?_
  refine wd_ti hx hb hT hS 0 (by omega) (by decide) dX3_mixes_73 ?_
  refine lv_dup2_11 hx hb dX3_mixes_74 rfl rfl ?_
  refine wd_ild hx hb hK hP 0 rfl (g 0) (by omega) (by omega) dX3_mixes_75 ?_
  refine lv_aload_n hx hb dX3_mixes_76 rfl (lv_at hl 0 rfl) ?_
  refine lv_aload_n hx hb dX3_mixes_77 rfl (lv_at hl 1 rfl) ?_
  refine lv_iconst (v := nI 1) hx hb dX3_mixes_78 (by decide) ?_
  refine wd_ti hx hb hT hS 1 (by omega) (by decide) dX3_mixes_79 ?_
  refine wd_ild hx hb hK hP 0 rfl (g 1) (by omega) (by omega) dX3_mixes_80 ?_
  refine lv_iload_n hx hb dX3_mixes_81 rfl (lv_at hl 3 rfl) ?_
  refine lv_iadd hx hb dX3_mixes_82 ?_
  refine lv_iadd hx hb dX3_mixes_83 ?_
  refine wd_ist hx hb hK hP hD hS 0 rfl (g 0) (by omega) (by omega) dX3_mixes_84 ?_
  clear hP hD hS; intro f_131 ef_131 H locs hP hD hS
  replace hP : va_P G.1 vwCl [cl_I G av 16 f_131] H := hP
  replace hD : va_D A [cl_I G av 16 f_131] := hD
  replace ef_131 : f_131 = gA f_130 y (g 0) (g 1) := by rw [ef_131]; unfold gA; rw [Int32.add_assoc]
  refine lv_aload_n hx hb dX3_mixes_85 rfl (lv_at hl 0 rfl) ?_
  refine lv_aload_n hx hb dX3_mixes_86 rfl (lv_at hl 1 rfl) ?_
  refine lv_iconst (v := nI 3) hx hb dX3_mixes_87 (by decide) ?_
  refine wd_ti hx hb hT hS 3 (by omega) (by decide) dX3_mixes_88 ?_
  refine lv_aload_n hx hb dX3_mixes_89 rfl (lv_at hl 0 rfl) ?_
  refine lv_aload_n hx hb dX3_mixes_90 rfl (lv_at hl 1 rfl) ?_
  refine lv_iconst (v := nI 3) hx hb dX3_mixes_91 (by decide) ?_
  refine wd_ti hx hb hT hS 3 (by omega) (by decide) dX3_mixes_92 ?_
  refine wd_ild hx hb hK hP 0 rfl (g 3) (by omega) (by omega) dX3_mixes_93 ?_
  refine lv_aload_n hx hb dX3_mixes_94 rfl (lv_at hl 0 rfl) ?_
  refine lv_aload_n hx hb dX3_mixes_95 rfl (lv_at hl 1 rfl) ?_
  refine lv_iconst (v := nI 0) hx hb dX3_mixes_96 (by decide) ?_
  refine wd_ti hx hb hT hS 0 (by omega) (by decide) dX3_mixes_97 ?_
  refine wd_ild hx hb hK hP 0 rfl (g 0) (by omega) (by omega) dX3_mixes_98 ?_
  refine lv_ixor hx hb dX3_mixes_99 ?_
  refine lv_bipush (v := nI 8) hx hb dX3_mixes_100 (by decide) ?_
  refine vp_callSi (va_Run.run (va_runS (As := [.int ((f_131 (g 3)) ^^^ (f_131 (g 0))), .int (nI 8)]) (rest := [.int (nI (g 3)), .ref av]) ⟨hx, hb, hml, hown, hts⟩ (met_X3_turned l G ((f_131 (g 3)) ^^^ (f_131 (g 0))) 8 rotR_8) (va_cwS 2 hts (lw_S q461 q462 q25 q463) rfl rfl rfl (by decide +kernel) ⟨Nat.le_of_ble_eq_true rfl, Nat.le_of_ble_eq_true rfl⟩) (wd_preSR hK hP [] rfl) rfl rfl hl.1 rfl (lv_room (Nat.le_of_ble_eq_true rfl)) dX3_mixes_102 ⟨Nat.le_of_ble_eq_true rfl, Nat.le_of_ble_eq_true rfl⟩)) ?_
  intro r_132 er_132
  refine wd_ist hx hb hK hP hD hS 0 rfl (g 3) (by omega) (by omega) dX3_mixes_105 ?_
  clear hP hD hS; intro f_133 ef_133 H locs hP hD hS
  replace hP : va_P G.1 vwCl [cl_I G av 16 f_133] H := hP
  replace hD : va_D A [cl_I G av 16 f_133] := hD
  replace ef_133 : f_133 = gR f_131 (g 3) (g 0) 8 := by rw [ef_133, er_132]; rfl
  refine lv_aload_n hx hb dX3_mixes_106 rfl (lv_at hl 0 rfl) ?_
  refine lv_aload_n hx hb dX3_mixes_107 rfl (lv_at hl 1 rfl) ?_
  refine lv_iconst (v := nI 2) hx hb dX3_mixes_108 (by decide) ?_
  refine wd_ti hx hb hT hS 2 (by omega) (by decide) dX3_mixes_109 ?_
  refine lv_dup2_11 hx hb dX3_mixes_110 rfl rfl ?_
  refine wd_ild hx hb hK hP 0 rfl (g 2) (by omega) (by omega) dX3_mixes_111 ?_
  refine lv_aload_n hx hb dX3_mixes_112 rfl (lv_at hl 0 rfl) ?_
  refine lv_aload_n hx hb dX3_mixes_113 rfl (lv_at hl 1 rfl) ?_
  refine lv_iconst (v := nI 3) hx hb dX3_mixes_114 (by decide) ?_
  refine wd_ti hx hb hT hS 3 (by omega) (by decide) dX3_mixes_115 ?_
  refine wd_ild hx hb hK hP 0 rfl (g 3) (by omega) (by omega) dX3_mixes_116 ?_
  refine lv_iadd hx hb dX3_mixes_117 ?_
  refine wd_ist hx hb hK hP hD hS 0 rfl (g 2) (by omega) (by omega) dX3_mixes_118 ?_
  clear hP hD hS; intro f_134 ef_134 H locs hP hD hS
  replace hP : va_P G.1 vwCl [cl_I G av 16 f_134] H := hP
  replace hD : va_D A [cl_I G av 16 f_134] := hD
  replace ef_134 : f_134 = gC f_133 (g 2) (g 3) := ef_134
  refine lv_aload_n hx hb dX3_mixes_119 rfl (lv_at hl 0 rfl) ?_
  refine lv_aload_n hx hb dX3_mixes_120 rfl (lv_at hl 1 rfl) ?_
  refine lv_iconst (v := nI 1) hx hb dX3_mixes_121 (by decide) ?_
  refine wd_ti hx hb hT hS 1 (by omega) (by decide) dX3_mixes_122 ?_
  refine lv_aload_n hx hb dX3_mixes_123 rfl (lv_at hl 0 rfl) ?_
  refine lv_aload_n hx hb dX3_mixes_124 rfl (lv_at hl 1 rfl) ?_
  refine lv_iconst (v := nI 1) hx hb dX3_mixes_125 (by decide) ?_
  refine wd_ti hx hb hT hS 1 (by omega) (by decide) dX3_mixes_126 ?_
  refine wd_ild hx hb hK hP 0 rfl (g 1) (by omega) (by omega) dX3_mixes_127 ?_
  refine lv_aload_n hx hb dX3_mixes_128 rfl (lv_at hl 0 rfl) ?_
  refine lv_aload_n hx hb dX3_mixes_129 rfl (lv_at hl 1 rfl) ?_
  refine lv_iconst (v := nI 2) hx hb dX3_mixes_130 (by decide) ?_
  refine wd_ti hx hb hT hS 2 (by omega) (by decide) dX3_mixes_131 ?_
  refine wd_ild hx hb hK hP 0 rfl (g 2) (by omega) (by omega) dX3_mixes_132 ?_
  refine lv_ixor hx hb dX3_mixes_133 ?_
  refine lv_bipush (v := nI 7) hx hb dX3_mixes_134 (by decide) ?_
  refine vp_callSi (va_Run.run (va_runS (As := [.int ((f_134 (g 1)) ^^^ (f_134 (g 2))), .int (nI 7)]) (rest := [.int (nI (g 1)), .ref av]) ⟨hx, hb, hml, hown, hts⟩ (met_X3_turned l G ((f_134 (g 1)) ^^^ (f_134 (g 2))) 7 rotR_7) (va_cwS 2 hts (lw_S q461 q462 q25 q463) rfl rfl rfl (by decide +kernel) ⟨Nat.le_of_ble_eq_true rfl, Nat.le_of_ble_eq_true rfl⟩) (wd_preSR hK hP [] rfl) rfl rfl hl.1 rfl (lv_room (Nat.le_of_ble_eq_true rfl)) dX3_mixes_136 ⟨Nat.le_of_ble_eq_true rfl, Nat.le_of_ble_eq_true rfl⟩)) ?_
  intro r_135 er_135
  refine wd_ist hx hb hK hP hD hS 0 rfl (g 1) (by omega) (by omega) dX3_mixes_139 ?_
  clear hP hD hS; intro f_136 ef_136 H locs hP hD hS
  replace hP : va_P G.1 vwCl [cl_I G av 16 f_136] H := hP
  replace hD : va_D A [cl_I G av 16 f_136] := hD
  replace ef_136 : f_136 = gR f_134 (g 1) (g 2) 7 := by rw [ef_136, er_135]; rfl
  exact wd_vret hx hb hr hlk f_136 (by rw [ef_136, ef_134, ef_133, ef_131, ef_130, ef_128, ef_127, ef_125]; rfl) hP hD hS dX3_mixes_140
set_option maxHeartbeats 4000000 in
set_option maxRecDepth 100000 in
/-- BlakeShortDeskModel.wordAt(o) -/
theorem met_X3_wordAt (l : Launch) (G : wd_G) (am aT aM aO : Nat) (sz0 by0 : Int32) (fed o : Nat) (ms : Nat → Int32) (hfed : fed ≤ 16384) (ho : o ≤ 100000) : Met l yX3_wordAt (ws_ yX3_wordAt cX3_wordAt 4 (some .int)) ({ frames := 0, cells := 0, slots := 0, locals := 0 }) (va_Pc [.ref am, .int (nI o)] (wd_PreR G [cl_O am 2 (md_fs aT aM aO sz0 (nI fed) by0), cl_I G aM 16384 ms])) (vp_Si (fun r => r = orN (xbF ms fed o) 4)) 0 0 (fun _ => False) := by
  refine wd_ofR (by decide) (Nat.le_of_ble_eq_true rfl) ?_
  intro p e s m below meth c ls hx hb hr hml hown hlk hts hK hP hl
  replace hown : s.vm.findClass RX3 = some m.cls := hown
  replace hl : lv_has ls 4 [(0, .ref am), (1, .int (nI o))] := hl
  refine lv_iconst (v := nI 0) hx hb dX3_wordAt_0 (by decide) ?_
  refine lv_istore_n (lv' := [(2, .int (nI 0)), (0, .ref am), (1, .int (nI o))]) hx hb dX3_wordAt_1 rfl hl (by decide) rfl ?_
  clear hl; intro ls hl
  refine lv_iconst (v := nI 0) hx hb dX3_wordAt_2 (by decide) ?_
  refine lv_istore_n (lv' := [(3, .int (nI 0)), (2, .int (nI 0)), (0, .ref am), (1, .int (nI o))]) hx hb dX3_wordAt_3 rfl hl (by decide) rfl ?_
  clear hl; intro ls hl
  have loop : ∀ (n9 i : Nat), i + n9 = 4 → ∀ (ls : Array Slot), lv_has ls 4 [(3, .int (nI i)), (2, .int ((orN (xbF ms fed o) i))), (0, .ref am), (1, .int (nI o))] → W p l e ({ frames := 0, cells := 0, slots := 0, locals := 0 }) s m ([.ref am, .int (nI o)] : List Value).toArray below meth c s.heap [] 0 0 (MQ below (vp_Si (fun r => r = orN (xbF ms fed o) 4)) ([.ref am, .int (nI o)] : List Value).toArray s 0 0 (fun _ => False)) (F0 m 4 ls []) := by
    clear hl
    intro n9
    induction n9 with
    | zero =>
      intro i hi  ls hl
      refine lv_iload_n hx hb dX3_wordAt_4 rfl (lv_at hl 0 rfl) ?_
      refine lv_iconst (v := nI 4) hx hb dX3_wordAt_5 (by decide) ?_
      refine wd_ge (tgt := 45) hx hb dX3_wordAt_6 (by decide) (by omega) (by omega) (fun c_1 => ?_) (fun c_1 => absurd c_1 (by omega))
      refine lv_iload_n hx hb dX3_wordAt_45 rfl (lv_at hl 1 rfl) ?_
      exact wd_rret hx hb hr hlk (by rw [show i = 4 by omega]) dX3_wordAt_46
    | succ n9 ih =>
      intro i hi  ls hl
      refine lv_iload_n hx hb dX3_wordAt_4 rfl (lv_at hl 0 rfl) ?_
      refine lv_iconst (v := nI 4) hx hb dX3_wordAt_5 (by decide) ?_
      refine wd_ge (tgt := 45) hx hb dX3_wordAt_6 (by decide) (by omega) (by omega) (fun c_1 => absurd c_1 (by omega)) (fun c_1 => ?_)
      have tail : W p l e ({ frames := 0, cells := 0, slots := 0, locals := 0 }) s m ([.ref am, .int (nI o)] : List Value).toArray below meth c s.heap [] 0 0 (MQ below (vp_Si (fun r => r = orN (xbF ms fed o) 4)) ([.ref am, .int (nI o)] : List Value).toArray s 0 0 (fun _ => False)) (F0 m 37 ls [.int ((xbF ms fed o i)), .int ((orN (xbF ms fed o) i))]) := by
        refine lv_ior hx hb dX3_wordAt_37 ?_
        refine lv_istore_n (lv' := [(2, .int (((orN (xbF ms fed o) i)) ||| ((xbF ms fed o i)))), (3, .int (nI i)), (0, .ref am), (1, .int (nI o))]) hx hb dX3_wordAt_38 rfl hl (by decide) rfl ?_
        clear hl; intro ls hl
        refine lv_iinc (v := nI (i + 1)) (lv' := [(3, .int (nI (i + 1))), (2, .int (((orN (xbF ms fed o) i)) ||| ((xbF ms fed o i)))), (0, .ref am), (1, .int (nI o))]) hx hb dX3_wordAt_39 hl (k := 1) rfl (wd_inc _ 1) (by decide) rfl ?_
        clear hl; intro ls hl
        refine lv_goto (tgt := 4) hx hb dX3_wordAt_42 (by decide) ?_
        exact ih (i + 1) (by omega) ls (lv_sub hl [0, 1, 2, 3] rfl)
      refine lv_iload_n hx hb dX3_wordAt_9 rfl (lv_at hl 1 rfl) ?_
      refine lv_iload_n hx hb dX3_wordAt_10 rfl (lv_at hl 3 rfl) ?_
      refine lv_iload_n hx hb dX3_wordAt_11 rfl (lv_at hl 0 rfl) ?_
      refine wd_iaddN (x := o) (y := i) hx hb dX3_wordAt_12 ?_
      refine lv_aload_n hx hb dX3_wordAt_13 rfl (lv_at hl 2 rfl) ?_
      refine va_get (D := G.1) (ci := 2) (v := .int (nI fed)) (C := RX3) (T := TX3) (N := 6) hx hb hts in_X3 hown hK hP 0 rfl rfl 3 (by decide) (hts _ q388) (fun _ h9 => h9) rfl dX3_wordAt_14 ?_
      refine wd_ge (tgt := 36) hx hb dX3_wordAt_17 (by decide) (by omega) (by omega) (fun c_2 => ?_) (fun c_2 => ?_)
      · refine lv_iconst (v := nI 0) hx hb dX3_wordAt_36 (by decide) ?_
        refine lv_eqi (y := xbF ms fed o i) (if_neg (by omega)).symm ?_
        exact tail
      · refine lv_aload_n hx hb dX3_wordAt_20 rfl (lv_at hl 2 rfl) ?_
        refine va_get (D := G.1) (ci := 2) (v := .ref aM) (C := RX3) (T := TX3) (N := 6) hx hb hts in_X3 hown hK hP 0 rfl rfl 2 (by decide) (hts _ q387) (fun _ h9 => h9) rfl dX3_wordAt_21 ?_
        refine lv_iload_n hx hb dX3_wordAt_24 rfl (lv_at hl 3 rfl) ?_
        refine lv_iload_n hx hb dX3_wordAt_25 rfl (lv_at hl 0 rfl) ?_
        refine wd_iaddN (x := o) (y := i) hx hb dX3_wordAt_26 ?_
        refine wd_ild hx hb hK hP 1 rfl (o + i) (by omega) (by omega) dX3_wordAt_27 ?_
        refine lv_bipush (v := nI 8) hx hb dX3_wordAt_28 (by decide) ?_
        refine lv_iload_n hx hb dX3_wordAt_30 rfl (lv_at hl 0 rfl) ?_
        refine wd_imulN (x := 8) (y := i) hx hb dX3_wordAt_31 ?_
        refine lv_ishl hx hb dX3_wordAt_32 ?_
        refine lv_goto (tgt := 37) hx hb dX3_wordAt_33 (by decide) ?_
        refine lv_eqi (y := xbF ms fed o i) (if_pos (by omega)).symm ?_
        exact tail
  exact loop 4 0 (by omega) ls (lv_sub hl [0, 1, 2, 3] rfl)
set_option maxHeartbeats 4000000 in
set_option maxRecDepth 100000 in
/-- BlakeShortDeskModel.compresses(state, o, t, z) -/
theorem met_X3_cmp (l : Launch) (G : wd_G) (am aT aM aO : Nat) (aS : Nat) (sz0 by0 t f : Int32) (fed o z : Nat) (ms mf h : Nat → Int32) (hfed : fed ≤ 16384) (ho : o ≤ 16384) (hz : (z = 0 ∧ f = nI 0) ∨ (z = 1 ∧ f = -1)) (hm : ∀ j, j < fed → ms j = mf j &&& nI 255) (sz : Nat) : Met l yX3_compresses (ws_ yX3_compresses cX3_compresses 12 none) ({ frames := 2, cells := 2, slots := 32, locals := 44 }) (va_Pc [.ref am, .ref aS, .int (nI o), .int t, .int (nI z)] (wd_Pre G [cl_O am 2 (md_fs aT aM aO sz0 (nI fed) by0), cl_I G aM 16384 ms, cl_I G aS 8 h] sz)) (wd_Qv G (fun u : Nat → Int32 => u = cmpF h (wrdF (padF mf fed o) 0) t f) (fun u => [cl_O am 2 (md_fs aT aM aO sz0 (nI fed) by0), cl_I G aM 16384 ms, cl_I G aS 8 u]) (va_A [cl_O am 2 (md_fs aT aM aO sz0 (nI fed) by0), cl_I G aM 16384 ms, cl_I G aS 8 h] sz)) 2 32 (va_A [cl_O am 2 (md_fs aT aM aO sz0 (nI fed) by0), cl_I G aM 16384 ms, cl_I G aS 8 h] sz) := by
  refine wd_ofW (Qc := fun A => wd_Qv G (fun u : Nat → Int32 => u = cmpF h (wrdF (padF mf fed o) 0) t f) (fun u => [cl_O am 2 (md_fs aT aM aO sz0 (nI fed) by0), cl_I G aM 16384 ms, cl_I G aS 8 u]) A) (by decide) (Nat.le_of_ble_eq_true rfl) ?_
  intro p e s m below meth c A ls hx hb hr hml hown hlk hnm hts hK hZ hP hD hS hA hl
  replace hown : s.vm.findClass RX3 = some m.cls := hown
  replace hl : lv_has ls 12 [(0, .ref am), (1, .ref aS), (2, .int (nI o)), (3, .int t), (4, .int (nI z))] := hl
  obtain ⟨⟨tIV, zIV, hIV⟩, ⟨tSG, rSG, zSG, hSG, hSGr⟩, ⟨tFI, zFI, hFI⟩, ⟨tOR, rOR, zOR, hOR, hORr⟩, ⟨tWO, rWO, zWO, hWO, hWOr⟩, ⟨tSZ, zSZ, hSZ⟩, ⟨tAN, zAN⟩, hFw1, hFw2, hFw3, hFw4⟩ := id hZ
  obtain ⟨mw, emw⟩ : ∃ q, q = wrdF (padF mf fed o) 0 := ⟨_, rfl⟩
  rw [← emw]
  refine lv_bipush (v := nI 16) hx hb dX3_compresses_0 (by decide) ?_
  refine wd_newI hx hb (hts _ q119) hK hP hD hS hA (by decide) (Nat.le_of_ble_eq_true rfl) (Nat.le_of_ble_eq_true rfl) dX3_compresses_2 ?_
  clear hP hD hS; intro q_137 H hP hD hS
  replace hP : va_P G.1 vwCl [cl_O am 2 (md_fs aT aM aO sz0 (nI fed) by0), cl_I G aM 16384 ms, cl_I G aS 8 h, cl_I G q_137 16 (fun _ => 0)] H := hP
  replace hD : va_D A [cl_O am 2 (md_fs aT aM aO sz0 (nI fed) by0), cl_I G aM 16384 ms, cl_I G aS 8 h, cl_I G q_137 16 (fun _ => 0)] := hD
  refine lv_astore (lv' := [(5, .ref q_137), (0, .ref am), (1, .ref aS), (2, .int (nI o)), (3, .int t), (4, .int (nI z))]) hx hb dX3_compresses_4 hl (by decide) rfl ?_
  clear hl; intro ls hl
  refine lv_bipush (v := nI 16) hx hb dX3_compresses_6 (by decide) ?_
  refine wd_newI hx hb (hts _ q119) hK hP hD hS hA (by decide) (Nat.le_of_ble_eq_true rfl) (Nat.le_of_ble_eq_true rfl) dX3_compresses_8 ?_
  clear hP hD hS; intro q_138 H hP hD hS
  replace hP : va_P G.1 vwCl [cl_O am 2 (md_fs aT aM aO sz0 (nI fed) by0), cl_I G aM 16384 ms, cl_I G aS 8 h, cl_I G q_137 16 (fun _ => 0), cl_I G q_138 16 (fun _ => 0)] H := hP
  replace hD : va_D A [cl_O am 2 (md_fs aT aM aO sz0 (nI fed) by0), cl_I G aM 16384 ms, cl_I G aS 8 h, cl_I G q_137 16 (fun _ => 0), cl_I G q_138 16 (fun _ => 0)] := hD
  refine lv_astore (lv' := [(6, .ref q_138), (5, .ref q_137), (0, .ref am), (1, .ref aS), (2, .int (nI o)), (3, .int t), (4, .int (nI z))]) hx hb dX3_compresses_10 hl (by decide) rfl ?_
  clear hl; intro ls hl
  refine lv_iconst (v := nI 0) hx hb dX3_compresses_12 (by decide) ?_
  refine lv_istore (lv' := [(7, .int (nI 0)), (6, .ref q_138), (5, .ref q_137), (0, .ref am), (1, .ref aS), (2, .int (nI o)), (3, .int t), (4, .int (nI z))]) hx hb dX3_compresses_13 hl (by decide) rfl ?_
  clear hl; intro ls hl
  have loop4 : ∀ (n9 i : Nat), i + n9 = 8 → ∀ (V g : Nat → Int32), V = allN mw 10 (v0F h t f) → (∀ j, j < i → g j = h j ^^^ (V j ^^^ V (j + 8))) → (∀ j, i ≤ j → g j = h j) → ∀ (H : Heap) (locs : List Loc), va_P G.1 vwCl [cl_O am 2 (md_fs aT aM aO sz0 (nI fed) by0), cl_I G aM 16384 ms, cl_I G aS 8 g, cl_I G q_137 16 mw, cl_I G q_138 16 V] H → va_D A [cl_O am 2 (md_fs aT aM aO sz0 (nI fed) by0), cl_I G aM 16384 ms, cl_I G aS 8 g, cl_I G q_137 16 mw, cl_I G q_138 16 V] → va_S A s.heap H locs → ∀ (ls : Array Slot), lv_has ls 12 [(7, .int (nI i)), (6, .ref q_138), (5, .ref q_137), (0, .ref am), (1, .ref aS), (2, .int (nI o)), (3, .int t), (4, .int (nI z))] → W p l e ({ frames := 2, cells := 2, slots := 32, locals := 44 }) s m ([.ref am, .ref aS, .int (nI o), .int t, .int (nI z)] : List Value).toArray below meth c H locs 2 32 (MQ below (wd_Qv G (fun u : Nat → Int32 => u = cmpF h mw t f) (fun u => [cl_O am 2 (md_fs aT aM aO sz0 (nI fed) by0), cl_I G aM 16384 ms, cl_I G aS 8 u]) A) ([.ref am, .ref aS, .int (nI o), .int t, .int (nI z)] : List Value).toArray s 2 32 A) (F0 m 183 ls []) := by
    clear hP hD hS hl
    intro n9
    induction n9 with
    | zero =>
      intro i hi V g hV hg hk H locs hP hD hS ls hl
      refine lv_iload hx hb dX3_compresses_183 (lv_at hl 0 rfl) ?_
      refine lv_bipush (v := nI 8) hx hb dX3_compresses_185 (by decide) ?_
      refine wd_ge (tgt := 217) hx hb dX3_compresses_187 (by decide) (by omega) (by omega) (fun c_1 => ?_) (fun c_1 => absurd c_1 (by omega))
      obtain ⟨hP, hD⟩ := wd_lab (q0 := 2) hP hD rfl (cmpF h mw t f) (fun j hj => by rw [hg j (by omega)]; unfold cmpF; rw [if_pos hj, hV])
      replace hP : va_P G.1 vwCl [cl_O am 2 (md_fs aT aM aO sz0 (nI fed) by0), cl_I G aM 16384 ms, cl_I G aS 8 ((cmpF h mw t f))] H := wd_psub hP [0, 1, 2] rfl
      replace hD : va_D A [cl_O am 2 (md_fs aT aM aO sz0 (nI fed) by0), cl_I G aM 16384 ms, cl_I G aS 8 ((cmpF h mw t f))] := hD.sub [0, 1, 2] (by decide) rfl
      exact wd_vret hx hb hr hlk (cmpF h mw t f) rfl hP hD hS dX3_compresses_217
    | succ n9 ih =>
      intro i hi V g hV hg hk H locs hP hD hS ls hl
      refine lv_iload hx hb dX3_compresses_183 (lv_at hl 0 rfl) ?_
      refine lv_bipush (v := nI 8) hx hb dX3_compresses_185 (by decide) ?_
      refine wd_ge (tgt := 217) hx hb dX3_compresses_187 (by decide) (by omega) (by omega) (fun c_1 => absurd c_1 (by omega)) (fun c_1 => ?_)
      refine lv_aload_n hx hb dX3_compresses_190 rfl (lv_at hl 4 rfl) ?_
      refine lv_iload hx hb dX3_compresses_191 (lv_at hl 0 rfl) ?_
      refine lv_dup2_11 hx hb dX3_compresses_193 rfl rfl ?_
      refine wd_ild hx hb hK hP 2 rfl i (by omega) (by omega) dX3_compresses_194 ?_
      refine lv_aload hx hb dX3_compresses_195 (lv_at hl 1 rfl) ?_
      refine lv_iload hx hb dX3_compresses_197 (lv_at hl 0 rfl) ?_
      refine wd_ild hx hb hK hP 4 rfl i (by omega) (by omega) dX3_compresses_199 ?_
      refine lv_aload hx hb dX3_compresses_200 (lv_at hl 1 rfl) ?_
      refine lv_iload hx hb dX3_compresses_202 (lv_at hl 0 rfl) ?_
      refine lv_bipush (v := nI 8) hx hb dX3_compresses_204 (by decide) ?_
      refine wd_iaddN (x := i) (y := 8) hx hb dX3_compresses_206 ?_
      refine wd_ild hx hb hK hP 4 rfl (i + 8) (by omega) (by omega) dX3_compresses_207 ?_
      refine lv_ixor hx hb dX3_compresses_208 ?_
      refine lv_ixor hx hb dX3_compresses_209 ?_
      refine wd_ist hx hb hK hP hD hS 2 rfl i (by omega) (by omega) dX3_compresses_210 ?_
      clear hP hD hS; intro f_139 ef_139 H locs hP hD hS
      replace hP : va_P G.1 vwCl [cl_O am 2 (md_fs aT aM aO sz0 (nI fed) by0), cl_I G aM 16384 ms, cl_I G aS 8 f_139, cl_I G q_137 16 mw, cl_I G q_138 16 V] H := hP
      replace hD : va_D A [cl_O am 2 (md_fs aT aM aO sz0 (nI fed) by0), cl_I G aM 16384 ms, cl_I G aS 8 f_139, cl_I G q_137 16 mw, cl_I G q_138 16 V] := hD
      refine lv_iinc (v := nI (i + 1)) (lv' := [(7, .int (nI (i + 1))), (6, .ref q_138), (5, .ref q_137), (0, .ref am), (1, .ref aS), (2, .int (nI o)), (3, .int t), (4, .int (nI z))]) hx hb dX3_compresses_211 hl (k := 0) rfl (wd_inc _ 1) (by decide) rfl ?_
      clear hl; intro ls hl
      refine lv_goto (tgt := 183) hx hb dX3_compresses_214 (by decide) ?_
      exact ih (i + 1) (by omega) V f_139 hV (fun j hj => by rw [ef_139]; exact up_lt hg (by rw [hk i (Nat.le_refl i)]) j hj) (fun j hj => by rw [ef_139, pk_un (by omega)]; exact hk j (by omega)) _ _ hP hD hS ls (lv_sub hl [0, 1, 2, 3, 4, 5, 6, 7] rfl)
  have loop2 : ∀ (n9 i : Nat), i + n9 = 10 → ∀ (V : Nat → Int32), V = allN mw i (v0F h t f) → ∀ (H : Heap) (locs : List Loc), va_P G.1 vwCl [cl_O am 2 (md_fs aT aM aO sz0 (nI fed) by0), cl_I G aM 16384 ms, cl_I G aS 8 h, cl_I G q_137 16 mw, cl_I G q_138 16 V] H → va_D A [cl_O am 2 (md_fs aT aM aO sz0 (nI fed) by0), cl_I G aM 16384 ms, cl_I G aS 8 h, cl_I G q_137 16 mw, cl_I G q_138 16 V] → va_S A s.heap H locs → ∀ (ls : Array Slot), lv_has ls 12 [(9, .int (nI i)), (8, .int (nI 10)), (7, .ref tOR), (6, .ref q_138), (5, .ref q_137), (0, .ref am), (1, .ref aS), (2, .int (nI o)), (3, .int t), (4, .int (nI z))] → W p l e ({ frames := 2, cells := 2, slots := 32, locals := 44 }) s m ([.ref am, .ref aS, .int (nI o), .int t, .int (nI z)] : List Value).toArray below meth c H locs 2 32 (MQ below (wd_Qv G (fun u : Nat → Int32 => u = cmpF h mw t f) (fun u => [cl_O am 2 (md_fs aT aM aO sz0 (nI fed) by0), cl_I G aM 16384 ms, cl_I G aS 8 u]) A) ([.ref am, .ref aS, .int (nI o), .int t, .int (nI z)] : List Value).toArray s 2 32 A) (F0 m 111 ls []) := by
    clear hP hD hS hl
    intro n9
    induction n9 with
    | zero =>
      intro i hi V hV H locs hP hD hS ls hl
      refine lv_iload hx hb dX3_compresses_111 (lv_at hl 0 rfl) ?_
      refine lv_iload hx hb dX3_compresses_113 (lv_at hl 1 rfl) ?_
      refine wd_ge (tgt := 180) hx hb dX3_compresses_115 (by decide) (by omega) (by omega) (fun c_1 => ?_) (fun c_1 => absurd c_1 (by omega))
      refine lv_iconst (v := nI 0) hx hb dX3_compresses_180 (by decide) ?_
      refine lv_istore (lv' := [(7, .int (nI 0)), (9, .int (nI i)), (8, .int (nI 10)), (6, .ref q_138), (5, .ref q_137), (0, .ref am), (1, .ref aS), (2, .int (nI o)), (3, .int t), (4, .int (nI z))]) hx hb dX3_compresses_181 hl (by decide) rfl ?_
      clear hl; intro ls hl
      exact loop4 8 0 (by omega) V h (by rw [hV, show i = 10 by omega]) (fun j hj => absurd hj (Nat.not_lt_zero j)) (fun j hj => rfl) _ _ hP hD hS ls (lv_sub hl [0, 3, 4, 5, 6, 7, 8, 9] rfl)
    | succ n9 ih =>
      intro i hi V hV H locs hP hD hS ls hl
      refine lv_iload hx hb dX3_compresses_111 (lv_at hl 0 rfl) ?_
      refine lv_iload hx hb dX3_compresses_113 (lv_at hl 1 rfl) ?_
      refine wd_ge (tgt := 180) hx hb dX3_compresses_115 (by decide) (by omega) (by omega) (fun c_1 => absurd c_1 (by omega)) (fun c_1 => ?_)
      refine lv_aload hx hb dX3_compresses_118 (lv_at hl 2 rfl) ?_
      refine lv_iload hx hb dX3_compresses_120 (lv_at hl 0 rfl) ?_
      refine wd_tq hx hb hOR hS i (by omega) (by decide) dX3_compresses_122 ?_
      refine lv_astore (lv' := [(10, .ref (rOR i)), (9, .int (nI i)), (8, .int (nI 10)), (7, .ref tOR), (6, .ref q_138), (5, .ref q_137), (0, .ref am), (1, .ref aS), (2, .int (nI o)), (3, .int t), (4, .int (nI z))]) hx hb dX3_compresses_123 hl (by decide) rfl ?_
      clear hl; intro ls hl
      refine lv_iconst (v := nI 0) hx hb dX3_compresses_125 (by decide) ?_
      refine lv_istore (lv' := [(11, .int (nI 0)), (10, .ref (rOR i)), (9, .int (nI i)), (8, .int (nI 10)), (7, .ref tOR), (6, .ref q_138), (5, .ref q_137), (0, .ref am), (1, .ref aS), (2, .int (nI o)), (3, .int t), (4, .int (nI z))]) hx hb dX3_compresses_126 hl (by decide) rfl ?_
      clear hl; intro ls hl
      have inner : ∀ (n8 j9 : Nat), j9 + n8 = 8 → ∀ (V9 : Nat → Int32), V9 = rndN mw i j9 V → ∀ (H : Heap) (locs : List Loc), va_P G.1 vwCl [cl_O am 2 (md_fs aT aM aO sz0 (nI fed) by0), cl_I G aM 16384 ms, cl_I G aS 8 h, cl_I G q_137 16 mw, cl_I G q_138 16 V9] H → va_D A [cl_O am 2 (md_fs aT aM aO sz0 (nI fed) by0), cl_I G aM 16384 ms, cl_I G aS 8 h, cl_I G q_137 16 mw, cl_I G q_138 16 V9] → va_S A s.heap H locs → ∀ (ls : Array Slot), lv_has ls 12 [(11, .int (nI j9)), (10, .ref (rOR i)), (9, .int (nI i)), (8, .int (nI 10)), (7, .ref tOR), (6, .ref q_138), (5, .ref q_137), (0, .ref am), (1, .ref aS), (2, .int (nI o)), (3, .int t), (4, .int (nI z))] → W p l e ({ frames := 2, cells := 2, slots := 32, locals := 44 }) s m ([.ref am, .ref aS, .int (nI o), .int t, .int (nI z)] : List Value).toArray below meth c H locs 2 32 (MQ below (wd_Qv G (fun u : Nat → Int32 => u = cmpF h mw t f) (fun u => [cl_O am 2 (md_fs aT aM aO sz0 (nI fed) by0), cl_I G aM 16384 ms, cl_I G aS 8 u]) A) ([.ref am, .ref aS, .int (nI o), .int t, .int (nI z)] : List Value).toArray s 2 32 A) (F0 m 128 ls []) := by
        clear hP hD hS hl
        intro n8
        induction n8 with
        | zero =>
          intro j9 hj V9 hV9 H locs hP hD hS ls hl
          refine lv_iload hx hb dX3_compresses_128 (lv_at hl 0 rfl) ?_
          refine lv_bipush (v := nI 8) hx hb dX3_compresses_130 (by decide) ?_
          refine wd_ge (tgt := 174) hx hb dX3_compresses_132 (by decide) (by omega) (by omega) (fun c_2 => ?_) (fun c_2 => absurd c_2 (by omega))
          refine lv_iinc (v := nI (i + 1)) (lv' := [(9, .int (nI (i + 1))), (11, .int (nI j9)), (10, .ref (rOR i)), (8, .int (nI 10)), (7, .ref tOR), (6, .ref q_138), (5, .ref q_137), (0, .ref am), (1, .ref aS), (2, .int (nI o)), (3, .int t), (4, .int (nI z))]) hx hb dX3_compresses_174 hl (k := 2) rfl (wd_inc _ 1) (by decide) rfl ?_
          clear hl; intro ls hl
          refine lv_goto (tgt := 111) hx hb dX3_compresses_177 (by decide) ?_
          exact ih (i + 1) (by omega) V9 (by rw [hV9, hV, show j9 = 8 by omega]; rfl) _ _ hP hD hS ls (lv_sub hl [0, 3, 4, 5, 6, 7, 8, 9, 10, 11] rfl)
        | succ n8 ih8 =>
          intro j9 hj V9 hV9 H locs hP hD hS ls hl
          refine lv_iload hx hb dX3_compresses_128 (lv_at hl 0 rfl) ?_
          refine lv_bipush (v := nI 8) hx hb dX3_compresses_130 (by decide) ?_
          refine wd_ge (tgt := 174) hx hb dX3_compresses_132 (by decide) (by omega) (by omega) (fun c_2 => absurd c_2 (by omega)) (fun c_2 => ?_)
          have s1 := sgF_lt i (by omega) (2 * j9) (by omega)
          have s2 := sgF_lt i (by omega) (2 * j9 + 1) (by omega)
          refine lv_aload hx hb dX3_compresses_135 (lv_at hl 5 rfl) ?_
          refine va_gets hx hb zWO hS hown (hts _ q456) (fun _ h9 => h9) dX3_compresses_137 ?_
          refine lv_iload hx hb dX3_compresses_140 (lv_at hl 0 rfl) ?_
          refine wd_tq hx hb hWO hS j9 (by omega) (by decide) dX3_compresses_142 ?_
          refine lv_aload hx hb dX3_compresses_143 (lv_at hl 6 rfl) ?_
          refine lv_aload hx hb dX3_compresses_145 (lv_at hl 1 rfl) ?_
          refine lv_iconst (v := nI 2) hx hb dX3_compresses_147 (by decide) ?_
          refine lv_iload hx hb dX3_compresses_148 (lv_at hl 0 rfl) ?_
          refine wd_imulN (x := 2) (y := j9) hx hb dX3_compresses_150 ?_
          refine wd_ti hx hb (hORr i (by omega)) hS (2 * j9) (by omega) (by decide) dX3_compresses_151 ?_
          refine wd_ild hx hb hK hP 3 rfl (sgF i (2 * j9)) (by omega) (by omega) dX3_compresses_152 ?_
          refine lv_aload hx hb dX3_compresses_153 (lv_at hl 6 rfl) ?_
          refine lv_aload hx hb dX3_compresses_155 (lv_at hl 1 rfl) ?_
          refine lv_iconst (v := nI 2) hx hb dX3_compresses_157 (by decide) ?_
          refine lv_iload hx hb dX3_compresses_158 (lv_at hl 0 rfl) ?_
          refine wd_imulN (x := 2) (y := j9) hx hb dX3_compresses_160 ?_
          refine lv_iconst (v := nI 1) hx hb dX3_compresses_161 (by decide) ?_
          refine wd_iaddN (x := 2 * j9) (y := 1) hx hb dX3_compresses_162 ?_
          refine wd_ti hx hb (hORr i (by omega)) hS (2 * j9 + 1) (by omega) (by decide) dX3_compresses_163 ?_
          refine wd_ild hx hb hK hP 3 rfl (sgF i (2 * j9 + 1)) (by omega) (by omega) dX3_compresses_164 ?_
          refine wd_callv (wr := [cl_O am 2 (md_fs aT aM aO sz0 (nI fed) by0), cl_I G aM 16384 ms, cl_I G aS 8 h, cl_I G q_137 16 mw]) (va_runS (As := [.ref q_138, .ref (rWO j9), .int (mw (sgF i (2 * j9))), .int (mw (sgF i (2 * j9 + 1)))]) (rest := []) ⟨hx, hb, hml, hown, hts⟩ (met_X3_mixes l G q_138 (rWO j9) (mw (sgF i (2 * j9))) (mw (sgF i (2 * j9 + 1))) V9 (wdF j9) (wdF_lt j9 (by omega)) H.size) (va_cwS 4 hts (lw_S q458 q459 q25 q460) rfl rfl rfl (by decide +kernel) ⟨Nat.le_of_ble_eq_true rfl, Nat.le_of_ble_eq_true rfl⟩) (wd_preST hK hZ hP hD hS hA [4] (by decide) rfl (hWOr j9 (by omega))) rfl rfl hl.1 rfl (lv_room (Nat.le_of_ble_eq_true rfl)) dX3_compresses_165 ⟨Nat.le_of_ble_eq_true rfl, Nat.le_of_ble_eq_true rfl⟩) hP hD hS hA [4] [0, 1, 2, 3] rfl rfl (by decide) (by decide) ?_
          intro u_140 hu_140
          clear hP hD hS; intro H locs hP hD hS
          replace hP : va_P G.1 vwCl [cl_O am 2 (md_fs aT aM aO sz0 (nI fed) by0), cl_I G aM 16384 ms, cl_I G aS 8 h, cl_I G q_137 16 mw, cl_I G q_138 16 u_140] H := hP
          replace hD : va_D A [cl_O am 2 (md_fs aT aM aO sz0 (nI fed) by0), cl_I G aM 16384 ms, cl_I G aS 8 h, cl_I G q_137 16 mw, cl_I G q_138 16 u_140] := hD
          refine lv_iinc (v := nI (j9 + 1)) (lv' := [(11, .int (nI (j9 + 1))), (10, .ref (rOR i)), (9, .int (nI i)), (8, .int (nI 10)), (7, .ref tOR), (6, .ref q_138), (5, .ref q_137), (0, .ref am), (1, .ref aS), (2, .int (nI o)), (3, .int t), (4, .int (nI z))]) hx hb dX3_compresses_168 hl (k := 0) rfl (wd_inc _ 1) (by decide) rfl ?_
          clear hl; intro ls hl
          refine lv_goto (tgt := 128) hx hb dX3_compresses_171 (by decide) ?_
          exact ih8 (j9 + 1) (by omega) u_140 (by rw [hu_140, hV9]; rfl) _ _ hP hD hS ls (lv_sub hl [0, 1, 2, 3, 4, 5, 6, 7, 8, 9, 10, 11] rfl)
      exact inner 8 0 (by omega) V rfl _ _ hP hD hS ls (lv_sub hl [0, 1, 2, 3, 4, 5, 6, 7, 8, 9, 10, 11] rfl)
  have loop1 : ∀ (n9 i : Nat), i + n9 = 16 → ∀ (g1 g2 : Nat → Int32), (∀ j, j < i → g1 j = mw j) → (∀ j, j < i → g2 j = mvF h j) → ∀ (H : Heap) (locs : List Loc), va_P G.1 vwCl [cl_O am 2 (md_fs aT aM aO sz0 (nI fed) by0), cl_I G aM 16384 ms, cl_I G aS 8 h, cl_I G q_137 16 g1, cl_I G q_138 16 g2] H → va_D A [cl_O am 2 (md_fs aT aM aO sz0 (nI fed) by0), cl_I G aM 16384 ms, cl_I G aS 8 h, cl_I G q_137 16 g1, cl_I G q_138 16 g2] → va_S A s.heap H locs → ∀ (ls : Array Slot), lv_has ls 12 [(7, .int (nI i)), (6, .ref q_138), (5, .ref q_137), (0, .ref am), (1, .ref aS), (2, .int (nI o)), (3, .int t), (4, .int (nI z))] → W p l e ({ frames := 2, cells := 2, slots := 32, locals := 44 }) s m ([.ref am, .ref aS, .int (nI o), .int t, .int (nI z)] : List Value).toArray below meth c H locs 2 32 (MQ below (wd_Qv G (fun u : Nat → Int32 => u = cmpF h mw t f) (fun u => [cl_O am 2 (md_fs aT aM aO sz0 (nI fed) by0), cl_I G aM 16384 ms, cl_I G aS 8 u]) A) ([.ref am, .ref aS, .int (nI o), .int t, .int (nI z)] : List Value).toArray s 2 32 A) (F0 m 15 ls []) := by
    clear hP hD hS hl
    intro n9
    induction n9 with
    | zero =>
      intro i hi g1 g2 hg1 hg2 H locs hP hD hS ls hl
      refine lv_iload hx hb dX3_compresses_15 (lv_at hl 0 rfl) ?_
      refine lv_bipush (v := nI 16) hx hb dX3_compresses_17 (by decide) ?_
      refine wd_ge (tgt := 71) hx hb dX3_compresses_19 (by decide) (by omega) (by omega) (fun c_1 => ?_) (fun c_1 => absurd c_1 (by omega))
      have i16 : i = 16 := by omega
      subst i16
      obtain ⟨hP, hD⟩ := wd_lab (q0 := 3) hP hD rfl mw (fun j hj => by rw [hg1 j hj])
      replace hP : va_P G.1 vwCl [cl_O am 2 (md_fs aT aM aO sz0 (nI fed) by0), cl_I G aM 16384 ms, cl_I G aS 8 h, cl_I G q_137 16 mw, cl_I G q_138 16 g2] H := hP
      replace hD : va_D A [cl_O am 2 (md_fs aT aM aO sz0 (nI fed) by0), cl_I G aM 16384 ms, cl_I G aS 8 h, cl_I G q_137 16 mw, cl_I G q_138 16 g2] := hD
      refine lv_aload hx hb dX3_compresses_71 (lv_at hl 1 rfl) ?_
      refine lv_bipush (v := nI 12) hx hb dX3_compresses_73 (by decide) ?_
      refine lv_dup2_11 hx hb dX3_compresses_75 rfl rfl ?_
      refine wd_ild hx hb hK hP 4 rfl 12 (by omega) (by omega) dX3_compresses_76 ?_
      refine lv_iload_n hx hb dX3_compresses_77 rfl (lv_at hl 6 rfl) ?_
      refine lv_ixor hx hb dX3_compresses_78 ?_
      refine wd_ist hx hb hK hP hD hS 4 rfl 12 (by omega) (by omega) dX3_compresses_79 ?_
      clear hP hD hS; intro f_141 ef_141 H locs hP hD hS
      replace hP : va_P G.1 vwCl [cl_O am 2 (md_fs aT aM aO sz0 (nI fed) by0), cl_I G aM 16384 ms, cl_I G aS 8 h, cl_I G q_137 16 mw, cl_I G q_138 16 f_141] H := hP
      replace hD : va_D A [cl_O am 2 (md_fs aT aM aO sz0 (nI fed) by0), cl_I G aM 16384 ms, cl_I G aS 8 h, cl_I G q_137 16 mw, cl_I G q_138 16 f_141] := hD
      refine lv_aload hx hb dX3_compresses_80 (lv_at hl 1 rfl) ?_
      refine lv_bipush (v := nI 14) hx hb dX3_compresses_82 (by decide) ?_
      refine lv_dup2_11 hx hb dX3_compresses_84 rfl rfl ?_
      refine wd_ild hx hb hK hP 4 rfl 14 (by omega) (by omega) dX3_compresses_85 ?_
      refine lv_iload hx hb dX3_compresses_86 (lv_at hl 7 rfl) ?_
      have tail : W p l e ({ frames := 2, cells := 2, slots := 32, locals := 44 }) s m ([.ref am, .ref aS, .int (nI o), .int t, .int (nI z)] : List Value).toArray below meth c H locs 2 32 (MQ below (wd_Qv G (fun u : Nat → Int32 => u = cmpF h mw t f) (fun u => [cl_O am 2 (md_fs aT aM aO sz0 (nI fed) by0), cl_I G aM 16384 ms, cl_I G aS 8 u]) A) ([.ref am, .ref aS, .int (nI o), .int t, .int (nI z)] : List Value).toArray s 2 32 A) (F0 m 96 ls [.int f, .int (f_141 14), .int (nI 14), .ref q_138]) := by
        refine lv_ixor hx hb dX3_compresses_96 ?_
        refine wd_ist hx hb hK hP hD hS 4 rfl 14 (by omega) (by omega) dX3_compresses_97 ?_
        clear hP hD hS; intro f_142 ef_142 H locs hP hD hS
        replace hP : va_P G.1 vwCl [cl_O am 2 (md_fs aT aM aO sz0 (nI fed) by0), cl_I G aM 16384 ms, cl_I G aS 8 h, cl_I G q_137 16 mw, cl_I G q_138 16 f_142] H := hP
        replace hD : va_D A [cl_O am 2 (md_fs aT aM aO sz0 (nI fed) by0), cl_I G aM 16384 ms, cl_I G aS 8 h, cl_I G q_137 16 mw, cl_I G q_138 16 f_142] := hD
        obtain ⟨hP, hD⟩ := wd_lab (q0 := 4) hP hD rfl (v0F h t f) (fun j hj => by rw [ef_142, ef_141]; exact mv_eq hg2 j hj)
        replace hP : va_P G.1 vwCl [cl_O am 2 (md_fs aT aM aO sz0 (nI fed) by0), cl_I G aM 16384 ms, cl_I G aS 8 h, cl_I G q_137 16 mw, cl_I G q_138 16 ((v0F h t f))] H := hP
        replace hD : va_D A [cl_O am 2 (md_fs aT aM aO sz0 (nI fed) by0), cl_I G aM 16384 ms, cl_I G aS 8 h, cl_I G q_137 16 mw, cl_I G q_138 16 ((v0F h t f))] := hD
        refine va_gets hx hb zOR hS hown (hts _ q454) (fun _ h9 => h9) dX3_compresses_98 ?_
        refine lv_astore (lv' := [(7, .ref tOR), (6, .ref q_138), (5, .ref q_137), (0, .ref am), (1, .ref aS), (2, .int (nI o)), (3, .int t), (4, .int (nI z))]) hx hb dX3_compresses_101 hl (by decide) rfl ?_
        clear hl; intro ls hl
        refine lv_aload hx hb dX3_compresses_103 (lv_at hl 0 rfl) ?_
        refine va_tlen (v := nI 10) hx hb hOR hS rfl dX3_compresses_105 ?_
        refine lv_istore (lv' := [(8, .int (nI 10)), (7, .ref tOR), (6, .ref q_138), (5, .ref q_137), (0, .ref am), (1, .ref aS), (2, .int (nI o)), (3, .int t), (4, .int (nI z))]) hx hb dX3_compresses_106 hl (by decide) rfl ?_
        clear hl; intro ls hl
        refine lv_iconst (v := nI 0) hx hb dX3_compresses_108 (by decide) ?_
        refine lv_istore (lv' := [(9, .int (nI 0)), (8, .int (nI 10)), (7, .ref tOR), (6, .ref q_138), (5, .ref q_137), (0, .ref am), (1, .ref aS), (2, .int (nI o)), (3, .int t), (4, .int (nI z))]) hx hb dX3_compresses_109 hl (by decide) rfl ?_
        clear hl; intro ls hl
        exact loop2 10 0 (by omega) (v0F h t f) rfl _ _ hP hD hS ls (lv_sub hl [0, 1, 2, 3, 4, 5, 6, 7, 8, 9] rfl)
      refine wd_ifeq (tgt := 95) hx hb dX3_compresses_88 (by decide) (by omega) (fun c_2 => ?_) (fun c_2 => ?_)
      · refine lv_iconst (v := nI 0) hx hb dX3_compresses_95 (by decide) ?_
        refine lv_eqi (y := f) (by rcases hz with ⟨h1, h2⟩ | ⟨h1, h2⟩; exact h2.symm; omega) ?_
        exact tail
      · refine lv_iconst (v := (-1)) hx hb dX3_compresses_91 (by decide) ?_
        refine lv_goto (tgt := 96) hx hb dX3_compresses_92 (by decide) ?_
        refine lv_eqi (y := f) (by rcases hz with ⟨h1, h2⟩ | ⟨h1, h2⟩; omega; exact h2.symm) ?_
        exact tail
    | succ n9 ih =>
      intro i hi g1 g2 hg1 hg2 H locs hP hD hS ls hl
      refine lv_iload hx hb dX3_compresses_15 (lv_at hl 0 rfl) ?_
      refine lv_bipush (v := nI 16) hx hb dX3_compresses_17 (by decide) ?_
      refine wd_ge (tgt := 71) hx hb dX3_compresses_19 (by decide) (by omega) (by omega) (fun c_1 => absurd c_1 (by omega)) (fun c_1 => ?_)
      refine lv_aload hx hb dX3_compresses_22 (lv_at hl 2 rfl) ?_
      refine lv_iload hx hb dX3_compresses_24 (lv_at hl 0 rfl) ?_
      refine lv_aload_n hx hb dX3_compresses_26 rfl (lv_at hl 3 rfl) ?_
      refine lv_iload_n hx hb dX3_compresses_27 rfl (lv_at hl 5 rfl) ?_
      refine lv_iconst (v := nI 4) hx hb dX3_compresses_28 (by decide) ?_
      refine lv_iload hx hb dX3_compresses_29 (lv_at hl 0 rfl) ?_
      refine wd_imulN (x := 4) (y := i) hx hb dX3_compresses_31 ?_
      refine wd_iaddN (x := o) (y := 4 * i) hx hb dX3_compresses_32 ?_
      refine vp_callSi (va_Run.run (va_runV (As := [.int (nI (o + (4 * i)))]) (rest := [.int (nI i), .ref q_137]) ⟨hx, hb, hml, hown, hts⟩ (met_X3_wordAt l G am aT aM aO sz0 by0 fed (o + (4 * i)) ms hfed (by omega)) (cwV 1 hts (lw_V q450 q452 qs13 q25 q453) rfl rfl rfl (by decide +kernel) ⟨Nat.le_of_ble_eq_true rfl, Nat.le_of_ble_eq_true rfl⟩) (wd_preVR hK hP [0, 1] rfl 0 2 rfl rfl) rfl rfl hl.1 rfl (lv_room (Nat.le_of_ble_eq_true rfl)) dX3_compresses_33 ⟨Nat.le_of_ble_eq_true rfl, Nat.le_of_ble_eq_true rfl⟩)) ?_
      intro r_143 er_143
      refine wd_ist hx hb hK hP hD hS 3 rfl i (by omega) (by omega) dX3_compresses_36 ?_
      clear hP hD hS; intro f_144 ef_144 H locs hP hD hS
      replace hP : va_P G.1 vwCl [cl_O am 2 (md_fs aT aM aO sz0 (nI fed) by0), cl_I G aM 16384 ms, cl_I G aS 8 h, cl_I G q_137 16 f_144, cl_I G q_138 16 g2] H := hP
      replace hD : va_D A [cl_O am 2 (md_fs aT aM aO sz0 (nI fed) by0), cl_I G aM 16384 ms, cl_I G aS 8 h, cl_I G q_137 16 f_144, cl_I G q_138 16 g2] := hD
      refine lv_aload hx hb dX3_compresses_37 (lv_at hl 1 rfl) ?_
      refine lv_iload hx hb dX3_compresses_39 (lv_at hl 0 rfl) ?_
      refine lv_iload hx hb dX3_compresses_41 (lv_at hl 0 rfl) ?_
      refine lv_bipush (v := nI 8) hx hb dX3_compresses_43 (by decide) ?_
      have tail : W p l e ({ frames := 2, cells := 2, slots := 32, locals := 44 }) s m ([.ref am, .ref aS, .int (nI o), .int t, .int (nI z)] : List Value).toArray below meth c H locs 2 32 (MQ below (wd_Qv G (fun u : Nat → Int32 => u = cmpF h mw t f) (fun u => [cl_O am 2 (md_fs aT aM aO sz0 (nI fed) by0), cl_I G aM 16384 ms, cl_I G aS 8 u]) A) ([.ref am, .ref aS, .int (nI o), .int t, .int (nI z)] : List Value).toArray s 2 32 A) (F0 m 64 ls [.int ((mvF h i)), .int (nI i), .ref q_138]) := by
        refine wd_ist hx hb hK hP hD hS 4 rfl i (by omega) (by omega) dX3_compresses_64 ?_
        clear hP hD hS; intro f_145 ef_145 H locs hP hD hS
        replace hP : va_P G.1 vwCl [cl_O am 2 (md_fs aT aM aO sz0 (nI fed) by0), cl_I G aM 16384 ms, cl_I G aS 8 h, cl_I G q_137 16 f_144, cl_I G q_138 16 f_145] H := hP
        replace hD : va_D A [cl_O am 2 (md_fs aT aM aO sz0 (nI fed) by0), cl_I G aM 16384 ms, cl_I G aS 8 h, cl_I G q_137 16 f_144, cl_I G q_138 16 f_145] := hD
        refine lv_iinc (v := nI (i + 1)) (lv' := [(7, .int (nI (i + 1))), (6, .ref q_138), (5, .ref q_137), (0, .ref am), (1, .ref aS), (2, .int (nI o)), (3, .int t), (4, .int (nI z))]) hx hb dX3_compresses_65 hl (k := 0) rfl (wd_inc _ 1) (by decide) rfl ?_
        clear hl; intro ls hl
        refine lv_goto (tgt := 15) hx hb dX3_compresses_68 (by decide) ?_
        exact ih (i + 1) (by omega) f_144 f_145 (fun j hj => by rw [ef_144]; exact up_lt hg1 (by rw [er_143, emw]; exact md_wrd hm o i (by omega)) j hj) (fun j hj => by rw [ef_145]; exact up_lt hg2 rfl j hj) _ _ hP hD hS ls (lv_sub hl [0, 1, 2, 3, 4, 5, 6, 7] rfl)
      refine wd_ge (tgt := 55) hx hb dX3_compresses_45 (by decide) (by omega) (by decide) (fun c_2 => ?_) (fun c_2 => ?_)
      · refine va_gets hx hb zFI hS hown (hts _ q443) (fun _ h9 => h9) dX3_compresses_55 ?_
        refine lv_iload hx hb dX3_compresses_58 (lv_at hl 0 rfl) ?_
        refine lv_bipush (v := nI 8) hx hb dX3_compresses_60 (by decide) ?_
        refine wd_isubN hx hb dX3_compresses_62 (by omega) ?_
        refine wd_ti hx hb hFI hS (i - 8) (by omega) (by decide) dX3_compresses_63 ?_
        refine lv_eqi (y := mvF h i) (if_neg (by omega)).symm ?_
        exact tail
      · refine lv_aload_n hx hb dX3_compresses_48 rfl (lv_at hl 4 rfl) ?_
        refine lv_iload hx hb dX3_compresses_49 (lv_at hl 0 rfl) ?_
        refine wd_ild hx hb hK hP 2 rfl i (by omega) (by omega) dX3_compresses_51 ?_
        refine lv_goto (tgt := 64) hx hb dX3_compresses_52 (by decide) ?_
        refine lv_eqi (y := mvF h i) (if_pos (by omega)).symm ?_
        exact tail
  exact loop1 16 0 (by omega) (fun _ => 0) (fun _ => 0) (fun j hj => absurd hj (Nat.not_lt_zero j)) (fun j hj => absurd hj (Nat.not_lt_zero j)) _ _ hP hD hS ls (lv_sub hl [0, 1, 2, 3, 4, 5, 6, 7] rfl)
end
section
/-! BlakeShortDeskModel: the rest -/
set_option maxHeartbeats 4000000 in
set_option maxRecDepth 100000 in
/-- BlakeShortDeskModel.word(o, w) -/
theorem met_X3_word (l : Launch) (G : wd_G) (am aT aM aO : Nat) (fd sz0 by0 w : Int32) (o : Nat) (mt : Nat → Int32) (ho : o + 4 ≤ 1024) (sz : Nat) : Met l yX3_word (ws_ yX3_word cX3_word 4 none) ({ frames := 0, cells := 0, slots := 0, locals := 0 }) (va_Pc [.ref am, .int (nI o), .int w] (wd_Pre G [cl_O am 2 (md_fs aT aM aO sz0 fd by0), cl_I G aT 1024 mt] sz)) (wd_Qv G (fun u : Nat → Int32 => u = pmF mt o w) (fun u => [cl_O am 2 (md_fs aT aM aO sz0 fd by0), cl_I G aT 1024 u]) (va_A [cl_O am 2 (md_fs aT aM aO sz0 fd by0), cl_I G aT 1024 mt] sz)) 0 0 (va_A [cl_O am 2 (md_fs aT aM aO sz0 fd by0), cl_I G aT 1024 mt] sz) := by
  refine wd_ofW (Qc := fun A => wd_Qv G (fun u : Nat → Int32 => u = pmF mt o w) (fun u => [cl_O am 2 (md_fs aT aM aO sz0 fd by0), cl_I G aT 1024 u]) A) (by decide) (Nat.le_of_ble_eq_true rfl) ?_
  intro p e s m below meth c A ls hx hb hr hml hown hlk hnm hts hK hZ hP hD hS hA hl
  replace hown : s.vm.findClass RX3 = some m.cls := hown
  replace hl : lv_has ls 4 [(0, .ref am), (1, .int (nI o)), (2, .int w)] := hl
  refine lv_iconst (v := nI 0) hx hb dX3_word_0 (by decide) ?_
  refine lv_istore_n (lv' := [(3, .int (nI 0)), (0, .ref am), (1, .int (nI o)), (2, .int w)]) hx hb dX3_word_1 rfl hl (by decide) rfl ?_
  clear hl; intro ls hl
  have loop : ∀ (n9 i : Nat), i + n9 = 4 → ∀ (g : Nat → Int32), (∀ j, g j = pmN mt o w i j) → ∀ (H : Heap) (locs : List Loc), va_P G.1 vwCl [cl_O am 2 (md_fs aT aM aO sz0 fd by0), cl_I G aT 1024 g] H → va_D A [cl_O am 2 (md_fs aT aM aO sz0 fd by0), cl_I G aT 1024 g] → va_S A s.heap H locs → ∀ (ls : Array Slot), lv_has ls 4 [(3, .int (nI i)), (0, .ref am), (1, .int (nI o)), (2, .int w)] → W p l e ({ frames := 0, cells := 0, slots := 0, locals := 0 }) s m ([.ref am, .int (nI o), .int w] : List Value).toArray below meth c H locs 0 0 (MQ below (wd_Qv G (fun u : Nat → Int32 => u = pmF mt o w) (fun u => [cl_O am 2 (md_fs aT aM aO sz0 fd by0), cl_I G aT 1024 u]) A) ([.ref am, .int (nI o), .int w] : List Value).toArray s 0 0 A) (F0 m 2 ls []) := by
    clear hP hD hS hl
    intro n9
    induction n9 with
    | zero =>
      intro i hi g hg H locs hP hD hS ls hl
      refine lv_iload_n hx hb dX3_word_2 rfl (lv_at hl 0 rfl) ?_
      refine lv_iconst (v := nI 4) hx hb dX3_word_3 (by decide) ?_
      refine wd_ge (tgt := 34) hx hb dX3_word_4 (by decide) (by omega) (by omega) (fun c_1 => ?_) (fun c_1 => absurd c_1 (by omega))
      obtain ⟨hP, hD⟩ := wd_lab (q0 := 1) hP hD rfl (pmF mt o w) (fun j hj => by rw [hg j, show i = 4 by omega]; rfl)
      exact wd_vret hx hb hr hlk (pmF mt o w) rfl hP hD hS dX3_word_34
    | succ n9 ih =>
      intro i hi g hg H locs hP hD hS ls hl
      refine lv_iload_n hx hb dX3_word_2 rfl (lv_at hl 0 rfl) ?_
      refine lv_iconst (v := nI 4) hx hb dX3_word_3 (by decide) ?_
      refine wd_ge (tgt := 34) hx hb dX3_word_4 (by decide) (by omega) (by omega) (fun c_1 => absurd c_1 (by omega)) (fun c_1 => ?_)
      refine lv_aload_n hx hb dX3_word_7 rfl (lv_at hl 1 rfl) ?_
      refine va_get (D := G.1) (ci := 2) (v := .ref aT) (C := RX3) (T := TX3) (N := 6) hx hb hts in_X3 hown hK hP 0 rfl rfl 0 (by decide) (hts _ q385) (fun _ h9 => h9) rfl dX3_word_8 ?_
      refine lv_iload_n hx hb dX3_word_11 rfl (lv_at hl 2 rfl) ?_
      refine lv_iload_n hx hb dX3_word_12 rfl (lv_at hl 0 rfl) ?_
      refine wd_iaddN (x := o) (y := i) hx hb dX3_word_13 ?_
      refine lv_iload_n hx hb dX3_word_14 rfl (lv_at hl 3 rfl) ?_
      refine lv_bipush (v := nI 24) hx hb dX3_word_15 (by decide) ?_
      refine lv_bipush (v := nI 8) hx hb dX3_word_17 (by decide) ?_
      refine lv_iload_n hx hb dX3_word_19 rfl (lv_at hl 0 rfl) ?_
      refine wd_imulN (x := 8) (y := i) hx hb dX3_word_20 ?_
      refine wd_isubN hx hb dX3_word_21 (by omega) ?_
      refine lv_ishr hx hb dX3_word_22 ?_
      refine lv_sipush (v := nI 255) hx hb dX3_word_23 (by decide) ?_
      refine lv_iand hx hb dX3_word_26 ?_
      refine wd_ist hx hb hK hP hD hS 1 rfl (o + i) (by omega) (by omega) dX3_word_27 ?_
      clear hP hD hS; intro f_146 ef_146 H locs hP hD hS
      replace hP : va_P G.1 vwCl [cl_O am 2 (md_fs aT aM aO sz0 fd by0), cl_I G aT 1024 f_146] H := hP
      replace hD : va_D A [cl_O am 2 (md_fs aT aM aO sz0 fd by0), cl_I G aT 1024 f_146] := hD
      refine lv_iinc (v := nI (i + 1)) (lv' := [(3, .int (nI (i + 1))), (0, .ref am), (1, .int (nI o)), (2, .int w)]) hx hb dX3_word_28 hl (k := 0) rfl (wd_inc _ 1) (by decide) rfl ?_
      clear hl; intro ls hl
      refine lv_goto (tgt := 2) hx hb dX3_word_31 (by decide) ?_
      exact ih (i + 1) (by omega) f_146 (fun j => by rw [ef_146]; exact pmN_up hg j) _ _ hP hD hS ls (lv_sub hl [0, 1, 2, 3] rfl)
  exact loop 4 0 (by omega) mt (fun j => (if_neg (by omega)).symm) _ _ hP hD hS ls (lv_sub hl [0, 1, 2, 3] rfl)
set_option maxHeartbeats 4000000 in
set_option maxRecDepth 100000 in
/-- BlakeShortDeskModel.put -/
theorem met_X3_put (l : Launch) (G : wd_G) (am aT aM aO : Nat) (fd by0 w1 w2 w3 w4 : Int32) (k : Nat) (mt : Nat → Int32) (hk : k ≤ 1024) (sz : Nat) : Met l yX3_put (ws_ yX3_put cX3_put 5 (some .boolean)) ({ frames := 1, cells := 0, slots := 0, locals := 23 }) (va_Pc [.ref am, .int w1, .int w2, .int w3, .int w4] (wd_Pre G [cl_O am 2 (md_fs aT aM aO (nI k) fd by0), cl_I G aT 1024 mt] sz)) (wd_Qi G (fun (r : Int32) (u : (Nat → Int32) × Nat) => if k ≤ 1008 then r = nI 1 ∧ u.1 = pm4 mt k w1 w2 w3 w4 ∧ u.2 = k + 16 else r = nI 0 ∧ u.1 = mt ∧ u.2 = k) (fun u => [cl_O am 2 (md_fs aT aM aO (nI u.2) fd by0), cl_I G aT 1024 u.1]) (va_A [cl_O am 2 (md_fs aT aM aO (nI k) fd by0), cl_I G aT 1024 mt] sz)) 0 0 (va_A [cl_O am 2 (md_fs aT aM aO (nI k) fd by0), cl_I G aT 1024 mt] sz) := by
  refine wd_ofW (Qc := fun A => wd_Qi G (fun (r : Int32) (u : (Nat → Int32) × Nat) => if k ≤ 1008 then r = nI 1 ∧ u.1 = pm4 mt k w1 w2 w3 w4 ∧ u.2 = k + 16 else r = nI 0 ∧ u.1 = mt ∧ u.2 = k) (fun u => [cl_O am 2 (md_fs aT aM aO (nI u.2) fd by0), cl_I G aT 1024 u.1]) A) (by decide) (Nat.le_of_ble_eq_true rfl) ?_
  intro p e s m below meth c A ls hx hb hr hml hown hlk hnm hts hK hZ hP hD hS hA hl
  replace hown : s.vm.findClass RX3 = some m.cls := hown
  replace hl : lv_has ls 5 [(0, .ref am), (1, .int w1), (2, .int w2), (3, .int w3), (4, .int w4)] := hl
  refine lv_aload_n hx hb dX3_put_0 rfl (lv_at hl 0 rfl) ?_
  refine va_get (D := G.1) (ci := 2) (v := .int (nI k)) (C := RX3) (T := TX3) (N := 6) hx hb hts in_X3 hown hK hP 0 rfl rfl 1 (by decide) (hts _ q386) (fun _ h9 => h9) rfl dX3_put_1 ?_
  refine lv_aload_n hx hb dX3_put_4 rfl (lv_at hl 0 rfl) ?_
  refine va_get (D := G.1) (ci := 2) (v := .ref aT) (C := RX3) (T := TX3) (N := 6) hx hb hts in_X3 hown hK hP 0 rfl rfl 0 (by decide) (hts _ q385) (fun _ h9 => h9) rfl dX3_put_5 ?_
  refine va_alen (v := nI 1024) hx hb hK hP 1 1 rfl rfl rfl dX3_put_8 ?_
  refine lv_bipush (v := nI 16) hx hb dX3_put_9 (by decide) ?_
  refine wd_isubN hx hb dX3_put_11 (by omega) ?_
  refine wd_le (tgt := 17) hx hb dX3_put_12 (by decide) (by omega) (by omega) (fun c_1 => ?_) (fun c_1 => ?_)
  · refine lv_aload_n hx hb dX3_put_17 rfl (lv_at hl 0 rfl) ?_
    refine lv_aload_n hx hb dX3_put_18 rfl (lv_at hl 0 rfl) ?_
    refine va_get (D := G.1) (ci := 2) (v := .int (nI k)) (C := RX3) (T := TX3) (N := 6) hx hb hts in_X3 hown hK hP 0 rfl rfl 1 (by decide) (hts _ q386) (fun _ h9 => h9) rfl dX3_put_19 ?_
    refine lv_iload_n hx hb dX3_put_22 rfl (lv_at hl 1 rfl) ?_
    refine wd_callv (wr := []) (va_runV (As := [.int (nI k), .int w1]) (rest := []) ⟨hx, hb, hml, hown, hts⟩ (met_X3_word l G am aT aM aO fd (nI k) by0 w1 k mt (by omega) s.heap.size) (cwV 2 hts (lw_V q408 q410 qs9 q25 q411) rfl rfl rfl (by decide +kernel) ⟨Nat.le_of_ble_eq_true rfl, Nat.le_of_ble_eq_true rfl⟩) (wd_preV hK hZ hP hD hS hA [0, 1] (by decide) rfl 0 2 rfl rfl) rfl rfl hl.1 rfl (lv_room (Nat.le_of_ble_eq_true rfl)) dX3_put_23 ⟨Nat.le_of_ble_eq_true rfl, Nat.le_of_ble_eq_true rfl⟩) hP hD hS hA [0, 1] [] rfl rfl (by decide) (by decide) ?_
    intro u_147 hu_147
    clear hP hD hS; intro H locs hP hD hS
    replace hP : va_P G.1 vwCl [cl_O am 2 (md_fs aT aM aO (nI k) fd by0), cl_I G aT 1024 u_147] H := wd_psub hP [0, 1] rfl
    replace hD : va_D A [cl_O am 2 (md_fs aT aM aO (nI k) fd by0), cl_I G aT 1024 u_147] := hD.sub [0, 1] (by decide) rfl
    refine lv_aload_n hx hb dX3_put_26 rfl (lv_at hl 0 rfl) ?_
    refine lv_aload_n hx hb dX3_put_27 rfl (lv_at hl 0 rfl) ?_
    refine va_get (D := G.1) (ci := 2) (v := .int (nI k)) (C := RX3) (T := TX3) (N := 6) hx hb hts in_X3 hown hK hP 0 rfl rfl 1 (by decide) (hts _ q386) (fun _ h9 => h9) rfl dX3_put_28 ?_
    refine lv_iconst (v := nI 4) hx hb dX3_put_31 (by decide) ?_
    refine wd_iaddN (x := k) (y := 4) hx hb dX3_put_32 ?_
    refine lv_iload_n hx hb dX3_put_33 rfl (lv_at hl 2 rfl) ?_
    refine wd_callv (wr := []) (va_runV (As := [.int (nI (k + 4)), .int w2]) (rest := []) ⟨hx, hb, hml, hown, hts⟩ (met_X3_word l G am aT aM aO fd (nI k) by0 w2 (k + 4) u_147 (by omega) H.size) (cwV 2 hts (lw_V q408 q410 qs9 q25 q411) rfl rfl rfl (by decide +kernel) ⟨Nat.le_of_ble_eq_true rfl, Nat.le_of_ble_eq_true rfl⟩) (wd_preV hK hZ hP hD hS hA [0, 1] (by decide) rfl 0 2 rfl rfl) rfl rfl hl.1 rfl (lv_room (Nat.le_of_ble_eq_true rfl)) dX3_put_34 ⟨Nat.le_of_ble_eq_true rfl, Nat.le_of_ble_eq_true rfl⟩) hP hD hS hA [0, 1] [] rfl rfl (by decide) (by decide) ?_
    intro u_148 hu_148
    clear hP hD hS; intro H locs hP hD hS
    replace hP : va_P G.1 vwCl [cl_O am 2 (md_fs aT aM aO (nI k) fd by0), cl_I G aT 1024 u_148] H := wd_psub hP [0, 1] rfl
    replace hD : va_D A [cl_O am 2 (md_fs aT aM aO (nI k) fd by0), cl_I G aT 1024 u_148] := hD.sub [0, 1] (by decide) rfl
    refine lv_aload_n hx hb dX3_put_37 rfl (lv_at hl 0 rfl) ?_
    refine lv_aload_n hx hb dX3_put_38 rfl (lv_at hl 0 rfl) ?_
    refine va_get (D := G.1) (ci := 2) (v := .int (nI k)) (C := RX3) (T := TX3) (N := 6) hx hb hts in_X3 hown hK hP 0 rfl rfl 1 (by decide) (hts _ q386) (fun _ h9 => h9) rfl dX3_put_39 ?_
    refine lv_bipush (v := nI 8) hx hb dX3_put_42 (by decide) ?_
    refine wd_iaddN (x := k) (y := 8) hx hb dX3_put_44 ?_
    refine lv_iload_n hx hb dX3_put_45 rfl (lv_at hl 3 rfl) ?_
    refine wd_callv (wr := []) (va_runV (As := [.int (nI (k + 8)), .int w3]) (rest := []) ⟨hx, hb, hml, hown, hts⟩ (met_X3_word l G am aT aM aO fd (nI k) by0 w3 (k + 8) u_148 (by omega) H.size) (cwV 2 hts (lw_V q408 q410 qs9 q25 q411) rfl rfl rfl (by decide +kernel) ⟨Nat.le_of_ble_eq_true rfl, Nat.le_of_ble_eq_true rfl⟩) (wd_preV hK hZ hP hD hS hA [0, 1] (by decide) rfl 0 2 rfl rfl) rfl rfl hl.1 rfl (lv_room (Nat.le_of_ble_eq_true rfl)) dX3_put_46 ⟨Nat.le_of_ble_eq_true rfl, Nat.le_of_ble_eq_true rfl⟩) hP hD hS hA [0, 1] [] rfl rfl (by decide) (by decide) ?_
    intro u_149 hu_149
    clear hP hD hS; intro H locs hP hD hS
    replace hP : va_P G.1 vwCl [cl_O am 2 (md_fs aT aM aO (nI k) fd by0), cl_I G aT 1024 u_149] H := wd_psub hP [0, 1] rfl
    replace hD : va_D A [cl_O am 2 (md_fs aT aM aO (nI k) fd by0), cl_I G aT 1024 u_149] := hD.sub [0, 1] (by decide) rfl
    refine lv_aload_n hx hb dX3_put_49 rfl (lv_at hl 0 rfl) ?_
    refine lv_aload_n hx hb dX3_put_50 rfl (lv_at hl 0 rfl) ?_
    refine va_get (D := G.1) (ci := 2) (v := .int (nI k)) (C := RX3) (T := TX3) (N := 6) hx hb hts in_X3 hown hK hP 0 rfl rfl 1 (by decide) (hts _ q386) (fun _ h9 => h9) rfl dX3_put_51 ?_
    refine lv_bipush (v := nI 12) hx hb dX3_put_54 (by decide) ?_
    refine wd_iaddN (x := k) (y := 12) hx hb dX3_put_56 ?_
    refine lv_iload hx hb dX3_put_57 (lv_at hl 4 rfl) ?_
    refine wd_callv (wr := []) (va_runV (As := [.int (nI (k + 12)), .int w4]) (rest := []) ⟨hx, hb, hml, hown, hts⟩ (met_X3_word l G am aT aM aO fd (nI k) by0 w4 (k + 12) u_149 (by omega) H.size) (cwV 2 hts (lw_V q408 q410 qs9 q25 q411) rfl rfl rfl (by decide +kernel) ⟨Nat.le_of_ble_eq_true rfl, Nat.le_of_ble_eq_true rfl⟩) (wd_preV hK hZ hP hD hS hA [0, 1] (by decide) rfl 0 2 rfl rfl) rfl rfl hl.1 rfl (lv_room (Nat.le_of_ble_eq_true rfl)) dX3_put_59 ⟨Nat.le_of_ble_eq_true rfl, Nat.le_of_ble_eq_true rfl⟩) hP hD hS hA [0, 1] [] rfl rfl (by decide) (by decide) ?_
    intro u_150 hu_150
    clear hP hD hS; intro H locs hP hD hS
    replace hP : va_P G.1 vwCl [cl_O am 2 (md_fs aT aM aO (nI k) fd by0), cl_I G aT 1024 u_150] H := wd_psub hP [0, 1] rfl
    replace hD : va_D A [cl_O am 2 (md_fs aT aM aO (nI k) fd by0), cl_I G aT 1024 u_150] := hD.sub [0, 1] (by decide) rfl
    refine lv_aload_n hx hb dX3_put_62 rfl (lv_at hl 0 rfl) ?_
    refine lv_dup hx hb dX3_put_63 rfl ?_
    refine va_get (D := G.1) (ci := 2) (v := .int (nI k)) (C := RX3) (T := TX3) (N := 6) hx hb hts in_X3 hown hK hP 0 rfl rfl 1 (by decide) (hts _ q386) (fun _ h9 => h9) rfl dX3_put_64 ?_
    refine lv_bipush (v := nI 16) hx hb dX3_put_67 (by decide) ?_
    refine wd_iaddN (x := k) (y := 16) hx hb dX3_put_69 ?_
    refine va_put (D := G.1) (ci := 2) (v := .int (nI (k + 16))) (ty := .int) (C := RX3) (T := TX3) (N := 6) hx hb hts in_X3 tyX3 tyX3_ok nmX3 hown hK hP hD hS 0 rfl rfl 1 (by decide) (hts _ q386) (fun _ h9 => h9) rfl (tyX3_ok 1 (by decide)) rfl rfl (Nat.le_of_ble_eq_true rfl) dX3_put_70 ?_
    clear hP hD hS; intro H locs hP hD hS
    replace hP : va_P G.1 vwCl [cl_O am 2 (md_fs aT aM aO (nI (k + 16)) fd by0), cl_I G aT 1024 u_150] H := hP
    replace hD : va_D A [cl_O am 2 (md_fs aT aM aO (nI (k + 16)) fd by0), cl_I G aT 1024 u_150] := hD
    refine lv_iconst (v := nI 1) hx hb dX3_put_73 (by decide) ?_
    exact wd_zret hx hb hr hlk rfl (u_150, k + 16) (by rw [if_pos (by omega)]; exact ⟨rfl, by show u_150 = _; rw [hu_150, hu_149, hu_148, hu_147]; rfl, rfl⟩) hP hD hS dX3_put_74
  · refine lv_iconst (v := nI 0) hx hb dX3_put_15 (by decide) ?_
    exact wd_zret hx hb hr hlk rfl (mt, k) (by rw [if_neg (by omega)]; exact ⟨rfl, rfl, rfl⟩) hP hD hS dX3_put_16
set_option maxHeartbeats 4000000 in
set_option maxRecDepth 100000 in
/-- BlakeShortDeskModel.from(f) -/
theorem met_X3_from (l : Launch) (G : wd_G) (am aT aM aO : Nat) (fd by0 f : Int32) (k : Nat) (hk : k ≤ 1024) : Met l yX3_from (ws_ yX3_from cX3_from 2 (some .int)) ({ frames := 0, cells := 0, slots := 0, locals := 0 }) (va_Pc [.ref am, .int f] (wd_PreR G [cl_O am 2 (md_fs aT aM aO (nI k) fd by0)])) (vp_Si (fun r => r = nI (fN f % (k + 1)))) 0 0 (fun _ => False) := by
  refine wd_ofR (by decide) (Nat.le_of_ble_eq_true rfl) ?_
  intro p e s m below meth c ls hx hb hr hml hown hlk hts hK hP hl
  replace hown : s.vm.findClass RX3 = some m.cls := hown
  replace hl : lv_has ls 2 [(0, .ref am), (1, .int f)] := hl
  have hf := fN_lt f
  refine lv_iload_n hx hb dX3_from_0 rfl (lv_at hl 1 rfl) ?_
  refine lv_ldc hx hb hown (hts _ q420) dX3_from_1 ?_
  refine lv_iand hx hb dX3_from_3 ?_
  refine lv_eqi (y := nI (fN f)) (fN_and f) ?_
  refine lv_aload_n hx hb dX3_from_4 rfl (lv_at hl 0 rfl) ?_
  refine va_get (D := G.1) (ci := 2) (v := .int (nI k)) (C := RX3) (T := TX3) (N := 6) hx hb hts in_X3 hown hK hP 0 rfl rfl 1 (by decide) (hts _ q386) (fun _ h9 => h9) rfl dX3_from_5 ?_
  refine lv_iconst (v := nI 1) hx hb dX3_from_8 (by decide) ?_
  refine wd_iaddN (x := k) (y := 1) hx hb dX3_from_9 ?_
  refine wd_iremN hx hb dX3_from_10 (by omega) (by omega) (by omega) ?_
  exact wd_rret hx hb hr hlk rfl dX3_from_11
set_option maxHeartbeats 4000000 in
set_option maxRecDepth 100000 in
/-- BlakeShortDeskModel.trim(f) -/
theorem met_X3_trim (l : Launch) (G : wd_G) (am aT aM aO : Nat) (fd by0 f : Int32) (k : Nat) (hk : k ≤ 1024) (sz : Nat) : Met l yX3_trim (ws_ yX3_trim cX3_trim 2 none) ({ frames := 1, cells := 0, slots := 0, locals := 21 }) (va_Pc [.ref am, .int f] (wd_Pre G [cl_O am 2 (md_fs aT aM aO (nI k) fd by0)] sz)) (wd_Qv G (fun _ : Unit => True) (fun _ => [cl_O am 2 (md_fs aT aM aO (nI (fN f % (k + 1))) fd by0)]) (va_A [cl_O am 2 (md_fs aT aM aO (nI k) fd by0)] sz)) 0 0 (va_A [cl_O am 2 (md_fs aT aM aO (nI k) fd by0)] sz) := by
  refine wd_ofW (Qc := fun A => wd_Qv G (fun _ : Unit => True) (fun _ => [cl_O am 2 (md_fs aT aM aO (nI (fN f % (k + 1))) fd by0)]) A) (by decide) (Nat.le_of_ble_eq_true rfl) ?_
  intro p e s m below meth c A ls hx hb hr hml hown hlk hnm hts hK hZ hP hD hS hA hl
  replace hown : s.vm.findClass RX3 = some m.cls := hown
  replace hl : lv_has ls 2 [(0, .ref am), (1, .int f)] := hl
  refine lv_aload_n hx hb dX3_trim_0 rfl (lv_at hl 0 rfl) ?_
  refine lv_aload_n hx hb dX3_trim_1 rfl (lv_at hl 0 rfl) ?_
  refine lv_iload_n hx hb dX3_trim_2 rfl (lv_at hl 1 rfl) ?_
  refine vp_callSi (va_Run.run (va_runV (As := [.int f]) (rest := [.ref am]) ⟨hx, hb, hml, hown, hts⟩ (met_X3_from l G am aT aM aO fd by0 f k hk) (cwV 1 hts (lw_V q416 q418 qs10 q25 q419) rfl rfl rfl (by decide +kernel) ⟨Nat.le_of_ble_eq_true rfl, Nat.le_of_ble_eq_true rfl⟩) (wd_preVR hK hP [0] rfl 0 2 rfl rfl) rfl rfl hl.1 rfl (lv_room (Nat.le_of_ble_eq_true rfl)) dX3_trim_3 ⟨Nat.le_of_ble_eq_true rfl, Nat.le_of_ble_eq_true rfl⟩)) ?_
  intro r_151 er_151
  subst er_151
  refine va_put (D := G.1) (ci := 2) (v := .int (nI (fN f % (k + 1)))) (ty := .int) (C := RX3) (T := TX3) (N := 6) hx hb hts in_X3 tyX3 tyX3_ok nmX3 hown hK hP hD hS 0 rfl rfl 1 (by decide) (hts _ q386) (fun _ h9 => h9) rfl (tyX3_ok 1 (by decide)) rfl rfl (Nat.le_of_ble_eq_true rfl) dX3_trim_6 ?_
  clear hP hD hS; intro H locs hP hD hS
  replace hP : va_P G.1 vwCl [cl_O am 2 (md_fs aT aM aO (nI (fN f % (k + 1))) fd by0)] H := hP
  replace hD : va_D A [cl_O am 2 (md_fs aT aM aO (nI (fN f % (k + 1))) fd by0)] := hD
  exact wd_vret hx hb hr hlk () trivial hP hD hS dX3_trim_9
set_option maxHeartbeats 4000000 in
set_option maxRecDepth 100000 in
/-- BlakeShortDeskModel.begin(x) -/
theorem met_X3_begin (l : Launch) (G : wd_G) (am aT aM aO : Nat) (fd sz0 by0 x : Int32) (sz : Nat) : Met l yX3_begin (ws_ yX3_begin cX3_begin 2 none) ({ frames := 0, cells := 0, slots := 0, locals := 0 }) (va_Pc [.ref am, .int x] (wd_Pre G [cl_O am 2 (md_fs aT aM aO sz0 fd by0)] sz)) (wd_Qv G (fun _ : Unit => True) (fun _ => [cl_O am 2 (md_fs aT aM aO sz0 (nI 0) (nI (szF (fN x % 4))))]) (va_A [cl_O am 2 (md_fs aT aM aO sz0 fd by0)] sz)) 0 0 (va_A [cl_O am 2 (md_fs aT aM aO sz0 fd by0)] sz) := by
  refine wd_ofW (Qc := fun A => wd_Qv G (fun _ : Unit => True) (fun _ => [cl_O am 2 (md_fs aT aM aO sz0 (nI 0) (nI (szF (fN x % 4))))]) A) (by decide) (Nat.le_of_ble_eq_true rfl) ?_
  intro p e s m below meth c A ls hx hb hr hml hown hlk hnm hts hK hZ hP hD hS hA hl
  replace hown : s.vm.findClass RX3 = some m.cls := hown
  replace hl : lv_has ls 2 [(0, .ref am), (1, .int x)] := hl
  obtain ⟨⟨tIV, zIV, hIV⟩, ⟨tSG, rSG, zSG, hSG, hSGr⟩, ⟨tFI, zFI, hFI⟩, ⟨tOR, rOR, zOR, hOR, hORr⟩, ⟨tWO, rWO, zWO, hWO, hWOr⟩, ⟨tSZ, zSZ, hSZ⟩, ⟨tAN, zAN⟩, hFw1, hFw2, hFw3, hFw4⟩ := id hZ
  have hx9 := fN_lt x
  refine lv_aload_n hx hb dX3_begin_0 rfl (lv_at hl 0 rfl) ?_
  refine va_gets hx hb zSZ hS hown (hts _ q425) (fun _ h9 => h9) dX3_begin_1 ?_
  refine lv_iload_n hx hb dX3_begin_4 rfl (lv_at hl 1 rfl) ?_
  refine lv_ldc hx hb hown (hts _ q420) dX3_begin_5 ?_
  refine lv_iand hx hb dX3_begin_7 ?_
  refine lv_eqi (y := nI (fN x)) (fN_and x) ?_
  refine lv_iconst (v := nI 4) hx hb dX3_begin_8 (by decide) ?_
  refine wd_iremN hx hb dX3_begin_9 (by omega) (by omega) (by omega) ?_
  refine wd_ti hx hb hSZ hS ((fN x) % 4) (by omega) (by decide) dX3_begin_10 ?_
  refine va_put (D := G.1) (ci := 2) (v := .int (nI (szF ((fN x) % 4)))) (ty := .int) (C := RX3) (T := TX3) (N := 6) hx hb hts in_X3 tyX3 tyX3_ok nmX3 hown hK hP hD hS 0 rfl rfl 4 (by decide) (hts _ q389) (fun _ h9 => h9) rfl (tyX3_ok 4 (by decide)) rfl rfl (Nat.le_of_ble_eq_true rfl) dX3_begin_11 ?_
  clear hP hD hS; intro H locs hP hD hS
  replace hP : va_P G.1 vwCl [cl_O am 2 (md_fs aT aM aO sz0 fd (nI (szF ((fN x) % 4))))] H := hP
  replace hD : va_D A [cl_O am 2 (md_fs aT aM aO sz0 fd (nI (szF ((fN x) % 4))))] := hD
  refine lv_aload_n hx hb dX3_begin_14 rfl (lv_at hl 0 rfl) ?_
  refine lv_iconst (v := nI 0) hx hb dX3_begin_15 (by decide) ?_
  refine va_put (D := G.1) (ci := 2) (v := .int (nI 0)) (ty := .int) (C := RX3) (T := TX3) (N := 6) hx hb hts in_X3 tyX3 tyX3_ok nmX3 hown hK hP hD hS 0 rfl rfl 3 (by decide) (hts _ q388) (fun _ h9 => h9) rfl (tyX3_ok 3 (by decide)) rfl rfl (Nat.le_of_ble_eq_true rfl) dX3_begin_16 ?_
  clear hP hD hS; intro H locs hP hD hS
  replace hP : va_P G.1 vwCl [cl_O am 2 (md_fs aT aM aO sz0 (nI 0) (nI (szF ((fN x) % 4))))] H := hP
  replace hD : va_D A [cl_O am 2 (md_fs aT aM aO sz0 (nI 0) (nI (szF ((fN x) % 4))))] := hD
  exact wd_vret hx hb hr hlk () trivial hP hD hS dX3_begin_19
set_option maxHeartbeats 4000000 in
set_option maxRecDepth 100000 in
/-- BlakeShortDeskModel.drop() -/
theorem met_X3_drop (l : Launch) (G : wd_G) (am aT aM aO : Nat) (fd sz0 by0 : Int32) (sz : Nat) : Met l yX3_drop (ws_ yX3_drop cX3_drop 1 none) ({ frames := 0, cells := 0, slots := 0, locals := 0 }) (va_Pc [.ref am] (wd_Pre G [cl_O am 2 (md_fs aT aM aO sz0 fd by0)] sz)) (wd_Qv G (fun _ : Unit => True) (fun _ => [cl_O am 2 (md_fs aT aM aO sz0 (nI 0) by0)]) (va_A [cl_O am 2 (md_fs aT aM aO sz0 fd by0)] sz)) 0 0 (va_A [cl_O am 2 (md_fs aT aM aO sz0 fd by0)] sz) := by
  refine wd_ofW (Qc := fun A => wd_Qv G (fun _ : Unit => True) (fun _ => [cl_O am 2 (md_fs aT aM aO sz0 (nI 0) by0)]) A) (by decide) (Nat.le_of_ble_eq_true rfl) ?_
  intro p e s m below meth c A ls hx hb hr hml hown hlk hnm hts hK hZ hP hD hS hA hl
  replace hown : s.vm.findClass RX3 = some m.cls := hown
  replace hl : lv_has ls 1 [(0, .ref am)] := hl
  refine lv_aload_n hx hb dX3_drop_0 rfl (lv_at hl 0 rfl) ?_
  refine lv_iconst (v := nI 0) hx hb dX3_drop_1 (by decide) ?_
  refine va_put (D := G.1) (ci := 2) (v := .int (nI 0)) (ty := .int) (C := RX3) (T := TX3) (N := 6) hx hb hts in_X3 tyX3 tyX3_ok nmX3 hown hK hP hD hS 0 rfl rfl 3 (by decide) (hts _ q388) (fun _ h9 => h9) rfl (tyX3_ok 3 (by decide)) rfl rfl (Nat.le_of_ble_eq_true rfl) dX3_drop_2 ?_
  clear hP hD hS; intro H locs hP hD hS
  replace hP : va_P G.1 vwCl [cl_O am 2 (md_fs aT aM aO sz0 (nI 0) by0)] H := hP
  replace hD : va_D A [cl_O am 2 (md_fs aT aM aO sz0 (nI 0) by0)] := hD
  exact wd_vret hx hb hr hlk () trivial hP hD hS dX3_drop_5
set_option maxHeartbeats 4000000 in
set_option maxRecDepth 100000 in
/-- BlakeShortDeskModel.out(f) -/
theorem met_X3_out (l : Launch) (G : wd_G) (am aT aM aO : Nat) (fd sz0 by0 f : Int32) (mo : Nat → Int32) : Met l yX3_out (ws_ yX3_out cX3_out 2 (some .int)) ({ frames := 0, cells := 0, slots := 0, locals := 0 }) (va_Pc [.ref am, .int f] (wd_PreR G [cl_O am 2 (md_fs aT aM aO sz0 fd by0), cl_I G aO 32 mo])) (vp_Si (fun r => r = mo (fN f % 32))) 0 0 (fun _ => False) := by
  refine wd_ofR (by decide) (Nat.le_of_ble_eq_true rfl) ?_
  intro p e s m below meth c ls hx hb hr hml hown hlk hts hK hP hl
  replace hown : s.vm.findClass RX3 = some m.cls := hown
  replace hl : lv_has ls 2 [(0, .ref am), (1, .int f)] := hl
  have hf := fN_lt f
  refine lv_aload_n hx hb dX3_out_0 rfl (lv_at hl 0 rfl) ?_
  refine va_get (D := G.1) (ci := 2) (v := .ref aO) (C := RX3) (T := TX3) (N := 6) hx hb hts in_X3 hown hK hP 0 rfl rfl 5 (by decide) (hts _ q390) (fun _ h9 => h9) rfl dX3_out_1 ?_
  refine lv_iload_n hx hb dX3_out_4 rfl (lv_at hl 1 rfl) ?_
  refine lv_ldc hx hb hown (hts _ q420) dX3_out_5 ?_
  refine lv_iand hx hb dX3_out_7 ?_
  refine lv_eqi (y := nI (fN f)) (fN_and f) ?_
  refine lv_bipush (v := nI 32) hx hb dX3_out_8 (by decide) ?_
  refine wd_iremN hx hb dX3_out_10 (by omega) (by omega) (by omega) ?_
  refine wd_ild hx hb hK hP 1 rfl ((fN f) % 32) (by omega) (by omega) dX3_out_11 ?_
  exact wd_rret hx hb hr hlk rfl dX3_out_12
set_option maxHeartbeats 4000000 in
set_option maxRecDepth 100000 in
/-- BlakeShortDeskModel.feed(x, y) -/
theorem met_X3_feed (l : Launch) (G : wd_G) (am aT aM aO : Nat) (by0 x y : Int32) (k fed : Nat) (mt ms : Nat → Int32) (hk : k ≤ 1024) (hfed : fed ≤ 16384) (sz : Nat) : Met l yX3_feed (ws_ yX3_feed cX3_feed 6 (some .boolean)) ({ frames := 1, cells := 0, slots := 0, locals := 21 }) (va_Pc [.ref am, .int x, .int y] (wd_Pre G [cl_O am 2 (md_fs aT aM aO (nI k) (nI fed) by0), cl_I G aT 1024 mt, cl_I G aM 16384 ms] sz)) (wd_Qi G (fun (r : Int32) (u : Nat × (Nat → Int32)) => if fed + fN y % (k - fN x % (k + 1) + 1) ≤ 16384 then r = nI 1 ∧ u.1 = fed + fN y % (k - fN x % (k + 1) + 1) ∧ u.2 = fdN ms mt fed (fN x % (k + 1)) (fN y % (k - fN x % (k + 1) + 1)) else r = nI 0 ∧ u.1 = fed ∧ u.2 = ms) (fun u => [cl_O am 2 (md_fs aT aM aO (nI k) (nI u.1) by0), cl_I G aT 1024 mt, cl_I G aM 16384 u.2]) (va_A [cl_O am 2 (md_fs aT aM aO (nI k) (nI fed) by0), cl_I G aT 1024 mt, cl_I G aM 16384 ms] sz)) 0 0 (va_A [cl_O am 2 (md_fs aT aM aO (nI k) (nI fed) by0), cl_I G aT 1024 mt, cl_I G aM 16384 ms] sz) := by
  refine wd_ofW (Qc := fun A => wd_Qi G (fun (r : Int32) (u : Nat × (Nat → Int32)) => if fed + fN y % (k - fN x % (k + 1) + 1) ≤ 16384 then r = nI 1 ∧ u.1 = fed + fN y % (k - fN x % (k + 1) + 1) ∧ u.2 = fdN ms mt fed (fN x % (k + 1)) (fN y % (k - fN x % (k + 1) + 1)) else r = nI 0 ∧ u.1 = fed ∧ u.2 = ms) (fun u => [cl_O am 2 (md_fs aT aM aO (nI k) (nI u.1) by0), cl_I G aT 1024 mt, cl_I G aM 16384 u.2]) A) (by decide) (Nat.le_of_ble_eq_true rfl) ?_
  intro p e s m below meth c A ls hx hb hr hml hown hlk hnm hts hK hZ hP hD hS hA hl
  replace hown : s.vm.findClass RX3 = some m.cls := hown
  replace hl : lv_has ls 6 [(0, .ref am), (1, .int x), (2, .int y)] := hl
  have hx9 := fN_lt x
  have hy9 := fN_lt y
  obtain ⟨f, ef⟩ : ∃ z, z = fN x % (k + 1) := ⟨_, rfl⟩
  obtain ⟨q, eq⟩ : ∃ z, z = fN y % (k - f + 1) := ⟨_, rfl⟩
  have hf : f ≤ k := by have := Nat.mod_lt (fN x) (show 0 < k + 1 by omega); omega
  have hq : q ≤ k - f := by have := Nat.mod_lt (fN y) (show 0 < k - f + 1 by omega); omega
  rw [← ef, ← eq]
  refine lv_aload_n hx hb dX3_feed_0 rfl (lv_at hl 0 rfl) ?_
  refine lv_iload_n hx hb dX3_feed_1 rfl (lv_at hl 1 rfl) ?_
  refine vp_callSi (va_Run.run (va_runV (As := [.int x]) (rest := []) ⟨hx, hb, hml, hown, hts⟩ (met_X3_from l G am aT aM aO (nI fed) by0 x k hk) (cwV 1 hts (lw_V q416 q418 qs10 q25 q419) rfl rfl rfl (by decide +kernel) ⟨Nat.le_of_ble_eq_true rfl, Nat.le_of_ble_eq_true rfl⟩) (wd_preVR hK hP [0] rfl 0 2 rfl rfl) rfl rfl hl.1 rfl (lv_room (Nat.le_of_ble_eq_true rfl)) dX3_feed_2 ⟨Nat.le_of_ble_eq_true rfl, Nat.le_of_ble_eq_true rfl⟩)) ?_
  intro r_152 er_152
  rw [← ef] at er_152; subst er_152
  refine lv_istore_n (lv' := [(3, .int (nI f)), (0, .ref am), (1, .int x), (2, .int y)]) hx hb dX3_feed_5 rfl hl (by decide) rfl ?_
  clear hl; intro ls hl
  refine lv_iload_n hx hb dX3_feed_6 rfl (lv_at hl 3 rfl) ?_
  refine lv_ldc hx hb hown (hts _ q420) dX3_feed_7 ?_
  refine lv_iand hx hb dX3_feed_9 ?_
  refine lv_eqi (y := nI (fN y)) (fN_and y) ?_
  refine lv_aload_n hx hb dX3_feed_10 rfl (lv_at hl 1 rfl) ?_
  refine va_get (D := G.1) (ci := 2) (v := .int (nI k)) (C := RX3) (T := TX3) (N := 6) hx hb hts in_X3 hown hK hP 0 rfl rfl 1 (by decide) (hts _ q386) (fun _ h9 => h9) rfl dX3_feed_11 ?_
  refine lv_iload_n hx hb dX3_feed_14 rfl (lv_at hl 0 rfl) ?_
  refine wd_isubN hx hb dX3_feed_15 (by omega) ?_
  refine lv_iconst (v := nI 1) hx hb dX3_feed_16 (by decide) ?_
  refine wd_iaddN (x := k - f) (y := 1) hx hb dX3_feed_17 ?_
  refine wd_iremN hx hb dX3_feed_18 (by omega) (by omega) (by omega) ?_
  refine lv_eqi (y := nI q) (by rw [eq]) ?_
  refine lv_istore (lv' := [(4, .int (nI q)), (3, .int (nI f)), (0, .ref am), (1, .int x), (2, .int y)]) hx hb dX3_feed_19 hl (by decide) rfl ?_
  clear hl; intro ls hl
  refine lv_aload_n hx hb dX3_feed_21 rfl (lv_at hl 2 rfl) ?_
  refine va_get (D := G.1) (ci := 2) (v := .int (nI fed)) (C := RX3) (T := TX3) (N := 6) hx hb hts in_X3 hown hK hP 0 rfl rfl 3 (by decide) (hts _ q388) (fun _ h9 => h9) rfl dX3_feed_22 ?_
  refine lv_iload hx hb dX3_feed_25 (lv_at hl 0 rfl) ?_
  refine wd_iaddN (x := fed) (y := q) hx hb dX3_feed_27 ?_
  refine lv_sipush (v := nI 16384) hx hb dX3_feed_28 (by decide) ?_
  refine wd_le (tgt := 36) hx hb dX3_feed_31 (by decide) (by omega) (by omega) (fun c_1 => ?_) (fun c_1 => ?_)
  · refine lv_iconst (v := nI 0) hx hb dX3_feed_36 (by decide) ?_
    refine lv_istore (lv' := [(5, .int (nI 0)), (4, .int (nI q)), (3, .int (nI f)), (0, .ref am), (1, .int x), (2, .int y)]) hx hb dX3_feed_37 hl (by decide) rfl ?_
    clear hl; intro ls hl
    have loop : ∀ (n9 i : Nat), i + n9 = q → ∀ (g : Nat → Int32), (∀ j, g j = fdN ms mt fed f i j) → ∀ (H : Heap) (locs : List Loc), va_P G.1 vwCl [cl_O am 2 (md_fs aT aM aO (nI k) (nI fed) by0), cl_I G aT 1024 mt, cl_I G aM 16384 g] H → va_D A [cl_O am 2 (md_fs aT aM aO (nI k) (nI fed) by0), cl_I G aT 1024 mt, cl_I G aM 16384 g] → va_S A s.heap H locs → ∀ (ls : Array Slot), lv_has ls 6 [(5, .int (nI i)), (4, .int (nI q)), (3, .int (nI f)), (0, .ref am), (1, .int x), (2, .int y)] → W p l e ({ frames := 1, cells := 0, slots := 0, locals := 21 }) s m ([.ref am, .int x, .int y] : List Value).toArray below meth c H locs 0 0 (MQ below (wd_Qi G (fun (r : Int32) (u : Nat × (Nat → Int32)) => if fed + q ≤ 16384 then r = nI 1 ∧ u.1 = fed + q ∧ u.2 = fdN ms mt fed f q else r = nI 0 ∧ u.1 = fed ∧ u.2 = ms) (fun u => [cl_O am 2 (md_fs aT aM aO (nI k) (nI u.1) by0), cl_I G aT 1024 mt, cl_I G aM 16384 u.2]) A) ([.ref am, .int x, .int y] : List Value).toArray s 0 0 A) (F0 m 39 ls []) := by
      clear hP hD hS hl
      intro n9
      induction n9 with
      | zero =>
        intro i hi g hg H locs hP hD hS ls hl
        refine lv_iload hx hb dX3_feed_39 (lv_at hl 0 rfl) ?_
        refine lv_iload hx hb dX3_feed_41 (lv_at hl 1 rfl) ?_
        refine wd_ge (tgt := 73) hx hb dX3_feed_43 (by decide) (by omega) (by omega) (fun c_2 => ?_) (fun c_2 => absurd c_2 (by omega))
        obtain ⟨hP, hD⟩ := wd_lab (q0 := 2) hP hD rfl (fdN ms mt fed f q) (fun j hj => by rw [hg j, show i = q by omega])
        replace hP : va_P G.1 vwCl [cl_O am 2 (md_fs aT aM aO (nI k) (nI fed) by0), cl_I G aT 1024 mt, cl_I G aM 16384 ((fdN ms mt fed f q))] H := hP
        replace hD : va_D A [cl_O am 2 (md_fs aT aM aO (nI k) (nI fed) by0), cl_I G aT 1024 mt, cl_I G aM 16384 ((fdN ms mt fed f q))] := hD
        refine lv_aload_n hx hb dX3_feed_73 rfl (lv_at hl 3 rfl) ?_
        refine lv_dup hx hb dX3_feed_74 rfl ?_
        refine va_get (D := G.1) (ci := 2) (v := .int (nI fed)) (C := RX3) (T := TX3) (N := 6) hx hb hts in_X3 hown hK hP 0 rfl rfl 3 (by decide) (hts _ q388) (fun _ h9 => h9) rfl dX3_feed_75 ?_
        refine lv_iload hx hb dX3_feed_78 (lv_at hl 1 rfl) ?_
        refine wd_iaddN (x := fed) (y := q) hx hb dX3_feed_80 ?_
        refine va_put (D := G.1) (ci := 2) (v := .int (nI (fed + q))) (ty := .int) (C := RX3) (T := TX3) (N := 6) hx hb hts in_X3 tyX3 tyX3_ok nmX3 hown hK hP hD hS 0 rfl rfl 3 (by decide) (hts _ q388) (fun _ h9 => h9) rfl (tyX3_ok 3 (by decide)) rfl rfl (Nat.le_of_ble_eq_true rfl) dX3_feed_81 ?_
        clear hP hD hS; intro H locs hP hD hS
        replace hP : va_P G.1 vwCl [cl_O am 2 (md_fs aT aM aO (nI k) (nI (fed + q)) by0), cl_I G aT 1024 mt, cl_I G aM 16384 ((fdN ms mt fed f q))] H := hP
        replace hD : va_D A [cl_O am 2 (md_fs aT aM aO (nI k) (nI (fed + q)) by0), cl_I G aT 1024 mt, cl_I G aM 16384 ((fdN ms mt fed f q))] := hD
        refine lv_iconst (v := nI 1) hx hb dX3_feed_84 (by decide) ?_
        exact wd_zret hx hb hr hlk rfl (fed + q, fdN ms mt fed f q) (by rw [if_pos c_1]; exact ⟨rfl, rfl, rfl⟩) hP hD hS dX3_feed_85
      | succ n9 ih =>
        intro i hi g hg H locs hP hD hS ls hl
        refine lv_iload hx hb dX3_feed_39 (lv_at hl 0 rfl) ?_
        refine lv_iload hx hb dX3_feed_41 (lv_at hl 1 rfl) ?_
        refine wd_ge (tgt := 73) hx hb dX3_feed_43 (by decide) (by omega) (by omega) (fun c_2 => absurd c_2 (by omega)) (fun c_2 => ?_)
        refine lv_aload_n hx hb dX3_feed_46 rfl (lv_at hl 3 rfl) ?_
        refine va_get (D := G.1) (ci := 2) (v := .ref aM) (C := RX3) (T := TX3) (N := 6) hx hb hts in_X3 hown hK hP 0 rfl rfl 2 (by decide) (hts _ q387) (fun _ h9 => h9) rfl dX3_feed_47 ?_
        refine lv_aload_n hx hb dX3_feed_50 rfl (lv_at hl 3 rfl) ?_
        refine va_get (D := G.1) (ci := 2) (v := .int (nI fed)) (C := RX3) (T := TX3) (N := 6) hx hb hts in_X3 hown hK hP 0 rfl rfl 3 (by decide) (hts _ q388) (fun _ h9 => h9) rfl dX3_feed_51 ?_
        refine lv_iload hx hb dX3_feed_54 (lv_at hl 0 rfl) ?_
        refine wd_iaddN (x := fed) (y := i) hx hb dX3_feed_56 ?_
        refine lv_aload_n hx hb dX3_feed_57 rfl (lv_at hl 3 rfl) ?_
        refine va_get (D := G.1) (ci := 2) (v := .ref aT) (C := RX3) (T := TX3) (N := 6) hx hb hts in_X3 hown hK hP 0 rfl rfl 0 (by decide) (hts _ q385) (fun _ h9 => h9) rfl dX3_feed_58 ?_
        refine lv_iload_n hx hb dX3_feed_61 rfl (lv_at hl 2 rfl) ?_
        refine lv_iload hx hb dX3_feed_62 (lv_at hl 0 rfl) ?_
        refine wd_iaddN (x := f) (y := i) hx hb dX3_feed_64 ?_
        refine wd_ild hx hb hK hP 1 rfl (f + i) (by omega) (by omega) dX3_feed_65 ?_
        refine wd_ist hx hb hK hP hD hS 2 rfl (fed + i) (by omega) (by omega) dX3_feed_66 ?_
        clear hP hD hS; intro f_153 ef_153 H locs hP hD hS
        replace hP : va_P G.1 vwCl [cl_O am 2 (md_fs aT aM aO (nI k) (nI fed) by0), cl_I G aT 1024 mt, cl_I G aM 16384 f_153] H := hP
        replace hD : va_D A [cl_O am 2 (md_fs aT aM aO (nI k) (nI fed) by0), cl_I G aT 1024 mt, cl_I G aM 16384 f_153] := hD
        refine lv_iinc (v := nI (i + 1)) (lv' := [(5, .int (nI (i + 1))), (4, .int (nI q)), (3, .int (nI f)), (0, .ref am), (1, .int x), (2, .int y)]) hx hb dX3_feed_67 hl (k := 0) rfl (wd_inc _ 1) (by decide) rfl ?_
        clear hl; intro ls hl
        refine lv_goto (tgt := 39) hx hb dX3_feed_70 (by decide) ?_
        exact ih (i + 1) (by omega) f_153 (fun j => by rw [ef_153]; exact fdN_up hg j) _ _ hP hD hS ls (lv_sub hl [0, 1, 2, 3, 4, 5] rfl)
    exact loop q 0 (by omega) ms (fun j => (if_neg (by omega)).symm) _ _ hP hD hS ls (lv_sub hl [0, 1, 2, 3, 4, 5] rfl)
  · refine lv_iconst (v := nI 0) hx hb dX3_feed_34 (by decide) ?_
    exact wd_zret hx hb hr hlk rfl (fed, ms) (by rw [if_neg (by omega)]; exact ⟨rfl, rfl, rfl⟩) hP hD hS dX3_feed_35
set_option maxHeartbeats 4000000 in
set_option maxRecDepth 100000 in
/-- BlakeShortDeskModel.one(x) -/
theorem met_X3_one (l : Launch) (G : wd_G) (am aT aM aO : Nat) (sz0 by0 x : Int32) (fed : Nat) (ms : Nat → Int32) (hfed : fed ≤ 16384) (sz : Nat) : Met l yX3_one (ws_ yX3_one cX3_one 2 (some .boolean)) ({ frames := 0, cells := 0, slots := 0, locals := 0 }) (va_Pc [.ref am, .int x] (wd_Pre G [cl_O am 2 (md_fs aT aM aO sz0 (nI fed) by0), cl_I G aM 16384 ms] sz)) (wd_Qi G (fun (r : Int32) (u : Nat × (Nat → Int32)) => if fed < 16384 then r = nI 1 ∧ u.1 = fed + 1 ∧ u.2 = upd ms fed (x &&& nI 255) else r = nI 0 ∧ u.1 = fed ∧ u.2 = ms) (fun u => [cl_O am 2 (md_fs aT aM aO sz0 (nI u.1) by0), cl_I G aM 16384 u.2]) (va_A [cl_O am 2 (md_fs aT aM aO sz0 (nI fed) by0), cl_I G aM 16384 ms] sz)) 0 0 (va_A [cl_O am 2 (md_fs aT aM aO sz0 (nI fed) by0), cl_I G aM 16384 ms] sz) := by
  refine wd_ofW (Qc := fun A => wd_Qi G (fun (r : Int32) (u : Nat × (Nat → Int32)) => if fed < 16384 then r = nI 1 ∧ u.1 = fed + 1 ∧ u.2 = upd ms fed (x &&& nI 255) else r = nI 0 ∧ u.1 = fed ∧ u.2 = ms) (fun u => [cl_O am 2 (md_fs aT aM aO sz0 (nI u.1) by0), cl_I G aM 16384 u.2]) A) (by decide) (Nat.le_of_ble_eq_true rfl) ?_
  intro p e s m below meth c A ls hx hb hr hml hown hlk hnm hts hK hZ hP hD hS hA hl
  replace hown : s.vm.findClass RX3 = some m.cls := hown
  replace hl : lv_has ls 2 [(0, .ref am), (1, .int x)] := hl
  refine lv_aload_n hx hb dX3_one_0 rfl (lv_at hl 0 rfl) ?_
  refine va_get (D := G.1) (ci := 2) (v := .int (nI fed)) (C := RX3) (T := TX3) (N := 6) hx hb hts in_X3 hown hK hP 0 rfl rfl 3 (by decide) (hts _ q388) (fun _ h9 => h9) rfl dX3_one_1 ?_
  refine lv_sipush (v := nI 16384) hx hb dX3_one_4 (by decide) ?_
  refine wd_ne (tgt := 12) hx hb dX3_one_7 (by decide) (by omega) (by omega) (fun c_1 => ?_) (fun c_1 => ?_)
  · refine lv_aload_n hx hb dX3_one_12 rfl (lv_at hl 0 rfl) ?_
    refine va_get (D := G.1) (ci := 2) (v := .ref aM) (C := RX3) (T := TX3) (N := 6) hx hb hts in_X3 hown hK hP 0 rfl rfl 2 (by decide) (hts _ q387) (fun _ h9 => h9) rfl dX3_one_13 ?_
    refine lv_aload_n hx hb dX3_one_16 rfl (lv_at hl 0 rfl) ?_
    refine va_get (D := G.1) (ci := 2) (v := .int (nI fed)) (C := RX3) (T := TX3) (N := 6) hx hb hts in_X3 hown hK hP 0 rfl rfl 3 (by decide) (hts _ q388) (fun _ h9 => h9) rfl dX3_one_17 ?_
    refine lv_iload_n hx hb dX3_one_20 rfl (lv_at hl 1 rfl) ?_
    refine lv_sipush (v := nI 255) hx hb dX3_one_21 (by decide) ?_
    refine lv_iand hx hb dX3_one_24 ?_
    refine wd_ist hx hb hK hP hD hS 1 rfl fed (by omega) (by omega) dX3_one_25 ?_
    clear hP hD hS; intro f_154 ef_154 H locs hP hD hS
    replace hP : va_P G.1 vwCl [cl_O am 2 (md_fs aT aM aO sz0 (nI fed) by0), cl_I G aM 16384 f_154] H := hP
    replace hD : va_D A [cl_O am 2 (md_fs aT aM aO sz0 (nI fed) by0), cl_I G aM 16384 f_154] := hD
    refine lv_aload_n hx hb dX3_one_26 rfl (lv_at hl 0 rfl) ?_
    refine lv_dup hx hb dX3_one_27 rfl ?_
    refine va_get (D := G.1) (ci := 2) (v := .int (nI fed)) (C := RX3) (T := TX3) (N := 6) hx hb hts in_X3 hown hK hP 0 rfl rfl 3 (by decide) (hts _ q388) (fun _ h9 => h9) rfl dX3_one_28 ?_
    refine lv_iconst (v := nI 1) hx hb dX3_one_31 (by decide) ?_
    refine wd_iaddN (x := fed) (y := 1) hx hb dX3_one_32 ?_
    refine va_put (D := G.1) (ci := 2) (v := .int (nI (fed + 1))) (ty := .int) (C := RX3) (T := TX3) (N := 6) hx hb hts in_X3 tyX3 tyX3_ok nmX3 hown hK hP hD hS 0 rfl rfl 3 (by decide) (hts _ q388) (fun _ h9 => h9) rfl (tyX3_ok 3 (by decide)) rfl rfl (Nat.le_of_ble_eq_true rfl) dX3_one_33 ?_
    clear hP hD hS; intro H locs hP hD hS
    replace hP : va_P G.1 vwCl [cl_O am 2 (md_fs aT aM aO sz0 (nI (fed + 1)) by0), cl_I G aM 16384 f_154] H := hP
    replace hD : va_D A [cl_O am 2 (md_fs aT aM aO sz0 (nI (fed + 1)) by0), cl_I G aM 16384 f_154] := hD
    refine lv_iconst (v := nI 1) hx hb dX3_one_36 (by decide) ?_
    exact wd_zret hx hb hr hlk rfl (fed + 1, f_154) (by rw [if_pos (by omega)]; exact ⟨rfl, rfl, ef_154⟩) hP hD hS dX3_one_37
  · refine lv_iconst (v := nI 0) hx hb dX3_one_10 (by decide) ?_
    exact wd_zret hx hb hr hlk rfl (fed, ms) (by rw [if_neg (by omega)]; exact ⟨rfl, rfl, rfl⟩) hP hD hS dX3_one_11
set_option maxHeartbeats 4000000 in
set_option maxRecDepth 100000 in
/-- BlakeShortDeskModel.digest() -/
theorem met_X3_digest (l : Launch) (G : wd_G) (am aT aM aO : Nat) (sz0 : Int32) (d fed : Nat) (ms mf : Nat → Int32) (hfed : fed ≤ 16384) (hm : ∀ j, j < fed → ms j = mf j &&& nI 255) (sz : Nat) : Met l yX3_digest (ws_ yX3_digest cX3_digest 3 (some (.array .int))) ({ frames := 3, cells := 513, slots := 8200, locals := 75 }) (va_Pc [.ref am] (wd_Pre G [cl_O am 2 (md_fs aT aM aO sz0 (nI fed) (nI d)), cl_I G aM 16384 ms] sz)) (wd_Qr G (fun _ : Unit => True) (fun _ ra => [cl_O am 2 (md_fs aT aM aO sz0 (nI fed) (nI d)), cl_I G aM 16384 ms, cl_I G ra 8 (dgF d mf fed)]) (va_A [cl_O am 2 (md_fs aT aM aO sz0 (nI fed) (nI d)), cl_I G aM 16384 ms] sz)) 513 8200 (va_A [cl_O am 2 (md_fs aT aM aO sz0 (nI fed) (nI d)), cl_I G aM 16384 ms] sz) := by
  refine wd_ofW (Qc := fun A => wd_Qr G (fun _ : Unit => True) (fun _ ra => [cl_O am 2 (md_fs aT aM aO sz0 (nI fed) (nI d)), cl_I G aM 16384 ms, cl_I G ra 8 (dgF d mf fed)]) A) (by decide) (Nat.le_of_ble_eq_true rfl) ?_
  intro p e s m below meth c A ls hx hb hr hml hown hlk hnm hts hK hZ hP hD hS hA hl
  replace hown : s.vm.findClass RX3 = some m.cls := hown
  replace hl : lv_has ls 3 [(0, .ref am)] := hl
  obtain ⟨⟨tIV, zIV, hIV⟩, ⟨tSG, rSG, zSG, hSG, hSGr⟩, ⟨tFI, zFI, hFI⟩, ⟨tOR, rOR, zOR, hOR, hORr⟩, ⟨tWO, rWO, zWO, hWO, hWOr⟩, ⟨tSZ, zSZ, hSZ⟩, ⟨tAN, zAN⟩, hFw1, hFw2, hFw3, hFw4⟩ := id hZ
  refine lv_bipush (v := nI 8) hx hb dX3_digest_0 (by decide) ?_
  refine wd_newI hx hb (hts _ q119) hK hP hD hS hA (by decide) (Nat.le_of_ble_eq_true rfl) (Nat.le_of_ble_eq_true rfl) dX3_digest_2 ?_
  clear hP hD hS; intro q_155 H hP hD hS
  replace hP : va_P G.1 vwCl [cl_O am 2 (md_fs aT aM aO sz0 (nI fed) (nI d)), cl_I G aM 16384 ms, cl_I G q_155 8 (fun _ => 0)] H := hP
  replace hD : va_D A [cl_O am 2 (md_fs aT aM aO sz0 (nI fed) (nI d)), cl_I G aM 16384 ms, cl_I G q_155 8 (fun _ => 0)] := hD
  refine lv_astore_n (lv' := [(1, .ref q_155), (0, .ref am)]) hx hb dX3_digest_4 rfl hl (by decide) rfl ?_
  clear hl; intro ls hl
  refine lv_iconst (v := nI 0) hx hb dX3_digest_5 (by decide) ?_
  refine lv_istore_n (lv' := [(2, .int (nI 0)), (1, .ref q_155), (0, .ref am)]) hx hb dX3_digest_6 rfl hl (by decide) rfl ?_
  clear hl; intro ls hl
  have loop2 : ∀ (n9 i cs ss : Nat), i + n9 = (fed - 1) / 64 → cs + 2 * n9 + 2 ≤ 513 → ss + 32 * n9 + 32 ≤ 8200 → ∀ (g : Nat → Int32), g = chN d mf i → ∀ (H : Heap) (locs : List Loc), va_P G.1 vwCl [cl_O am 2 (md_fs aT aM aO sz0 (nI fed) (nI d)), cl_I G aM 16384 ms, cl_I G q_155 8 g] H → va_D A [cl_O am 2 (md_fs aT aM aO sz0 (nI fed) (nI d)), cl_I G aM 16384 ms, cl_I G q_155 8 g] → va_S A s.heap H locs → ∀ (ls : Array Slot), lv_has ls 3 [(2, .int (nI (64 * i))), (1, .ref q_155), (0, .ref am)] → W p l e ({ frames := 3, cells := 513, slots := 8200, locals := 75 }) s m ([.ref am] : List Value).toArray below meth c H locs cs ss (MQ below (wd_Qr G (fun _ : Unit => True) (fun _ ra => [cl_O am 2 (md_fs aT aM aO sz0 (nI fed) (nI d)), cl_I G aM 16384 ms, cl_I G ra 8 (dgF d mf fed)]) A) ([.ref am] : List Value).toArray s 513 8200 A) (F0 m 42 ls []) := by
    clear hP hD hS hl
    intro n9
    induction n9 with
    | zero =>
      intro i cs ss hi hc1 hc2 g hg H locs hP hD hS ls hl
      refine lv_aload_n hx hb dX3_digest_42 rfl (lv_at hl 2 rfl) ?_
      refine va_get (D := G.1) (ci := 2) (v := .int (nI fed)) (C := RX3) (T := TX3) (N := 6) hx hb hts in_X3 hown hK hP 0 rfl rfl 3 (by decide) (hts _ q388) (fun _ h9 => h9) rfl dX3_digest_43 ?_
      refine lv_iload_n hx hb dX3_digest_46 rfl (lv_at hl 0 rfl) ?_
      refine wd_isubN hx hb dX3_digest_47 (by omega) ?_
      refine lv_bipush (v := nI 64) hx hb dX3_digest_48 (by decide) ?_
      refine wd_le (tgt := 70) hx hb dX3_digest_50 (by decide) (by omega) (by omega) (fun c_1 => ?_) (fun c_1 => absurd c_1 (by omega))
      refine lv_aload_n hx hb dX3_digest_70 rfl (lv_at hl 2 rfl) ?_
      refine lv_aload_n hx hb dX3_digest_71 rfl (lv_at hl 1 rfl) ?_
      refine lv_iload_n hx hb dX3_digest_72 rfl (lv_at hl 0 rfl) ?_
      refine lv_aload_n hx hb dX3_digest_73 rfl (lv_at hl 2 rfl) ?_
      refine va_get (D := G.1) (ci := 2) (v := .int (nI fed)) (C := RX3) (T := TX3) (N := 6) hx hb hts in_X3 hown hK hP 0 rfl rfl 3 (by decide) (hts _ q388) (fun _ h9 => h9) rfl dX3_digest_74 ?_
      refine lv_iconst (v := nI 1) hx hb dX3_digest_77 (by decide) ?_
      refine wd_callv (wr := []) (va_runV (As := [.ref q_155, .int (nI (64 * i)), .int (nI fed), .int (nI 1)]) (rest := []) ⟨hx, hb, hml, hown, hts⟩ (met_X3_cmp l G am aT aM aO q_155 sz0 (nI d) (nI fed) (-1) fed (64 * i) 1 ms mf g hfed (by omega) (Or.inr ⟨rfl, rfl⟩) hm H.size) (cwV 4 hts (lw_V q446 q448 qs12 q25 q449) rfl rfl rfl (by decide +kernel) ⟨Nat.le_of_ble_eq_true rfl, Nat.le_of_ble_eq_true rfl⟩) (wd_preV hK hZ hP hD hS hA [0, 1, 2] (by decide) rfl 0 2 rfl rfl) rfl rfl hl.1 rfl (lv_room (Nat.le_of_ble_eq_true rfl)) dX3_digest_78 ⟨show cs + 2 ≤ 513 by omega, show ss + 32 ≤ 8200 by omega⟩) hP hD hS hA [0, 1, 2] [] rfl rfl (by decide) (by decide) ?_
      intro u_156 hu_156
      clear hP hD hS; intro H locs hP hD hS
      replace hP : va_P G.1 vwCl [cl_O am 2 (md_fs aT aM aO sz0 (nI fed) (nI d)), cl_I G aM 16384 ms, cl_I G q_155 8 u_156] H := wd_psub hP [0, 1, 2] rfl
      replace hD : va_D A [cl_O am 2 (md_fs aT aM aO sz0 (nI fed) (nI d)), cl_I G aM 16384 ms, cl_I G q_155 8 u_156] := hD.sub [0, 1, 2] (by decide) rfl
      refine lv_aload_n hx hb dX3_digest_81 rfl (lv_at hl 1 rfl) ?_
      have e8 : i = (fed - 1) / 64 := by omega
      rw [hg, e8] at hu_156
      replace hu_156 : u_156 = dgF d mf fed := hu_156
      subst hu_156
      refine W.widen (k := 513) (n := 8200) (by omega) (by omega) ?_
      exact wd_aret hx hb hr (Or.inr ⟨_, rfl⟩) hlk () trivial hP hD hS dX3_digest_82
    | succ n9 ih =>
      intro i cs ss hi hc1 hc2 g hg H locs hP hD hS ls hl
      refine lv_aload_n hx hb dX3_digest_42 rfl (lv_at hl 2 rfl) ?_
      refine va_get (D := G.1) (ci := 2) (v := .int (nI fed)) (C := RX3) (T := TX3) (N := 6) hx hb hts in_X3 hown hK hP 0 rfl rfl 3 (by decide) (hts _ q388) (fun _ h9 => h9) rfl dX3_digest_43 ?_
      refine lv_iload_n hx hb dX3_digest_46 rfl (lv_at hl 0 rfl) ?_
      refine wd_isubN hx hb dX3_digest_47 (by omega) ?_
      refine lv_bipush (v := nI 64) hx hb dX3_digest_48 (by decide) ?_
      refine wd_le (tgt := 70) hx hb dX3_digest_50 (by decide) (by omega) (by omega) (fun c_1 => absurd c_1 (by omega)) (fun c_1 => ?_)
      refine lv_aload_n hx hb dX3_digest_53 rfl (lv_at hl 2 rfl) ?_
      refine lv_aload_n hx hb dX3_digest_54 rfl (lv_at hl 1 rfl) ?_
      refine lv_iload_n hx hb dX3_digest_55 rfl (lv_at hl 0 rfl) ?_
      refine lv_iload_n hx hb dX3_digest_56 rfl (lv_at hl 0 rfl) ?_
      refine lv_bipush (v := nI 64) hx hb dX3_digest_57 (by decide) ?_
      refine wd_iaddN (x := 64 * i) (y := 64) hx hb dX3_digest_59 ?_
      refine lv_iconst (v := nI 0) hx hb dX3_digest_60 (by decide) ?_
      refine wd_callv (wr := []) (va_runV (As := [.ref q_155, .int (nI (64 * i)), .int (nI (64 * i + 64)), .int (nI 0)]) (rest := []) ⟨hx, hb, hml, hown, hts⟩ (met_X3_cmp l G am aT aM aO q_155 sz0 (nI d) (nI (64 * i + 64)) (nI 0) fed (64 * i) 0 ms mf g hfed (by omega) (Or.inl ⟨rfl, rfl⟩) hm H.size) (cwV 4 hts (lw_V q446 q448 qs12 q25 q449) rfl rfl rfl (by decide +kernel) ⟨Nat.le_of_ble_eq_true rfl, Nat.le_of_ble_eq_true rfl⟩) (wd_preV hK hZ hP hD hS hA [0, 1, 2] (by decide) rfl 0 2 rfl rfl) rfl rfl hl.1 rfl (lv_room (Nat.le_of_ble_eq_true rfl)) dX3_digest_61 ⟨show cs + 2 ≤ 513 by omega, show ss + 32 ≤ 8200 by omega⟩) hP hD hS hA [0, 1, 2] [] rfl rfl (by decide) (by decide) ?_
      intro u_157 hu_157
      clear hP hD hS; intro H locs hP hD hS
      replace hP : va_P G.1 vwCl [cl_O am 2 (md_fs aT aM aO sz0 (nI fed) (nI d)), cl_I G aM 16384 ms, cl_I G q_155 8 u_157] H := wd_psub hP [0, 1, 2] rfl
      replace hD : va_D A [cl_O am 2 (md_fs aT aM aO sz0 (nI fed) (nI d)), cl_I G aM 16384 ms, cl_I G q_155 8 u_157] := hD.sub [0, 1, 2] (by decide) rfl
      refine lv_iinc (v := nI (64 * i + 64)) (lv' := [(2, .int (nI (64 * i + 64))), (1, .ref q_155), (0, .ref am)]) hx hb dX3_digest_64 hl (k := 0) rfl (wd_inc _ 64) (by decide) rfl ?_
      clear hl; intro ls hl
      refine lv_goto (tgt := 42) hx hb dX3_digest_67 (by decide) ?_
      have e9 : 64 * i + 64 = 64 * (i + 1) := by omega
      rw [e9] at hl
      exact ih (i + 1) (cs + 2) (ss + 32) (by omega) (by omega) (by omega) u_157 (by rw [hu_157, pad_full (by omega), hg, e9]; rfl) _ _ hP hD hS ls (lv_sub hl [0, 1, 2] rfl)
  have loop1 : ∀ (n9 i : Nat), i + n9 = 8 → ∀ (g : Nat → Int32), (∀ j, j < i → g j = ivF j) → ∀ (H : Heap) (locs : List Loc), va_P G.1 vwCl [cl_O am 2 (md_fs aT aM aO sz0 (nI fed) (nI d)), cl_I G aM 16384 ms, cl_I G q_155 8 g] H → va_D A [cl_O am 2 (md_fs aT aM aO sz0 (nI fed) (nI d)), cl_I G aM 16384 ms, cl_I G q_155 8 g] → va_S A s.heap H locs → ∀ (ls : Array Slot), lv_has ls 3 [(2, .int (nI i)), (1, .ref q_155), (0, .ref am)] → W p l e ({ frames := 3, cells := 513, slots := 8200, locals := 75 }) s m ([.ref am] : List Value).toArray below meth c H locs 1 8 (MQ below (wd_Qr G (fun _ : Unit => True) (fun _ ra => [cl_O am 2 (md_fs aT aM aO sz0 (nI fed) (nI d)), cl_I G aM 16384 ms, cl_I G ra 8 (dgF d mf fed)]) A) ([.ref am] : List Value).toArray s 513 8200 A) (F0 m 7 ls []) := by
    clear hP hD hS hl
    intro n9
    induction n9 with
    | zero =>
      intro i hi g hg H locs hP hD hS ls hl
      refine lv_iload_n hx hb dX3_digest_7 rfl (lv_at hl 0 rfl) ?_
      refine lv_bipush (v := nI 8) hx hb dX3_digest_8 (by decide) ?_
      refine wd_ge (tgt := 27) hx hb dX3_digest_10 (by decide) (by omega) (by omega) (fun c_1 => ?_) (fun c_1 => absurd c_1 (by omega))
      refine lv_aload_n hx hb dX3_digest_27 rfl (lv_at hl 1 rfl) ?_
      refine lv_iconst (v := nI 0) hx hb dX3_digest_28 (by decide) ?_
      refine lv_dup2_11 hx hb dX3_digest_29 rfl rfl ?_
      refine wd_ild hx hb hK hP 2 rfl 0 (by omega) (by omega) dX3_digest_30 ?_
      refine lv_ldc hx hb hown (hts _ q445) dX3_digest_31 ?_
      refine lv_aload_n hx hb dX3_digest_33 rfl (lv_at hl 2 rfl) ?_
      refine va_get (D := G.1) (ci := 2) (v := .int (nI d)) (C := RX3) (T := TX3) (N := 6) hx hb hts in_X3 hown hK hP 0 rfl rfl 4 (by decide) (hts _ q389) (fun _ h9 => h9) rfl dX3_digest_34 ?_
      refine lv_ixor hx hb dX3_digest_37 ?_
      refine lv_ixor hx hb dX3_digest_38 ?_
      refine wd_ist hx hb hK hP hD hS 2 rfl 0 (by omega) (by omega) dX3_digest_39 ?_
      clear hP hD hS; intro f_158 ef_158 H locs hP hD hS
      replace hP : va_P G.1 vwCl [cl_O am 2 (md_fs aT aM aO sz0 (nI fed) (nI d)), cl_I G aM 16384 ms, cl_I G q_155 8 f_158] H := hP
      replace hD : va_D A [cl_O am 2 (md_fs aT aM aO sz0 (nI fed) (nI d)), cl_I G aM 16384 ms, cl_I G q_155 8 f_158] := hD
      obtain ⟨hP, hD⟩ := wd_lab (q0 := 2) hP hD rfl (ivH d) (fun j hj => by rw [ef_158]; exact iv_st (fun j hj => hg j (by omega)) j hj)
      replace hP : va_P G.1 vwCl [cl_O am 2 (md_fs aT aM aO sz0 (nI fed) (nI d)), cl_I G aM 16384 ms, cl_I G q_155 8 ((ivH d))] H := hP
      replace hD : va_D A [cl_O am 2 (md_fs aT aM aO sz0 (nI fed) (nI d)), cl_I G aM 16384 ms, cl_I G q_155 8 ((ivH d))] := hD
      refine lv_iconst (v := nI 0) hx hb dX3_digest_40 (by decide) ?_
      refine lv_istore_n (lv' := [(2, .int (nI 0)), (1, .ref q_155), (0, .ref am)]) hx hb dX3_digest_41 rfl hl (by decide) rfl ?_
      clear hl; intro ls hl
      exact loop2 ((fed - 1) / 64) 0 1 8 (by omega) (by omega) (by omega) (ivH d) rfl _ _ hP hD hS ls (lv_sub hl [0, 1, 2] rfl)
    | succ n9 ih =>
      intro i hi g hg H locs hP hD hS ls hl
      refine lv_iload_n hx hb dX3_digest_7 rfl (lv_at hl 0 rfl) ?_
      refine lv_bipush (v := nI 8) hx hb dX3_digest_8 (by decide) ?_
      refine wd_ge (tgt := 27) hx hb dX3_digest_10 (by decide) (by omega) (by omega) (fun c_1 => absurd c_1 (by omega)) (fun c_1 => ?_)
      refine lv_aload_n hx hb dX3_digest_13 rfl (lv_at hl 1 rfl) ?_
      refine lv_iload_n hx hb dX3_digest_14 rfl (lv_at hl 0 rfl) ?_
      refine va_gets hx hb zFI hS hown (hts _ q443) (fun _ h9 => h9) dX3_digest_15 ?_
      refine lv_iload_n hx hb dX3_digest_18 rfl (lv_at hl 0 rfl) ?_
      refine wd_ti hx hb hFI hS i (by omega) (by decide) dX3_digest_19 ?_
      refine wd_ist hx hb hK hP hD hS 2 rfl i (by omega) (by omega) dX3_digest_20 ?_
      clear hP hD hS; intro f_159 ef_159 H locs hP hD hS
      replace hP : va_P G.1 vwCl [cl_O am 2 (md_fs aT aM aO sz0 (nI fed) (nI d)), cl_I G aM 16384 ms, cl_I G q_155 8 f_159] H := hP
      replace hD : va_D A [cl_O am 2 (md_fs aT aM aO sz0 (nI fed) (nI d)), cl_I G aM 16384 ms, cl_I G q_155 8 f_159] := hD
      refine lv_iinc (v := nI (i + 1)) (lv' := [(2, .int (nI (i + 1))), (1, .ref q_155), (0, .ref am)]) hx hb dX3_digest_21 hl (k := 0) rfl (wd_inc _ 1) (by decide) rfl ?_
      clear hl; intro ls hl
      refine lv_goto (tgt := 7) hx hb dX3_digest_24 (by decide) ?_
      exact ih (i + 1) (by omega) f_159 (fun j hj => by rw [ef_159]; exact up_lt hg rfl j hj) _ _ hP hD hS ls (lv_sub hl [0, 1, 2] rfl)
  exact loop1 8 0 (by omega) (fun _ => 0) (fun j hj => absurd hj (Nat.not_lt_zero j)) _ _ hP hD hS ls (lv_sub hl [0, 1, 2] rfl)
set_option maxHeartbeats 4000000 in
set_option maxRecDepth 100000 in
/-- BlakeShortDeskModel.close() -/
theorem met_X3_close (l : Launch) (G : wd_G) (am aT aM aO : Nat) (sz0 : Int32) (d fed : Nat) (ms mf mo : Nat → Int32) (hfed : fed ≤ 16384) (hd : d ≤ 32) (hm : ∀ j, j < fed → ms j = mf j &&& nI 255) (sz : Nat) : Met l yX3_close (ws_ yX3_close cX3_close 3 (some .int)) ({ frames := 4, cells := 513, slots := 8200, locals := 97 }) (va_Pc [.ref am] (wd_Pre G [cl_O am 2 (md_fs aT aM aO sz0 (nI fed) (nI d)), cl_I G aM 16384 ms, cl_I G aO 32 mo] sz)) (wd_Qi G (fun (r : Int32) (_ : Unit) => r = nI d) (fun _ => [cl_O am 2 (md_fs aT aM aO sz0 (nI 0) (nI d)), cl_I G aM 16384 ms, cl_I G aO 32 ((omN mo (dgF d mf fed) d))]) (va_A [cl_O am 2 (md_fs aT aM aO sz0 (nI fed) (nI d)), cl_I G aM 16384 ms, cl_I G aO 32 mo] sz)) 513 8200 (va_A [cl_O am 2 (md_fs aT aM aO sz0 (nI fed) (nI d)), cl_I G aM 16384 ms, cl_I G aO 32 mo] sz) := by
  refine wd_ofW (Qc := fun A => wd_Qi G (fun (r : Int32) (_ : Unit) => r = nI d) (fun _ => [cl_O am 2 (md_fs aT aM aO sz0 (nI 0) (nI d)), cl_I G aM 16384 ms, cl_I G aO 32 ((omN mo (dgF d mf fed) d))]) A) (by decide) (Nat.le_of_ble_eq_true rfl) ?_
  intro p e s m below meth c A ls hx hb hr hml hown hlk hnm hts hK hZ hP hD hS hA hl
  replace hown : s.vm.findClass RX3 = some m.cls := hown
  replace hl : lv_has ls 3 [(0, .ref am)] := hl
  refine lv_aload_n hx hb dX3_close_0 rfl (lv_at hl 0 rfl) ?_
  refine wd_callr (wr := [cl_I G aO 32 mo]) (va_runV (As := []) (rest := []) ⟨hx, hb, hml, hown, hts⟩ (met_X3_digest l G am aT aM aO sz0 d fed ms mf hfed hm s.heap.size) (cwV 0 hts (lw_V q439 q441 qs11 q25 q442) rfl rfl rfl (by decide +kernel) ⟨Nat.le_of_ble_eq_true rfl, Nat.le_of_ble_eq_true rfl⟩) (wd_preV hK hZ hP hD hS hA [0, 1] (by decide) rfl 0 2 rfl rfl) rfl rfl hl.1 rfl (lv_room (Nat.le_of_ble_eq_true rfl)) dX3_close_1 ⟨Nat.le_of_ble_eq_true rfl, Nat.le_of_ble_eq_true rfl⟩) hP hD hS hA [0, 1] [2] rfl rfl (by decide) (by decide) ?_
  intro u_160 rs hu_160
  clear hP hD hS; intro H locs hP hD hS
  replace hP : va_P G.1 vwCl [cl_O am 2 (md_fs aT aM aO sz0 (nI fed) (nI d)), cl_I G aM 16384 ms, cl_I G aO 32 mo, cl_I G rs 8 ((dgF d mf fed))] H := wd_psub hP [1, 2, 0, 3] rfl
  replace hD : va_D A [cl_O am 2 (md_fs aT aM aO sz0 (nI fed) (nI d)), cl_I G aM 16384 ms, cl_I G aO 32 mo, cl_I G rs 8 ((dgF d mf fed))] := hD.sub [1, 2, 0, 3] (by decide) rfl
  refine lv_astore_n (lv' := [(1, .ref rs), (0, .ref am)]) hx hb dX3_close_4 rfl hl (by decide) rfl ?_
  clear hl; intro ls hl
  refine lv_iconst (v := nI 0) hx hb dX3_close_5 (by decide) ?_
  refine lv_istore_n (lv' := [(2, .int (nI 0)), (1, .ref rs), (0, .ref am)]) hx hb dX3_close_6 rfl hl (by decide) rfl ?_
  clear hl; intro ls hl
  have loop : ∀ (n9 i : Nat), i + n9 = d → ∀ (g : Nat → Int32), (∀ j, g j = omN mo (dgF d mf fed) i j) → ∀ (H : Heap) (locs : List Loc), va_P G.1 vwCl [cl_O am 2 (md_fs aT aM aO sz0 (nI fed) (nI d)), cl_I G aM 16384 ms, cl_I G aO 32 g, cl_I G rs 8 ((dgF d mf fed))] H → va_D A [cl_O am 2 (md_fs aT aM aO sz0 (nI fed) (nI d)), cl_I G aM 16384 ms, cl_I G aO 32 g, cl_I G rs 8 ((dgF d mf fed))] → va_S A s.heap H locs → ∀ (ls : Array Slot), lv_has ls 3 [(2, .int (nI i)), (1, .ref rs), (0, .ref am)] → W p l e ({ frames := 4, cells := 513, slots := 8200, locals := 97 }) s m ([.ref am] : List Value).toArray below meth c H locs 513 8200 (MQ below (wd_Qi G (fun (r : Int32) (_ : Unit) => r = nI d) (fun _ => [cl_O am 2 (md_fs aT aM aO sz0 (nI 0) (nI d)), cl_I G aM 16384 ms, cl_I G aO 32 ((omN mo (dgF d mf fed) d))]) A) ([.ref am] : List Value).toArray s 513 8200 A) (F0 m 7 ls []) := by
    clear hP hD hS hl
    intro n9
    induction n9 with
    | zero =>
      intro i hi g hg H locs hP hD hS ls hl
      refine lv_iload_n hx hb dX3_close_7 rfl (lv_at hl 0 rfl) ?_
      refine lv_aload_n hx hb dX3_close_8 rfl (lv_at hl 2 rfl) ?_
      refine va_get (D := G.1) (ci := 2) (v := .int (nI d)) (C := RX3) (T := TX3) (N := 6) hx hb hts in_X3 hown hK hP 0 rfl rfl 4 (by decide) (hts _ q389) (fun _ h9 => h9) rfl dX3_close_9 ?_
      refine wd_ge (tgt := 43) hx hb dX3_close_12 (by decide) (by omega) (by omega) (fun c_1 => ?_) (fun c_1 => absurd c_1 (by omega))
      obtain ⟨hP, hD⟩ := wd_lab (q0 := 2) hP hD rfl (omN mo (dgF d mf fed) d) (fun j hj => by rw [hg j, show i = d by omega])
      replace hP : va_P G.1 vwCl [cl_O am 2 (md_fs aT aM aO sz0 (nI fed) (nI d)), cl_I G aM 16384 ms, cl_I G aO 32 ((omN mo (dgF d mf fed) d))] H := wd_psub hP [0, 1, 2] rfl
      replace hD : va_D A [cl_O am 2 (md_fs aT aM aO sz0 (nI fed) (nI d)), cl_I G aM 16384 ms, cl_I G aO 32 ((omN mo (dgF d mf fed) d))] := hD.sub [0, 1, 2] (by decide) rfl
      refine lv_aload_n hx hb dX3_close_43 rfl (lv_at hl 2 rfl) ?_
      refine lv_iconst (v := nI 0) hx hb dX3_close_44 (by decide) ?_
      refine va_put (D := G.1) (ci := 2) (v := .int (nI 0)) (ty := .int) (C := RX3) (T := TX3) (N := 6) hx hb hts in_X3 tyX3 tyX3_ok nmX3 hown hK hP hD hS 0 rfl rfl 3 (by decide) (hts _ q388) (fun _ h9 => h9) rfl (tyX3_ok 3 (by decide)) rfl rfl (Nat.le_of_ble_eq_true rfl) dX3_close_45 ?_
      clear hP hD hS; intro H locs hP hD hS
      replace hP : va_P G.1 vwCl [cl_O am 2 (md_fs aT aM aO sz0 (nI 0) (nI d)), cl_I G aM 16384 ms, cl_I G aO 32 ((omN mo (dgF d mf fed) d))] H := hP
      replace hD : va_D A [cl_O am 2 (md_fs aT aM aO sz0 (nI 0) (nI d)), cl_I G aM 16384 ms, cl_I G aO 32 ((omN mo (dgF d mf fed) d))] := hD
      refine lv_aload_n hx hb dX3_close_48 rfl (lv_at hl 2 rfl) ?_
      refine va_get (D := G.1) (ci := 2) (v := .int (nI d)) (C := RX3) (T := TX3) (N := 6) hx hb hts in_X3 hown hK hP 0 rfl rfl 4 (by decide) (hts _ q389) (fun _ h9 => h9) rfl dX3_close_49 ?_
      exact wd_iret hx hb hr hlk () rfl hP hD hS dX3_close_52
    | succ n9 ih =>
      intro i hi g hg H locs hP hD hS ls hl
      refine lv_iload_n hx hb dX3_close_7 rfl (lv_at hl 0 rfl) ?_
      refine lv_aload_n hx hb dX3_close_8 rfl (lv_at hl 2 rfl) ?_
      refine va_get (D := G.1) (ci := 2) (v := .int (nI d)) (C := RX3) (T := TX3) (N := 6) hx hb hts in_X3 hown hK hP 0 rfl rfl 4 (by decide) (hts _ q389) (fun _ h9 => h9) rfl dX3_close_9 ?_
      refine wd_ge (tgt := 43) hx hb dX3_close_12 (by decide) (by omega) (by omega) (fun c_1 => absurd c_1 (by omega)) (fun c_1 => ?_)
      refine lv_aload_n hx hb dX3_close_15 rfl (lv_at hl 2 rfl) ?_
      refine va_get (D := G.1) (ci := 2) (v := .ref aO) (C := RX3) (T := TX3) (N := 6) hx hb hts in_X3 hown hK hP 0 rfl rfl 5 (by decide) (hts _ q390) (fun _ h9 => h9) rfl dX3_close_16 ?_
      refine lv_iload_n hx hb dX3_close_19 rfl (lv_at hl 0 rfl) ?_
      refine lv_aload_n hx hb dX3_close_20 rfl (lv_at hl 1 rfl) ?_
      refine lv_iload_n hx hb dX3_close_21 rfl (lv_at hl 0 rfl) ?_
      refine lv_iconst (v := nI 4) hx hb dX3_close_22 (by decide) ?_
      refine wd_idivN hx hb dX3_close_23 (by omega) (by omega) (by omega) ?_
      refine wd_ild hx hb hK hP 3 rfl (i / 4) (by omega) (by omega) dX3_close_24 ?_
      refine lv_bipush (v := nI 8) hx hb dX3_close_25 (by decide) ?_
      refine lv_iload_n hx hb dX3_close_27 rfl (lv_at hl 0 rfl) ?_
      refine lv_iconst (v := nI 4) hx hb dX3_close_28 (by decide) ?_
      refine wd_iremN hx hb dX3_close_29 (by omega) (by omega) (by omega) ?_
      refine wd_imulN (x := 8) (y := i % 4) hx hb dX3_close_30 ?_
      refine lv_iushr hx hb dX3_close_31 rfl ?_
      refine lv_sipush (v := nI 255) hx hb dX3_close_32 (by decide) ?_
      refine lv_iand hx hb dX3_close_35 ?_
      refine wd_ist hx hb hK hP hD hS 2 rfl i (by omega) (by omega) dX3_close_36 ?_
      clear hP hD hS; intro f_161 ef_161 H locs hP hD hS
      replace hP : va_P G.1 vwCl [cl_O am 2 (md_fs aT aM aO sz0 (nI fed) (nI d)), cl_I G aM 16384 ms, cl_I G aO 32 f_161, cl_I G rs 8 ((dgF d mf fed))] H := hP
      replace hD : va_D A [cl_O am 2 (md_fs aT aM aO sz0 (nI fed) (nI d)), cl_I G aM 16384 ms, cl_I G aO 32 f_161, cl_I G rs 8 ((dgF d mf fed))] := hD
      refine lv_iinc (v := nI (i + 1)) (lv' := [(2, .int (nI (i + 1))), (1, .ref rs), (0, .ref am)]) hx hb dX3_close_37 hl (k := 0) rfl (wd_inc _ 1) (by decide) rfl ?_
      clear hl; intro ls hl
      refine lv_goto (tgt := 7) hx hb dX3_close_40 (by decide) ?_
      exact ih (i + 1) (by omega) f_161 (fun j => by rw [ef_161]; exact omN_up hg j) _ _ hP hD hS ls (lv_sub hl [0, 1, 2] rfl)
  exact loop d 0 (by omega) mo (fun j => (if_neg (by omega)).symm) _ _ hP hD hS ls (lv_sub hl [0, 1, 2] rfl)
set_option maxHeartbeats 4000000 in
set_option maxRecDepth 100000 in
/-- new BlakeShortDeskModel() -/
theorem met_X3_init (l : Launch) (G : wd_G) (am : Nat) (sz : Nat) : Met l yX3_init (ws_ yX3_init cX3_init 1 none) ({ frames := 1, cells := 3, slots := 17440, locals := 20 }) (va_Pc [.ref am] (wd_Pre G [cl_O am 2 [.null, .int (nI 0), .null, .int (nI 0), .int (nI 0), .null]] sz)) (wd_Qv G (fun _ : Nat × Nat × Nat => True) (fun u => [cl_O am 2 (md_fs u.1 u.2.1 u.2.2 (nI 0) (nI 0) (nI 32)), cl_I G u.1 1024 (fun _ => 0), cl_I G u.2.1 16384 (fun _ => 0), cl_I G u.2.2 32 (fun _ => 0)]) (va_A [cl_O am 2 [.null, .int (nI 0), .null, .int (nI 0), .int (nI 0), .null]] sz)) 3 17440 (va_A [cl_O am 2 [.null, .int (nI 0), .null, .int (nI 0), .int (nI 0), .null]] sz) := by
  refine wd_ofW (Qc := fun A => wd_Qv G (fun _ : Nat × Nat × Nat => True) (fun u => [cl_O am 2 (md_fs u.1 u.2.1 u.2.2 (nI 0) (nI 0) (nI 32)), cl_I G u.1 1024 (fun _ => 0), cl_I G u.2.1 16384 (fun _ => 0), cl_I G u.2.2 32 (fun _ => 0)]) A) (by decide) (Nat.le_of_ble_eq_true rfl) ?_
  intro p e s m below meth c A ls hx hb hr hml hown hlk hnm hts hK hZ hP hD hS hA hl
  replace hown : s.vm.findClass RX3 = some m.cls := hown
  replace hl : lv_has ls 1 [(0, .ref am)] := hl
  replace hnm : meth.name = "<init>" := hnm
  refine lv_aload_n hx hb dX3_init_0 rfl (lv_at hl 0 rfl) ?_
  refine W.objInit hx hb hown (hts _ q384) (hts _ q39) (hts _ q40) rfl (by rw [hml]; exact hl.1) rfl dX3_init_1 (Nat.le_of_ble_eq_true rfl) (Nat.le_of_ble_eq_true rfl) ?_
  refine W.eq (g2 := F0 m 4 ls []) rfl ?_
  refine lv_aload_n hx hb dX3_init_4 rfl (lv_at hl 0 rfl) ?_
  refine lv_sipush (v := nI 1024) hx hb dX3_init_5 (by decide) ?_
  refine wd_newI hx hb (hts _ q119) hK hP hD hS hA (by decide) (Nat.le_of_ble_eq_true rfl) (Nat.le_of_ble_eq_true rfl) dX3_init_8 ?_
  clear hP hD hS; intro q_162 H hP hD hS
  replace hP : va_P G.1 vwCl [cl_O am 2 [.null, .int (nI 0), .null, .int (nI 0), .int (nI 0), .null], cl_I G q_162 1024 (fun _ => 0)] H := hP
  replace hD : va_D A [cl_O am 2 [.null, .int (nI 0), .null, .int (nI 0), .int (nI 0), .null], cl_I G q_162 1024 (fun _ => 0)] := hD
  refine va_putF (D := G.1) (ci := 2) (v := .ref q_162) (ty := .array .int) (C := RX3) (T := TX3) (N := 6) hx hb hts in_X3 tyX3 tyX3_ok nmX3 hown hK hP hD hS 0 rfl rfl 0 (by decide) (hts _ q385) (fun _ h9 => h9) rfl hnm rfl (tyX3_ok 0 (by decide)) rfl rfl (Nat.le_of_ble_eq_true rfl) dX3_init_10 ?_
  clear hP hD hS; intro H locs hP hD hS
  replace hP : va_P G.1 vwCl [cl_O am 2 [.ref q_162, .int (nI 0), .null, .int (nI 0), .int (nI 0), .null], cl_I G q_162 1024 (fun _ => 0)] H := hP
  replace hD : va_D A [cl_O am 2 [.ref q_162, .int (nI 0), .null, .int (nI 0), .int (nI 0), .null], cl_I G q_162 1024 (fun _ => 0)] := hD
  refine lv_aload_n hx hb dX3_init_13 rfl (lv_at hl 0 rfl) ?_
  refine lv_sipush (v := nI 16384) hx hb dX3_init_14 (by decide) ?_
  refine wd_newI hx hb (hts _ q119) hK hP hD hS hA (by decide) (Nat.le_of_ble_eq_true rfl) (Nat.le_of_ble_eq_true rfl) dX3_init_17 ?_
  clear hP hD hS; intro q_163 H hP hD hS
  replace hP : va_P G.1 vwCl [cl_O am 2 [.ref q_162, .int (nI 0), .null, .int (nI 0), .int (nI 0), .null], cl_I G q_162 1024 (fun _ => 0), cl_I G q_163 16384 (fun _ => 0)] H := hP
  replace hD : va_D A [cl_O am 2 [.ref q_162, .int (nI 0), .null, .int (nI 0), .int (nI 0), .null], cl_I G q_162 1024 (fun _ => 0), cl_I G q_163 16384 (fun _ => 0)] := hD
  refine va_putF (D := G.1) (ci := 2) (v := .ref q_163) (ty := .array .int) (C := RX3) (T := TX3) (N := 6) hx hb hts in_X3 tyX3 tyX3_ok nmX3 hown hK hP hD hS 0 rfl rfl 2 (by decide) (hts _ q387) (fun _ h9 => h9) rfl hnm rfl (tyX3_ok 2 (by decide)) rfl rfl (Nat.le_of_ble_eq_true rfl) dX3_init_19 ?_
  clear hP hD hS; intro H locs hP hD hS
  replace hP : va_P G.1 vwCl [cl_O am 2 [.ref q_162, .int (nI 0), .ref q_163, .int (nI 0), .int (nI 0), .null], cl_I G q_162 1024 (fun _ => 0), cl_I G q_163 16384 (fun _ => 0)] H := hP
  replace hD : va_D A [cl_O am 2 [.ref q_162, .int (nI 0), .ref q_163, .int (nI 0), .int (nI 0), .null], cl_I G q_162 1024 (fun _ => 0), cl_I G q_163 16384 (fun _ => 0)] := hD
  refine lv_aload_n hx hb dX3_init_22 rfl (lv_at hl 0 rfl) ?_
  refine lv_bipush (v := nI 32) hx hb dX3_init_23 (by decide) ?_
  refine va_put (D := G.1) (ci := 2) (v := .int (nI 32)) (ty := .int) (C := RX3) (T := TX3) (N := 6) hx hb hts in_X3 tyX3 tyX3_ok nmX3 hown hK hP hD hS 0 rfl rfl 4 (by decide) (hts _ q389) (fun _ h9 => h9) rfl (tyX3_ok 4 (by decide)) rfl rfl (Nat.le_of_ble_eq_true rfl) dX3_init_25 ?_
  clear hP hD hS; intro H locs hP hD hS
  replace hP : va_P G.1 vwCl [cl_O am 2 [.ref q_162, .int (nI 0), .ref q_163, .int (nI 0), .int (nI 32), .null], cl_I G q_162 1024 (fun _ => 0), cl_I G q_163 16384 (fun _ => 0)] H := hP
  replace hD : va_D A [cl_O am 2 [.ref q_162, .int (nI 0), .ref q_163, .int (nI 0), .int (nI 32), .null], cl_I G q_162 1024 (fun _ => 0), cl_I G q_163 16384 (fun _ => 0)] := hD
  refine lv_aload_n hx hb dX3_init_28 rfl (lv_at hl 0 rfl) ?_
  refine lv_bipush (v := nI 32) hx hb dX3_init_29 (by decide) ?_
  refine wd_newI hx hb (hts _ q119) hK hP hD hS hA (by decide) (Nat.le_of_ble_eq_true rfl) (Nat.le_of_ble_eq_true rfl) dX3_init_31 ?_
  clear hP hD hS; intro q_164 H hP hD hS
  replace hP : va_P G.1 vwCl [cl_O am 2 [.ref q_162, .int (nI 0), .ref q_163, .int (nI 0), .int (nI 32), .null], cl_I G q_162 1024 (fun _ => 0), cl_I G q_163 16384 (fun _ => 0), cl_I G q_164 32 (fun _ => 0)] H := hP
  replace hD : va_D A [cl_O am 2 [.ref q_162, .int (nI 0), .ref q_163, .int (nI 0), .int (nI 32), .null], cl_I G q_162 1024 (fun _ => 0), cl_I G q_163 16384 (fun _ => 0), cl_I G q_164 32 (fun _ => 0)] := hD
  refine va_putF (D := G.1) (ci := 2) (v := .ref q_164) (ty := .array .int) (C := RX3) (T := TX3) (N := 6) hx hb hts in_X3 tyX3 tyX3_ok nmX3 hown hK hP hD hS 0 rfl rfl 5 (by decide) (hts _ q390) (fun _ h9 => h9) rfl hnm rfl (tyX3_ok 5 (by decide)) rfl rfl (Nat.le_of_ble_eq_true rfl) dX3_init_33 ?_
  clear hP hD hS; intro H locs hP hD hS
  replace hP : va_P G.1 vwCl [cl_O am 2 (md_fs q_162 q_163 q_164 (nI 0) (nI 0) (nI 32)), cl_I G q_162 1024 (fun _ => 0), cl_I G q_163 16384 (fun _ => 0), cl_I G q_164 32 (fun _ => 0)] H := hP
  replace hD : va_D A [cl_O am 2 (md_fs q_162 q_163 q_164 (nI 0) (nI 0) (nI 32)), cl_I G q_162 1024 (fun _ => 0), cl_I G q_163 16384 (fun _ => 0), cl_I G q_164 32 (fun _ => 0)] := hD
  exact wd_vret hx hb hr hlk (q_162, q_163, q_164) trivial hP hD hS dX3_init_36
end
section
/-! THE CLAIM OUT OF ONE WALK OF THE LAW'S BODY. Your part is whole_start (and what it stands on); all else here is the same for every law, but numbers. -/
def R_law : String := "BlakeShortDeskLaw"
def lw_P (b : Addr) (xs : List Int32) (args : Array Value) (s : State) : Prop := args = #[.ref b] ∧ s.IntsAt b xs ∧ xs.length ≤ 384 ∧ (Jvm.Cond.and given_1 narrow_1).before args s = true
def lw_Q (_ : Array Value) (s : State) (o : Outcome) (t : State) : Prop := o = .returned (some (.int 1)) ∧ Framed s o t [] 600128 7301098
def lw_Z (below : List Frame) (a : Array Value) (s : State) : State → Prop := fun t => ∃ o, t.status = .running ∧ Ended t below o ∧ lw_Q a s o t
/-- the law's own end, with 1 on the stack, nothing written that was there before, its room as the claim has it -/
theorem lw_ret {p : Program} {l : Launch} {e : Env} {s : State} {m : MethodId} {below : List Frame} {meth : Method} {c : Code} {b : Nat} (hx : p.tables.exec = Jvm.exec) (hb : c.code = code) (hr : meth.sig.returnType = ret) (hlocks : meth.locks = false) {pc : Nat} {H : Heap} {ls : Array Slot} (hdg : decode code pc = .ok (.ireturn, 1)) : W p l e room_1 s m #[Value.ref b] below meth c H [] 600128 7301098 (lw_Z below #[Value.ref b] s) (F0 m pc ls [.int 1]) := by
  intro T hT X
  obtain ⟨fs, hret, hrun, hended, hW, hframe⟩ := X.leave (v := some (.int 1)) (hlocks := hlocks) (fun h => by rw [hr] at h; cases h)
  have hmeth' : T.vm.method? m = some meth := X.method'
  refine ⟨T.setFrames fs, ?_, .returned (some (.int 1)), hrun, hended, rfl, ⟨_, rfl⟩, hW, hframe⟩
  jvm_step X.here [X.here.top, hx, hb, hdg, hmeth', hr, ret, narrow_b1]
  (try refine ⟨rfl, ?_⟩); (try refine ⟨rfl, ?_⟩)
  first | (intro acts; rw [hret _ acts rfl rfl rfl]) | rw [hret _ _ rfl rfl rfl]
  exact Steps.refl _
/-- what holds at the law's entry: the machine, the code, the tables' words (any of lw_tbl by 'hts w (by decide +kernel)'), the script of L ints xs at the cell b, what the Statement gives of the start (any of its parts by flat_of_before) -/
def lw_At (p : Program) (s : State) (m : MethodId) (meth : Method) (c : Code) (b L : Nat) (xs : Nat → Int32) : Prop :=
  p.tables.exec = Jvm.exec ∧ c.code = code ∧ meth.sig.returnType = ret ∧ c.maxLocals = 4 ∧ s.vm.findClass R_law = some m.cls ∧ (∀ w ∈ lw_tbl, w.before #[Value.ref b] s = true) ∧ va_X b L xs s s.heap ∧ b < s.heap.size ∧ meth.locks = false ∧ (Jvm.Cond.and given_1 narrow_1).before #[Value.ref b] s = true
end
section
/-! THE START: classes, statics; the law's plain side -/
section WDL
variable {p : Program} {l : Launch} {e : Env} {R : Room} {s : State} {m : MethodId} {args : Array Value} {below : List Frame} {meth : Method} {c : Code} {H : Heap} {locs : List Loc} {cells slots : Nat} {Q : State → Prop}
variable {cc : ByteArray} {pc : Nat} {ls : Array Slot} {rest : List Value} {A : Nat → Prop} {H0 : Heap} {b L : Nat} {xs : Nat → Int32}
theorem wd_sld (hexec : p.tables.exec = Jvm.exec) (hb : c.code = cc) (hX : va_X b L xs s H0) (hbl : b < H0.size) (hbA : ¬ A b) (hS : va_S A H0 H locs) (k : Nat) (hk : k < L) (hL : L < 2147483648) (hdg : decode cc pc = .ok (.iaload, 1)) (kk : W p l e R s m args below meth c H locs cells slots Q (F0 m (pc + 1) ls (.int (xs k) :: rest))) : W p l e R s m args below meth c H locs cells slots Q (F0 m pc ls (.int (nI k) :: .ref b :: rest)) := by
  refine va_sld hexec hb hX hbl hbA hS (vp_in_nI hk hL) hdg ?_
  rw [nI_clamp (Nat.lt_trans hk hL)]
  exact kk
theorem wd_slen (hexec : p.tables.exec = Jvm.exec) (hb : c.code = cc) (hX : va_X b L xs s H0) (hbl : b < H0.size) (hbA : ¬ A b) (hS : va_S A H0 H locs) (hdg : decode cc pc = .ok (.arraylength, 1)) (kk : W p l e R s m args below meth c H locs cells slots Q (F0 m (pc + 1) ls (.int (nI L) :: rest))) : W p l e R s m args below meth c H locs cells slots Q (F0 m pc ls (.ref b :: rest)) := va_slen hexec hb hX hbl hbA hS hdg kk
end WDL
/-- the classes, known at the start -/
theorem start_K {s : State} {b : Addr} (ht0 : ∀ w ∈ lw_tbl, w.before #[Value.ref b] s = true) : ∃ G : wd_G, wd_K G s := by
  obtain ⟨c0, i0, hk0⟩ := u_known (C := RX0) (T := TX0) (N := 5) (n := 5) ht0 (fun w h => lw_all_tbl (in_X0 w h)) (ht0 _ (lw_all_tbl q34))
  obtain ⟨c1, i1, hk1⟩ := u_known (C := RX1) (T := TX1) (N := 21) (n := 21) ht0 (fun w h => lw_all_tbl (in_X1 w h)) (ht0 _ (lw_all_tbl q42))
  obtain ⟨c2, i2, hk2⟩ := u_known (C := RX3) (T := TX3) (N := 6) (n := 6) ht0 (fun w h => lw_all_tbl (in_X3 w h)) (ht0 _ (lw_all_tbl q380))
  obtain ⟨cB, kB, pB, b1, b2, b3⟩ := Cond.arrayClass_spec (ht0 _ (lw_all_tbl q118))
  obtain ⟨cI, kI, pI, j1, j2, j3⟩ := Cond.arrayClass_spec (ht0 _ (lw_all_tbl q119))
  refine ⟨((fun k => if k = 0 then c0 else if k = 1 then c1 else c2, fun k => if k = 0 then i0 else if k = 1 then i1 else i2), cB, cI), fun k q hq => ?_, fun k q hq => ?_⟩
  · match k, hq with
    | 0, hq => cases hq; exact hk0
    | 1, hq => cases hq; exact hk1
    | 2, hq => cases hq; exact hk2
    | k + 3, hq => simp [vwCl] at hq
  · match k, hq with
    | 0, hq => cases hq; exact ⟨fun n z => ⟨fun k h => (by cases h), kB, b2, pB, b3⟩, b1⟩
    | 1, hq => cases hq; exact ⟨fun n z => ⟨fun k h => (by cases h), kI, j2, pI, j3⟩, j1⟩
    | k + 2, hq => simp at hq
/-- a row of numbers, out of leaves that stand together -/
theorem st_row {args : Array Value} {s : State} {A : Nat → Prop} {tm : Term} {ty : FieldType} {N : Nat} {f : Nat → Int32} {L : List Cond} (hs : ∀ c ∈ L, c.before args s = true) (p : Nat) (hN : N < 2 ^ 31) (h1 : L[p]? = some (Cond.arrayOf tm ty)) (h2 : L[p + 2]? = some (Cond.eq (.length tm) (.int (Int32.ofNat N)))) (h3 : (List.range N).map (fun j => Cond.eq (.elem tm (.int (Int32.ofNat j))) (.int (f j))) = (L.drop (p + 3)).take N) (hA : ∀ a : Nat, a < s.heap.size → ¬ A a) : ∃ t : Nat, tm.eval args s none [] s = some (.ref t) ∧ va_T ty t N (fun j => .int (f j)) A s s.heap :=
  va_Tof hN (hs _ (List.mem_of_getElem? h1)) (va_eqt (hs _ (List.mem_of_getElem? h2))) (fun j hj => va_eqt (hs _ (va_run h3 j hj))) hA
theorem st_tab {args : Array Value} {s : State} {A : Nat → Prop} {tm : Term} {ty : FieldType} {N M : Nat} {f : Nat → Nat → Int32} {L : List Cond} (hs : ∀ c ∈ L, c.before args s = true) (p : Nat) (hN : N < 2 ^ 31) (hM : M < 2 ^ 31) (h1 : L[p]? = some (Cond.arrayOf tm (.array ty))) (h2 : L[p + 2]? = some (Cond.eq (.length tm) (.int (Int32.ofNat N)))) (pl : List Nat) (h3 : ∀ j, j < N → L[pl.getD j 0]? = some (Cond.arrayOf (.elem tm (.int (Int32.ofNat j))) ty) ∧ L[pl.getD j 0 + 2]? = some (Cond.eq (.length (.elem tm (.int (Int32.ofNat j)))) (.int (Int32.ofNat M))) ∧ (List.range M).map (fun k => Cond.eq (.elem (.elem tm (.int (Int32.ofNat j))) (.int (Int32.ofNat k))) (.int (f j k))) = (L.drop (pl.getD j 0 + 3)).take M) (hA : ∀ a : Nat, a < s.heap.size → ¬ A a) : ∃ (t : Nat) (r : Nat → Nat), tm.eval args s none [] s = some (.ref t) ∧ va_T (.array ty) t N (fun j => .ref (r j)) A s s.heap ∧ ∀ j, j < N → va_T ty (r j) M (fun k => .int (f j k)) A s s.heap := by
  have h4 : ∀ j : Nat, ∃ r : Nat, j < N → (Term.elem tm (.int (Int32.ofNat j))).eval args s none [] s = some (.ref r) ∧ va_T ty r M (fun k => .int (f j k)) A s s.heap := by
    intro j
    by_cases hj : j < N
    · obtain ⟨g1, g2, g3⟩ := h3 j hj
      obtain ⟨t, q1, q2⟩ := st_row hs (pl.getD j 0) hM g1 g2 g3 hA
      exact ⟨t, fun _ => ⟨q1, q2⟩⟩
    · exact ⟨0, fun q => absurd q hj⟩
  obtain ⟨r, hr⟩ := Classical.axiomOfChoice h4
  obtain ⟨t, q1, q2⟩ := va_Tof (f := fun j => .ref (r j)) hN (hs _ (List.mem_of_getElem? h1)) (va_eqt (hs _ (List.mem_of_getElem? h2))) (fun j hj => (hr j hj).1) hA
  exact ⟨t, r, q1, q2, fun j hj => (hr j hj).2⟩
def lw_fl : List Cond := flatC (Jvm.Cond.and given_1 narrow_1)
set_option maxRecDepth 100000 in
theorem fl_IV : lw_fl[12]? = some (Cond.arrayOf (.static "Blake2sDigest" "blake2s_IV" "[I") .int) ∧ lw_fl[12 + 2]? = some (Cond.eq (.length (.static "Blake2sDigest" "blake2s_IV" "[I")) (.int (Int32.ofNat 8))) ∧ (List.range 8).map (fun j => Cond.eq (.elem (.static "Blake2sDigest" "blake2s_IV" "[I") (.int (Int32.ofNat j))) (.int (ivF j))) = (lw_fl.drop (12 + 3)).take 8 := by decide +kernel
set_option maxRecDepth 100000 in
theorem fl_SG : lw_fl[24]? = some (Cond.arrayOf (.static "Blake2sDigest" "blake2s_sigma" "[[B") (.array .byte)) ∧ lw_fl[24 + 2]? = some (Cond.eq (.length (.static "Blake2sDigest" "blake2s_sigma" "[[B")) (.int (Int32.ofNat 10))) := by decide +kernel
set_option maxRecDepth 100000 in
theorem fr_SG : ∀ j, j < 10 → lw_fl[([28, 48, 69, 91, 114, 138, 163, 189, 216, 244] : List Nat).getD j 0]? = some (Cond.arrayOf (.elem (.static "Blake2sDigest" "blake2s_sigma" "[[B") (.int (Int32.ofNat j))) .byte) ∧ lw_fl[([28, 48, 69, 91, 114, 138, 163, 189, 216, 244] : List Nat).getD j 0 + 2]? = some (Cond.eq (.length (.elem (.static "Blake2sDigest" "blake2s_sigma" "[[B") (.int (Int32.ofNat j)))) (.int (Int32.ofNat 16))) ∧ (List.range 16).map (fun k => Cond.eq (.elem (.elem (.static "Blake2sDigest" "blake2s_sigma" "[[B") (.int (Int32.ofNat j))) (.int (Int32.ofNat k))) (.int (nI (sgF j k)))) = (lw_fl.drop (([28, 48, 69, 91, 114, 138, 163, 189, 216, 244] : List Nat).getD j 0 + 3)).take 16 := by decide +kernel
set_option maxRecDepth 100000 in
theorem fl_FI : lw_fl[281]? = some (Cond.arrayOf (.static "BlakeShortDeskModel" "FIRST" "[I") .int) ∧ lw_fl[281 + 2]? = some (Cond.eq (.length (.static "BlakeShortDeskModel" "FIRST" "[I")) (.int (Int32.ofNat 8))) ∧ (List.range 8).map (fun j => Cond.eq (.elem (.static "BlakeShortDeskModel" "FIRST" "[I") (.int (Int32.ofNat j))) (.int (ivF j))) = (lw_fl.drop (281 + 3)).take 8 := by decide +kernel
set_option maxRecDepth 100000 in
theorem fl_OR : lw_fl[293]? = some (Cond.arrayOf (.static "BlakeShortDeskModel" "ORDERS" "[[I") (.array .int)) ∧ lw_fl[293 + 2]? = some (Cond.eq (.length (.static "BlakeShortDeskModel" "ORDERS" "[[I")) (.int (Int32.ofNat 10))) := by decide +kernel
set_option maxRecDepth 100000 in
theorem fr_OR : ∀ j, j < 10 → lw_fl[([297, 317, 338, 360, 383, 407, 432, 458, 485, 513] : List Nat).getD j 0]? = some (Cond.arrayOf (.elem (.static "BlakeShortDeskModel" "ORDERS" "[[I") (.int (Int32.ofNat j))) .int) ∧ lw_fl[([297, 317, 338, 360, 383, 407, 432, 458, 485, 513] : List Nat).getD j 0 + 2]? = some (Cond.eq (.length (.elem (.static "BlakeShortDeskModel" "ORDERS" "[[I") (.int (Int32.ofNat j)))) (.int (Int32.ofNat 16))) ∧ (List.range 16).map (fun k => Cond.eq (.elem (.elem (.static "BlakeShortDeskModel" "ORDERS" "[[I") (.int (Int32.ofNat j))) (.int (Int32.ofNat k))) (.int (nI (sgF j k)))) = (lw_fl.drop (([297, 317, 338, 360, 383, 407, 432, 458, 485, 513] : List Nat).getD j 0 + 3)).take 16 := by decide +kernel
set_option maxRecDepth 100000 in
theorem fl_WO : lw_fl[542]? = some (Cond.arrayOf (.static "BlakeShortDeskModel" "WORDS" "[[I") (.array .int)) ∧ lw_fl[542 + 2]? = some (Cond.eq (.length (.static "BlakeShortDeskModel" "WORDS" "[[I")) (.int (Int32.ofNat 8))) := by decide +kernel
set_option maxRecDepth 100000 in
theorem fr_WO : ∀ j, j < 8 → lw_fl[([546, 554, 563, 573, 584, 596, 609, 623] : List Nat).getD j 0]? = some (Cond.arrayOf (.elem (.static "BlakeShortDeskModel" "WORDS" "[[I") (.int (Int32.ofNat j))) .int) ∧ lw_fl[([546, 554, 563, 573, 584, 596, 609, 623] : List Nat).getD j 0 + 2]? = some (Cond.eq (.length (.elem (.static "BlakeShortDeskModel" "WORDS" "[[I") (.int (Int32.ofNat j)))) (.int (Int32.ofNat 4))) ∧ (List.range 4).map (fun k => Cond.eq (.elem (.elem (.static "BlakeShortDeskModel" "WORDS" "[[I") (.int (Int32.ofNat j))) (.int (Int32.ofNat k))) (.int (nI (wdF j k)))) = (lw_fl.drop (([546, 554, 563, 573, 584, 596, 609, 623] : List Nat).getD j 0 + 3)).take 4 := by decide +kernel
set_option maxRecDepth 100000 in
theorem fl_SZ : lw_fl[273]? = some (Cond.arrayOf (.static "BlakeShortDeskModel" "SIZES" "[I") .int) ∧ lw_fl[273 + 2]? = some (Cond.eq (.length (.static "BlakeShortDeskModel" "SIZES" "[I")) (.int (Int32.ofNat 4))) ∧ (List.range 4).map (fun j => Cond.eq (.elem (.static "BlakeShortDeskModel" "SIZES" "[I") (.int (Int32.ofNat j))) (.int (nI (szF j)))) = (lw_fl.drop (273 + 3)).take 4 := by decide +kernel
set_option maxRecDepth 100000 in
theorem fl_AN : lw_fl[5]? = some (Cond.exactly (.static "CryptoServicePurpose" "ANY" "LCryptoServicePurpose;") "CryptoServicePurpose") := by decide +kernel
set_option maxHeartbeats 4000000 in
theorem start_Z {s : State} {b : Addr} {A : Nat → Prop} (ht0 : ∀ w ∈ lw_tbl, w.before #[Value.ref b] s = true) (hgv : (Jvm.Cond.and given_1 narrow_1).before #[Value.ref b] s = true) (hA : ∀ a : Nat, a < s.heap.size → ¬ A a) : ST A s s.heap := by
  have hs : ∀ c ∈ lw_fl, c.before #[Value.ref b] s = true := flat_of_before _ hgv
  have iB := ht0 _ (lw_all_tbl q16)
  have iM := ht0 _ (lw_all_tbl q25)
  have iC := ht0 _ (lw_all_tbl q18)
  obtain ⟨t1, a1, b1⟩ := st_row (f := ivF) hs 12 (by decide) fl_IV.1 fl_IV.2.1 fl_IV.2.2 hA
  obtain ⟨t2, r2, a2, b2, d2⟩ := st_tab (f := fun r k => nI (sgF r k)) hs 24 (by decide) (by decide) fl_SG.1 fl_SG.2 _ fr_SG hA
  obtain ⟨t3, a3, b3⟩ := st_row (f := ivF) hs 281 (by decide) fl_FI.1 fl_FI.2.1 fl_FI.2.2 hA
  obtain ⟨t4, r4, a4, b4, d4⟩ := st_tab (f := fun r k => nI (sgF r k)) hs 293 (by decide) (by decide) fl_OR.1 fl_OR.2 _ fr_OR hA
  obtain ⟨t5, r5, a5, b5, d5⟩ := st_tab (f := fun r k => nI (wdF r k)) hs 542 (by decide) (by decide) fl_WO.1 fl_WO.2 _ fr_WO hA
  obtain ⟨t6, a6, b6⟩ := st_row (f := fun j => nI (szF j)) hs 273 (by decide) fl_SZ.1 fl_SZ.2.1 fl_SZ.2.2 hA
  obtain ⟨t7, c7, cA7, kA7, a7, -⟩ := Cond.exactly_spec (args := #[Value.ref b]) (first := s) (o := none) (s := s) (idx := []) (hs _ (List.mem_of_getElem? fl_AN))
  exact ⟨⟨t1, va_Zref (ht0 _ q129) iB a1 hA, b1⟩, ⟨t2, r2, va_Zref (ht0 _ q278) iB a2 hA, b2, d2⟩, ⟨t3, va_Zref (ht0 _ q444) iM a3 hA, b3⟩, ⟨t4, r4, va_Zref (ht0 _ q455) iM a4 hA, b4, d4⟩, ⟨t5, r5, va_Zref (ht0 _ q457) iM a5 hA, b5, d5⟩, ⟨t6, va_Zref (ht0 _ q426) iM a6 hA, b6⟩, ⟨t7, va_Zref (ht0 _ q47) iC a7 hA⟩,
    va_Fw.of (ht0 _ q247) (ht0 _ q246) (ht0 _ q252) (ht0 _ q250) (ht0 _ q248), va_Fw.of (ht0 _ q302) (ht0 _ q301) (ht0 _ q306) (ht0 _ q304) (ht0 _ q248), va_Fw.of (ht0 _ q315) (ht0 _ q314) (ht0 _ q319) (ht0 _ q317) (ht0 _ q248), va_Fw.of (ht0 _ q371) (ht0 _ q370) (ht0 _ q374) (ht0 _ q373) (ht0 _ q248)⟩
/-! the law's plain side -/
def lawR (d k fed n k2 : Nat) (mf tx fo bf ch mt ms mo : Nat → Int32) : Prop := k ≤ 1024 ∧ fed ≤ 16384 ∧ dOK d ∧ bkOK d mf fed n k2 bf ch ∧ sb_Fit tx ∧ (∀ j, mt j = tx j &&& nI 255) ∧ (∀ j, j < fed → ms j = mf j &&& nI 255) ∧ ∀ j, mo j = fo j &&& nI 255
theorem law_0 : lawR 32 0 0 0 0 (fun _ => 0) (fun _ => 0) (fun _ => 0) (fun _ => 0) (ivH 32) (fun _ => 0) (fun _ => 0) (fun _ => 0) :=
  ⟨by decide, by decide, Or.inl rfl, bk_0 _ _, sb_fit0, fun _ => (by decide +kernel : (0 : Int32) = 0 &&& nI 255), fun j h => absurd h (Nat.not_lt_zero j), fun _ => (by decide +kernel : (0 : Int32) = 0 &&& nI 255)⟩
theorem szF_ok (x : Nat) : dOK (szF (x % 4)) := by
  have h : x % 4 = 0 ∨ x % 4 = 1 ∨ x % 4 = 2 ∨ x % 4 = 3 := by omega
  rcases h with h | h | h | h <;> rw [h]
  · exact Or.inl rfl
  · exact Or.inr (Or.inl rfl)
  · exact Or.inr (Or.inr (Or.inl rfl))
  · exact Or.inr (Or.inr (Or.inr rfl))
theorem lt_s6 {a b : Nat} (h : b < a + 6) (ha : a < 1073741824) (hb : b < 1073741824) : nI b - nI 6 < nI a := by
  rw [Int32.lt_iff_toInt_lt, pk_sub_toInt hb (by decide), nI_toInt (by omega)]
  omega
theorem nlt_s6 {a b : Nat} (h : a + 6 ≤ b) (ha : a < 1073741824) (hb : b < 1073741824) : ¬ nI b - nI 6 < nI a := by
  rw [Int32.lt_iff_toInt_lt, pk_sub_toInt hb (by decide), nI_toInt (by omega)]
  omega
theorem law_put {k k1 k2 : Nat} {w1 w2 w3 w4 r1 r2 : Int32} {tx tx1 mt mt1 : Nat → Int32} (hk : k ≤ 1024) (hfit : sb_Fit tx) (ht : ∀ j, mt j = tx j &&& nI 255) (h1 : if k ≤ 1008 then r1 = nI 1 ∧ tx1 = pw4 tx k w1 w2 w3 w4 ∧ k1 = k + 16 else r1 = nI 0 ∧ tx1 = tx ∧ k1 = k) (h2 : if k ≤ 1008 then r2 = nI 1 ∧ mt1 = pm4 mt k w1 w2 w3 w4 ∧ k2 = k + 16 else r2 = nI 0 ∧ mt1 = mt ∧ k2 = k) : r1 = r2 ∧ k2 = k1 ∧ k1 ≤ 1024 ∧ sb_Fit tx1 ∧ ∀ j, mt1 j = tx1 j &&& nI 255 := by
  by_cases h : k ≤ 1008
  · rw [if_pos h] at h1 h2
    obtain ⟨a1, a2, a3⟩ := h1
    obtain ⟨b1, b2, b3⟩ := h2
    refine ⟨a1.trans b1.symm, b3.trans a3.symm, by omega, by rw [a2]; exact pw4_fit hfit k w1 w2 w3 w4, fun j => ?_⟩
    rw [a2, b2]
    exact pw4_pm4 ht k w1 w2 w3 w4 j
  · rw [if_neg h] at h1 h2
    obtain ⟨a1, a2, a3⟩ := h1
    obtain ⟨b1, b2, b3⟩ := h2
    refine ⟨a1.trans b1.symm, b3.trans a3.symm, by omega, by rw [a2]; exact hfit, fun j => ?_⟩
    rw [a2, b2]
    exact ht j
theorem law_feed {fed fed1 fed2 o q : Nat} {r1 r2 : Int32} {mf mf1 ms ms1 tx mt : Nat → Int32} (hfed : fed ≤ 16384) (hm : ∀ j, j < fed → ms j = mf j &&& nI 255) (ht : ∀ j, mt j = tx j &&& nI 255) (h1 : if fed + q ≤ 16384 then r1 = nI 1 ∧ fed1 = fed + q ∧ mf1 = apF mf fed tx o else r1 = nI 0 ∧ fed1 = fed ∧ mf1 = mf) (h2 : if fed + q ≤ 16384 then r2 = nI 1 ∧ fed2 = fed + q ∧ ms1 = fdN ms mt fed o q else r2 = nI 0 ∧ fed2 = fed ∧ ms1 = ms) : r1 = r2 ∧ fed2 = fed1 ∧ fed1 ≤ 16384 ∧ ∀ j, j < fed1 → ms1 j = mf1 j &&& nI 255 := by
  by_cases h : fed + q ≤ 16384
  · rw [if_pos h] at h1 h2
    obtain ⟨a1, a2, a3⟩ := h1
    obtain ⟨b1, b2, b3⟩ := h2
    refine ⟨a1.trans b1.symm, b2.trans a2.symm, by omega, fun j hj => ?_⟩
    rw [a3, b3]
    exact fd_rel hm ht o q j (by omega)
  · rw [if_neg h] at h1 h2
    obtain ⟨a1, a2, a3⟩ := h1
    obtain ⟨b1, b2, b3⟩ := h2
    refine ⟨a1.trans b1.symm, b2.trans a2.symm, by omega, fun j hj => ?_⟩
    rw [a3, b3]
    exact hm j (by omega)
theorem law_one {fed fed1 fed2 : Nat} {x r1 r2 : Int32} {mf mf1 ms ms1 : Nat → Int32} (hfed : fed ≤ 16384) (hm : ∀ j, j < fed → ms j = mf j &&& nI 255) (h1 : if fed < 16384 then r1 = nI 1 ∧ fed1 = fed + 1 ∧ mf1 = upd mf fed x.toInt8.toInt32 else r1 = nI 0 ∧ fed1 = fed ∧ mf1 = mf) (h2 : if fed < 16384 then r2 = nI 1 ∧ fed2 = fed + 1 ∧ ms1 = upd ms fed (x &&& nI 255) else r2 = nI 0 ∧ fed2 = fed ∧ ms1 = ms) : r1 = r2 ∧ fed2 = fed1 ∧ fed1 ≤ 16384 ∧ ∀ j, j < fed1 → ms1 j = mf1 j &&& nI 255 := by
  by_cases h : fed < 16384
  · rw [if_pos h] at h1 h2
    obtain ⟨a1, a2, a3⟩ := h1
    obtain ⟨b1, b2, b3⟩ := h2
    refine ⟨a1.trans b1.symm, b2.trans a2.symm, by omega, fun j hj => ?_⟩
    rw [a3, b3]
    exact one_rel hm x j (by omega)
  · rw [if_neg h] at h1 h2
    obtain ⟨a1, a2, a3⟩ := h1
    obtain ⟨b1, b2, b3⟩ := h2
    refine ⟨a1.trans b1.symm, b2.trans a2.symm, by omega, fun j hj => ?_⟩
    rw [a3, b3]
    exact hm j (by omega)
end
section
/-! THE LAW: its loop, its start -/
set_option maxHeartbeats 8000000 in
set_option maxRecDepth 100000 in
/-- the law's loop: desk and model hold the same -/
theorem law_loop {p : Program} {e : Env} {s : State} {m : MethodId} {below : List Frame} {meth : Method} {c : Code} {l : Launch} {G : wd_G} {A : Nat → Prop} {b L : Nat} {xs : Nat → Int32} (hL : L ≤ 384) (hx : p.tables.exec = Jvm.exec) (hb : c.code = code) (hr : meth.sig.returnType = ret) (hlk : meth.locks = false) (hml : c.maxLocals = 4) (hown : s.vm.findClass R_law = some m.cls) (hts : ∀ w ∈ lw_all, w.before #[Value.ref b] s = true) (hX : va_X b L xs s s.heap) (hbl : b < s.heap.size) (hbA : ¬ A b) (hA : ∀ q : Nat, s.heap.size ≤ q → A q) (hAs : ∀ q : Nat, A q → s.heap.size ≤ q) (hK : wd_K G s) (hZ : ST A s s.heap) (ad aO aT am mT mM mO : Nat) : ∀ (n9 i cs ss : Nat) (ar aB aI aC aP : Nat) (d k fed n k2 : Nat) (mf tx fo bf v ch mt ms mo : Nat → Int32), i + n9 = L / 6 → cs + 514 * n9 ≤ 600128 → ss + 8216 * n9 ≤ 7301098 → lawR d k fed n k2 mf tx fo bf ch mt ms mo → ∀ (H : Heap) (locs : List Loc), va_P G.1 vwCl [cl_O ad 0 (dk_fs ar aO aT (nI fed) (nI k)), cl_B G aO 32 fo, cl_B G aT 1024 tx, cl_O ar 1 (bk_fs (nI d) (nI k2) (nI (64 * n)) (nI 0) aB aI aC aP), cl_B G aB 64 bf, cl_I G aI 16 v, cl_I G aC 8 ch, cl_O am 2 (md_fs mT mM mO (nI k) (nI fed) (nI d)), cl_I G mT 1024 mt, cl_I G mM 16384 ms, cl_I G mO 32 mo] H → va_D A [cl_O ad 0 (dk_fs ar aO aT (nI fed) (nI k)), cl_B G aO 32 fo, cl_B G aT 1024 tx, cl_O ar 1 (bk_fs (nI d) (nI k2) (nI (64 * n)) (nI 0) aB aI aC aP), cl_B G aB 64 bf, cl_I G aI 16 v, cl_I G aC 8 ch, cl_O am 2 (md_fs mT mM mO (nI k) (nI fed) (nI d)), cl_I G mT 1024 mt, cl_I G mM 16384 ms, cl_I G mO 32 mo] → va_S A s.heap H locs → ∀ (ls : Array Slot), lv_has ls 4 [(3, .int (nI (6 * i))), (2, .ref am), (1, .ref ad), (0, .ref b)] → W p l e room_1 s m #[Value.ref b] below meth c H locs cs ss (lw_Z below #[Value.ref b] s) (F0 m 18 ls []) := by
  intro n9
  induction n9 with
  | zero =>
    intro i cs ss ar aB aI aC aP d k fed n k2 mf tx fo bf v ch mt ms mo hi hc1 hc2 hR H locs hP hD hS ls hl
    refine lv_iload_n hx hb dL_law_18 rfl (lv_at hl 0 rfl) ?_
    refine lv_aload_n hx hb dL_law_19 rfl (lv_at hl 3 rfl) ?_
    refine wd_slen hx hb hX hbl hbA hS dL_law_20 ?_
    refine lv_bipush (v := nI 6) hx hb dL_law_21 (by decide) ?_
    refine lv_isub hx hb dL_law_23 ?_
    refine lv_icmp_gt (tgt := 284) hx hb dL_law_24 (by decide) (fun c_1 => ?_) (fun c_1 => absurd (lt_s6 (by omega) (by omega) (by omega)) c_1)
    refine lv_iconst (v := nI 1) hx hb dL_law_284 (by decide) ?_
    refine va_forget (fun q h => hAs _ (hS.2.2 q h)) ?_
    refine W.widen (k := 600128) (n := 7301098) (by omega) (by omega) ?_
    exact lw_ret hx hb hr hlk dL_law_285
  | succ n9 ih =>
    intro i cs ss ar aB aI aC aP d k fed n k2 mf tx fo bf v ch mt ms mo hi hc1 hc2 hR H locs hP hD hS ls hl
    refine lv_iload_n hx hb dL_law_18 rfl (lv_at hl 0 rfl) ?_
    refine lv_aload_n hx hb dL_law_19 rfl (lv_at hl 3 rfl) ?_
    refine wd_slen hx hb hX hbl hbA hS dL_law_20 ?_
    refine lv_bipush (v := nI 6) hx hb dL_law_21 (by decide) ?_
    refine lv_isub hx hb dL_law_23 ?_
    refine lv_icmp_gt (tgt := 284) hx hb dL_law_24 (by decide) (fun c_1 => absurd c_1 (nlt_s6 (by omega) (by omega) (by omega))) (fun c_1 => ?_)
    have h6 : 6 * i + 6 ≤ L := by omega
    obtain ⟨hk, hfed, hd, hok, hfit, ht, hm, ho⟩ := id hR
    have next : ∀ (ar1 aB1 aI1 aC1 aP1 : Nat) (d1 k1 fed1 n1 p1 : Nat) (mf1 tx1 fo1 bf1 v1 ch1 mt1 ms1 mo1 : Nat → Int32) (c9 s9 : Nat), lawR d1 k1 fed1 n1 p1 mf1 tx1 fo1 bf1 ch1 mt1 ms1 mo1 → c9 ≤ cs + 514 → s9 ≤ ss + 8216 → ∀ (H : Heap) (locs : List Loc), va_P G.1 vwCl [cl_O ad 0 (dk_fs ar1 aO aT (nI fed1) (nI k1)), cl_B G aO 32 fo1, cl_B G aT 1024 tx1, cl_O ar1 1 (bk_fs (nI d1) (nI p1) (nI (64 * n1)) (nI 0) aB1 aI1 aC1 aP1), cl_B G aB1 64 bf1, cl_I G aI1 16 v1, cl_I G aC1 8 ch1, cl_O am 2 (md_fs mT mM mO (nI k1) (nI fed1) (nI d1)), cl_I G mT 1024 mt1, cl_I G mM 16384 ms1, cl_I G mO 32 mo1] H → va_D A [cl_O ad 0 (dk_fs ar1 aO aT (nI fed1) (nI k1)), cl_B G aO 32 fo1, cl_B G aT 1024 tx1, cl_O ar1 1 (bk_fs (nI d1) (nI p1) (nI (64 * n1)) (nI 0) aB1 aI1 aC1 aP1), cl_B G aB1 64 bf1, cl_I G aI1 16 v1, cl_I G aC1 8 ch1, cl_O am 2 (md_fs mT mM mO (nI k1) (nI fed1) (nI d1)), cl_I G mT 1024 mt1, cl_I G mM 16384 ms1, cl_I G mO 32 mo1] → va_S A s.heap H locs → W p l e room_1 s m #[Value.ref b] below meth c H locs c9 s9 (lw_Z below #[Value.ref b] s) (F0 m 278 ls []) := by
      clear hP hD hS
      intro ar1 aB1 aI1 aC1 aP1 d1 k1 fed1 n1 p1 mf1 tx1 fo1 bf1 v1 ch1 mt1 ms1 mo1 c9 s9 hR1 hc3 hc4 H locs hP hD hS
      refine lv_iinc (v := nI (6 * i + 6)) (lv' := [(3, .int (nI (6 * i + 6))), (2, .ref am), (1, .ref ad), (0, .ref b)]) hx hb dL_law_278 hl (k := 0) rfl (wd_inc _ 6) (by decide) rfl ?_
      clear hl; intro ls hl
      refine lv_goto (tgt := 18) hx hb dL_law_281 (by decide) ?_
      have e9 : 6 * i + 6 = 6 * (i + 1) := by omega
      rw [e9] at hl
      exact ih (i + 1) c9 s9 ar1 aB1 aI1 aC1 aP1 d1 k1 fed1 n1 p1 mf1 tx1 fo1 bf1 v1 ch1 mt1 ms1 mo1 (by omega) (by omega) (by omega) hR1 _ _ hP hD hS ls (lv_sub hl [0, 1, 2, 3] rfl)
    refine lv_aload_n hx hb dL_law_27 rfl (lv_at hl 3 rfl) ?_
    refine lv_iload_n hx hb dL_law_28 rfl (lv_at hl 0 rfl) ?_
    refine wd_sld hx hb hX hbl hbA hS (6 * i) (by omega) (by omega) dL_law_29 ?_
    refine lv_bipush (v := nI 7) hx hb dL_law_30 (by decide) ?_
    refine lv_iand hx hb dL_law_32 ?_
    obtain ⟨j, hj, ej⟩ := pk_andE (xs (6 * i)) (m := nI 7) 3 (by decide)
    refine lv_eqi (y := nI j) ej ?_
    have hj8 : j = 0 ∨ j = 1 ∨ j = 2 ∨ j = 3 ∨ j = 4 ∨ j = 5 ∨ j = 6 ∨ j = 7 := by omega
    rcases hj8 with rfl | rfl | rfl | rfl | rfl | rfl | rfl | rfl
    · refine lv_tableIn (off := 47) (tgt := 80) hx hb dL_law_33 (by decide) (by decide) (by decide) (by decide) ?_
      refine lv_aload_n hx hb dL_law_80 rfl (lv_at hl 2 rfl) ?_
      refine lv_aload_n hx hb dL_law_81 rfl (lv_at hl 3 rfl) ?_
      refine lv_iload_n hx hb dL_law_82 rfl (lv_at hl 0 rfl) ?_
      refine lv_iconst (v := nI 1) hx hb dL_law_83 (by decide) ?_
      refine wd_iaddN (x := 6 * i) (y := 1) hx hb dL_law_84 ?_
      refine wd_sld hx hb hX hbl hbA hS (6 * i + 1) (by omega) (by omega) dL_law_85 ?_
      refine lv_aload_n hx hb dL_law_86 rfl (lv_at hl 3 rfl) ?_
      refine lv_iload_n hx hb dL_law_87 rfl (lv_at hl 0 rfl) ?_
      refine lv_iconst (v := nI 2) hx hb dL_law_88 (by decide) ?_
      refine wd_iaddN (x := 6 * i) (y := 2) hx hb dL_law_89 ?_
      refine wd_sld hx hb hX hbl hbA hS (6 * i + 2) (by omega) (by omega) dL_law_90 ?_
      refine lv_aload_n hx hb dL_law_91 rfl (lv_at hl 3 rfl) ?_
      refine lv_iload_n hx hb dL_law_92 rfl (lv_at hl 0 rfl) ?_
      refine lv_iconst (v := nI 3) hx hb dL_law_93 (by decide) ?_
      refine wd_iaddN (x := 6 * i) (y := 3) hx hb dL_law_94 ?_
      refine wd_sld hx hb hX hbl hbA hS (6 * i + 3) (by omega) (by omega) dL_law_95 ?_
      refine lv_aload_n hx hb dL_law_96 rfl (lv_at hl 3 rfl) ?_
      refine lv_iload_n hx hb dL_law_97 rfl (lv_at hl 0 rfl) ?_
      refine lv_iconst (v := nI 4) hx hb dL_law_98 (by decide) ?_
      refine wd_iaddN (x := 6 * i) (y := 4) hx hb dL_law_99 ?_
      refine wd_sld hx hb hX hbl hbA hS (6 * i + 4) (by omega) (by omega) dL_law_100 ?_
      refine wd_calli (wr := [cl_B G aO 32 fo, cl_O ar 1 (bk_fs (nI d) (nI k2) (nI (64 * n)) (nI 0) aB aI aC aP), cl_B G aB 64 bf, cl_I G aI 16 v, cl_I G aC 8 ch, cl_O am 2 (md_fs mT mM mO (nI k) (nI fed) (nI d)), cl_I G mT 1024 mt, cl_I G mM 16384 ms, cl_I G mO 32 mo]) (va_runV (As := [.int (xs (6 * i + 1)), .int (xs (6 * i + 2)), .int (xs (6 * i + 3)), .int (xs (6 * i + 4))]) (rest := []) ⟨hx, hb, hml, hown, hts⟩ (met_X0_put l G ad ar aO aT (nI fed) (xs (6 * i + 1)) (xs (6 * i + 2)) (xs (6 * i + 3)) (xs (6 * i + 4)) k tx hk H.size) (cwV 4 hts (lw_V q215 q216 q217 q15 q218) rfl rfl rfl (by decide +kernel) ⟨Nat.le_of_ble_eq_true rfl, Nat.le_of_ble_eq_true rfl⟩) (wd_preV hK hZ hP hD hS hA [0, 2] (by decide) rfl 0 0 rfl rfl) rfl rfl hl.1 rfl (lv_room (Nat.le_of_ble_eq_true rfl)) dL_law_101 ⟨show cs + 0 ≤ 600128 by omega, show ss + 0 ≤ 7301098 by omega⟩) hP hD hS hA [0, 2] [1, 3, 4, 5, 6, 7, 8, 9, 10] rfl rfl (by decide) (by decide) ?_
      intro r1 u_165 hu_165
      obtain ⟨tx1, k1⟩ := u_165
      clear hP hD hS; intro H locs hP hD hS
      replace hP : va_P G.1 vwCl [cl_O ad 0 (dk_fs ar aO aT (nI fed) (nI k1)), cl_B G aO 32 fo, cl_B G aT 1024 tx1, cl_O ar 1 (bk_fs (nI d) (nI k2) (nI (64 * n)) (nI 0) aB aI aC aP), cl_B G aB 64 bf, cl_I G aI 16 v, cl_I G aC 8 ch, cl_O am 2 (md_fs mT mM mO (nI k) (nI fed) (nI d)), cl_I G mT 1024 mt, cl_I G mM 16384 ms, cl_I G mO 32 mo] H := wd_psub hP [9, 0, 10, 1, 2, 3, 4, 5, 6, 7, 8] rfl
      replace hD : va_D A [cl_O ad 0 (dk_fs ar aO aT (nI fed) (nI k1)), cl_B G aO 32 fo, cl_B G aT 1024 tx1, cl_O ar 1 (bk_fs (nI d) (nI k2) (nI (64 * n)) (nI 0) aB aI aC aP), cl_B G aB 64 bf, cl_I G aI 16 v, cl_I G aC 8 ch, cl_O am 2 (md_fs mT mM mO (nI k) (nI fed) (nI d)), cl_I G mT 1024 mt, cl_I G mM 16384 ms, cl_I G mO 32 mo] := hD.sub [9, 0, 10, 1, 2, 3, 4, 5, 6, 7, 8] (by decide) rfl
      refine lv_aload_n hx hb dL_law_104 rfl (lv_at hl 1 rfl) ?_
      refine lv_aload_n hx hb dL_law_105 rfl (lv_at hl 3 rfl) ?_
      refine lv_iload_n hx hb dL_law_106 rfl (lv_at hl 0 rfl) ?_
      refine lv_iconst (v := nI 1) hx hb dL_law_107 (by decide) ?_
      refine wd_iaddN (x := 6 * i) (y := 1) hx hb dL_law_108 ?_
      refine wd_sld hx hb hX hbl hbA hS (6 * i + 1) (by omega) (by omega) dL_law_109 ?_
      refine lv_aload_n hx hb dL_law_110 rfl (lv_at hl 3 rfl) ?_
      refine lv_iload_n hx hb dL_law_111 rfl (lv_at hl 0 rfl) ?_
      refine lv_iconst (v := nI 2) hx hb dL_law_112 (by decide) ?_
      refine wd_iaddN (x := 6 * i) (y := 2) hx hb dL_law_113 ?_
      refine wd_sld hx hb hX hbl hbA hS (6 * i + 2) (by omega) (by omega) dL_law_114 ?_
      refine lv_aload_n hx hb dL_law_115 rfl (lv_at hl 3 rfl) ?_
      refine lv_iload_n hx hb dL_law_116 rfl (lv_at hl 0 rfl) ?_
      refine lv_iconst (v := nI 3) hx hb dL_law_117 (by decide) ?_
      refine wd_iaddN (x := 6 * i) (y := 3) hx hb dL_law_118 ?_
      refine wd_sld hx hb hX hbl hbA hS (6 * i + 3) (by omega) (by omega) dL_law_119 ?_
      refine lv_aload_n hx hb dL_law_120 rfl (lv_at hl 3 rfl) ?_
      refine lv_iload_n hx hb dL_law_121 rfl (lv_at hl 0 rfl) ?_
      refine lv_iconst (v := nI 4) hx hb dL_law_122 (by decide) ?_
      refine wd_iaddN (x := 6 * i) (y := 4) hx hb dL_law_123 ?_
      refine wd_sld hx hb hX hbl hbA hS (6 * i + 4) (by omega) (by omega) dL_law_124 ?_
      refine wd_calli (wr := [cl_O ad 0 (dk_fs ar aO aT (nI fed) (nI k1)), cl_B G aO 32 fo, cl_B G aT 1024 tx1, cl_O ar 1 (bk_fs (nI d) (nI k2) (nI (64 * n)) (nI 0) aB aI aC aP), cl_B G aB 64 bf, cl_I G aI 16 v, cl_I G aC 8 ch, cl_I G mM 16384 ms, cl_I G mO 32 mo]) (va_runV (As := [.int (xs (6 * i + 1)), .int (xs (6 * i + 2)), .int (xs (6 * i + 3)), .int (xs (6 * i + 4))]) (rest := [.int r1]) ⟨hx, hb, hml, hown, hts⟩ (met_X3_put l G am mT mM mO (nI fed) (nI d) (xs (6 * i + 1)) (xs (6 * i + 2)) (xs (6 * i + 3)) (xs (6 * i + 4)) k mt hk H.size) (cwV 4 hts (lw_V q404 q405 q406 q25 q407) rfl rfl rfl (by decide +kernel) ⟨Nat.le_of_ble_eq_true rfl, Nat.le_of_ble_eq_true rfl⟩) (wd_preV hK hZ hP hD hS hA [7, 8] (by decide) rfl 7 2 rfl rfl) rfl rfl hl.1 rfl (lv_room (Nat.le_of_ble_eq_true rfl)) dL_law_125 ⟨show cs + 0 + 0 ≤ 600128 by omega, show ss + 0 + 0 ≤ 7301098 by omega⟩) hP hD hS hA [7, 8] [0, 1, 2, 3, 4, 5, 6, 9, 10] rfl rfl (by decide) (by decide) ?_
      intro r2 u_166 hu_166
      obtain ⟨mt1, k2_⟩ := u_166
      clear hP hD hS; intro H locs hP hD hS
      replace hP : va_P G.1 vwCl [cl_O ad 0 (dk_fs ar aO aT (nI fed) (nI k1)), cl_B G aO 32 fo, cl_B G aT 1024 tx1, cl_O ar 1 (bk_fs (nI d) (nI k2) (nI (64 * n)) (nI 0) aB aI aC aP), cl_B G aB 64 bf, cl_I G aI 16 v, cl_I G aC 8 ch, cl_O am 2 (md_fs mT mM mO (nI k2_) (nI fed) (nI d)), cl_I G mT 1024 mt1, cl_I G mM 16384 ms, cl_I G mO 32 mo] H := wd_psub hP [0, 1, 2, 3, 4, 5, 6, 9, 10, 7, 8] rfl
      replace hD : va_D A [cl_O ad 0 (dk_fs ar aO aT (nI fed) (nI k1)), cl_B G aO 32 fo, cl_B G aT 1024 tx1, cl_O ar 1 (bk_fs (nI d) (nI k2) (nI (64 * n)) (nI 0) aB aI aC aP), cl_B G aB 64 bf, cl_I G aI 16 v, cl_I G aC 8 ch, cl_O am 2 (md_fs mT mM mO (nI k2_) (nI fed) (nI d)), cl_I G mT 1024 mt1, cl_I G mM 16384 ms, cl_I G mO 32 mo] := hD.sub [0, 1, 2, 3, 4, 5, 6, 9, 10, 7, 8] (by decide) rfl
      have hh : r1 = r2 ∧ k2_ = k1 ∧ k1 ≤ 1024 ∧ sb_Fit tx1 ∧ ∀ j, mt1 j = tx1 j &&& nI 255 := law_put hk hfit ht hu_165 hu_166
      obtain ⟨hr1, rfl, hk1, hf1, ht1⟩ := hh
      refine lv_icmp_eq (tgt := 278) hx hb dL_law_128 (by decide) (fun c_2 => ?_) (fun c_2 => absurd hr1 c_2)
      exact next ar aB aI aC aP d _ fed n k2 mf tx1 fo bf v ch mt1 ms mo (cs + 0 + 0) (ss + 0 + 0) ⟨hk1, hfed, hd, hok, hf1, ht1, hm, ho⟩ (by omega) (by omega) _ _ hP hD hS
    · refine lv_tableIn (off := 100) (tgt := 133) hx hb dL_law_33 (by decide) (by decide) (by decide) (by decide) ?_
      refine lv_aload_n hx hb dL_law_133 rfl (lv_at hl 2 rfl) ?_
      refine lv_aload_n hx hb dL_law_134 rfl (lv_at hl 3 rfl) ?_
      refine lv_iload_n hx hb dL_law_135 rfl (lv_at hl 0 rfl) ?_
      refine lv_iconst (v := nI 1) hx hb dL_law_136 (by decide) ?_
      refine wd_iaddN (x := 6 * i) (y := 1) hx hb dL_law_137 ?_
      refine wd_sld hx hb hX hbl hbA hS (6 * i + 1) (by omega) (by omega) dL_law_138 ?_
      refine wd_callv (wr := [cl_B G aO 32 fo, cl_B G aT 1024 tx, cl_O ar 1 (bk_fs (nI d) (nI k2) (nI (64 * n)) (nI 0) aB aI aC aP), cl_B G aB 64 bf, cl_I G aI 16 v, cl_I G aC 8 ch, cl_O am 2 (md_fs mT mM mO (nI k) (nI fed) (nI d)), cl_I G mT 1024 mt, cl_I G mM 16384 ms, cl_I G mO 32 mo]) (va_runV (As := [.int (xs (6 * i + 1))]) (rest := []) ⟨hx, hb, hml, hown, hts⟩ (met_X0_trim l G ad ar aO aT (nI fed) (xs (6 * i + 1)) k hk H.size) (cwV 1 hts (lw_V q223 q224 q225 q15 q226) rfl rfl rfl (by decide +kernel) ⟨Nat.le_of_ble_eq_true rfl, Nat.le_of_ble_eq_true rfl⟩) (wd_preV hK hZ hP hD hS hA [0] (by decide) rfl 0 0 rfl rfl) rfl rfl hl.1 rfl (lv_room (Nat.le_of_ble_eq_true rfl)) dL_law_139 ⟨show cs + 0 ≤ 600128 by omega, show ss + 0 ≤ 7301098 by omega⟩) hP hD hS hA [0] [1, 2, 3, 4, 5, 6, 7, 8, 9, 10] rfl rfl (by decide) (by decide) ?_
      intro u_167 hu_167
      clear hP hD hS; intro H locs hP hD hS
      replace hP : va_P G.1 vwCl [cl_O ad 0 (dk_fs ar aO aT (nI fed) (nI (fN (xs (6 * i + 1)) % (k + 1)))), cl_B G aO 32 fo, cl_B G aT 1024 tx, cl_O ar 1 (bk_fs (nI d) (nI k2) (nI (64 * n)) (nI 0) aB aI aC aP), cl_B G aB 64 bf, cl_I G aI 16 v, cl_I G aC 8 ch, cl_O am 2 (md_fs mT mM mO (nI k) (nI fed) (nI d)), cl_I G mT 1024 mt, cl_I G mM 16384 ms, cl_I G mO 32 mo] H := wd_psub hP [10, 0, 1, 2, 3, 4, 5, 6, 7, 8, 9] rfl
      replace hD : va_D A [cl_O ad 0 (dk_fs ar aO aT (nI fed) (nI (fN (xs (6 * i + 1)) % (k + 1)))), cl_B G aO 32 fo, cl_B G aT 1024 tx, cl_O ar 1 (bk_fs (nI d) (nI k2) (nI (64 * n)) (nI 0) aB aI aC aP), cl_B G aB 64 bf, cl_I G aI 16 v, cl_I G aC 8 ch, cl_O am 2 (md_fs mT mM mO (nI k) (nI fed) (nI d)), cl_I G mT 1024 mt, cl_I G mM 16384 ms, cl_I G mO 32 mo] := hD.sub [10, 0, 1, 2, 3, 4, 5, 6, 7, 8, 9] (by decide) rfl
      refine lv_aload_n hx hb dL_law_142 rfl (lv_at hl 1 rfl) ?_
      refine lv_aload_n hx hb dL_law_143 rfl (lv_at hl 3 rfl) ?_
      refine lv_iload_n hx hb dL_law_144 rfl (lv_at hl 0 rfl) ?_
      refine lv_iconst (v := nI 1) hx hb dL_law_145 (by decide) ?_
      refine wd_iaddN (x := 6 * i) (y := 1) hx hb dL_law_146 ?_
      refine wd_sld hx hb hX hbl hbA hS (6 * i + 1) (by omega) (by omega) dL_law_147 ?_
      refine wd_callv (wr := [cl_O ad 0 (dk_fs ar aO aT (nI fed) (nI (fN (xs (6 * i + 1)) % (k + 1)))), cl_B G aO 32 fo, cl_B G aT 1024 tx, cl_O ar 1 (bk_fs (nI d) (nI k2) (nI (64 * n)) (nI 0) aB aI aC aP), cl_B G aB 64 bf, cl_I G aI 16 v, cl_I G aC 8 ch, cl_I G mT 1024 mt, cl_I G mM 16384 ms, cl_I G mO 32 mo]) (va_runV (As := [.int (xs (6 * i + 1))]) (rest := []) ⟨hx, hb, hml, hown, hts⟩ (met_X3_trim l G am mT mM mO (nI fed) (nI d) (xs (6 * i + 1)) k hk H.size) (cwV 1 hts (lw_V q412 q413 q414 q25 q415) rfl rfl rfl (by decide +kernel) ⟨Nat.le_of_ble_eq_true rfl, Nat.le_of_ble_eq_true rfl⟩) (wd_preV hK hZ hP hD hS hA [7] (by decide) rfl 7 2 rfl rfl) rfl rfl hl.1 rfl (lv_room (Nat.le_of_ble_eq_true rfl)) dL_law_148 ⟨show cs + 0 + 0 ≤ 600128 by omega, show ss + 0 + 0 ≤ 7301098 by omega⟩) hP hD hS hA [7] [0, 1, 2, 3, 4, 5, 6, 8, 9, 10] rfl rfl (by decide) (by decide) ?_
      intro u_168 hu_168
      clear hP hD hS; intro H locs hP hD hS
      replace hP : va_P G.1 vwCl [cl_O ad 0 (dk_fs ar aO aT (nI fed) (nI (fN (xs (6 * i + 1)) % (k + 1)))), cl_B G aO 32 fo, cl_B G aT 1024 tx, cl_O ar 1 (bk_fs (nI d) (nI k2) (nI (64 * n)) (nI 0) aB aI aC aP), cl_B G aB 64 bf, cl_I G aI 16 v, cl_I G aC 8 ch, cl_O am 2 (md_fs mT mM mO (nI (fN (xs (6 * i + 1)) % (k + 1))) (nI fed) (nI d)), cl_I G mT 1024 mt, cl_I G mM 16384 ms, cl_I G mO 32 mo] H := wd_psub hP [0, 1, 2, 3, 4, 5, 6, 10, 7, 8, 9] rfl
      replace hD : va_D A [cl_O ad 0 (dk_fs ar aO aT (nI fed) (nI (fN (xs (6 * i + 1)) % (k + 1)))), cl_B G aO 32 fo, cl_B G aT 1024 tx, cl_O ar 1 (bk_fs (nI d) (nI k2) (nI (64 * n)) (nI 0) aB aI aC aP), cl_B G aB 64 bf, cl_I G aI 16 v, cl_I G aC 8 ch, cl_O am 2 (md_fs mT mM mO (nI (fN (xs (6 * i + 1)) % (k + 1))) (nI fed) (nI d)), cl_I G mT 1024 mt, cl_I G mM 16384 ms, cl_I G mO 32 mo] := hD.sub [0, 1, 2, 3, 4, 5, 6, 10, 7, 8, 9] (by decide) rfl
      refine lv_goto (tgt := 278) hx hb dL_law_151 (by decide) ?_
      have hk1 : fN (xs (6 * i + 1)) % (k + 1) ≤ 1024 := by have := Nat.mod_lt (fN (xs (6 * i + 1))) (show 0 < k + 1 by omega); omega
      exact next ar aB aI aC aP d (fN (xs (6 * i + 1)) % (k + 1)) fed n k2 mf tx fo bf v ch mt ms mo (cs + 0 + 0) (ss + 0 + 0) ⟨hk1, hfed, hd, hok, hfit, ht, hm, ho⟩ (by omega) (by omega) _ _ hP hD hS
    · refine lv_tableIn (off := 121) (tgt := 154) hx hb dL_law_33 (by decide) (by decide) (by decide) (by decide) ?_
      refine lv_aload_n hx hb dL_law_154 rfl (lv_at hl 2 rfl) ?_
      refine lv_aload_n hx hb dL_law_155 rfl (lv_at hl 3 rfl) ?_
      refine lv_iload_n hx hb dL_law_156 rfl (lv_at hl 0 rfl) ?_
      refine lv_iconst (v := nI 1) hx hb dL_law_157 (by decide) ?_
      refine wd_iaddN (x := 6 * i) (y := 1) hx hb dL_law_158 ?_
      refine wd_sld hx hb hX hbl hbA hS (6 * i + 1) (by omega) (by omega) dL_law_159 ?_
      refine wd_callv (wr := [cl_B G aO 32 fo, cl_B G aT 1024 tx, cl_O ar 1 (bk_fs (nI d) (nI k2) (nI (64 * n)) (nI 0) aB aI aC aP), cl_B G aB 64 bf, cl_I G aI 16 v, cl_I G aC 8 ch, cl_O am 2 (md_fs mT mM mO (nI k) (nI fed) (nI d)), cl_I G mT 1024 mt, cl_I G mM 16384 ms, cl_I G mO 32 mo]) (va_runV (As := [.int (xs (6 * i + 1))]) (rest := []) ⟨hx, hb, hml, hown, hts⟩ (met_X0_begin l G ad ar aO aT (nI fed) (nI k) (xs (6 * i + 1)) H.size) (cwV 1 hts (lw_V q232 q233 q234 q15 q235) rfl rfl rfl (by decide +kernel) ⟨Nat.le_of_ble_eq_true rfl, Nat.le_of_ble_eq_true rfl⟩) (wd_preV hK hZ hP hD hS hA [0] (by decide) rfl 0 0 rfl rfl) rfl rfl hl.1 rfl (lv_room (Nat.le_of_ble_eq_true rfl)) dL_law_160 ⟨show cs + 4 ≤ 600128 by omega, show ss + 109 ≤ 7301098 by omega⟩) hP hD hS hA [0] [1, 2, 3, 4, 5, 6, 7, 8, 9, 10] rfl rfl (by decide) (by decide) ?_
      intro u_169 hu_169
      obtain ⟨ar1, aB1, aI1, aC1, aP1⟩ := u_169
      clear hP hD hS; intro H locs hP hD hS
      replace hP : va_P G.1 vwCl [cl_O ad 0 (dk_fs ar1 aO aT (nI 0) (nI k)), cl_B G aO 32 fo, cl_B G aT 1024 tx, cl_O ar 1 (bk_fs (nI d) (nI k2) (nI (64 * n)) (nI 0) aB aI aC aP), cl_B G aB 64 bf, cl_I G aI 16 v, cl_I G aC 8 ch, cl_O am 2 (md_fs mT mM mO (nI k) (nI fed) (nI d)), cl_I G mT 1024 mt, cl_I G mM 16384 ms, cl_I G mO 32 mo, cl_O ar1 1 (bk_fs (nI (szF (fN (xs (6 * i + 1)) % 4))) (nI 0) (nI 0) (nI 0) aB1 aI1 aC1 aP1), cl_B G aB1 64 (fun _ => 0), cl_I G aI1 16 (fun _ => 0), cl_I G aC1 8 ((ivH (szF (fN (xs (6 * i + 1)) % 4))))] H := wd_psub hP [10, 0, 1, 2, 3, 4, 5, 6, 7, 8, 9, 11, 12, 13, 14] rfl
      replace hD : va_D A [cl_O ad 0 (dk_fs ar1 aO aT (nI 0) (nI k)), cl_B G aO 32 fo, cl_B G aT 1024 tx, cl_O ar 1 (bk_fs (nI d) (nI k2) (nI (64 * n)) (nI 0) aB aI aC aP), cl_B G aB 64 bf, cl_I G aI 16 v, cl_I G aC 8 ch, cl_O am 2 (md_fs mT mM mO (nI k) (nI fed) (nI d)), cl_I G mT 1024 mt, cl_I G mM 16384 ms, cl_I G mO 32 mo, cl_O ar1 1 (bk_fs (nI (szF (fN (xs (6 * i + 1)) % 4))) (nI 0) (nI 0) (nI 0) aB1 aI1 aC1 aP1), cl_B G aB1 64 (fun _ => 0), cl_I G aI1 16 (fun _ => 0), cl_I G aC1 8 ((ivH (szF (fN (xs (6 * i + 1)) % 4))))] := hD.sub [10, 0, 1, 2, 3, 4, 5, 6, 7, 8, 9, 11, 12, 13, 14] (by decide) rfl
      refine lv_aload_n hx hb dL_law_163 rfl (lv_at hl 1 rfl) ?_
      refine lv_aload_n hx hb dL_law_164 rfl (lv_at hl 3 rfl) ?_
      refine lv_iload_n hx hb dL_law_165 rfl (lv_at hl 0 rfl) ?_
      refine lv_iconst (v := nI 1) hx hb dL_law_166 (by decide) ?_
      refine wd_iaddN (x := 6 * i) (y := 1) hx hb dL_law_167 ?_
      refine wd_sld hx hb hX hbl hbA hS (6 * i + 1) (by omega) (by omega) dL_law_168 ?_
      refine wd_callv (wr := [cl_O ad 0 (dk_fs ar1 aO aT (nI 0) (nI k)), cl_B G aO 32 fo, cl_B G aT 1024 tx, cl_O ar 1 (bk_fs (nI d) (nI k2) (nI (64 * n)) (nI 0) aB aI aC aP), cl_B G aB 64 bf, cl_I G aI 16 v, cl_I G aC 8 ch, cl_I G mT 1024 mt, cl_I G mM 16384 ms, cl_I G mO 32 mo, cl_O ar1 1 (bk_fs (nI (szF (fN (xs (6 * i + 1)) % 4))) (nI 0) (nI 0) (nI 0) aB1 aI1 aC1 aP1), cl_B G aB1 64 (fun _ => 0), cl_I G aI1 16 (fun _ => 0), cl_I G aC1 8 ((ivH (szF (fN (xs (6 * i + 1)) % 4))))]) (va_runV (As := [.int (xs (6 * i + 1))]) (rest := []) ⟨hx, hb, hml, hown, hts⟩ (met_X3_begin l G am mT mM mO (nI fed) (nI k) (nI d) (xs (6 * i + 1)) H.size) (cwV 1 hts (lw_V q421 q422 q423 q25 q424) rfl rfl rfl (by decide +kernel) ⟨Nat.le_of_ble_eq_true rfl, Nat.le_of_ble_eq_true rfl⟩) (wd_preV hK hZ hP hD hS hA [7] (by decide) rfl 7 2 rfl rfl) rfl rfl hl.1 rfl (lv_room (Nat.le_of_ble_eq_true rfl)) dL_law_169 ⟨show cs + 4 + 0 ≤ 600128 by omega, show ss + 109 + 0 ≤ 7301098 by omega⟩) hP hD hS hA [7] [0, 1, 2, 3, 4, 5, 6, 8, 9, 10, 11, 12, 13, 14] rfl rfl (by decide) (by decide) ?_
      intro u_170 hu_170
      clear hP hD hS; intro H locs hP hD hS
      replace hP : va_P G.1 vwCl [cl_O ad 0 (dk_fs ar1 aO aT (nI 0) (nI k)), cl_B G aO 32 fo, cl_B G aT 1024 tx, cl_O ar 1 (bk_fs (nI d) (nI k2) (nI (64 * n)) (nI 0) aB aI aC aP), cl_B G aB 64 bf, cl_I G aI 16 v, cl_I G aC 8 ch, cl_O am 2 (md_fs mT mM mO (nI k) (nI 0) (nI (szF (fN (xs (6 * i + 1)) % 4)))), cl_I G mT 1024 mt, cl_I G mM 16384 ms, cl_I G mO 32 mo, cl_O ar1 1 (bk_fs (nI (szF (fN (xs (6 * i + 1)) % 4))) (nI 0) (nI 0) (nI 0) aB1 aI1 aC1 aP1), cl_B G aB1 64 (fun _ => 0), cl_I G aI1 16 (fun _ => 0), cl_I G aC1 8 ((ivH (szF (fN (xs (6 * i + 1)) % 4))))] H := wd_psub hP [0, 1, 2, 3, 4, 5, 6, 14, 7, 8, 9, 10, 11, 12, 13] rfl
      replace hD : va_D A [cl_O ad 0 (dk_fs ar1 aO aT (nI 0) (nI k)), cl_B G aO 32 fo, cl_B G aT 1024 tx, cl_O ar 1 (bk_fs (nI d) (nI k2) (nI (64 * n)) (nI 0) aB aI aC aP), cl_B G aB 64 bf, cl_I G aI 16 v, cl_I G aC 8 ch, cl_O am 2 (md_fs mT mM mO (nI k) (nI 0) (nI (szF (fN (xs (6 * i + 1)) % 4)))), cl_I G mT 1024 mt, cl_I G mM 16384 ms, cl_I G mO 32 mo, cl_O ar1 1 (bk_fs (nI (szF (fN (xs (6 * i + 1)) % 4))) (nI 0) (nI 0) (nI 0) aB1 aI1 aC1 aP1), cl_B G aB1 64 (fun _ => 0), cl_I G aI1 16 (fun _ => 0), cl_I G aC1 8 ((ivH (szF (fN (xs (6 * i + 1)) % 4))))] := hD.sub [0, 1, 2, 3, 4, 5, 6, 14, 7, 8, 9, 10, 11, 12, 13] (by decide) rfl
      refine lv_goto (tgt := 278) hx hb dL_law_172 (by decide) ?_
      replace hP : va_P G.1 vwCl [cl_O ad 0 (dk_fs ar1 aO aT (nI 0) (nI k)), cl_B G aO 32 fo, cl_B G aT 1024 tx, cl_O ar1 1 (bk_fs (nI (szF (fN (xs (6 * i + 1)) % 4))) (nI 0) (nI (64 * 0)) (nI 0) aB1 aI1 aC1 aP1), cl_B G aB1 64 (fun _ => 0), cl_I G aI1 16 (fun _ => 0), cl_I G aC1 8 ((ivH (szF (fN (xs (6 * i + 1)) % 4)))), cl_O am 2 (md_fs mT mM mO (nI k) (nI 0) (nI (szF (fN (xs (6 * i + 1)) % 4)))), cl_I G mT 1024 mt, cl_I G mM 16384 ms, cl_I G mO 32 mo] H := wd_psub hP [0, 1, 2, 11, 12, 13, 14, 7, 8, 9, 10] rfl
      replace hD : va_D A [cl_O ad 0 (dk_fs ar1 aO aT (nI 0) (nI k)), cl_B G aO 32 fo, cl_B G aT 1024 tx, cl_O ar1 1 (bk_fs (nI (szF (fN (xs (6 * i + 1)) % 4))) (nI 0) (nI (64 * 0)) (nI 0) aB1 aI1 aC1 aP1), cl_B G aB1 64 (fun _ => 0), cl_I G aI1 16 (fun _ => 0), cl_I G aC1 8 ((ivH (szF (fN (xs (6 * i + 1)) % 4)))), cl_O am 2 (md_fs mT mM mO (nI k) (nI 0) (nI (szF (fN (xs (6 * i + 1)) % 4)))), cl_I G mT 1024 mt, cl_I G mM 16384 ms, cl_I G mO 32 mo] := hD.sub [0, 1, 2, 11, 12, 13, 14, 7, 8, 9, 10] (by decide) rfl
      exact next ar1 aB1 aI1 aC1 aP1 (szF (fN (xs (6 * i + 1)) % 4)) k 0 0 0 mf tx fo (fun _ => 0) (fun _ => 0) (ivH (szF (fN (xs (6 * i + 1)) % 4))) mt ms mo (cs + 4 + 0) (ss + 109 + 0) ⟨hk, Nat.zero_le _, szF_ok _, bk_0 _ _, hfit, ht, fun j hj => absurd hj (Nat.not_lt_zero j), ho⟩ (by omega) (by omega) _ _ hP hD hS
    · refine lv_tableIn (off := 142) (tgt := 175) hx hb dL_law_33 (by decide) (by decide) (by decide) (by decide) ?_
      refine lv_aload_n hx hb dL_law_175 rfl (lv_at hl 2 rfl) ?_
      refine lv_aload_n hx hb dL_law_176 rfl (lv_at hl 3 rfl) ?_
      refine lv_iload_n hx hb dL_law_177 rfl (lv_at hl 0 rfl) ?_
      refine lv_iconst (v := nI 1) hx hb dL_law_178 (by decide) ?_
      refine wd_iaddN (x := 6 * i) (y := 1) hx hb dL_law_179 ?_
      refine wd_sld hx hb hX hbl hbA hS (6 * i + 1) (by omega) (by omega) dL_law_180 ?_
      refine lv_aload_n hx hb dL_law_181 rfl (lv_at hl 3 rfl) ?_
      refine lv_iload_n hx hb dL_law_182 rfl (lv_at hl 0 rfl) ?_
      refine lv_iconst (v := nI 2) hx hb dL_law_183 (by decide) ?_
      refine wd_iaddN (x := 6 * i) (y := 2) hx hb dL_law_184 ?_
      refine wd_sld hx hb hX hbl hbA hS (6 * i + 2) (by omega) (by omega) dL_law_185 ?_
      refine wd_calli (wr := [cl_B G aO 32 fo, cl_O am 2 (md_fs mT mM mO (nI k) (nI fed) (nI d)), cl_I G mT 1024 mt, cl_I G mM 16384 ms, cl_I G mO 32 mo]) (va_runV (As := [.int (xs (6 * i + 1)), .int (xs (6 * i + 2))]) (rest := []) ⟨hx, hb, hml, hown, hts⟩ (met_X0_feed l G ad aO aT ar aB aI aC aP (xs (6 * i + 1)) (xs (6 * i + 2)) d k fed n k2 mf tx bf v ch hk hfed hfit hok H.size) (cwV 2 hts (lw_V q236 q237 q238 q15 q239) rfl rfl rfl (by decide +kernel) ⟨Nat.le_of_ble_eq_true rfl, Nat.le_of_ble_eq_true rfl⟩) (wd_preV hK hZ hP hD hS hA [0, 2, 3, 4, 5, 6] (by decide) rfl 0 0 rfl rfl) rfl rfl hl.1 rfl (lv_room (Nat.le_of_ble_eq_true rfl)) dL_law_186 ⟨show cs + 17 ≤ 600128 by omega, show ss + 272 ≤ 7301098 by omega⟩) hP hD hS hA [0, 2, 3, 4, 5, 6] [1, 7, 8, 9, 10] rfl rfl (by decide) (by decide) ?_
      intro r1 u_171 hu_171
      obtain ⟨fed1, mf1, n1, p1, bf1, v1, ch1⟩ := u_171
      clear hP hD hS; intro H locs hP hD hS
      replace hP : va_P G.1 vwCl [cl_O ad 0 (dk_fs ar aO aT (nI fed1) (nI k)), cl_B G aO 32 fo, cl_B G aT 1024 tx, cl_O ar 1 (bk_fs (nI d) (nI p1) (nI (64 * n1)) (nI 0) aB aI aC aP), cl_B G aB 64 bf1, cl_I G aI 16 v1, cl_I G aC 8 ch1, cl_O am 2 (md_fs mT mM mO (nI k) (nI fed) (nI d)), cl_I G mT 1024 mt, cl_I G mM 16384 ms, cl_I G mO 32 mo] H := wd_psub hP [5, 0, 6, 7, 8, 9, 10, 1, 2, 3, 4] rfl
      replace hD : va_D A [cl_O ad 0 (dk_fs ar aO aT (nI fed1) (nI k)), cl_B G aO 32 fo, cl_B G aT 1024 tx, cl_O ar 1 (bk_fs (nI d) (nI p1) (nI (64 * n1)) (nI 0) aB aI aC aP), cl_B G aB 64 bf1, cl_I G aI 16 v1, cl_I G aC 8 ch1, cl_O am 2 (md_fs mT mM mO (nI k) (nI fed) (nI d)), cl_I G mT 1024 mt, cl_I G mM 16384 ms, cl_I G mO 32 mo] := hD.sub [5, 0, 6, 7, 8, 9, 10, 1, 2, 3, 4] (by decide) rfl
      refine lv_aload_n hx hb dL_law_189 rfl (lv_at hl 1 rfl) ?_
      refine lv_aload_n hx hb dL_law_190 rfl (lv_at hl 3 rfl) ?_
      refine lv_iload_n hx hb dL_law_191 rfl (lv_at hl 0 rfl) ?_
      refine lv_iconst (v := nI 1) hx hb dL_law_192 (by decide) ?_
      refine wd_iaddN (x := 6 * i) (y := 1) hx hb dL_law_193 ?_
      refine wd_sld hx hb hX hbl hbA hS (6 * i + 1) (by omega) (by omega) dL_law_194 ?_
      refine lv_aload_n hx hb dL_law_195 rfl (lv_at hl 3 rfl) ?_
      refine lv_iload_n hx hb dL_law_196 rfl (lv_at hl 0 rfl) ?_
      refine lv_iconst (v := nI 2) hx hb dL_law_197 (by decide) ?_
      refine wd_iaddN (x := 6 * i) (y := 2) hx hb dL_law_198 ?_
      refine wd_sld hx hb hX hbl hbA hS (6 * i + 2) (by omega) (by omega) dL_law_199 ?_
      refine wd_calli (wr := [cl_O ad 0 (dk_fs ar aO aT (nI fed1) (nI k)), cl_B G aO 32 fo, cl_B G aT 1024 tx, cl_O ar 1 (bk_fs (nI d) (nI p1) (nI (64 * n1)) (nI 0) aB aI aC aP), cl_B G aB 64 bf1, cl_I G aI 16 v1, cl_I G aC 8 ch1, cl_I G mO 32 mo]) (va_runV (As := [.int (xs (6 * i + 1)), .int (xs (6 * i + 2))]) (rest := [.int r1]) ⟨hx, hb, hml, hown, hts⟩ (met_X3_feed l G am mT mM mO (nI d) (xs (6 * i + 1)) (xs (6 * i + 2)) k fed mt ms hk hfed H.size) (cwV 2 hts (lw_V q427 q428 q429 q25 q430) rfl rfl rfl (by decide +kernel) ⟨Nat.le_of_ble_eq_true rfl, Nat.le_of_ble_eq_true rfl⟩) (wd_preV hK hZ hP hD hS hA [7, 8, 9] (by decide) rfl 7 2 rfl rfl) rfl rfl hl.1 rfl (lv_room (Nat.le_of_ble_eq_true rfl)) dL_law_200 ⟨show cs + 17 + 0 ≤ 600128 by omega, show ss + 272 + 0 ≤ 7301098 by omega⟩) hP hD hS hA [7, 8, 9] [0, 1, 2, 3, 4, 5, 6, 10] rfl rfl (by decide) (by decide) ?_
      intro r2 u_172 hu_172
      obtain ⟨fed2, ms1⟩ := u_172
      clear hP hD hS; intro H locs hP hD hS
      replace hP : va_P G.1 vwCl [cl_O ad 0 (dk_fs ar aO aT (nI fed1) (nI k)), cl_B G aO 32 fo, cl_B G aT 1024 tx, cl_O ar 1 (bk_fs (nI d) (nI p1) (nI (64 * n1)) (nI 0) aB aI aC aP), cl_B G aB 64 bf1, cl_I G aI 16 v1, cl_I G aC 8 ch1, cl_O am 2 (md_fs mT mM mO (nI k) (nI fed2) (nI d)), cl_I G mT 1024 mt, cl_I G mM 16384 ms1, cl_I G mO 32 mo] H := wd_psub hP [0, 1, 2, 3, 4, 5, 6, 8, 9, 10, 7] rfl
      replace hD : va_D A [cl_O ad 0 (dk_fs ar aO aT (nI fed1) (nI k)), cl_B G aO 32 fo, cl_B G aT 1024 tx, cl_O ar 1 (bk_fs (nI d) (nI p1) (nI (64 * n1)) (nI 0) aB aI aC aP), cl_B G aB 64 bf1, cl_I G aI 16 v1, cl_I G aC 8 ch1, cl_O am 2 (md_fs mT mM mO (nI k) (nI fed2) (nI d)), cl_I G mT 1024 mt, cl_I G mM 16384 ms1, cl_I G mO 32 mo] := hD.sub [0, 1, 2, 3, 4, 5, 6, 8, 9, 10, 7] (by decide) rfl
      obtain ⟨hok1, hf1⟩ := hu_171
      have hh : r1 = r2 ∧ fed2 = fed1 ∧ fed1 ≤ 16384 ∧ ∀ j, j < fed1 → ms1 j = mf1 j &&& nI 255 := law_feed hfed hm ht hf1 hu_172
      obtain ⟨hr1, rfl, hfed1, hm1⟩ := hh
      refine lv_icmp_eq (tgt := 278) hx hb dL_law_203 (by decide) (fun c_2 => ?_) (fun c_2 => absurd hr1 c_2)
      exact next ar aB aI aC aP d k _ n1 p1 mf1 tx fo bf1 v1 ch1 mt ms1 mo (cs + 17 + 0) (ss + 272 + 0) ⟨hk, hfed1, hd, hok1, hfit, ht, hm1, ho⟩ (by omega) (by omega) _ _ hP hD hS
    · refine lv_tableIn (off := 175) (tgt := 208) hx hb dL_law_33 (by decide) (by decide) (by decide) (by decide) ?_
      refine lv_aload_n hx hb dL_law_208 rfl (lv_at hl 2 rfl) ?_
      refine lv_aload_n hx hb dL_law_209 rfl (lv_at hl 3 rfl) ?_
      refine lv_iload_n hx hb dL_law_210 rfl (lv_at hl 0 rfl) ?_
      refine lv_iconst (v := nI 1) hx hb dL_law_211 (by decide) ?_
      refine wd_iaddN (x := 6 * i) (y := 1) hx hb dL_law_212 ?_
      refine wd_sld hx hb hX hbl hbA hS (6 * i + 1) (by omega) (by omega) dL_law_213 ?_
      refine wd_calli (wr := [cl_B G aO 32 fo, cl_B G aT 1024 tx, cl_O am 2 (md_fs mT mM mO (nI k) (nI fed) (nI d)), cl_I G mT 1024 mt, cl_I G mM 16384 ms, cl_I G mO 32 mo]) (va_runV (As := [.int (xs (6 * i + 1))]) (rest := []) ⟨hx, hb, hml, hown, hts⟩ (met_X0_one l G ad aO aT ar aB aI aC aP (xs (6 * i + 1)) (nI k) d fed n k2 mf bf v ch hfed hok H.size) (cwV 1 hts (lw_V q295 q296 q297 q15 q298) rfl rfl rfl (by decide +kernel) ⟨Nat.le_of_ble_eq_true rfl, Nat.le_of_ble_eq_true rfl⟩) (wd_preV hK hZ hP hD hS hA [0, 3, 4, 5, 6] (by decide) rfl 0 0 rfl rfl) rfl rfl hl.1 rfl (lv_room (Nat.le_of_ble_eq_true rfl)) dL_law_214 ⟨show cs + 1 ≤ 600128 by omega, show ss + 16 ≤ 7301098 by omega⟩) hP hD hS hA [0, 3, 4, 5, 6] [1, 2, 7, 8, 9, 10] rfl rfl (by decide) (by decide) ?_
      intro r1 u_173 hu_173
      obtain ⟨fed1, mf1, n1, p1, bf1, v1, ch1⟩ := u_173
      clear hP hD hS; intro H locs hP hD hS
      replace hP : va_P G.1 vwCl [cl_O ad 0 (dk_fs ar aO aT (nI fed1) (nI k)), cl_B G aO 32 fo, cl_B G aT 1024 tx, cl_O ar 1 (bk_fs (nI d) (nI p1) (nI (64 * n1)) (nI 0) aB aI aC aP), cl_B G aB 64 bf1, cl_I G aI 16 v1, cl_I G aC 8 ch1, cl_O am 2 (md_fs mT mM mO (nI k) (nI fed) (nI d)), cl_I G mT 1024 mt, cl_I G mM 16384 ms, cl_I G mO 32 mo] H := wd_psub hP [6, 0, 1, 7, 8, 9, 10, 2, 3, 4, 5] rfl
      replace hD : va_D A [cl_O ad 0 (dk_fs ar aO aT (nI fed1) (nI k)), cl_B G aO 32 fo, cl_B G aT 1024 tx, cl_O ar 1 (bk_fs (nI d) (nI p1) (nI (64 * n1)) (nI 0) aB aI aC aP), cl_B G aB 64 bf1, cl_I G aI 16 v1, cl_I G aC 8 ch1, cl_O am 2 (md_fs mT mM mO (nI k) (nI fed) (nI d)), cl_I G mT 1024 mt, cl_I G mM 16384 ms, cl_I G mO 32 mo] := hD.sub [6, 0, 1, 7, 8, 9, 10, 2, 3, 4, 5] (by decide) rfl
      refine lv_aload_n hx hb dL_law_217 rfl (lv_at hl 1 rfl) ?_
      refine lv_aload_n hx hb dL_law_218 rfl (lv_at hl 3 rfl) ?_
      refine lv_iload_n hx hb dL_law_219 rfl (lv_at hl 0 rfl) ?_
      refine lv_iconst (v := nI 1) hx hb dL_law_220 (by decide) ?_
      refine wd_iaddN (x := 6 * i) (y := 1) hx hb dL_law_221 ?_
      refine wd_sld hx hb hX hbl hbA hS (6 * i + 1) (by omega) (by omega) dL_law_222 ?_
      refine wd_calli (wr := [cl_O ad 0 (dk_fs ar aO aT (nI fed1) (nI k)), cl_B G aO 32 fo, cl_B G aT 1024 tx, cl_O ar 1 (bk_fs (nI d) (nI p1) (nI (64 * n1)) (nI 0) aB aI aC aP), cl_B G aB 64 bf1, cl_I G aI 16 v1, cl_I G aC 8 ch1, cl_I G mT 1024 mt, cl_I G mO 32 mo]) (va_runV (As := [.int (xs (6 * i + 1))]) (rest := [.int r1]) ⟨hx, hb, hml, hown, hts⟩ (met_X3_one l G am mT mM mO (nI k) (nI d) (xs (6 * i + 1)) fed ms hfed H.size) (cwV 1 hts (lw_V q431 q432 q433 q25 q434) rfl rfl rfl (by decide +kernel) ⟨Nat.le_of_ble_eq_true rfl, Nat.le_of_ble_eq_true rfl⟩) (wd_preV hK hZ hP hD hS hA [7, 9] (by decide) rfl 7 2 rfl rfl) rfl rfl hl.1 rfl (lv_room (Nat.le_of_ble_eq_true rfl)) dL_law_223 ⟨show cs + 1 + 0 ≤ 600128 by omega, show ss + 16 + 0 ≤ 7301098 by omega⟩) hP hD hS hA [7, 9] [0, 1, 2, 3, 4, 5, 6, 8, 10] rfl rfl (by decide) (by decide) ?_
      intro r2 u_174 hu_174
      obtain ⟨fed2, ms1⟩ := u_174
      clear hP hD hS; intro H locs hP hD hS
      replace hP : va_P G.1 vwCl [cl_O ad 0 (dk_fs ar aO aT (nI fed1) (nI k)), cl_B G aO 32 fo, cl_B G aT 1024 tx, cl_O ar 1 (bk_fs (nI d) (nI p1) (nI (64 * n1)) (nI 0) aB aI aC aP), cl_B G aB 64 bf1, cl_I G aI 16 v1, cl_I G aC 8 ch1, cl_O am 2 (md_fs mT mM mO (nI k) (nI fed2) (nI d)), cl_I G mT 1024 mt, cl_I G mM 16384 ms1, cl_I G mO 32 mo] H := wd_psub hP [0, 1, 2, 3, 4, 5, 6, 9, 7, 10, 8] rfl
      replace hD : va_D A [cl_O ad 0 (dk_fs ar aO aT (nI fed1) (nI k)), cl_B G aO 32 fo, cl_B G aT 1024 tx, cl_O ar 1 (bk_fs (nI d) (nI p1) (nI (64 * n1)) (nI 0) aB aI aC aP), cl_B G aB 64 bf1, cl_I G aI 16 v1, cl_I G aC 8 ch1, cl_O am 2 (md_fs mT mM mO (nI k) (nI fed2) (nI d)), cl_I G mT 1024 mt, cl_I G mM 16384 ms1, cl_I G mO 32 mo] := hD.sub [0, 1, 2, 3, 4, 5, 6, 9, 7, 10, 8] (by decide) rfl
      obtain ⟨hok1, hf1⟩ := hu_173
      have hh : r1 = r2 ∧ fed2 = fed1 ∧ fed1 ≤ 16384 ∧ ∀ j, j < fed1 → ms1 j = mf1 j &&& nI 255 := law_one hfed hm hf1 hu_174
      obtain ⟨hr1, rfl, hfed1, hm1⟩ := hh
      refine lv_icmp_eq (tgt := 278) hx hb dL_law_226 (by decide) (fun c_2 => ?_) (fun c_2 => absurd hr1 c_2)
      exact next ar aB aI aC aP d k _ n1 p1 mf1 tx fo bf1 v1 ch1 mt ms1 mo (cs + 1 + 0) (ss + 16 + 0) ⟨hk, hfed1, hd, hok1, hfit, ht, hm1, ho⟩ (by omega) (by omega) _ _ hP hD hS
    · refine lv_tableIn (off := 198) (tgt := 231) hx hb dL_law_33 (by decide) (by decide) (by decide) (by decide) ?_
      have hd9 := dOK_le hd
      refine lv_aload_n hx hb dL_law_231 rfl (lv_at hl 2 rfl) ?_
      refine wd_calli (wr := [cl_B G aT 1024 tx, cl_O am 2 (md_fs mT mM mO (nI k) (nI fed) (nI d)), cl_I G mT 1024 mt, cl_I G mM 16384 ms, cl_I G mO 32 mo]) (va_runV (As := []) (rest := []) ⟨hx, hb, hml, hown, hts⟩ (met_X0_close l G ad aO aT ar aB aI aC aP (nI k) d fed n k2 mf bf v ch fo hfed hd hok H.size) (cwV 0 hts (lw_V q308 q309 q310 q15 q311) rfl rfl rfl (by decide +kernel) ⟨Nat.le_of_ble_eq_true rfl, Nat.le_of_ble_eq_true rfl⟩) (wd_preV hK hZ hP hD hS hA [0, 1, 3, 4, 5, 6] (by decide) rfl 0 0 rfl rfl) rfl rfl hl.1 rfl (lv_room (Nat.le_of_ble_eq_true rfl)) dL_law_232 ⟨show cs + 1 ≤ 600128 by omega, show ss + 16 ≤ 7301098 by omega⟩) hP hD hS hA [0, 1, 3, 4, 5, 6] [2, 7, 8, 9, 10] rfl rfl (by decide) (by decide) ?_
      intro r1 u_175 hu_175
      clear hP hD hS; intro H locs hP hD hS
      replace hP : va_P G.1 vwCl [cl_O ad 0 (dk_fs ar aO aT (nI 0) (nI k)), cl_B G aO 32 ((outF fo (dgF d mf fed) d)), cl_B G aT 1024 tx, cl_O ar 1 (bk_fs (nI d) (nI 0) (nI 0) (nI 0) aB aI aC aP), cl_B G aB 64 (fun _ => 0), cl_I G aI 16 (fun _ => 0), cl_I G aC 8 ((ivH d)), cl_O am 2 (md_fs mT mM mO (nI k) (nI fed) (nI d)), cl_I G mT 1024 mt, cl_I G mM 16384 ms, cl_I G mO 32 mo] H := wd_psub hP [5, 6, 0, 7, 8, 9, 10, 1, 2, 3, 4] rfl
      replace hD : va_D A [cl_O ad 0 (dk_fs ar aO aT (nI 0) (nI k)), cl_B G aO 32 ((outF fo (dgF d mf fed) d)), cl_B G aT 1024 tx, cl_O ar 1 (bk_fs (nI d) (nI 0) (nI 0) (nI 0) aB aI aC aP), cl_B G aB 64 (fun _ => 0), cl_I G aI 16 (fun _ => 0), cl_I G aC 8 ((ivH d)), cl_O am 2 (md_fs mT mM mO (nI k) (nI fed) (nI d)), cl_I G mT 1024 mt, cl_I G mM 16384 ms, cl_I G mO 32 mo] := hD.sub [5, 6, 0, 7, 8, 9, 10, 1, 2, 3, 4] (by decide) rfl
      refine lv_aload_n hx hb dL_law_235 rfl (lv_at hl 1 rfl) ?_
      refine wd_calli (wr := [cl_O ad 0 (dk_fs ar aO aT (nI 0) (nI k)), cl_B G aO 32 ((outF fo (dgF d mf fed) d)), cl_B G aT 1024 tx, cl_O ar 1 (bk_fs (nI d) (nI 0) (nI 0) (nI 0) aB aI aC aP), cl_B G aB 64 (fun _ => 0), cl_I G aI 16 (fun _ => 0), cl_I G aC 8 ((ivH d)), cl_I G mT 1024 mt]) (va_runV (As := []) (rest := [.int r1]) ⟨hx, hb, hml, hown, hts⟩ (met_X3_close l G am mT mM mO (nI k) d fed ms mf mo hfed hd9.1 hm H.size) (cwV 0 hts (lw_V q435 q436 q437 q25 q438) rfl rfl rfl (by decide +kernel) ⟨Nat.le_of_ble_eq_true rfl, Nat.le_of_ble_eq_true rfl⟩) (wd_preV hK hZ hP hD hS hA [7, 9, 10] (by decide) rfl 7 2 rfl rfl) rfl rfl hl.1 rfl (lv_room (Nat.le_of_ble_eq_true rfl)) dL_law_236 ⟨show cs + 1 + 513 ≤ 600128 by omega, show ss + 16 + 8200 ≤ 7301098 by omega⟩) hP hD hS hA [7, 9, 10] [0, 1, 2, 3, 4, 5, 6, 8] rfl rfl (by decide) (by decide) ?_
      intro r2 u_176 hu_176
      clear hP hD hS; intro H locs hP hD hS
      replace hP : va_P G.1 vwCl [cl_O ad 0 (dk_fs ar aO aT (nI 0) (nI k)), cl_B G aO 32 ((outF fo (dgF d mf fed) d)), cl_B G aT 1024 tx, cl_O ar 1 (bk_fs (nI d) (nI 0) (nI 0) (nI 0) aB aI aC aP), cl_B G aB 64 (fun _ => 0), cl_I G aI 16 (fun _ => 0), cl_I G aC 8 ((ivH d)), cl_O am 2 (md_fs mT mM mO (nI k) (nI 0) (nI d)), cl_I G mT 1024 mt, cl_I G mM 16384 ms, cl_I G mO 32 ((omN mo (dgF d mf fed) d))] H := wd_psub hP [0, 1, 2, 3, 4, 5, 6, 8, 7, 9, 10] rfl
      replace hD : va_D A [cl_O ad 0 (dk_fs ar aO aT (nI 0) (nI k)), cl_B G aO 32 ((outF fo (dgF d mf fed) d)), cl_B G aT 1024 tx, cl_O ar 1 (bk_fs (nI d) (nI 0) (nI 0) (nI 0) aB aI aC aP), cl_B G aB 64 (fun _ => 0), cl_I G aI 16 (fun _ => 0), cl_I G aC 8 ((ivH d)), cl_O am 2 (md_fs mT mM mO (nI k) (nI 0) (nI d)), cl_I G mT 1024 mt, cl_I G mM 16384 ms, cl_I G mO 32 ((omN mo (dgF d mf fed) d))] := hD.sub [0, 1, 2, 3, 4, 5, 6, 8, 7, 9, 10] (by decide) rfl
      refine lv_icmp_eq (tgt := 278) hx hb dL_law_239 (by decide) (fun c_2 => ?_) (fun c_2 => absurd (hu_175.trans hu_176.symm) c_2)
      replace hP : va_P G.1 vwCl [cl_O ad 0 (dk_fs ar aO aT (nI 0) (nI k)), cl_B G aO 32 ((outF fo (dgF d mf fed) d)), cl_B G aT 1024 tx, cl_O ar 1 (bk_fs (nI d) (nI 0) (nI (64 * 0)) (nI 0) aB aI aC aP), cl_B G aB 64 (fun _ => 0), cl_I G aI 16 (fun _ => 0), cl_I G aC 8 ((ivH d)), cl_O am 2 (md_fs mT mM mO (nI k) (nI 0) (nI d)), cl_I G mT 1024 mt, cl_I G mM 16384 ms, cl_I G mO 32 ((omN mo (dgF d mf fed) d))] H := hP
      replace hD : va_D A [cl_O ad 0 (dk_fs ar aO aT (nI 0) (nI k)), cl_B G aO 32 ((outF fo (dgF d mf fed) d)), cl_B G aT 1024 tx, cl_O ar 1 (bk_fs (nI d) (nI 0) (nI (64 * 0)) (nI 0) aB aI aC aP), cl_B G aB 64 (fun _ => 0), cl_I G aI 16 (fun _ => 0), cl_I G aC 8 ((ivH d)), cl_O am 2 (md_fs mT mM mO (nI k) (nI 0) (nI d)), cl_I G mT 1024 mt, cl_I G mM 16384 ms, cl_I G mO 32 ((omN mo (dgF d mf fed) d))] := hD
      exact next ar aB aI aC aP d k 0 0 0 mf tx (outF fo (dgF d mf fed) d) (fun _ => 0) (fun _ => 0) (ivH d) mt ms (omN mo (dgF d mf fed) d) (cs + 1 + 513) (ss + 16 + 8200) ⟨hk, Nat.zero_le _, hd, bk_0 _ _, hfit, ht, fun j hj => absurd hj (Nat.not_lt_zero j), om_out ho⟩ (by omega) (by omega) _ _ hP hD hS
    · refine lv_tableIn (off := 211) (tgt := 244) hx hb dL_law_33 (by decide) (by decide) (by decide) (by decide) ?_
      refine lv_aload_n hx hb dL_law_244 rfl (lv_at hl 2 rfl) ?_
      refine wd_callv (wr := [cl_B G aO 32 fo, cl_B G aT 1024 tx, cl_O am 2 (md_fs mT mM mO (nI k) (nI fed) (nI d)), cl_I G mT 1024 mt, cl_I G mM 16384 ms, cl_I G mO 32 mo]) (va_runV (As := []) (rest := []) ⟨hx, hb, hml, hown, hts⟩ (met_X0_drop l G ad aO aT ar aB aI aC aP (nI fed) (nI k) (nI k2) (nI (64 * n)) (nI 0) d bf v ch hd H.size) (cwV 0 hts (lw_V q364 q365 q366 q15 q367) rfl rfl rfl (by decide +kernel) ⟨Nat.le_of_ble_eq_true rfl, Nat.le_of_ble_eq_true rfl⟩) (wd_preV hK hZ hP hD hS hA [0, 3, 4, 5, 6] (by decide) rfl 0 0 rfl rfl) rfl rfl hl.1 rfl (lv_room (Nat.le_of_ble_eq_true rfl)) dL_law_245 ⟨show cs + 0 ≤ 600128 by omega, show ss + 0 ≤ 7301098 by omega⟩) hP hD hS hA [0, 3, 4, 5, 6] [1, 2, 7, 8, 9, 10] rfl rfl (by decide) (by decide) ?_
      intro u_177 hu_177
      clear hP hD hS; intro H locs hP hD hS
      replace hP : va_P G.1 vwCl [cl_O ad 0 (dk_fs ar aO aT (nI 0) (nI k)), cl_B G aO 32 fo, cl_B G aT 1024 tx, cl_O ar 1 (bk_fs (nI d) (nI 0) (nI 0) (nI 0) aB aI aC aP), cl_B G aB 64 (fun _ => 0), cl_I G aI 16 (fun _ => 0), cl_I G aC 8 ((ivH d)), cl_O am 2 (md_fs mT mM mO (nI k) (nI fed) (nI d)), cl_I G mT 1024 mt, cl_I G mM 16384 ms, cl_I G mO 32 mo] H := wd_psub hP [6, 0, 1, 7, 8, 9, 10, 2, 3, 4, 5] rfl
      replace hD : va_D A [cl_O ad 0 (dk_fs ar aO aT (nI 0) (nI k)), cl_B G aO 32 fo, cl_B G aT 1024 tx, cl_O ar 1 (bk_fs (nI d) (nI 0) (nI 0) (nI 0) aB aI aC aP), cl_B G aB 64 (fun _ => 0), cl_I G aI 16 (fun _ => 0), cl_I G aC 8 ((ivH d)), cl_O am 2 (md_fs mT mM mO (nI k) (nI fed) (nI d)), cl_I G mT 1024 mt, cl_I G mM 16384 ms, cl_I G mO 32 mo] := hD.sub [6, 0, 1, 7, 8, 9, 10, 2, 3, 4, 5] (by decide) rfl
      refine lv_aload_n hx hb dL_law_248 rfl (lv_at hl 1 rfl) ?_
      refine wd_callv (wr := [cl_O ad 0 (dk_fs ar aO aT (nI 0) (nI k)), cl_B G aO 32 fo, cl_B G aT 1024 tx, cl_O ar 1 (bk_fs (nI d) (nI 0) (nI 0) (nI 0) aB aI aC aP), cl_B G aB 64 (fun _ => 0), cl_I G aI 16 (fun _ => 0), cl_I G aC 8 ((ivH d)), cl_I G mT 1024 mt, cl_I G mM 16384 ms, cl_I G mO 32 mo]) (va_runV (As := []) (rest := []) ⟨hx, hb, hml, hown, hts⟩ (met_X3_drop l G am mT mM mO (nI fed) (nI k) (nI d) H.size) (cwV 0 hts (lw_V q464 q465 q466 q25 q467) rfl rfl rfl (by decide +kernel) ⟨Nat.le_of_ble_eq_true rfl, Nat.le_of_ble_eq_true rfl⟩) (wd_preV hK hZ hP hD hS hA [7] (by decide) rfl 7 2 rfl rfl) rfl rfl hl.1 rfl (lv_room (Nat.le_of_ble_eq_true rfl)) dL_law_249 ⟨show cs + 0 + 0 ≤ 600128 by omega, show ss + 0 + 0 ≤ 7301098 by omega⟩) hP hD hS hA [7] [0, 1, 2, 3, 4, 5, 6, 8, 9, 10] rfl rfl (by decide) (by decide) ?_
      intro u_178 hu_178
      clear hP hD hS; intro H locs hP hD hS
      replace hP : va_P G.1 vwCl [cl_O ad 0 (dk_fs ar aO aT (nI 0) (nI k)), cl_B G aO 32 fo, cl_B G aT 1024 tx, cl_O ar 1 (bk_fs (nI d) (nI 0) (nI 0) (nI 0) aB aI aC aP), cl_B G aB 64 (fun _ => 0), cl_I G aI 16 (fun _ => 0), cl_I G aC 8 ((ivH d)), cl_O am 2 (md_fs mT mM mO (nI k) (nI 0) (nI d)), cl_I G mT 1024 mt, cl_I G mM 16384 ms, cl_I G mO 32 mo] H := wd_psub hP [0, 1, 2, 3, 4, 5, 6, 10, 7, 8, 9] rfl
      replace hD : va_D A [cl_O ad 0 (dk_fs ar aO aT (nI 0) (nI k)), cl_B G aO 32 fo, cl_B G aT 1024 tx, cl_O ar 1 (bk_fs (nI d) (nI 0) (nI 0) (nI 0) aB aI aC aP), cl_B G aB 64 (fun _ => 0), cl_I G aI 16 (fun _ => 0), cl_I G aC 8 ((ivH d)), cl_O am 2 (md_fs mT mM mO (nI k) (nI 0) (nI d)), cl_I G mT 1024 mt, cl_I G mM 16384 ms, cl_I G mO 32 mo] := hD.sub [0, 1, 2, 3, 4, 5, 6, 10, 7, 8, 9] (by decide) rfl
      refine lv_goto (tgt := 278) hx hb dL_law_252 (by decide) ?_
      replace hP : va_P G.1 vwCl [cl_O ad 0 (dk_fs ar aO aT (nI 0) (nI k)), cl_B G aO 32 fo, cl_B G aT 1024 tx, cl_O ar 1 (bk_fs (nI d) (nI 0) (nI (64 * 0)) (nI 0) aB aI aC aP), cl_B G aB 64 (fun _ => 0), cl_I G aI 16 (fun _ => 0), cl_I G aC 8 ((ivH d)), cl_O am 2 (md_fs mT mM mO (nI k) (nI 0) (nI d)), cl_I G mT 1024 mt, cl_I G mM 16384 ms, cl_I G mO 32 mo] H := hP
      replace hD : va_D A [cl_O ad 0 (dk_fs ar aO aT (nI 0) (nI k)), cl_B G aO 32 fo, cl_B G aT 1024 tx, cl_O ar 1 (bk_fs (nI d) (nI 0) (nI (64 * 0)) (nI 0) aB aI aC aP), cl_B G aB 64 (fun _ => 0), cl_I G aI 16 (fun _ => 0), cl_I G aC 8 ((ivH d)), cl_O am 2 (md_fs mT mM mO (nI k) (nI 0) (nI d)), cl_I G mT 1024 mt, cl_I G mM 16384 ms, cl_I G mO 32 mo] := hD
      exact next ar aB aI aC aP d k 0 0 0 mf tx fo (fun _ => 0) (fun _ => 0) (ivH d) mt ms mo (cs + 0 + 0) (ss + 0 + 0) ⟨hk, Nat.zero_le _, hd, bk_0 _ _, hfit, ht, fun j hj => absurd hj (Nat.not_lt_zero j), ho⟩ (by omega) (by omega) _ _ hP hD hS
    · refine lv_tableIn (off := 222) (tgt := 255) hx hb dL_law_33 (by decide) (by decide) (by decide) (by decide) ?_
      refine lv_aload_n hx hb dL_law_255 rfl (lv_at hl 2 rfl) ?_
      refine lv_aload_n hx hb dL_law_256 rfl (lv_at hl 3 rfl) ?_
      refine lv_iload_n hx hb dL_law_257 rfl (lv_at hl 0 rfl) ?_
      refine lv_iconst (v := nI 1) hx hb dL_law_258 (by decide) ?_
      refine wd_iaddN (x := 6 * i) (y := 1) hx hb dL_law_259 ?_
      refine wd_sld hx hb hX hbl hbA hS (6 * i + 1) (by omega) (by omega) dL_law_260 ?_
      refine vp_callSi (va_Run.run (va_runV (As := [.int (xs (6 * i + 1))]) (rest := []) ⟨hx, hb, hml, hown, hts⟩ (met_X0_out l G ad ar aO aT (nI fed) (nI k) (xs (6 * i + 1)) fo) (cwV 1 hts (lw_V q375 q376 q377 q15 q378) rfl rfl rfl (by decide +kernel) ⟨Nat.le_of_ble_eq_true rfl, Nat.le_of_ble_eq_true rfl⟩) (wd_preVR hK hP [0, 1] rfl 0 0 rfl rfl) rfl rfl hl.1 rfl (lv_room (Nat.le_of_ble_eq_true rfl)) dL_law_261 ⟨show cs + 0 ≤ 600128 by omega, show ss + 0 ≤ 7301098 by omega⟩)) ?_
      intro r_179 er_179
      refine lv_aload_n hx hb dL_law_264 rfl (lv_at hl 1 rfl) ?_
      refine lv_aload_n hx hb dL_law_265 rfl (lv_at hl 3 rfl) ?_
      refine lv_iload_n hx hb dL_law_266 rfl (lv_at hl 0 rfl) ?_
      refine lv_iconst (v := nI 1) hx hb dL_law_267 (by decide) ?_
      refine wd_iaddN (x := 6 * i) (y := 1) hx hb dL_law_268 ?_
      refine wd_sld hx hb hX hbl hbA hS (6 * i + 1) (by omega) (by omega) dL_law_269 ?_
      refine vp_callSi (va_Run.run (va_runV (As := [.int (xs (6 * i + 1))]) (rest := [.int r_179]) ⟨hx, hb, hml, hown, hts⟩ (met_X3_out l G am mT mM mO (nI fed) (nI k) (nI d) (xs (6 * i + 1)) mo) (cwV 1 hts (lw_V q468 q469 q470 q25 q471) rfl rfl rfl (by decide +kernel) ⟨Nat.le_of_ble_eq_true rfl, Nat.le_of_ble_eq_true rfl⟩) (wd_preVR hK hP [7, 10] rfl 7 2 rfl rfl) rfl rfl hl.1 rfl (lv_room (Nat.le_of_ble_eq_true rfl)) dL_law_270 ⟨show cs + 0 ≤ 600128 by omega, show ss + 0 ≤ 7301098 by omega⟩)) ?_
      intro r_180 er_180
      refine lv_icmp_eq (tgt := 278) hx hb dL_law_273 (by decide) (fun c_2 => ?_) (fun c_2 => absurd (by rw [er_179, er_180, ho]) c_2)
      exact next ar aB aI aC aP d k fed n k2 mf tx fo bf v ch mt ms mo (cs) (ss) hR (by omega) (by omega) _ _ hP hD hS
set_option maxHeartbeats 8000000 in
set_option maxRecDepth 100000 in
/-- from the entry, for every script of at most 384 ints, the law comes to its end with true -/
theorem whole_start {p : Program} {e : Env} {s : State} {m : MethodId} {below : List Frame} {meth : Method} {c : Code} (l : Launch) (hflags : l.flags = flags0) {b L : Nat} {xs : Nat → Int32} (hL : L ≤ 384) (C0 : lw_At p s m meth c b L xs) : W p l e room_1 s m #[Value.ref b] below meth c s.heap [] 0 0 (lw_Z below #[Value.ref b] s) (entryFrame m ([Value.ref b] : List Value).toArray 4) := by
  obtain ⟨hx, hb, hr, hml, hown, hts0, hX, hbl, hlk, hgv⟩ := C0
  have hts : ∀ w ∈ lw_all, w.before #[Value.ref b] s = true := fun w h => hts0 w (lw_all_tbl h)
  obtain ⟨G, hK⟩ := start_K hts0
  obtain ⟨A, eA⟩ : ∃ A : Nat → Prop, A = fun q => s.heap.size ≤ q := ⟨_, rfl⟩
  have hA : ∀ q : Nat, s.heap.size ≤ q → A q := fun q h => by rw [eA]; exact h
  have hAs : ∀ q : Nat, A q → s.heap.size ≤ q := fun q h => by rw [eA] at h; exact h
  have hZ : ST A s s.heap := start_Z hts0 hgv (fun a h q => Nat.not_le.mpr h (hAs a q))
  have hbA : ¬ A b := fun q => Nat.not_le.mpr hbl (hAs b q)
  have hP : va_P G.1 vwCl [] s.heap := fun k q h => by cases h
  have hD : va_D A [] := ⟨fun i j x y h => (by cases h), fun k q h => (by cases h)⟩
  have hS : va_S A s.heap s.heap [] := va_S.rf
  have hl := lv_entry ([.ref b]) (n := 4) (Nat.le_of_ble_eq_true rfl)
  rw [lg_entry_eq]
  generalize (lg_sl ([.ref b]) ++ List.replicate (4 - (lg_sl ([.ref b])).length) Slot.unset).toArray = ls at hl ⊢
  replace hl : lv_has ls 4 [(0, .ref b)] := hl
  refine va_new (ci := 0) (fs := [.null, .null, .int (nI 0), .null, .int (nI 0)]) (C := RX0) (T := TX0) (N := 5) hx hb hts in_X0 tyX0 tyX0_ok hown (hts _ q33) (hts _ q34) (hts _ q15) hK hP hD hS hA rfl (new_X0) (Nat.le_of_ble_eq_true rfl) (Nat.le_of_ble_eq_true rfl) dL_law_0 ?_
  clear hP hD hS; intro ad H hP hD hS
  replace hP : va_P G.1 vwCl [cl_O ad 0 [.null, .null, .int (nI 0), .null, .int (nI 0)]] H := hP
  replace hD : va_D A [cl_O ad 0 [.null, .null, .int (nI 0), .null, .int (nI 0)]] := hD
  refine lv_dup hx hb dL_law_3 rfl ?_
  refine wd_callv (wr := []) (va_runI (As := []) (rest := [.ref ad]) ⟨hx, hb, hml, hown, hts⟩ (met_X0_init l G ad H.size) (cwI 0 hts (lw_meth q37) rfl rfl rfl (hts _ q15) (hts _ q35) (hts _ q36) rfl (by decide +kernel) ⟨Nat.le_of_ble_eq_true rfl, Nat.le_of_ble_eq_true rfl⟩) (wd_preS hK hZ hP hD hS hA [0] (by decide) rfl) rfl rfl hl.1 rfl (lv_room (Nat.le_of_ble_eq_true rfl)) dL_law_4 ⟨Nat.le_of_ble_eq_true rfl, Nat.le_of_ble_eq_true rfl⟩) hP hD hS hA [0] [] rfl rfl (by decide) (by decide) ?_
  intro u_181 hu_181
  obtain ⟨ar, aO, aT, aB, aI, aC, aP⟩ := u_181
  clear hP hD hS; intro H locs hP hD hS
  replace hP : va_P G.1 vwCl [cl_O ad 0 (dk_fs ar aO aT (nI 0) (nI 0)), cl_O ar 1 (bk_fs (nI 32) (nI 0) (nI 0) (nI 0) aB aI aC aP), cl_B G aB 64 (fun _ => 0), cl_I G aI 16 (fun _ => 0), cl_I G aC 8 ((ivH 32)), cl_B G aO 32 (fun _ => 0), cl_B G aT 1024 (fun _ => 0)] H := wd_psub hP [0, 1, 2, 3, 4, 5, 6] rfl
  replace hD : va_D A [cl_O ad 0 (dk_fs ar aO aT (nI 0) (nI 0)), cl_O ar 1 (bk_fs (nI 32) (nI 0) (nI 0) (nI 0) aB aI aC aP), cl_B G aB 64 (fun _ => 0), cl_I G aI 16 (fun _ => 0), cl_I G aC 8 ((ivH 32)), cl_B G aO 32 (fun _ => 0), cl_B G aT 1024 (fun _ => 0)] := hD.sub [0, 1, 2, 3, 4, 5, 6] (by decide) rfl
  refine lv_astore_n (lv' := [(1, .ref ad), (0, .ref b)]) hx hb dL_law_7 rfl hl (by decide) rfl ?_
  clear hl; intro ls hl
  refine va_new (ci := 2) (fs := [.null, .int (nI 0), .null, .int (nI 0), .int (nI 0), .null]) (C := RX3) (T := TX3) (N := 6) hx hb hts in_X3 tyX3 tyX3_ok hown (hts _ q379) (hts _ q380) (hts _ q25) hK hP hD hS hA rfl (new_X3) (Nat.le_of_ble_eq_true rfl) (Nat.le_of_ble_eq_true rfl) dL_law_8 ?_
  clear hP hD hS; intro am H hP hD hS
  replace hP : va_P G.1 vwCl [cl_O ad 0 (dk_fs ar aO aT (nI 0) (nI 0)), cl_O ar 1 (bk_fs (nI 32) (nI 0) (nI 0) (nI 0) aB aI aC aP), cl_B G aB 64 (fun _ => 0), cl_I G aI 16 (fun _ => 0), cl_I G aC 8 ((ivH 32)), cl_B G aO 32 (fun _ => 0), cl_B G aT 1024 (fun _ => 0), cl_O am 2 [.null, .int (nI 0), .null, .int (nI 0), .int (nI 0), .null]] H := hP
  replace hD : va_D A [cl_O ad 0 (dk_fs ar aO aT (nI 0) (nI 0)), cl_O ar 1 (bk_fs (nI 32) (nI 0) (nI 0) (nI 0) aB aI aC aP), cl_B G aB 64 (fun _ => 0), cl_I G aI 16 (fun _ => 0), cl_I G aC 8 ((ivH 32)), cl_B G aO 32 (fun _ => 0), cl_B G aT 1024 (fun _ => 0), cl_O am 2 [.null, .int (nI 0), .null, .int (nI 0), .int (nI 0), .null]] := hD
  refine lv_dup hx hb dL_law_11 rfl ?_
  refine wd_callv (wr := [cl_O ad 0 (dk_fs ar aO aT (nI 0) (nI 0)), cl_O ar 1 (bk_fs (nI 32) (nI 0) (nI 0) (nI 0) aB aI aC aP), cl_B G aB 64 (fun _ => 0), cl_I G aI 16 (fun _ => 0), cl_I G aC 8 ((ivH 32)), cl_B G aO 32 (fun _ => 0), cl_B G aT 1024 (fun _ => 0)]) (va_runI (As := []) (rest := [.ref am]) ⟨hx, hb, hml, hown, hts⟩ (met_X3_init l G am H.size) (cwI 0 hts (lw_meth q383) rfl rfl rfl (hts _ q25) (hts _ q381) (hts _ q382) rfl (by decide +kernel) ⟨Nat.le_of_ble_eq_true rfl, Nat.le_of_ble_eq_true rfl⟩) (wd_preS hK hZ hP hD hS hA [7] (by decide) rfl) rfl rfl hl.1 rfl (lv_room (Nat.le_of_ble_eq_true rfl)) dL_law_12 ⟨Nat.le_of_ble_eq_true rfl, Nat.le_of_ble_eq_true rfl⟩) hP hD hS hA [7] [0, 1, 2, 3, 4, 5, 6] rfl rfl (by decide) (by decide) ?_
  intro u_182 hu_182
  obtain ⟨mT, mM, mO⟩ := u_182
  clear hP hD hS; intro H locs hP hD hS
  replace hP : va_P G.1 vwCl [cl_O ad 0 (dk_fs ar aO aT (nI 0) (nI 0)), cl_O ar 1 (bk_fs (nI 32) (nI 0) (nI 0) (nI 0) aB aI aC aP), cl_B G aB 64 (fun _ => 0), cl_I G aI 16 (fun _ => 0), cl_I G aC 8 ((ivH 32)), cl_B G aO 32 (fun _ => 0), cl_B G aT 1024 (fun _ => 0), cl_O am 2 (md_fs mT mM mO (nI 0) (nI 0) (nI 32)), cl_I G mT 1024 (fun _ => 0), cl_I G mM 16384 (fun _ => 0), cl_I G mO 32 (fun _ => 0)] H := wd_psub hP [0, 1, 2, 3, 4, 5, 6, 7, 8, 9, 10] rfl
  replace hD : va_D A [cl_O ad 0 (dk_fs ar aO aT (nI 0) (nI 0)), cl_O ar 1 (bk_fs (nI 32) (nI 0) (nI 0) (nI 0) aB aI aC aP), cl_B G aB 64 (fun _ => 0), cl_I G aI 16 (fun _ => 0), cl_I G aC 8 ((ivH 32)), cl_B G aO 32 (fun _ => 0), cl_B G aT 1024 (fun _ => 0), cl_O am 2 (md_fs mT mM mO (nI 0) (nI 0) (nI 32)), cl_I G mT 1024 (fun _ => 0), cl_I G mM 16384 (fun _ => 0), cl_I G mO 32 (fun _ => 0)] := hD.sub [0, 1, 2, 3, 4, 5, 6, 7, 8, 9, 10] (by decide) rfl
  refine lv_astore_n (lv' := [(2, .ref am), (1, .ref ad), (0, .ref b)]) hx hb dL_law_15 rfl hl (by decide) rfl ?_
  clear hl; intro ls hl
  refine lv_iconst (v := nI 0) hx hb dL_law_16 (by decide) ?_
  refine lv_istore_n (lv' := [(3, .int (nI 0)), (2, .ref am), (1, .ref ad), (0, .ref b)]) hx hb dL_law_17 rfl hl (by decide) rfl ?_
  clear hl; intro ls hl
  replace hP : va_P G.1 vwCl [cl_O ad 0 (dk_fs ar aO aT (nI 0) (nI 0)), cl_B G aO 32 (fun _ => 0), cl_B G aT 1024 (fun _ => 0), cl_O ar 1 (bk_fs (nI 32) (nI 0) (nI (64 * 0)) (nI 0) aB aI aC aP), cl_B G aB 64 (fun _ => 0), cl_I G aI 16 (fun _ => 0), cl_I G aC 8 ((ivH 32)), cl_O am 2 (md_fs mT mM mO (nI 0) (nI 0) (nI 32)), cl_I G mT 1024 (fun _ => 0), cl_I G mM 16384 (fun _ => 0), cl_I G mO 32 (fun _ => 0)] H := wd_psub hP [0, 5, 6, 1, 2, 3, 4, 7, 8, 9, 10] rfl
  replace hD : va_D A [cl_O ad 0 (dk_fs ar aO aT (nI 0) (nI 0)), cl_B G aO 32 (fun _ => 0), cl_B G aT 1024 (fun _ => 0), cl_O ar 1 (bk_fs (nI 32) (nI 0) (nI (64 * 0)) (nI 0) aB aI aC aP), cl_B G aB 64 (fun _ => 0), cl_I G aI 16 (fun _ => 0), cl_I G aC 8 ((ivH 32)), cl_O am 2 (md_fs mT mM mO (nI 0) (nI 0) (nI 32)), cl_I G mT 1024 (fun _ => 0), cl_I G mM 16384 (fun _ => 0), cl_I G mO 32 (fun _ => 0)] := hD.sub [0, 5, 6, 1, 2, 3, 4, 7, 8, 9, 10] (by decide) rfl
  refine W.widen (k := 11) (n := 18616) (by decide) (by decide) ?_
  exact law_loop hL hx hb hr hlk hml hown hts hX hbl hbA hA hAs hK hZ ad aO aT am mT mM mO (L / 6) 0 11 18616 ar aB aI aC aP 32 0 0 0 0 (fun _ => 0) (fun _ => 0) (fun _ => 0) (fun _ => 0) (fun _ => 0) (ivH 32) (fun _ => 0) (fun _ => 0) (fun _ => 0) (by omega) (by omega) (by omega) law_0 H locs hP hD hS ls (lv_sub hl [0, 1, 2, 3] rfl)
end
section
set_option maxHeartbeats 4000000 in
theorem lw_walk (l : Launch) (hflags : l.flags = flags0) (b : Addr) (xs : List Int32) : MetFree l x (headSpec (Jvm.Cond.code x code maxLocals ret :: tables_1) room_1) (lw_P b xs) (fun _ _ _ _ _ => True) lw_Q := by
  refine MetFree.of_bodyS (code := code) (maxLocals := maxLocals) (ret := ret) (by decide) ?_ ?_
  · intro args s m h hn
    obtain ⟨meth, c, h1, h2, h3, h4, h5, h6, -, -⟩ := Cond.code_spec hn (atoms_spec (ws := Jvm.Cond.code x code maxLocals ret :: tables_1) h _ List.mem_cons_self)
    exact ⟨meth, c, h1, h2, h3, h4, h5, h6⟩
  · intro p e s m args below meth c s₁ B hml0 hP _
    obtain ⟨rfl, hx, hbd, hgv⟩ := hP
    obtain ⟨scr, harrAt, hlist, hof, hsmall⟩ := hx
    obtain ⟨hcb, hkn, -, -⟩ := State.arrayAt?_spec harrAt
    have hown : s.vm.findClass R_law = some m.cls := findClass_of_methodNamed B.named
    have hts0 : ∀ c ∈ (Jvm.Cond.code x code maxLocals ret :: tables_1), c.before #[Value.ref b] s = true := atoms_spec (ws := Jvm.Cond.code x code maxLocals ret :: tables_1) B.pre
    have hts : ∀ w ∈ lw_tbl, w.before #[Value.ref b] s = true := k2_hts_sels lw_privs (fun w hw => hts0 w (List.mem_cons_of_mem _ hw)) lw_privs_ok
    have hml : c.maxLocals = 4 := B.maxLocals_eq (hts0 _ List.mem_cons_self)
    have X₀ : Stand p l e room_1 s m #[Value.ref b] below meth c s₁ [] 0 0 := Stand.of_body B
    have hh0 : s₁.heap = s.heap := by rw [B.state]; rfl
    have hsz : scr.slots.size = xs.length := by rw [← Array.length_toList, hlist, List.length_map]
    have hval : ∀ j : Nat, j < xs.length → scr.slots[j]? = some (.int (xs.getD j 0)) := fun j hj => by
      rw [← Array.getElem?_toList, hlist]
      simp [hj]
    have hbl : b < s.heap.size := (Array.getElem?_eq_some_iff.mp hcb).1
    have hX : va_X b xs.length (fun j => xs.getD j 0) s s.heap := ⟨scr, hcb, hof, hkn, hsz, hval⟩
    have K : W p l e room_1 s m #[Value.ref b] below meth c s₁.heap [] 0 0 (lw_Z below #[Value.ref b] s) (entryFrame m ([Value.ref b] : List Value).toArray 4) := by
      rw [hh0]
      exact whole_start l hflags hbd ⟨B.exec, B.bytes, B.returns, hml, hown, hts, hX, hbl, B.notSynchronized, hgv⟩
    obtain ⟨t, a1, o, b1, b2, b3⟩ := K s₁ rfl X₀
    exact ⟨t, o, a1, b1, b2, b3⟩
theorem lw_pre_spec {args : Array Value} {s : State} (h : (Jvm.Cond.and given_1 narrow_1).before args s = true) (hr : rest_1_c.before args s = true) : ∃ (b : Addr) (xs : List Int32), lw_P b xs args s := by
  have hs := flat_of_before _ h
  have hq := flat_of_before _ hr
  have hc : (Cond.count 1).before args s = true := hs _ (by decide +kernel)
  have harr : (Cond.arrayOf (.arg 0) .int).before args s = true := hs _ (by decide +kernel)
  have hle : (Cond.le (.length (.arg 0)) (.int 384)).before args s = true := hs _ (by decide +kernel)
  have hlen : (Cond.isInt (.length (.arg 0))).before args s = true := hq _ (by decide +kernel)
  have hall : (Cond.all (.arg 0) (.isInt (.elem (.arg 0) (.index 0)))).before args s = true := hq _ (by decide +kernel)
  obtain ⟨b, xs, hb, hx⟩ := State.ints_of_pre rfl harr hlen hall
  have hsm : xs.length < 2 ^ 31 := hx.choose_spec.2.2.2
  have hev : (Term.length (.arg 0)).eval args s none [] s = some (.int xs.length.toInt32) := hx.length_eval hb
  have hv := Cond.le_ints hev (show (Term.int 384).eval args s none [] s = some (.int 384) from rfl)
  have hd : xs.length.toInt32 ≤ 384 := by
    simpa [Cond.before, Cond.holds, hv] using hle
  have hN : xs.length ≤ 384 := (Int32.ofNat_le_ofNat hsm (by decide)).mp (show Int32.ofNat xs.length ≤ Int32.ofNat 384 from hd)
  exact ⟨b, xs, Cond.one_arg hc (show args[0]? = some (.ref b) from hb), hx, hN, h⟩
theorem lw_comes (l : Launch) (hflags : l.flags = flags0) : Comes l x (Jvm.Cond.code x code maxLocals ret :: tables_1) room_1 (fun tb e args s => Calls_1 tb e args s ∧ rest_1 tb e args s ∧ Pre_1 tb e args s)
    (fun _ _ args s o t => lw_Q args s o t) := by
  intro p e ha hc hk s m args below hf hfit hheap happ hpre
  obtain ⟨b, xs, hP⟩ := lw_pre_spec hpre.2.2 hpre.2.1
  obtain ⟨k, o, h1, h2, h3, hQ⟩ := lw_walk l hflags b xs p e ha hc hk s m args below hf ((Spec.applies_iff_loose hf).mp happ).1 hP trivial
  exact ⟨k, o, h1, h2, h3, hQ⟩
theorem lw_frame {s t : State} {o : Outcome} {args : Array Value} (h : Framed s o t [] 600128 7301098) :
    Framed s o t (fieldLocs frame_1_writes args s ++ arrayLocs frame_1_arrays args s ++ staticLocs frame_1_statics s) 600128 7301098 := h
theorem lw_limb (L : Cond) (hL : ∀ (args : Array Value) (s t : State), L.after args s (.returned (some (.int 1))) t = true) :
    ArmFor flags0 classFile x code maxLocals ret World_1 tables_1 room_1 Calls_1 rest_1 Pre_1
      (fun tb e a s o t => postC L tb e a s o t ∧ Framed s o t (fieldLocs frame_1_writes a s ++ arrayLocs frame_1_arrays a s ++ staticLocs frame_1_statics s) 600128 7301098) := by
  intro l hflags _ _ p e ha hc hk s m args below hf hfit hheap happ hpre
  obtain ⟨k, o, h1, h2, h3, rfl, hF⟩ := lw_comes l hflags p e ha hc hk s m args below hf hfit hheap happ hpre
  exact ⟨k, _, h1, h2, h3, hL args s _, lw_frame hF⟩
theorem i_vc : Claimed_1_1 ∧ Claimed_1_2 := ⟨lw_limb limb_1_1 (fun args s t => by simp [limb_1_1, Cond.after, Cond.holds, Cond.value]), lw_limb limb_1_2 (fun args s t => Cond.after_iff.mpr (by
  first | (rw [show limb_1_2 = Cond.eq .result (.int 1) from rfl, Cond.eq_ints (x := 1) (y := 1) rfl rfl]; simp; done) | (simp [limb_1_2, Cond.value, Term.eval]; done)))⟩
end
